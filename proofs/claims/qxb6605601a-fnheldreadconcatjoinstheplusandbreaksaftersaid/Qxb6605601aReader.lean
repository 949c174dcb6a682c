import Derived.Test.Qxb6605601aMem
import Derived.Test.Qxb6605601aPlain
import Derived.Test.Qxb6605601aPieces
import Derived.Deep.RegionLaw
namespace Go.Proofs.Qxb6605601a
open Go.RowKit
set_option linter.unusedVariables false
set_option linter.unusedSimpArgs false

theorem step_append_mine {P : Program} {ops : Array Oper} {o : Oper} {a : Act} {w : World} {K : Act → World → Prop} {Q : Exit → Act → World → Prop} {E : Prop}
    (hg : o.guard = none) (s x : Operand) (t : TypeId) (hop : o.op = Op.call { callee := Callee.builtin Builtin.append, args := #[s, x], argTypes := #[t, t] })
    (base : Nat) (e : TypeId) (i : TypeInfo) (z : Value) (size bytes : Nat) (ht : P.underlying t = some (.slice e)) (hi : P.info? e = some i) (hz : i.zero = some z)
    (hsize : i.size = size) (hby : i.bytes = bytes) (hzs : z.cells.size = size) (hsz : 0 < size)
    (v : Value) (n : Nat) (xs : List Value) (hs : a.eval s = v) (hown : w.ownsRow base e size v n xs)
    (ad : Addr) (m c : Nat) (news : List Value) (hx : a.eval x = .slice (some ad) m c) (hl : news.length = m * size) (hnews : ∀ j u, news[j]? = some u → w.cell? (ad.add j) = some u) (h1 : ∀ u ∈ news, u.oneCell' = true)
    (h63 : n + m ≤ maxLen) (hbytes : (n + m) * bytes ≤ 140737488355328) (hbase : base ≤ w.heap.size) (hm : 0 < m)
    (hK : ∀ v' w', w'.ownsRow base e size v' (n + m) (xs ++ news) → w.grownBy w' v.ownBlock → (v'.ownBlock = v.ownBlock ∨ ∃ g, v'.ownBlock = some g ∧ w.heap.size ≤ g) → K (a.put o.dst v') w') :
    if Region.wanted o (yielded ops a.tmps) = true then Oper.wp P o a w K Q else E := by
  have hw : Region.wanted o (yielded ops a.tmps) = true := by simp [Region.wanted, hg]
  rw [if_pos hw]
  obtain ⟨v', w', hr, h2, h3, h4⟩ := run_append_mine (P := P) w base t o.type e i z size bytes ht hi hz hsize hby hzs hsz v n xs hown ad m c news hl hnews h1 h63 hbytes hbase hm
  unfold Oper.wp
  simp [execOp, hop, resolve, invoke, builtin, hs, hx, hr, Result.andThen]
  exact hK v' w' h2 h3 h4

/-- the reader as it stands: the texts and the run -/
structure RS (B : Nat) (w : World) (rb : Nat) (tv rv : Value) (T : List ByteArray) (R : List Int) : Prop where
  blk : w.heap[rb]? = some (.cells #[tv, rv] 49 (0, 0))
  texts : w.ownsRow B 9 1 tv T.length (T.map Value.string)
  run : w.ownsRow B 5 1 rv R.length (R.map (Value.int .u8))

theorem RS.cell0 {B : Nat} {w : World} {rb : Nat} {tv rv : Value} {T : List ByteArray} {R : List Int} (h : RS B w rb tv rv T R) : w.cell? ⟨rb, 0, none⟩ = some tv := by rw [cell_of_row w rb 0 _ _ _ h.blk]; rfl
theorem RS.cell1 {B : Nat} {w : World} {rb : Nat} {tv rv : Value} {T : List ByteArray} {R : List Int} (h : RS B w rb tv rv T R) : w.cell? ⟨rb, 1, none⟩ = some rv := by rw [cell_of_row w rb 1 _ _ _ h.blk]; rfl
theorem RS.frozen {B : Nat} {w : World} {rb : Nat} {tv rv : Value} {T : List ByteArray} {R : List Int} (h : RS B w rb tv rv T R) (j : Nat) : w.frozen? ⟨rb, j, none⟩ = false := frozen_of_row w rb j _ _ h.blk

/-- r.run[:0] -/
theorem own_cut {w : World} {base : Nat} {e : TypeId} {a : Option Addr} {n c : Nat} {xs : List Value} (h : w.ownsRow base e 1 (.slice a n c) n xs) : w.ownsRow base e 1 (.slice a 0 c) 0 [] := by
  refine ⟨rfl, ?_⟩
  rcases h.2 with ⟨h', _⟩ | ⟨g, cap, cur, h', hb, hg, hnc, hcm, hcs, _⟩
  · simp at h'
    obtain ⟨rfl, rfl, rfl⟩ := h'
    exact .inl ⟨rfl, rfl⟩
  · simp at h'
    obtain ⟨rfl, rfl⟩ := h'
    exact .inr ⟨g, c, cur, rfl, hb, hg, Nat.zero_le _, hcm, hcs, by simp⟩

set_option maxHeartbeats 1000000 in
theorem endRun_nil (B rb : Nat) (tv rv : Value) (T : List ByteArray) (w : World) (h : RS B w rb tv rv T []) :
    Calls Try.prog 26 #[.pointer (some ⟨rb, 0, none⟩)] w fun e w' => e = .returned (.tuple #[]) ∧ ∃ rv', w' = w.setCell ⟨rb, 1, none⟩ rv' ∧ rv'.ownBlock = rv.ownBlock ∧ w.ownsRow B 5 1 rv' 0 [] := by
  have c0 := h.cell0
  have c1 := h.cell1
  have f1 := h.frozen 1
  have hr := h.run
  obtain ⟨a, c, rfl⟩ := own_slice hr
  have HR : Hid _ := h
  clear h hr
  go_enter Try.func26, Try.ntmps26
  go_wp2_with fail
  go_end0
  refine ⟨rfl, _, rfl, ?_, ?_⟩
  · rfl
  · exact own_cut HR.out.run

/-- the world at the texts' append -/
def mid3 (w : World) (s : ByteArray) : World := (w.alloc (.cells #[.string s] 9)).drew

theorem mid3_new (w : World) (s : ByteArray) : ∀ j u, [Value.string s][j]? = some u → (mid3 w s).cell? ((⟨w.heap.size, 0, none⟩ : Addr).add j) = some u := fun j u hj => by
  match j, hj with
  | 0, hj =>
    simp at hj; subst hj
    show (w.alloc (.cells #[.string s] 9)).cell? _ = _
    simp [Addr.add]

section
variable {B : Nat} {w : World} {rb : Nat} {tv rv : Value} {T : List ByteArray} {R : List Int}

theorem RS.other (h : RS B w rb tv rv T R) : tv.ownBlock ≠ some rb ∧ rv.ownBlock ≠ some rb := ⟨own_ne h.texts h.blk (by decide), own_ne h.run h.blk (by decide)⟩

theorem own_apart {w : World} {b b' : Nat} {e e' : TypeId} {v v' : Value} {n n' : Nat} {xs xs' : List Value} (h : w.ownsRow b e 1 v n xs) (h' : w.ownsRow b' e' 1 v' n' xs') (hne : e ≠ e') : ∀ k, v'.ownBlock = some k → v.ownBlock ≠ some k := by
  intro k hk
  rcases h'.2 with ⟨rfl, _⟩ | ⟨g, cap, cur, rfl, _, hg, _⟩
  · simp [Value.ownBlock] at hk
  · obtain rfl : g = k := by simpa [Value.ownBlock] using hk
    exact own_ne h hg hne

/-- behind the texts' append -/
theorem RS.appended {w' : World} {v' : Value} {s : ByteArray} (h : RS B w rb tv rv T R)
    (h1 : w'.ownsRow B 9 1 v' (T.length + 1) (T.map Value.string ++ [.string s])) (h2 : (mid3 w s).grownBy w' tv.ownBlock) :
    w'.heap[rb]? = some (.cells #[tv, rv] 49 (0, 0)) ∧ RS B (w'.setCell ⟨rb, 0, none⟩ v') rb v' rv (T ++ [s]) R ∧ Alt (fun k => k = rb ∨ some k = tv.ownBlock) w (w'.setCell ⟨rb, 0, none⟩ v') := by
  have A : Alt (fun k => some k = tv.ownBlock) w w' := Alt.grown (S := fun k => some k = tv.ownBlock) (w := mid3 w s) (((Alt.refl _ w).alloc (.cells #[.string s] 9)).drewN 1) h2 (fun k e => e.symm)
  have hb : w'.heap[rb]? = some (.cells #[tv, rv] 49 (0, 0)) := A.at h.blk (fun e => h.other.1 e.symm)
  have hr : w'.ownsRow B 5 1 rv R.length (R.map (Value.int .u8)) := own_alt h.run A (fun k hk e => own_apart h.run h.texts (by decide) k e.symm hk)
  have A2 : Alt (fun k => k = rb) w' (w'.setCell ⟨rb, 0, none⟩ v') := Alt.setCell (S := fun k => k = rb) (Alt.refl _ w') ⟨rb, 0, none⟩ rfl _
  refine ⟨hb, ⟨heap_setCell_same w' rb 0 _ _ v' hb, ?_, ?_⟩, (A.mono (fun k _ e => .inr e)).trans (A2.mono (fun k _ e => .inl e))⟩
  · have := own_alt h1 A2 (fun k hk e => own_ne h1 hb (by decide) (by rw [← e]; exact hk))
    simpa using this
  · exact own_alt hr A2 (fun k hk e => own_ne hr hb (by decide) (by rw [← e]; exact hk))

/-- a new run stored -/
theorem RS.runSet {rv' : Value} {R' : List Int} (h : RS B w rb tv rv T R) (hr : w.ownsRow B 5 1 rv' R'.length (R'.map (Value.int .u8))) : RS B (w.setCell ⟨rb, 1, none⟩ rv') rb tv rv' T R' := by
  have A2 : Alt (fun k => k = rb) w (w.setCell ⟨rb, 1, none⟩ rv') := Alt.setCell (S := fun k => k = rb) (Alt.refl _ w) ⟨rb, 1, none⟩ rfl _
  exact ⟨heap_setCell_same w rb 1 _ _ rv' h.blk, own_alt h.texts A2 (fun k hk e => own_ne h.texts h.blk (by decide) (by rw [← e]; exact hk)), own_alt hr A2 (fun k hk e => own_ne hr h.blk (by decide) (by rw [← e]; exact hk))⟩
theorem RS.runAlt {rv' : Value} : Alt (fun k => k = rb) w (w.setCell ⟨rb, 1, none⟩ rv') := Alt.setCell (S := fun k => k = rb) (Alt.refl _ w) ⟨rb, 1, none⟩ rfl _
theorem RS.drewN (h : RS B w rb tv rv T R) (q : Nat) : RS B (w.drewN q) rb tv rv T R := ⟨h.blk, h.texts, h.run⟩
end

/-- what endRun leaves -/
def EndPost (B rb : Nat) (tv rv : Value) (T : List ByteArray) (R : List Int) (w : World) (e : Ending) (w' : World) : Prop :=
  e = .returned (.tuple #[]) ∧ ∃ tv' rv', RS B w' rb tv' rv' (endRun strOfNums T R) [] ∧ (tv'.ownBlock = tv.ownBlock ∨ ∃ g, tv'.ownBlock = some g ∧ w.heap.size ≤ g) ∧ rv'.ownBlock = rv.ownBlock ∧ Alt (fun k => k = rb ∨ some k = tv.ownBlock) w w'

set_option maxHeartbeats 4000000 in
set_option maxRecDepth 100000 in
theorem endRun_some (B rb : Nat) (tv rv : Value) (T : List ByteArray) (R : List Int) (w : World) (h : RS B w rb tv rv T R) (hR : 0 < R.length) (hRb : R.length ≤ 4194304) (hTb : T.length ≤ 4194304) (hB : B ≤ w.heap.size) :
    Calls Try.prog 26 #[.pointer (some ⟨rb, 0, none⟩)] w (EndPost B rb tv rv T R w) := by
  have c0 := h.cell0
  have c1 := h.cell1
  have f0 := h.frozen 0
  have f1 := h.frozen 1
  have hrb := lt_of_heap h.blk
  obtain ⟨i9, hi, hz0, hz1, hz2⟩ := info_parts Try.info9
  obtain ⟨g, cap, rfl⟩ := own_form h.run hR
  obtain ⟨at_, ct, rfl⟩ := own_slice h.texts
  have hcv : ∀ q, (convert 23 9 (.slice (some ⟨g, 0, none⟩) R.length cap)).run Try.prog (w.drewN q) = .ok (.string (strOfNums R)) (w.drewN q) := fun q =>
    run_convert_bytes_arg (w.drewN q) 23 5 Try.underlying23 Try.underlying5 g 0 R.length cap R rfl (fun i hi => by
      show w.cell? _ = _
      rw [Nat.zero_add, h.run.cellAt i (by omega)]; simp [hi]) 9 Try.underlying9
  have hcv1 := hcv 1
  rw [show w.drewN 1 = w.drew from rfl] at hcv1
  have HR : Hid _ := h
  have HE : Hid (endRun strOfNums T R = T ++ [strOfNums R]) := by unfold endRun Hid; rw [if_neg (by intro e; rw [e] at hR; simp at hR)]
  have hRp : (0 : Int) < (R.length : Int) := by omega
  have HO : Hid ((mid3 w (strOfNums R)).ownsRow B 9 1 (.slice at_ T.length ct) T.length (T.map Value.string)) := h.texts.alloc _
  clear h hcv
  go_enter Try.func26, Try.ntmps26
  go_wp2_with fail
  go_region_law (refine step_append_mine rfl (.tmp 12) (.tmp 18) 22 rfl B 9 i9 (.string ⟨#[]⟩) 1 16 Try.underlying22 hi hz0 hz1 hz2 rfl (by decide) (.slice at_ T.length ct) T.length (T.map Value.string) (by simp [Act.eval, Act.put]) (by exact HO.out) ⟨w.heap.size, 0, none⟩ 1 1 [.string (strOfNums R)] (by simp [Act.eval, Act.put]) rfl (by exact mid3_new w (strOfNums R)) (by intro u hu; simp at hu; subst hu; rfl) (by unfold maxLen; omega) (by omega) (by simp; omega) (by decide) ?_; intro v' w' q1 q2 q3; obtain ⟨g', cap', hv⟩ := own_form q1 (by omega); subst hv; obtain ⟨e1, e2, e3⟩ := HR.out.appended q1 q2; have k0 := cell_of_row w' rb 0 _ _ _ e1; have k1 := cell_of_row w' rb 1 _ _ _ e1; have kf0 := frozen_of_row w' rb 0 _ _ e1; have kf1 := frozen_of_row w' rb 1 _ _ e1; simp at k0 k1; have HE2 : Hid _ := e2; have HE3 : Hid _ := e3; have HQ3 : Hid _ := q3; clear e1 e2 e3 q1 q2 q3)
  all_goals
    have d1 := HE2.out.cell1
    have df1 := HE2.out.frozen 1
    clear k0 k1 kf0 kf1 c0 c1 f0 f1 hcv1
    generalize hW : w'.setCell ⟨rb, 0, none⟩ (.slice (some ⟨g', 0, none⟩) (T.length + 1) cap') = W2 at *
    clear hW
    go_wp2_with fail
    go_end0
    refine ⟨rfl, .slice (some ⟨g', 0, none⟩) (T.length + 1) cap', .slice (some ⟨g, 0, none⟩) 0 cap, ?_, ?_, rfl, (HE3.out.mono (fun k _ e => e)).trans ((RS.runAlt (rb := rb)).mono (fun k _ e => .inl e))⟩
    · rw [HE.out]
      exact HE2.out.runSet (R' := []) (own_cut HE2.out.run)
    · rcases HQ3.out with h | ⟨g3, h3, h4⟩
      · exact .inl h
      · exact .inr ⟨g3, h3, by simp at h4; omega⟩

theorem endRun_any (B rb : Nat) (tv rv : Value) (T : List ByteArray) (R : List Int) (w : World) (h : RS B w rb tv rv T R) (hRb : R.length ≤ 4194304) (hTb : T.length ≤ 4194304) (hB : B ≤ w.heap.size) :
    Calls Try.prog 26 #[.pointer (some ⟨rb, 0, none⟩)] w (EndPost B rb tv rv T R w) := by
  cases R with
  | nil =>
    refine (endRun_nil B rb tv rv T w h).mono ?_
    rintro e w' ⟨rfl, rv', rfl, h1, h2⟩
    exact ⟨rfl, tv, rv', h.runSet (R' := []) h2, .inl rfl, h1, (RS.runAlt (rb := rb)).mono (fun k _ e => .inl e)⟩
  | cons c R => exact endRun_some B rb tv rv T (c :: R) w h (by simp) hRb hTb hB
end Go.Proofs.Qxb6605601a
