import Derived.Test.Qxb6614383aSwap
namespace Go.Proofs.Qxb6614383a
open Go.RowKit
set_option linter.unusedVariables false

/-- a row told by a function of the place -/
def fRow (n : Nat) (f : Nat → Value) : List Value := (List.range n).map f
/-- one place turned -/
def upd {α : Type} (f : Nat → α) (i : Nat) (x : α) : Nat → α := fun k => if k = i then x else f k
/-- two places exchanged -/
def swp (f : Nat → Nat) (i j : Nat) : Nat → Nat := upd (upd f i (f j)) j (f i)

theorem fRow_set (n : Nat) (f : Nat → Value) (i : Nat) (v : Value) : (fRow n f).set i v = fRow n (upd f i v) := by
  unfold fRow upd
  apply List.ext_getElem
  · simp
  · intro k h1 h2
    simp only [List.getElem_set, List.getElem_map, List.getElem_range]
    by_cases h : i = k
    · subst h; simp
    · rw [if_neg h, if_neg (fun e => h e.symm)]
theorem fRow_get {n i : Nat} (f : Nat → Value) (h : i < n) : (fRow n f)[i]? = some (f i) := by
  unfold fRow; simp [h]
theorem fRow_congr {n : Nat} {f h : Nat → Value} (e : ∀ k, k < n → f k = h k) : fRow n f = fRow n h := by
  unfold fRow
  exact List.map_congr_left (fun k hk => e k (by simpa using hk))
theorem fRow_succ (n : Nat) (f : Nat → Value) (v : Value) (hv : f n = v) : fRow n f ++ [v] = fRow (n + 1) f := by
  unfold fRow; rw [List.range_succ]; simp [hv]

/-- two kinds in one place are one -/
theorem IsKind.inj {w : World} {p : Nat} {s s' : ByteArray} {v v' : Value} {i i' : Int} (h : IsKind w p s v i) (k : IsKind w p s' v' i') : i = i' := by
  have := h.at.symm.trans k.at
  simpa using this

/-- the heap, the list and the permutation as they stand -/
structure SwH (w0 : World) (hb n : Nat) (kv : Value) (P Q M : Nat → Nat) (ksv pmv : Value) (w : World) : Prop where
  heap : IsHeap w hb kv
  own : w.ownsRow w0.heap.size 35 1 kv n (fRow n (fun i => ptr (P i)))
  list : w.ownsRow w0.heap.size 35 1 ksv n (fRow n (fun i => ptr (Q i)))
  perm : w.ownsRow w0.heap.size 3 1 pmv n (fRow n (fun i => .int .i64 (M i)))
  apart : ∀ g, kv.ownBlock = some g → ksv.ownBlock ≠ some g
  kinds : ∀ i, i < n → (∃ s, IsKind w (P i) s (ptr hb) i) ∧ w0.heap.size ≤ P i
  ge : w0.heap.size ≤ hb
  below : Below w0.heap.size w0 w

section
variable {w0 w : World} {hb n : Nat} {kv ksv pmv : Value} {P Q M : Nat → Nat}

theorem SwH.place {w : World} (h : SwH w0 hb n kv P Q M ksv pmv w) {i j : Nat} (hi : i < n) (hj : j < n) (e : P i = P j) : i = j := by
  obtain ⟨⟨s, k⟩, -⟩ := h.kinds i hi
  obtain ⟨⟨s', k'⟩, -⟩ := h.kinds j hj
  rw [e] at k
  have := k.inj k'
  omega

theorem SwH.drewN (h : SwH w0 hb n kv P Q M ksv pmv w) (m : Nat) : SwH w0 hb n kv P Q M ksv pmv (w.drewN m) :=
  ⟨h.heap, h.own, h.list, h.perm, h.apart, h.kinds, h.ge, below_drewN h.below m⟩

/-- a row of another block, behind a store into this one -/
theorem SwH.ne_perm (h : SwH w0 hb n kv P Q M ksv pmv w) {g : Nat} (hg : kv.ownBlock = some g) : pmv.ownBlock ≠ some g := by
  rcases h.own.2 with ⟨rfl, -⟩ | ⟨g', cap, cur, rfl, hb', hgg, r⟩
  · simp [Value.ownBlock] at hg
  · obtain rfl : g' = g := by simpa [Value.ownBlock] using hg
    exact own_ne h.perm hgg (by decide)

/-- Swap's stores -/
theorem SwH.swap {g cap : Nat} (h : SwH w0 hb n (.slice (some ⟨g, 0, none⟩) n cap) P Q M ksv pmv w) {i j : Nat} (hi : i < n) (hj : j < n) :
    SwH w0 hb n (.slice (some ⟨g, 0, none⟩) n cap) (swp P i j) Q M ksv pmv ((((w.setCell ⟨g, i, none⟩ (ptr (P j))).setCell ⟨g, j, none⟩ (ptr (P i))).setCell ⟨P j, 19, none⟩ (.int .i64 i)).setCell ⟨P i, 19, none⟩ (.int .i64 j)) := by
  have o1 := (h.own.stored i (ptr (P j))).1
  have o2 := (o1.stored j (ptr (P i))).1
  rw [fRow_set, fRow_set] at o2
  have A1 : Alt (fun k => k = g) w ((w.setCell ⟨g, i, none⟩ (ptr (P j))).setCell ⟨g, j, none⟩ (ptr (P i))) :=
    Alt.setCell (S := fun k => k = g) (Alt.setCell (S := fun k => k = g) (Alt.refl _ w) ⟨g, i, none⟩ rfl _) ⟨g, j, none⟩ rfl _
  generalize hW1 : (w.setCell ⟨g, i, none⟩ (ptr (P j))).setCell ⟨g, j, none⟩ (ptr (P i)) = W1 at *
  have hgk : ∀ {p : Nat} {s : ByteArray} {v : Value} {a : Int}, IsKind w p s v a → p ≠ g := fun k e => own_ne h.own k (by decide) (by rw [e]; rfl)
  have hgh : hb ≠ g := fun e => own_ne h.own h.heap (by decide) (by rw [e]; rfl)
  have k1 : ∀ k, k < n → ∃ s, IsKind W1 (P k) s (ptr hb) k := fun k hk => by
    obtain ⟨⟨s, hs⟩, -⟩ := h.kinds k hk
    exact ⟨s, A1.at hs (hgk hs)⟩
  obtain ⟨si, ki⟩ := k1 i hi
  obtain ⟨sj, kj⟩ := k1 j hj
  have A2 : Alt (fun k => k = P j) W1 (W1.setCell ⟨P j, 19, none⟩ (.int .i64 i)) := Alt.setCell (S := fun k => k = P j) (Alt.refl _ W1) ⟨P j, 19, none⟩ rfl _
  have kj2 := kj.setAt (i : Int)
  have ki2 : ∃ s a, IsKind (W1.setCell ⟨P j, 19, none⟩ (.int .i64 i)) (P i) s (ptr hb) a := by
    by_cases e : P i = P j
    · rw [e]; exact ⟨_, _, kj2⟩
    · exact ⟨_, _, A2.at ki e⟩
  obtain ⟨si2, ai2, ki2⟩ := ki2
  generalize hW2 : W1.setCell ⟨P j, 19, none⟩ (.int .i64 i) = W2 at *
  have A3 : Alt (fun k => k = P i) W2 (W2.setCell ⟨P i, 19, none⟩ (.int .i64 j)) := Alt.setCell (S := fun k => k = P i) (Alt.refl _ W2) ⟨P i, 19, none⟩ rfl _
  have ki3 := ki2.setAt (j : Int)
  generalize hW3 : W2.setCell ⟨P i, 19, none⟩ (.int .i64 j) = W3 at *
  have A23 : Alt (fun k => k = P i ∨ k = P j) W1 W3 := (A2.mono (fun k _ e => .inr e)).trans (A3.mono (fun k _ e => .inl e))
  have A : Alt (fun k => k = g ∨ k = P i ∨ k = P j) w W3 := (A1.mono (fun k _ e => .inl e)).trans (A23.mono (fun k _ e => .inr e))
  have heap1 : IsHeap W1 hb (.slice (some ⟨g, 0, none⟩) n cap) := A1.at h.heap hgh
  have gi := (h.kinds i hi).2
  have gj := (h.kinds j hj).2
  obtain ⟨⟨s0, w0i⟩, -⟩ := h.kinds i hi
  obtain ⟨⟨s1, w0j⟩, -⟩ := h.kinds j hj
  have hgB : w0.heap.size ≤ g := (h.own.lt g rfl).1
  refine ⟨?_, ?_, ?_, ?_, h.apart, ?_, h.ge, ?_⟩
  · refine A23.at heap1 (fun e => ?_)
    rcases e with e | e
    · exact kind_ne_heap ki heap1 e.symm
    · exact kind_ne_heap kj heap1 e.symm
  · have := own_alt o2 A23 (fun k hk e => by
      rcases e with e | e
      · exact own_ne o2 ki (by decide) (by rw [← e]; exact hk)
      · exact own_ne o2 kj (by decide) (by rw [← e]; exact hk))
    rw [show fRow n (fun k => ptr (swp P i j k)) = fRow n (upd (upd (fun k => ptr (P k)) i (ptr (P j))) j (ptr (P i))) from fRow_congr (fun k _ => by
      show ptr (if k = j then P i else if k = i then P j else P k) = if k = j then ptr (P i) else if k = i then ptr (P j) else ptr (P k)
      split
      · rfl
      · split <;> rfl)]
    exact this
  · exact own_alt h.list A (fun k hk e => by
      rcases e with e | e | e
      · exact h.apart g rfl (by rw [← e]; exact hk)
      · exact own_ne h.list w0i (by decide) (by rw [← e]; exact hk)
      · exact own_ne h.list w0j (by decide) (by rw [← e]; exact hk))
  · exact own_alt h.perm A (fun k hk e => by
      rcases e with e | e | e
      · exact h.ne_perm (g := g) rfl (by rw [← e]; exact hk)
      · exact own_ne h.perm w0i (by decide) (by rw [← e]; exact hk)
      · exact own_ne h.perm w0j (by decide) (by rw [← e]; exact hk))
  · intro k hk
    unfold swp upd
    by_cases e1 : k = j
    · subst e1
      simp only [if_true]
      exact ⟨⟨_, ki3⟩, gi⟩
    · rw [if_neg e1]
      by_cases e2 : k = i
      · subst e2
        simp only [if_true]
        refine ⟨⟨sj, A3.at kj2 (fun e => e1 (h.place hj hk e).symm)⟩, gj⟩
      · rw [if_neg e2]
        obtain ⟨s, ks⟩ := k1 k hk
        refine ⟨⟨s, A23.at ks (fun e => ?_)⟩, (h.kinds k hk).2⟩
        rcases e with e | e
        · exact e2 (h.place hk hi e)
        · exact e1 (h.place hk hj e)
  · exact h.below.trans (A.below h.below.size (fun k e => by
      rcases e with e | e | e
      · rw [e]; exact hgB
      · rw [e]; exact gi
      · rw [e]; exact gj))

/-- a store into the permutation -/
theorem SwH.setPerm {gp cp : Nat} (h : SwH w0 hb n kv P Q M ksv (.slice (some ⟨gp, 0, none⟩) n cp) w) (i x : Nat) :
    SwH w0 hb n kv P Q (upd M i x) ksv (.slice (some ⟨gp, 0, none⟩) n cp) (w.setCell ⟨gp, i, none⟩ (.int .i64 x)) := by
  have A : Alt (fun k => k = gp) w (w.setCell ⟨gp, i, none⟩ (.int .i64 x)) := Alt.setCell (S := fun k => k = gp) (Alt.refl _ w) ⟨gp, i, none⟩ rfl _
  have hB : w0.heap.size ≤ gp := (h.perm.lt gp rfl).1
  have o := (h.perm.stored i (.int .i64 x)).1
  rw [fRow_set] at o
  refine ⟨A.at h.heap (fun e => own_ne h.perm h.heap (by decide) (by rw [e]; rfl)), ?_, ?_, ?_, h.apart, ?_, h.ge, ?_⟩
  · exact own_alt h.own A (fun k hk e => h.ne_perm hk (by rw [e]; rfl))
  · refine own_alt h.list A (fun k hk e => ?_)
    rcases h.list.2 with ⟨hn, -⟩ | ⟨g', cap, cur, hn, hb', hgg, r⟩
    · rw [hn] at hk; simp [Value.ownBlock] at hk
    · rw [hn] at hk
      obtain rfl : g' = k := by simpa [Value.ownBlock] using hk
      exact own_ne h.perm hgg (by decide) (by rw [e]; rfl)
  · rw [show fRow n (fun k => Value.int .i64 ((upd M i x k : Nat) : Int)) = fRow n (upd (fun k => Value.int .i64 (M k)) i (.int .i64 x)) from fRow_congr (fun k _ => by
      unfold upd
      by_cases e : k = i <;> simp [e])]
    exact o
  · intro k hk
    obtain ⟨⟨s, hs⟩, hge⟩ := h.kinds k hk
    exact ⟨⟨s, A.at hs (fun e => own_ne h.perm hs (by decide) (by rw [e]; rfl))⟩, hge⟩
  · exact h.below.trans (A.below h.below.size (fun k e => by rw [e]; exact hB))
end

theorem zzswap_any {w0 : World} {hb n g cap : Nat} {P Q M : Nat → Nat} {ksv pmv : Value} (w : World) (i j : Nat) (h : SwH w0 hb n (.slice (some ⟨g, 0, none⟩) n cap) P Q M ksv pmv w) (hi : i < n) (hj : j < n) (hn : n ≤ 4096) :
    Calls Try.prog 23 #[ptr hb, .int .i64 i, .int .i64 j] w fun e w' => e = .returned (.tuple #[]) ∧ SwH w0 hb n (.slice (some ⟨g, 0, none⟩) n cap) (swp P i j) Q M ksv pmv w' := by
  obtain ⟨⟨si, ki⟩, -⟩ := h.kinds i hi
  obtain ⟨⟨sj, kj⟩, -⟩ := h.kinds j hj
  have hgh : g ≠ hb := fun e => own_ne h.own h.heap (by decide) (by rw [← e]; rfl)
  have hgi : g ≠ P i := fun e => own_ne h.own ki (by decide) (by rw [← e]; rfl)
  have hgj : g ≠ P j := fun e => own_ne h.own kj (by decide) (by rw [← e]; rfl)
  have ci : w.cell? ⟨g, i, none⟩ = some (ptr (P i)) := by rw [h.own.cellAt i (by omega), fRow_get _ hi]
  have cj : w.cell? ⟨g, j, none⟩ = some (ptr (P j)) := by rw [h.own.cellAt j (by omega), fRow_get _ hj]
  have H : Calls Try.prog 26 #[ptr hb, .int .i64 i, .int .i64 j] w fun e w' => e = .returned (.tuple #[]) ∧ SwH w0 hb n (.slice (some ⟨g, 0, none⟩) n cap) (swp P i j) Q M ksv pmv w' := by
    by_cases hij : i = j
    · subst hij
      refine (swap_eq hb g n cap i (P i) i w hi (by omega) hgh hgi (fun e => kind_ne_heap ki h.heap e.symm) h.heap.kinds ci (h.own.frozenAt i) ki.at (ki.frozen 19)).mono ?_
      rintro e w' ⟨he, m, rfl⟩
      exact ⟨he, (h.swap hi hi).drewN m⟩
    · refine (swap_ne hb g n cap i j (P i) (P j) i j w hi hj hij (by omega) hgh hgi hgj (fun e => kind_ne_heap ki h.heap e.symm) (fun e => kind_ne_heap kj h.heap e.symm) (fun e => hij (h.place hi hj e)) h.heap.kinds ci cj (h.own.frozenAt i) (h.own.frozenAt j) ki.at kj.at (ki.frozen 19) (kj.frozen 19)).mono ?_
      rintro e w' ⟨he, m, rfl⟩
      exact ⟨he, (h.swap hi hj).drewN m⟩
  go_enter Try.func23, Try.ntmps23
  clear ci cj ki kj h
  have HH : Hid _ := H
  clear H
  go_wp2_with fail
  refine Calls.mono HH.out ?_
  rintro e w' ⟨rfl, hs⟩
  go_wp2
  go_end0
  exact ⟨rfl, hs⟩
end Go.Proofs.Qxb6614383a
