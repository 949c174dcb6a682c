import Derived.Test.Qxb6605601aReader
namespace Go.Proofs.Qxb6605601a
open Go.RowKit
set_option linter.unusedVariables false
set_option linter.unusedSimpArgs false

/-- block p is an expression -/
def IsRe (w : World) (p : Nat) (op : Int) (sub rune : Value) : Prop :=
  w.heap[p]? = some (.cells #[.int .u8 op, .int .u16 0, sub, .pointer none, rune, .int .i32 0, .int .i32 0, .int .i64 0, .int .i64 0, .int .i64 0, .string ⟨#[]⟩] 58 (0, 0))

theorem IsRe.op {w : World} {p : Nat} {op : Int} {sub rune : Value} (h : IsRe w p op sub rune) : w.cell? ⟨p, 0, none⟩ = some (.int .u8 op) := by rw [cell_of_row w p 0 _ _ _ h]; rfl
theorem IsRe.sub {w : World} {p : Nat} {op : Int} {sub rune : Value} (h : IsRe w p op sub rune) : w.cell? ⟨p, 2, none⟩ = some sub := by rw [cell_of_row w p 2 _ _ _ h]; rfl
theorem IsRe.rune {w : World} {p : Nat} {op : Int} {sub rune : Value} (h : IsRe w p op sub rune) : w.cell? ⟨p, 4, none⟩ = some rune := by rw [cell_of_row w p 4 _ _ _ h]; rfl

/-- the same block still, or a new one -/
def Fr (w : World) (v v' : Value) : Prop := v'.ownBlock = v.ownBlock ∨ ∃ g, v'.ownBlock = some g ∧ w.heap.size ≤ g
theorem Fr.refl (w : World) (v : Value) : Fr w v v := .inl rfl
theorem Fr.trans {w w' : World} {a b c : Value} (h : Fr w a b) (k : Fr w' b c) (hs : w.heap.size ≤ w'.heap.size) : Fr w a c := by
  rcases k with k | ⟨g, k1, k2⟩
  · rcases h with h | ⟨g, h1, h2⟩
    · exact .inl (k.trans h)
    · exact .inr ⟨g, k.trans h1, h2⟩
  · exact .inr ⟨g, k1, by omega⟩
theorem Fr.old {w : World} {v v' : Value} (h : Fr w v v') {k : Nat} (hk : k < w.heap.size) (e : some k = v'.ownBlock) : some k = v.ownBlock := by
  rcases h with h | ⟨g, h1, h2⟩
  · rw [e, h]
  · rw [h1] at e
    simp at e
    omega

theorem Alt.join {S S' : Nat → Prop} {a b c : World} (h : Alt S a b) (k : Alt S' b c) (hs : ∀ i, i < a.heap.size → S' i → S i) : Alt S a c :=
  ⟨k.os.trans h.os, k.tape.trans h.tape, k.output.trans h.output, Nat.le_trans h.size k.size, fun i hi hS => (k.block i (Nat.lt_of_lt_of_le hi h.size) (fun x => hS (hs i hi x))).trans (h.block i hi hS)⟩

/-- which of the old blocks a read may turn -/
def Own (rb : Nat) (tv rv : Value) : Nat → Prop := fun j => j = rb ∨ some j = tv.ownBlock ∨ some j = rv.ownBlock

/-- a read from (T, R) in w has come to (T', R') in w' -/
structure Came (B rb : Nat) (tv rv : Value) (w : World) (T' : List ByteArray) (R' : List Int) (tv' rv' : Value) (w' : World) : Prop where
  rs : RS B w' rb tv' rv' T' R'
  ft : Fr w tv tv'
  fr : Fr w rv rv'
  alt : Alt (Own rb tv rv) w w'

section
variable {B rb : Nat} {tv rv tv' rv' : Value} {w w' : World} {T T' : List ByteArray} {R R' : List Int}

theorem Came.start (h : RS B w rb tv rv T R) : Came B rb tv rv w T R tv rv w := ⟨h, .refl _ _, .refl _ _, Alt.refl _ _⟩

theorem Came.then {T2 : List ByteArray} {R2 : List Int} {tv2 rv2 : Value} {w2 : World} (h : Came B rb tv rv w T' R' tv' rv' w') (k : Came B rb tv' rv' w' T2 R2 tv2 rv2 w2) : Came B rb tv rv w T2 R2 tv2 rv2 w2 :=
  ⟨k.rs, h.ft.trans k.ft h.alt.size, h.fr.trans k.fr h.alt.size, h.alt.join k.alt (fun i hi e => by
    rcases e with e | e | e
    · exact .inl e
    · exact .inr (.inl (h.ft.old hi e))
    · exact .inr (.inr (h.fr.old hi e)))⟩

theorem EndPost.came {e : Ending} (h : EndPost B rb tv rv T R w e w') : ∃ tv' rv', Came B rb tv rv w (endRun strOfNums T R) [] tv' rv' w' := by
  obtain ⟨-, tv', rv', h1, h2, h3, h4⟩ := h
  exact ⟨tv', rv', h1, h2, .inl h3, h4.mono (fun k _ e => by
    rcases e with e | e
    · exact .inl e
    · exact .inr (.inl e))⟩

/-- behind the run's append and store -/
theorem RS.ran {W : World} {v' : Value} {c : Int} (h : RS B w rb tv rv T R)
    (h1 : W.ownsRow B 5 1 v' (R.length + 1) (R.map (Value.int .u8) ++ [.int .u8 c])) (h2 : (w.alloc (.cells #[.int .u8 c] 5)).grownBy W rv.ownBlock) (h3 : v'.ownBlock = rv.ownBlock ∨ ∃ g, v'.ownBlock = some g ∧ w.heap.size + 1 ≤ g) :
    W.heap[rb]? = some (.cells #[tv, rv] 49 (0, 0)) ∧ Came B rb tv rv w T (R ++ [c]) tv v' (W.setCell ⟨rb, 1, none⟩ v') := by
  have A : Alt (fun k => some k = rv.ownBlock) w W := Alt.grown (S := fun k => some k = rv.ownBlock) ((Alt.refl _ w).alloc (.cells #[.int .u8 c] 5)) h2 (fun k e => e.symm)
  have hb : W.heap[rb]? = some (.cells #[tv, rv] 49 (0, 0)) := A.at h.blk (fun e => h.other.2 e.symm)
  have ht : W.ownsRow B 9 1 tv T.length (T.map Value.string) := own_alt h.texts A (fun k hk e => own_apart h.texts h.run (by decide) k e.symm hk)
  have A2 : Alt (fun k => k = rb) W (W.setCell ⟨rb, 1, none⟩ v') := Alt.setCell (S := fun k => k = rb) (Alt.refl _ W) ⟨rb, 1, none⟩ rfl _
  refine ⟨hb, ⟨heap_setCell_same W rb 1 _ _ v' hb, ?_, ?_⟩, .refl _ _, ?_, ?_⟩
  · exact own_alt ht A2 (fun k hk e => own_ne ht hb (by decide) (by rw [← e]; exact hk))
  · have := own_alt h1 A2 (fun k hk e => own_ne h1 hb (by decide) (by rw [← e]; exact hk))
    simpa using this
  · rcases h3 with h3 | ⟨g, h3, h4⟩
    · exact .inl h3
    · exact .inr ⟨g, h3, by omega⟩
  · exact (A.mono (fun k _ e => .inr (.inr e))).trans (A2.mono (fun k _ e => .inl e))

/-- what is owned of a type that the reader does not touch stays -/
theorem Came.keeps {b : Nat} {e : TypeId} {v : Value} {n : Nat} {xs : List Value} (h : Came B rb tv rv w T' R' tv' rv' w') (h0 : RS B w rb tv rv T R) (ho : w.ownsRow b e 1 v n xs) (h9 : e ≠ 9) (h5 : e ≠ 5) (h49 : e ≠ 49) : w'.ownsRow b e 1 v n xs :=
  own_alt ho h.alt (fun k hk x => by
    rcases x with x | x | x
    · exact own_ne ho h0.blk h49 (by rw [← x]; exact hk)
    · exact own_apart ho h0.texts h9 k x.symm hk
    · exact own_apart ho h0.run h5 k x.symm hk)

/-- a block of another type stays -/
theorem Came.block {k : Nat} {cs : Array Value} {t : TypeId} {fr : Nat × Nat} (h : Came B rb tv rv w T' R' tv' rv' w') (h0 : RS B w rb tv rv T R) (hk : w.heap[k]? = some (.cells cs t fr)) (h9 : (9 : TypeId) ≠ t) (h5 : (5 : TypeId) ≠ t) (h49 : (49 : TypeId) ≠ t) : w'.heap[k]? = some (.cells cs t fr) :=
  h.alt.at hk (fun x => by
    rcases x with x | x | x
    · subst x
      have := h0.blk
      rw [hk] at this
      simp at this
      exact h49 this.2.1.symm
    · exact own_ne h0.texts hk h9 x.symm
    · exact own_ne h0.run hk h5 x.symm)
end

theorem lit_take (zs : List Int) (k : Nat) (h : k < zs.length) : zs.take (k + 1) = zs.take k ++ [zs[k]?.getD 0] := by
  rw [List.take_succ_eq_append_getElem h]; simp [h]

set_option maxHeartbeats 1000000 in
/-- a literal is read -/
theorem read_lit (B rb p : Nat) (tv rv sub lv : Value) (T : List ByteArray) (R zs : List Int) (b2 n : Nat) (w : World) (h : RS B w rb tv rv T R) (hp : IsRe w p 3 sub lv) (hl : w.ownsRow b2 21 1 lv n (zs.map (Value.int .i32))) (hn : zs.length = n)
    (hnb : n ≤ 1048576) (hRb : R.length ≤ 2097152) (hTb : T.length ≤ 2097152) (hB : B ≤ w.heap.size) :
    Calls Try.prog 24 #[.pointer (some ⟨rb, 0, none⟩), .pointer (some ⟨p, 0, none⟩)] w fun e w' => e = .returned (.tuple #[]) ∧ ∃ tv' rv', Came B rb tv rv w (readLit strOfNums byt zs T R).1 (readLit strOfNums byt zs T R).2 tv' rv' w' := by
  obtain ⟨i5, li, lz0, lz1, lz2⟩ := info_parts Try.info5
  have o0 := hp.op
  have o4 := hp.rune
  obtain ⟨la, lc, rfl⟩ := own_slice hl
  have HL : Hid (w.ownsRow b2 21 1 (.slice la n lc) n (zs.map (Value.int .i32))) := hl
  have H0 : Hid (RS B w rb tv rv T R) := h
  clear h hp hl
  go_enter Try.func24, Try.ntmps24
  go_wp2_with fail
  go_loopw [19] (fun i wr => ∃ (k : Nat) (tv' rv' : Value), k ≤ n ∧ i = .int .i64 k ∧ Came B rb tv rv w (readLit strOfNums byt (zs.take k) T R).1 (readLit strOfNums byt (zs.take k) T R).2 tv' rv' wr) (fun i _ => n - (intOf i).toNat)
  case atStart => exact ⟨0, tv, rv, Nat.zero_le _, rfl, by simpa [readLit] using Came.start H0.out⟩
  case round =>
    obtain ⟨k, tv', rv', hk, rfl, C⟩ := hrel
    by_cases hlt : k < n
    · have hl' := C.keeps H0.out HL.out (by decide) (by decide) (by decide)
      obtain ⟨gl, capl, el⟩ := own_form hl' (by omega)
      obtain ⟨rfl, rfl⟩ : la = some ⟨gl, 0, none⟩ ∧ lc = capl := by simpa using el
      have hcell : wr.cell? ⟨gl, k, none⟩ = some (.int .i32 (zs[k]?.getD 0)) := by
        rw [hl'.cellAt k (by omega)]; simp [show k < zs.length by omega]
      have hsn := readLit_snoc strOfNums byt (zs.take k) (zs[k]?.getD 0) T R
      rw [← lit_take zs k (by omega)] at hsn
      have hl1 := readLit_len1 strOfNums byt (zs.take k) T R
      have hl2 := readLit_len2 strOfNums byt (zs.take k) T R
      simp only [List.length_take] at hl1 hl2
      have hBr : B ≤ wr.heap.size := Nat.le_trans hB C.alt.size
      clear hl' el
      generalize zs[k]?.getD 0 = x at hcell hsn
      generalize (readLit strOfNums byt (zs.take k) T R).1 = T1 at *
      generalize (readLit strOfNums byt (zs.take k) T R).2 = R1 at *
      by_cases hcut : 128 ≤ x
      · rw [if_pos hcut] at hsn
        have HS : Hid _ := hsn
        clear hsn
        go_wp2_with fail
        refine (endRun_any B rb tv' rv' T1 R1 _ C.rs (by omega) (by omega) hBr).mono ?_
        rintro e w2 hE
        obtain rfl := hE.1
        obtain ⟨tv2, rv2, C2⟩ := hE.came
        have C3 := C.then C2
        clear hE C2 C
        go_wp2_with fail
        go_roundw
        case rel => exact ⟨k + 1, tv2, rv2, by omega, by go_num, by rw [HS.out]; exact C3⟩
        case measure => simp [intOf]; omega
      · rw [if_neg hcut] at hsn
        have HS : Hid _ := hsn
        clear hsn
        have c1 := C.rs.cell1
        have f1 := C.rs.frozen 1
        have HO : Hid ((wr.alloc (.cells #[.int .u8 (byt x)] 5)).ownsRow B 5 1 rv' R1.length (R1.map (Value.int .u8))) := C.rs.run.alloc _
        have HC : Hid (∀ j u, [Value.int .u8 (byt x)][j]? = some u → (wr.alloc (.cells #[.int .u8 (byt x)] 5)).cell? ((⟨wr.heap.size, 0, none⟩ : Addr).add j) = some u) := fun j u hj => by
          match j, hj with
          | 0, hj => simp at hj; subst hj; simp [Addr.add]
        obtain ⟨ra, rc, rfl⟩ := own_slice C.rs.run
        have HCC : Hid _ := C
        have hrb := lt_of_heap C.rs.blk
        clear C
        go_wp2_with (at_builtin; refine wpList_append_mine _ rfl (.tmp 31) (.tmp 34) 23 rfl B 5 i5 (.int .u8 0) 1 1 Try.underlying23 li lz0 lz1 lz2 rfl (by decide) (.slice ra R1.length rc) R1.length (R1.map (Value.int .u8)) rfl (by exact HO.out) ⟨wr.heap.size, 0, none⟩ 1 1 [.int .u8 (byt x)] rfl rfl (by exact HC.out) (by intro u hu; simp at hu; subst hu; rfl) (by unfold maxLen; omega) (by omega) (by simp; omega) (by decide) ?next)
        case next =>
          intro v' W q1 q2 q3
          obtain ⟨e1, C2⟩ := HCC.out.rs.ran q1 q2 q3
          have k1 := cell_of_row W rb 1 _ _ _ e1
          have kf1 := frozen_of_row W rb 1 _ _ e1
          simp at k1
          obtain ⟨g', cap', rfl⟩ := own_form q1 (by omega)
          have C3 := HCC.out.then C2
          clear q1 q2 q3 e1 C2 HCC HO HC c1 f1
          go_wp2_with fail
          go_roundw
          case rel => exact ⟨k + 1, tv', _, by omega, by go_num, by rw [HS.out]; exact C3⟩
          case measure => simp [intOf]; omega
    · rw [List.take_of_length_le (by omega)] at C
      go_wp2_with fail
      refine bodyPost_ret (results_none rfl _ _ _) rfl ?_
      exact ⟨rfl, _, _, C⟩

/-- the world at ZZheldReadLiteral's read -/
def lit0 (w : World) (tv rv lv : Value) : World :=
  (w.alloc (.cells #[tv, rv] 49)).alloc (.cells #[.int .u8 3, .int .u16 0, .slice none 0 0, .pointer none, lv, .int .i32 0, .int .i32 0, .int .i64 0, .int .i64 0, .int .i64 0, .string ⟨#[]⟩] 58)

theorem lit0_alt (w : World) (tv rv lv : Value) : Alt (fun _ => False) w (lit0 w tv rv lv) := ((Alt.refl _ w).alloc _).alloc _
theorem lit0_rs {B : Nat} {w : World} {tv rv : Value} {T : List ByteArray} {R : List Int} (lv : Value) (ht : w.ownsRow B 9 1 tv T.length (T.map Value.string)) (hr : w.ownsRow B 5 1 rv R.length (R.map (Value.int .u8))) :
    RS B (lit0 w tv rv lv) w.heap.size tv rv T R := by
  refine ⟨?_, (ht.alloc _).alloc _, (hr.alloc _).alloc _⟩
  unfold lit0
  rw [Below.heap_alloc _ _ _ (by simp)]
  exact heap_alloc_new _ _
theorem lit0_re (w : World) (tv rv lv : Value) : IsRe (lit0 w tv rv lv) (w.heap.size + 1) 3 (.slice none 0 0) lv := by
  have h := heap_alloc_new (w.alloc (.cells #[tv, rv] 49)) (.cells #[.int .u8 3, .int .u16 0, .slice none 0 0, .pointer none, lv, .int .i32 0, .int .i32 0, .int .i64 0, .int .i64 0, .int .i64 0, .string ⟨#[]⟩] 58)
  rw [show (w.alloc (.cells #[tv, rv] 49)).heap.size = w.heap.size + 1 by simp] at h
  exact h

/-- what a whole read hands back -/
def ReadPost (B : Nat) (tv rv : Value) (T' : List ByteArray) (R' : List Int) (w : World) (e : Ending) (w' : World) : Prop :=
  ∃ tv' rv', e = .returned (.tuple #[tv', rv']) ∧ w'.ownsRow B 9 1 tv' T'.length (T'.map Value.string) ∧ w'.ownsRow B 5 1 rv' R'.length (R'.map (Value.int .u8)) ∧ Alt (fun j => some j = tv.ownBlock ∨ some j = rv.ownBlock) w w'

theorem ReadPost.of {B : Nat} {tv rv tv' rv' : Value} {T' : List ByteArray} {R' : List Int} {w w0 w' : World} (ha : Alt (fun _ => False) w w0) (hC : Came B w.heap.size tv rv w0 T' R' tv' rv' w') (q : Nat) : ReadPost B tv rv T' R' w (.returned (.tuple #[tv', rv'])) (w'.drewN q) :=
  ⟨tv', rv', rfl, hC.rs.texts, hC.rs.run, (Alt.join (S := fun j => some j = tv.ownBlock ∨ some j = rv.ownBlock) (ha.mono (fun k _ e => e.elim)) hC.alt (fun i hi e => by
    rcases e with e | e | e
    · omega
    · exact .inl e
    · exact .inr e)).drewN q⟩

set_option maxHeartbeats 1000000 in
theorem readLiteral_any (B : Nat) (tv rv lv : Value) (T : List ByteArray) (R zs : List Int) (n : Nat) (w : World) (ht : w.ownsRow B 9 1 tv T.length (T.map Value.string)) (hr : w.ownsRow B 5 1 rv R.length (R.map (Value.int .u8)))
    (hl : w.ownsRow B 21 1 lv n (zs.map (Value.int .i32))) (hn : zs.length = n) (hnb : n ≤ 1048576) (hRb : R.length ≤ 2097152) (hTb : T.length ≤ 2097152) (hB : B ≤ w.heap.size) :
    Calls Try.prog 12 #[tv, rv, lv] w (ReadPost B tv rv (readLit strOfNums byt zs T R).1 (readLit strOfNums byt zs T R).2 w) := by
  have h0 := lit0_rs lv ht hr
  have h1 := lit0_re w tv rv lv
  have h2 := own_alt hl (lit0_alt w tv rv lv) (fun k _ h => h)
  have h3 := (lit0_alt w tv rv lv).size
  obtain ⟨ta, tc, rfl⟩ := own_slice ht
  obtain ⟨ra, rc, rfl⟩ := own_slice hr
  obtain ⟨la, lc, rfl⟩ := own_slice hl
  have HRD : Hid _ := read_lit B w.heap.size (w.heap.size + 1) _ _ _ _ T R zs B n _ h0 h1 h2 hn hnb hRb hTb (by omega)
  clear h0 h1 h2 h3 ht hr hl
  go_enter Try.func12, Try.ntmps12
  go_wp2_with fail
  refine Calls.mono HRD.out ?_
  rintro e w2 ⟨rfl, tv', rv', C⟩
  have c0 := C.rs.cell0
  have c1 := C.rs.cell1
  have HP : Hid (∀ q, ReadPost B (.slice ta T.length tc) (.slice ra R.length rc) (readLit strOfNums byt zs T R).1 (readLit strOfNums byt zs T R).2 w (.returned (.tuple #[tv', rv'])) (w2.drewN q)) := fun q => ReadPost.of (lit0_alt w _ _ (.slice la n lc)) C q
  obtain ⟨ta', tc', rfl⟩ := own_slice C.rs.texts
  obtain ⟨ra', rc', rfl⟩ := own_slice C.rs.run
  clear HRD C
  generalize (readLit strOfNums byt zs T R).1 = T1 at *
  generalize (readLit strOfNums byt zs T R).2 = R1 at *
  go_wp2_with fail
  go_quiet (fail)
  go_wp2_with fail
  go_ret2
  exact HP.out _
end Go.Proofs.Qxb6605601a
