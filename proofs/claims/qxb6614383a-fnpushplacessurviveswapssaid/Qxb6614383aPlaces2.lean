import Derived.Test.Qxb6614383aPlaces
namespace Go.Proofs.Qxb6614383a
open Go.RowKit
set_option linter.unusedVariables false

theorem map_ptr_fRow (ps : List Nat) (n : Nat) (h : ps.length = n) : ps.map ptr = fRow n (fun i => ptr (ps.getD i 0)) := by
  unfold fRow
  apply List.ext_getElem
  · simp [h]
  · intro i h1 h2
    have hi : i < ps.length := by simpa using h1
    simp [hi]

/-- behind the pushes and the making of the permutation -/
theorem SwH.start {w0 wr w2 : World} {hb n : Nat} {ss : Nat → ByteArray} {ksv : Value} (h : Inv w0 hb ss n ksv wr)
    (ho : w2.ownsRow w0.heap.size 3 1 (.slice (some ⟨wr.heap.size, 0, none⟩) n n) n (List.replicate n (.int .i64 0))) (hg : wr.grownBy w2 none) :
    ∃ kv P, SwH w0 hb n kv P P (fun _ => 0) ksv (.slice (some ⟨wr.heap.size, 0, none⟩) n n) w2 := by
  obtain ⟨kv, ps, h1, h2, h3, h4, h5, h6, h7, h8⟩ := h
  have A : Alt (fun _ => False) wr w2 := (Alt.refl _ wr).grown hg (fun k e => by cases e)
  have no : ∀ k, ¬ (fun _ : Nat => False) k := fun _ h => h
  refine ⟨kv, fun i => ps.getD i 0, A.at h2 (no hb), ?_, ?_, ?_, h5, ?_, h7, ?_⟩
  · rw [← map_ptr_fRow ps n h1]; exact own_alt h3 A (fun k _ => no k)
  · rw [← map_ptr_fRow ps n h1]; exact own_alt h4 A (fun k _ => no k)
  · have e : fRow n (fun i => Value.int .i64 (((fun _ => 0 : Nat → Nat) i : Nat) : Int)) = List.replicate n (.int .i64 0) := by
      unfold fRow
      apply List.ext_getElem
      · simp
      · intro i h1 h2; simp
    rw [e]; exact ho
  · intro i hi
    have hp : ps[i]? = some (ps.getD i 0) := by simp [show i < ps.length by omega]
    obtain ⟨k1, k2⟩ := h6 i _ hp
    exact ⟨⟨_, A.at k1 (no (ps.getD i 0))⟩, k2⟩
  · exact h8.trans (A.below h8.size (fun k e => e.elim))

/-- what the two last loops read at place k -/
def Reads (w : World) (hb g gp g2 : Nat) (M : Nat → Nat) (n : Nat) : Prop :=
  ∀ k, k < n → ∃ p, w.cell? ⟨g, k, none⟩ = some (ptr p) ∧ w.cell? ⟨gp, k, none⟩ = some (.int .i64 (M k)) ∧ M k < n ∧ w.cell? ⟨g2, M k, none⟩ = some (ptr p) ∧ w.cell? ⟨p, 19, none⟩ = some (.int .i64 k) ∧ w.cell? ⟨p, 18, none⟩ = some (ptr hb)

section
variable {w0 w : World} {hb n : Nat} {kv ksv pmv : Value} {P Q M : Nat → Nat}

theorem SwH.reads {g cap gp g2 cap2 : Nat} (h : SwH w0 hb n (.slice (some ⟨g, 0, none⟩) n cap) P Q M (.slice (some ⟨g2, 0, none⟩) n cap2) (.slice (some ⟨gp, 0, none⟩) n n) w) (law : ∀ i, i < n → P i = Q (M i) ∧ M i < n) : Reads w hb g gp g2 M n := by
  intro k hk
  obtain ⟨⟨s, ks⟩, -⟩ := h.kinds k hk
  obtain ⟨l1, l2⟩ := law k hk
  refine ⟨P k, ?_, ?_, l2, ?_, ks.at, ks.idle⟩
  · rw [h.own.cellAt k (by omega), fRow_get _ hk]
  · rw [h.perm.cellAt k (by omega), fRow_get _ hk]
  · rw [h.list.cellAt (M k) (by omega), fRow_get _ l2, l1]

/-- a new kind laid -/
theorem SwH.alloc (h : SwH w0 hb n kv P Q M ksv pmv w) (o : Obj) : SwH w0 hb n kv P Q M ksv pmv (w.alloc o) := by
  have A : Alt (fun _ => False) w (w.alloc o) := (Alt.refl _ w).alloc o
  have no : ∀ k, ¬ (fun _ : Nat => False) k := fun _ h => h
  exact ⟨A.at h.heap (no hb), own_alt h.own A (fun k _ => no k), own_alt h.list A (fun k _ => no k), own_alt h.perm A (fun k _ => no k), h.apart,
    fun i hi => by
      obtain ⟨⟨s, ks⟩, hge⟩ := h.kinds i hi
      exact ⟨⟨s, A.at ks (no (P i))⟩, hge⟩, h.ge, h.below.trans (A.below h.below.size (fun k e => e.elim))⟩

/-- behind the last push -/
structure Fin (w0 : World) (hb n px g' cap' : Nat) (x : ByteArray) (P Q M : Nat → Nat) (ksv pmv : Value) (w : World) : Prop where
  heap : IsHeap w hb (.slice (some ⟨g', 0, none⟩) (n + 1) cap')
  cells : ∀ k, k < n → w.cell? ⟨g', k, none⟩ = some (ptr (P k))
  last : w.cell? ⟨g', n, none⟩ = some (ptr px)
  list : w.ownsRow w0.heap.size 35 1 ksv n (fRow n (fun i => ptr (Q i)))
  perm : w.ownsRow w0.heap.size 3 1 pmv n (fRow n (fun i => .int .i64 (M i)))
  kinds : ∀ i, i < n → ∃ s, IsKind w (P i) s (ptr hb) i
  kx : IsKind w px x (ptr hb) n
  below : Below w0.heap.size w0 w

theorem SwH.push {w3 : World} {px : Nat} {x : ByteArray} {kv' i0 : Value} {a0 : Int} (h : SwH w0 hb n kv P Q M ksv pmv w) (hk : IsKind w px x i0 a0) (hpx : ∀ i, i < n → P i ≠ px) (hge : w0.heap.size ≤ px)
    (p1 : IsHeap w3 hb kv') (p2 : IsKind w3 px x (ptr hb) n) (p3 : w3.ownsRow w0.heap.size 35 1 kv' (n + 1) (fRow n (fun i => ptr (P i)) ++ [ptr px]))
    (p5 : Alt (fun k => k = hb ∨ k = px ∨ some k = kv.ownBlock) w w3) :
    ∃ g' cap', kv' = .slice (some ⟨g', 0, none⟩) (n + 1) cap' ∧ Fin w0 hb n px g' cap' x P Q M ksv pmv w3 := by
  obtain ⟨g', cap', rfl⟩ := own_form p3 (by omega)
  refine ⟨g', cap', rfl, p1, ?_, ?_, ?_, ?_, ?_, p2, ?_⟩
  · intro k hk'
    rw [p3.cellAt k (by omega), List.getElem?_append_left (by simp [fRow]; omega), fRow_get _ hk']
  · rw [p3.cellAt n (by omega), List.getElem?_append_right (by simp [fRow])]
    simp [fRow]
  · exact own_alt h.list p5 (fun k hk' e => by
      rcases e with e | e | e
      · exact own_ne h.list h.heap (by decide) (by rw [← e]; exact hk')
      · exact own_ne h.list hk (by decide) (by rw [← e]; exact hk')
      · exact h.apart k e.symm hk')
  · exact own_alt h.perm p5 (fun k hk' e => by
      rcases e with e | e | e
      · exact own_ne h.perm h.heap (by decide) (by rw [← e]; exact hk')
      · exact own_ne h.perm hk (by decide) (by rw [← e]; exact hk')
      · exact h.ne_perm e.symm hk')
  · intro i hi
    obtain ⟨⟨s, ks⟩, -⟩ := h.kinds i hi
    refine ⟨s, p5.at ks (fun e => ?_)⟩
    rcases e with e | e | e
    · exact kind_ne_heap ks h.heap e
    · exact hpx i hi e
    · exact own_ne h.own ks (by decide) e.symm
  · exact h.below.trans (p5.below h.below.size (fun k e => by
      rcases e with e | e | e
      · rw [e]; exact h.ge
      · rw [e]; exact hge
      · exact (h.own.lt k e.symm).1))

theorem Fin.reads {px g' cap' gp g2 cap2 : Nat} {x : ByteArray} (h : Fin w0 hb n px g' cap' x P Q M (.slice (some ⟨g2, 0, none⟩) n cap2) (.slice (some ⟨gp, 0, none⟩) n n) w) (law : ∀ i, i < n → P i = Q (M i) ∧ M i < n) : Reads w hb g' gp g2 M n := by
  intro k hk
  obtain ⟨s, ks⟩ := h.kinds k hk
  obtain ⟨l1, l2⟩ := law k hk
  refine ⟨P k, h.cells k hk, ?_, l2, ?_, ks.at, ks.idle⟩
  · rw [h.perm.cellAt k (by omega), fRow_get _ hk]
  · rw [h.list.cellAt (M k) (by omega), fRow_get _ l2, l1]
end

theorem law_swp {n : Nat} {P Q M : Nat → Nat} {i j : Nat} (hi : i < n) (hj : j < n) (law : ∀ k, k < n → P k = Q (M k) ∧ M k < n) : ∀ k, k < n → swp P i j k = Q (swp M i j k) ∧ swp M i j k < n := by
  intro k hk
  unfold swp upd
  by_cases e1 : k = j
  · rw [if_pos e1, if_pos e1]; exact law i hi
  · rw [if_neg e1, if_neg e1]
    by_cases e2 : k = i
    · rw [if_pos e2, if_pos e2]; exact law j hj
    · rw [if_neg e2, if_neg e2]; exact law k hk
end Go.Proofs.Qxb6614383a
