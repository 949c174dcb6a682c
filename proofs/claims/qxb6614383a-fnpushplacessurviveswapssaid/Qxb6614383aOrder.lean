import Derived.Test.Qxb6614383aNames
import Derived.LaidEqlPtr
namespace Go.Proofs.Qxb6614383a
open Go.RowKit
set_option linter.unusedVariables false

/-- after j pushes: the heap's kinds and the list's are ps, each at its place -/
def Inv (w0 : World) (hb : Nat) (ss : Nat → ByteArray) (j : Nat) (ksv : Value) (wr : World) : Prop :=
  ∃ (kv : Value) (ps : List Nat), ps.length = j ∧ IsHeap wr hb kv ∧ wr.ownsRow w0.heap.size 35 1 kv j (ps.map ptr) ∧ wr.ownsRow w0.heap.size 35 1 ksv j (ps.map ptr) ∧
    (∀ g, kv.ownBlock = some g → ksv.ownBlock ≠ some g) ∧ (∀ i p, ps[i]? = some p → IsKind wr p (ss i) (ptr hb) i ∧ w0.heap.size ≤ p) ∧ w0.heap.size ≤ hb ∧ Below w0.heap.size w0 wr

theorem Inv.start (w : World) (ss : Nat → ByteArray) : Inv w w.heap.size ss 0 (.slice none 0 0) (w.alloc (.cells #[.slice none 0 0, .nilFunc] 57)) :=
  ⟨.slice none 0 0, [], rfl, heap_alloc_new _ _, World.ownsRow_nil _ _ _ _, World.ownsRow_nil _ _ _ _, fun g h => by simp [Value.ownBlock] at h, fun i p h => by simp at h, Nat.le_refl _, (Below.refl _ _).alloc (Nat.le_refl _) _⟩

/-- the world at the list's append: a new kind, and the one-element slice -/
def mid2 (wr : World) (s : ByteArray) : World :=
  (wr.alloc (.cells (kst s (.pointer none) 0) 89)).alloc (.cells #[.pointer (some ⟨wr.heap.size, 0, none⟩)] 35)

theorem mid2_alt (wr : World) (s : ByteArray) : Alt (fun _ => False) wr (mid2 wr s) := ((Alt.refl _ wr).alloc _).alloc _
theorem mid2_kind (wr : World) (s : ByteArray) : IsKind (mid2 wr s) wr.heap.size s (.pointer none) 0 := by
  unfold mid2 IsKind
  rw [Below.heap_alloc _ _ _ (by simp)]
  exact heap_alloc_new _ _
theorem mid2_new (wr : World) (s : ByteArray) : (mid2 wr s).cell? ((⟨wr.heap.size + 1, 0, none⟩ : Addr).add 0) = some (.pointer (some ⟨wr.heap.size, 0, none⟩)) := by
  have h := heap_alloc_new (wr.alloc (.cells (kst s (.pointer none) 0) 89)) (.cells #[.pointer (some ⟨wr.heap.size, 0, none⟩)] 35)
  rw [show (wr.alloc (.cells (kst s (.pointer none) 0) 89)).heap.size = wr.heap.size + 1 by simp] at h
  rw [Addr.add_lit, cell_of_row (mid2 wr s) (wr.heap.size + 1) (0 + 0) _ _ _ h]
  rfl
theorem mid2_size (wr : World) (s : ByteArray) : (mid2 wr s).heap.size = wr.heap.size + 2 := by simp [mid2]

/-- what Push asks, behind the list's append -/
structure Ready (w0 : World) (hb : Nat) (ss : Nat → ByteArray) (j p : Nat) (kv ksv' : Value) (ps : List Nat) (w2 : World) : Prop where
  len : ps.length = j
  heap : IsHeap w2 hb kv
  own : w2.ownsRow w0.heap.size 35 1 kv j (ps.map ptr)
  list : w2.ownsRow w0.heap.size 35 1 ksv' (j + 1) (ps.map ptr ++ [ptr p])
  apart : ∀ g, kv.ownBlock = some g → ksv'.ownBlock ≠ some g
  kinds : ∀ i q, ps[i]? = some q → IsKind w2 q (ss i) (ptr hb) i ∧ w0.heap.size ≤ q ∧ q ≠ p
  kind : IsKind w2 p (ss j) (.pointer none) 0
  ge : w0.heap.size ≤ hb
  pge : w0.heap.size ≤ p
  below : Below w0.heap.size w0 w2
  base : w0.heap.size ≤ w2.heap.size

theorem ready {w0 wr w2 : World} {hb j : Nat} {ss : Nat → ByteArray} {kv ksv ksv' : Value} {ps : List Nat}
    (h1 : ps.length = j) (h2 : IsHeap wr hb kv) (h3 : wr.ownsRow w0.heap.size 35 1 kv j (ps.map ptr)) (h4 : wr.ownsRow w0.heap.size 35 1 ksv j (ps.map ptr))
    (h5 : ∀ g, kv.ownBlock = some g → ksv.ownBlock ≠ some g) (h6 : ∀ i p, ps[i]? = some p → IsKind wr p (ss i) (ptr hb) i ∧ w0.heap.size ≤ p) (h7 : w0.heap.size ≤ hb) (h8 : Below w0.heap.size w0 wr)
    (a1 : w2.ownsRow w0.heap.size 35 1 ksv' (j + 1) (ps.map ptr ++ [ptr wr.heap.size])) (a2 : (mid2 wr (ss j)).grownBy w2 ksv.ownBlock) (a3 : ksv'.ownBlock = ksv.ownBlock ∨ ∃ g, ksv'.ownBlock = some g ∧ wr.heap.size + 2 ≤ g) :
    Ready w0 hb ss j wr.heap.size kv ksv' ps w2 := by
  have A := mid2_alt wr (ss j)
  have hk := mid2_kind wr (ss j)
  have no : ∀ k, ¬ (fun _ : Nat => False) k := fun _ h => h
  have mO := own_alt h4 A (fun k _ => no k)
  have mK := own_alt h3 A (fun k _ => no k)
  have mH : IsHeap (mid2 wr (ss j)) hb kv := A.at h2 (no hb)
  have ge : ∀ k, ksv.ownBlock = some k → w0.heap.size ≤ k := fun k h => (h4.lt k h).1
  refine ⟨h1, ?_, ?_, a1, ?_, ?_, ?_, h7, h8.size, ?_, ?_⟩
  · exact (a2.block hb (lt_of_heap mH) (fun e => own_ne mO mH (by decide) e.symm)).trans mH
  · refine mK.kept a2 ?_
    cases hkv : kv.ownBlock with
    | none => exact .inl rfl
    | some g => exact .inr (fun e => h5 g hkv e.symm)
  · intro g hg
    have hlt := (h3.lt g hg).2
    rcases a3 with a3 | ⟨g', hg', hs⟩
    · rw [a3]; exact h5 g hg
    · rw [hg']; intro e; simp at e; omega
  · intro i q hq
    obtain ⟨k1, k2⟩ := h6 i q hq
    have k1' : IsKind (mid2 wr (ss j)) q (ss i) (ptr hb) i := A.at k1 (no q)
    exact ⟨(a2.block q (lt_of_heap k1') (fun e => own_ne mO k1' (by decide) e.symm)).trans k1', k2, Nat.ne_of_lt (lt_of_heap k1)⟩
  · exact (a2.block _ (lt_of_heap hk) (fun e => own_ne mO hk (by decide) e.symm)).trans hk
  · exact (h8.trans (A.below h8.size (fun k h => h.elim))).grown a2 (by rw [mid2_size]; have := h8.size; omega) (fun k e => ge k e)
  · have := a2.size; rw [mid2_size] at this; have := h8.size; omega

theorem Ready.step {w0 w2 w3 : World} {hb j p : Nat} {ss : Nat → ByteArray} {kv ksv' kv' : Value} {ps : List Nat} (h : Ready w0 hb ss j p kv ksv' ps w2)
    (p1 : IsHeap w3 hb kv') (p2 : IsKind w3 p (ss j) (ptr hb) j) (p3 : w3.ownsRow w0.heap.size 35 1 kv' (j + 1) (ps.map ptr ++ [ptr p]))
    (p4 : kv'.ownBlock = kv.ownBlock ∨ ∃ g, kv'.ownBlock = some g ∧ w2.heap.size ≤ g) (p5 : Alt (fun k => k = hb ∨ k = p ∨ some k = kv.ownBlock) w2 w3) :
    Inv w0 hb ss (j + 1) ksv' w3 := by
  have hge : ∀ k, kv.ownBlock = some k → w0.heap.size ≤ k := fun k e => (h.own.lt k e).1
  have hl := h.len
  refine ⟨kv', ps ++ [p], by simp [hl], p1, by simpa using p3, ?_, ?_, ?_, h.ge, ?_⟩
  · have := own_alt h.list p5 (fun k hk e => by
      rcases e with e | e | e
      · exact own_ne h.list h.heap (by decide) (e ▸ hk)
      · exact own_ne h.list h.kind (by decide) (e ▸ hk)
      · exact h.apart k e.symm hk)
    simpa using this
  · intro g hg hk
    rcases p4 with p4 | ⟨g', hg', hs⟩
    · exact h.apart g (p4 ▸ hg) hk
    · have hlt := (h.list.lt g hk).2
      rw [hg'] at hg
      simp at hg
      omega
  · intro i q hq
    by_cases hi : i < ps.length
    · rw [List.getElem?_append_left hi] at hq
      obtain ⟨k1, k2, k3⟩ := h.kinds i q hq
      refine ⟨p5.at k1 (fun e => ?_), k2⟩
      rcases e with e | e | e
      · exact kind_ne_heap k1 h.heap e
      · exact k3 e
      · exact own_ne h.own k1 (by decide) e.symm
    · have hij : i = j := by
        have := (List.getElem?_eq_some_iff.1 hq).1
        simp at this; omega
      subst hij
      rw [List.getElem?_append_right (by omega), hl] at hq
      simp at hq
      subst hq
      exact ⟨p2, h.pge⟩
  · exact h.below.trans (p5.below h.base (fun k e => by
      rcases e with rfl | rfl | e
      · exact h.ge
      · exact h.pge
      · exact hge k e.symm))

theorem run_neq_ptr_same {P : Program} (w : World) {tp te : TypeId} {j : TypeInfo} (a : Addr) (hp : P.underlying tp = some (.pointer te)) (hte : P.info? te = some j) :
    (binOp .neq tp (.pointer (some a)) (.pointer (some a))).run P w = .ok (.bool false) w := by
  have h : ∀ d : Nat, (Op.equalIn (d + 1) tp (.pointer (some a)) (.pointer (some a))).run P w = .ok true w := fun d => by
    simp [Op.equalIn, run_underlying hp, sizeOf, typeInfo, hte, run_sameAddr_same]
  simp only [binOp]
  simp [Op.equal, Op.maxDepth, h 9999]

theorem Try.has89 : (Try.prog.info? 89).isSome = true := by kernel_rfl
theorem Try.has57 : (Try.prog.info? 57).isSome = true := by kernel_rfl
theorem neq35 (a : Addr) (w : World) : (binOp .neq 35 (.pointer (some a)) (.pointer (some a))).run Try.prog w = .ok (.bool false) w := by
  obtain ⟨j, hj⟩ := Option.isSome_iff_exists.1 Try.has89
  exact run_neq_ptr_same w a Try.underlying35 hj
theorem neq31 (a : Addr) (w : World) : (binOp .neq 31 (.pointer (some a)) (.pointer (some a))).run Try.prog w = .ok (.bool false) w := by
  obtain ⟨j, hj⟩ := Option.isSome_iff_exists.1 Try.has57
  exact run_neq_ptr_same w a Try.underlying31 hj
end Go.Proofs.Qxb6614383a
