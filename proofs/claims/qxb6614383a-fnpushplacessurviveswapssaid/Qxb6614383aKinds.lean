import Derived.Test.Qxb6614383aMem
namespace Go.Proofs.Qxb6614383a
open Go.RowKit
set_option linter.unusedVariables false

theorem Try.info35 : (Try.prog.info? 35).map (fun i => (i.zero, i.size, i.bytes)) = some (some (.pointer none), 1, 8) := by kernel_rfl

/-- a pointer to the head of a block -/
abbrev ptr (p : Nat) : Value := .pointer (some ⟨p, 0, none⟩)

/-- the cells of a kind -/
def kst (s : ByteArray) (idle : Value) (at_ : Int) : Array Value :=
  #[.string s, .slice none 0 0, .int .i64 0, .int .i64 0, .pointer none, .map none, .map none, .slice none 0 0, .bool false, .slice none 0 0, .pointer none, .pointer none, .int .u64 0, .int .i64 0, .pointer none, .bool false, .int .i64 0, .int .i64 0, idle, .int .i64 at_, .int .i64 0, .bool false, .int .i64 0, .int .i64 0, .int .i64 0, .int .i32 0, .int .u32 0, .map none]

/-- block p is a kind -/
def IsKind (w : World) (p : Nat) (s : ByteArray) (idle : Value) (at_ : Int) : Prop := w.heap[p]? = some (.cells (kst s idle at_) 89 (0, 0))
/-- block p is a heap of kinds -/
def IsHeap (w : World) (p : Nat) (kv : Value) : Prop := w.heap[p]? = some (.cells #[kv, .nilFunc] 57 (0, 0))

theorem IsKind.name {w : World} {p : Nat} {s : ByteArray} {idle : Value} {i : Int} (h : IsKind w p s idle i) : w.cell? ⟨p, 0, none⟩ = some (.string s) := by rw [cell_of_row w p 0 _ _ _ h]; rfl
theorem IsKind.idle {w : World} {p : Nat} {s : ByteArray} {idle : Value} {i : Int} (h : IsKind w p s idle i) : w.cell? ⟨p, 18, none⟩ = some idle := by rw [cell_of_row w p 18 _ _ _ h]; rfl
theorem IsKind.at {w : World} {p : Nat} {s : ByteArray} {idle : Value} {i : Int} (h : IsKind w p s idle i) : w.cell? ⟨p, 19, none⟩ = some (.int .i64 i) := by rw [cell_of_row w p 19 _ _ _ h]; rfl
theorem IsKind.frozen {w : World} {p : Nat} {s : ByteArray} {idle : Value} {i : Int} (h : IsKind w p s idle i) (j : Nat) : w.frozen? ⟨p, j, none⟩ = false := frozen_of_row w p j _ _ h
theorem IsHeap.kinds {w : World} {p : Nat} {kv : Value} (h : IsHeap w p kv) : w.cell? ⟨p, 0, none⟩ = some kv := by rw [cell_of_row w p 0 _ _ _ h]; rfl
theorem IsHeap.frozen {w : World} {p : Nat} {kv : Value} (h : IsHeap w p kv) (j : Nat) : w.frozen? ⟨p, j, none⟩ = false := frozen_of_row w p j _ _ h
theorem kind_ne_heap {w : World} {p q : Nat} {s : ByteArray} {idle : Value} {i : Int} {kv : Value} (h : IsKind w p s idle i) (k : IsHeap w q kv) : p ≠ q := by
  rintro rfl
  unfold IsKind at h; unfold IsHeap at k
  rw [h] at k
  simp at k

theorem newHeap_any (w : World) :
    Calls Try.prog 13 #[] w fun e w' => e = .returned (ptr w.heap.size) ∧ IsHeap w' w.heap.size (.slice none 0 0) ∧ w' = w.alloc (.cells #[.slice none 0 0, .nilFunc] 57) := by
  go_enter Try.func13, Try.ntmps13
  go_wp2
  go_ret
  exact ⟨rfl, heap_alloc_new _ _, rfl⟩

theorem kindList_any (w : World) : Calls Try.prog 14 #[] w fun e w' => e = .returned (.slice none 0 0) ∧ w = w' := by
  go_enter Try.func14, Try.ntmps14
  go_wp2
  go_ret
  exact ⟨rfl, rfl⟩

theorem newKind_any (s : ByteArray) (w : World) :
    Calls Try.prog 15 #[.string s] w fun e w' => e = .returned (ptr w.heap.size) ∧ IsKind w' w.heap.size s (.pointer none) 0 ∧ w' = w.alloc (.cells (kst s (.pointer none) 0) 89) := by
  go_enter Try.func15, Try.ntmps15
  go_wp2
  go_ret
  exact ⟨rfl, heap_alloc_new _ _, rfl⟩

theorem heapLen_any (hb : Nat) (a : Option Addr) (n c : Nat) (w : World) (h : IsHeap w hb (.slice a n c)) :
    Calls Try.prog 17 #[ptr hb] w fun e w' => e = .returned (.int .i64 n) ∧ w = w' := by
  have c0 := h.kinds
  unfold ptr
  go_enter Try.func17, Try.ntmps17
  go_wp2
  go_ret
  exact ⟨rfl, rfl⟩

theorem heapKind_any (hb : Nat) (g n c i p : Nat) (w : World) (h : IsHeap w hb (.slice (some ⟨g, 0, none⟩) n c)) (hi : i < n) (hc : w.cell? ⟨g, i, none⟩ = some (ptr p)) (hn : n ≤ 4097) :
    Calls Try.prog 18 #[ptr hb, .int .i64 i] w fun e w' => e = .returned (ptr p) ∧ w = w' := by
  have c0 := h.kinds
  unfold ptr at *
  go_enter Try.func18, Try.ntmps18
  go_wp2
  go_ret
  exact ⟨rfl, rfl⟩

theorem kindAt_any (p : Nat) (i : Int) (w : World) (h : w.cell? ⟨p, 19, none⟩ = some (.int .i64 i)) :
    Calls Try.prog 19 #[ptr p] w fun e w' => e = .returned (.int .i64 i) ∧ w' = w := by
  unfold ptr at *
  go_enter Try.func19, Try.ntmps19
  go_wp2
  go_ret
  exact ⟨rfl, rfl⟩
theorem kindIdle_any (p q : Nat) (w : World) (h : w.cell? ⟨p, 18, none⟩ = some (ptr q)) :
    Calls Try.prog 20 #[ptr p] w fun e w' => e = .returned (ptr q) ∧ w' = w := by
  unfold ptr at *
  go_enter Try.func20, Try.ntmps20
  go_wp2
  go_ret
  exact ⟨rfl, rfl⟩
theorem kindName_any (p : Nat) (s : ByteArray) (w : World) (h : w.cell? ⟨p, 0, none⟩ = some (.string s)) :
    Calls Try.prog 21 #[ptr p] w fun e w' => e = .returned (.string s) ∧ w' = w := by
  unfold ptr at *
  go_enter Try.func21, Try.ntmps21
  go_wp2
  go_ret
  exact ⟨rfl, rfl⟩

theorem IsKind.set {w : World} {p : Nat} {s : ByteArray} {i0 : Value} {a0 : Int} (h : IsKind w p s i0 a0) (v : Value) (n : Int) :
    IsKind ((w.setCell ⟨p, 18, none⟩ v).setCell ⟨p, 19, none⟩ (.int .i64 n)) p s v n := by
  have h1 := heap_setCell_same w p 18 _ _ v h
  exact heap_setCell_same _ p 19 _ _ (.int .i64 n) h1

theorem IsKind.setAt {w : World} {p : Nat} {s : ByteArray} {i0 : Value} {a0 : Int} (h : IsKind w p s i0 a0) (n : Int) :
    IsKind (w.setCell ⟨p, 19, none⟩ (.int .i64 n)) p s i0 n := heap_setCell_same _ p 19 _ _ (.int .i64 n) h

theorem IsHeap.set {w : World} {p : Nat} {kv : Value} (h : IsHeap w p kv) (v : Value) : IsHeap (w.setCell ⟨p, 0, none⟩ v) p v := heap_setCell_same w p 0 _ _ v h

/-- the world at Push's append -/
def mid (w : World) (hb p n : Nat) : World :=
  ((w.setCell ⟨p, 18, none⟩ (.pointer (some ⟨hb, 0, none⟩))).setCell ⟨p, 19, none⟩ (.int .i64 n)).alloc (.cells #[.pointer (some ⟨p, 0, none⟩)] 35)

theorem mid_new (w : World) (hb p n : Nat) : (mid w hb p n).cell? ((⟨w.heap.size, 0, none⟩ : Addr).add 0) = some (.pointer (some ⟨p, 0, none⟩)) := by
  have hs : ((w.setCell ⟨p, 18, none⟩ (.pointer (some ⟨hb, 0, none⟩))).setCell ⟨p, 19, none⟩ (.int .i64 n)).heap.size = w.heap.size := by simp
  have h := heap_alloc_new ((w.setCell ⟨p, 18, none⟩ (.pointer (some ⟨hb, 0, none⟩))).setCell ⟨p, 19, none⟩ (.int .i64 n)) (.cells #[.pointer (some ⟨p, 0, none⟩)] 35)
  rw [hs] at h
  rw [Addr.add_lit, cell_of_row (mid w hb p n) w.heap.size (0 + 0) _ _ _ h]
  rfl

theorem mid_facts {w : World} {hb p n base : Nat} {kv i0 : Value} {a0 : Int} {s : ByteArray} {xs : List Value} (hh : IsHeap w hb kv) (hk : IsKind w p s i0 a0) (hown : w.ownsRow base 35 1 kv n xs) :
    Alt (fun k => k = p) w (mid w hb p n) ∧ IsHeap (mid w hb p n) hb kv ∧ IsKind (mid w hb p n) p s (ptr hb) n ∧ (mid w hb p n).ownsRow base 35 1 kv n xs := by
  have hA : Alt (fun k => k = p) w ((w.setCell ⟨p, 18, none⟩ (.pointer (some ⟨hb, 0, none⟩))).setCell ⟨p, 19, none⟩ (.int .i64 n)) := Alt.setCell (S := fun k => k = p) (Alt.setCell (S := fun k => k = p) (Alt.refl _ w) ⟨p, 18, none⟩ rfl _) ⟨p, 19, none⟩ rfl _
  have hA' : Alt (fun k => k = p) w (mid w hb p n) := hA.alloc _
  have hne := kind_ne_heap hk hh
  refine ⟨hA', hA'.at hh (fun e => hne e.symm), ?_, own_alt hown hA' (fun k hk' e => ?_)⟩
  · have h1 := hk.set (.pointer (some ⟨hb, 0, none⟩)) n
    unfold mid IsKind
    rw [Below.heap_alloc _ _ _ (lt_of_heap h1)]
    exact h1
  · exact own_ne hown hk (by decide) (e ▸ hk')

theorem end_facts {w w' : World} {hb p n base : Nat} {kv v' i0 : Value} {a0 : Int} {s : ByteArray} {xs : List Value} (hh : IsHeap w hb kv) (hk : IsKind w p s i0 a0) (hown : w.ownsRow base 35 1 kv n xs)
    (h1 : w'.ownsRow base 35 1 v' (n + 1) (xs ++ [ptr p])) (h2 : (mid w hb p n).grownBy w' kv.ownBlock) (h3 : v'.ownBlock = kv.ownBlock ∨ ∃ g, v'.ownBlock = some g ∧ w.heap.size + 1 ≤ g) :
    IsHeap (w'.setCell ⟨hb, 0, none⟩ v') hb v' ∧ IsKind (w'.setCell ⟨hb, 0, none⟩ v') p s (ptr hb) n ∧ (w'.setCell ⟨hb, 0, none⟩ v').ownsRow base 35 1 v' (n + 1) (xs ++ [ptr p]) ∧
      (v'.ownBlock = kv.ownBlock ∨ ∃ g, v'.ownBlock = some g ∧ w.heap.size ≤ g) ∧ Alt (fun k => k = hb ∨ k = p ∨ some k = kv.ownBlock) w (w'.setCell ⟨hb, 0, none⟩ v') := by
  obtain ⟨mA, mH, mK, mO⟩ := mid_facts hh hk hown
  have hne := kind_ne_heap hk hh
  have hh' : IsHeap w' hb kv := (h2.block hb (lt_of_heap mH) (fun e => own_ne mO mH (by decide) e.symm)).trans mH
  have hk' : IsKind w' p s (ptr hb) n := (h2.block p (lt_of_heap mK) (fun e => own_ne mO mK (by decide) e.symm)).trans mK
  have hA : Alt (fun k => k = hb) w' (w'.setCell ⟨hb, 0, none⟩ v') := Alt.setCell (S := fun k => k = hb) (Alt.refl _ w') ⟨hb, 0, none⟩ rfl _
  refine ⟨hh'.set v', hA.at hk' hne, own_alt h1 hA (fun k hk e => own_ne h1 hh' (by decide) (e ▸ hk)), ?_, ?_⟩
  · rcases h3 with h3 | ⟨g, hg, hs⟩
    · exact .inl h3
    · exact .inr ⟨g, hg, by omega⟩
  · refine Alt.trans ((mA.mono (fun k _ e => .inr (.inl e))).grown h2 (fun k e => .inr (.inr e.symm))) (hA.mono (fun k _ e => .inl e))

set_option maxHeartbeats 400000 in
set_option maxRecDepth 100000 in
theorem push_any (hb p n : Nat) (kv i0 : Value) (a0 : Int) (s : ByteArray) (xs : List Value) (base : Nat) (w : World) (hh : IsHeap w hb kv) (hk : IsKind w p s i0 a0)
    (hown : w.ownsRow base 35 1 kv n xs) (hn : n ≤ 4096) (hbase : base ≤ w.heap.size) :
    Calls Try.prog 25 #[ptr hb, .iface 35 (ptr p)] w fun e w' => e = .returned (.tuple #[]) ∧ ∃ kv', IsHeap w' hb kv' ∧ IsKind w' p s (ptr hb) n ∧ w'.ownsRow base 35 1 kv' (n + 1) (xs ++ [ptr p]) ∧
      (kv'.ownBlock = kv.ownBlock ∨ ∃ g, kv'.ownBlock = some g ∧ w.heap.size ≤ g) ∧ Alt (fun k => k = hb ∨ k = p ∨ some k = kv.ownBlock) w w' := by
  have c0 := hh.kinds
  have f0 := hh.frozen 0
  have c18 := hk.idle
  have c19 := hk.at
  have f18 := hk.frozen 18
  have f19 := hk.frozen 19
  have hne := kind_ne_heap hk hh
  obtain ⟨i0', hi, hz0, hz1, hz2⟩ := info_parts Try.info35
  obtain ⟨a, c, rfl⟩ := own_slice hown
  have HH : Hid (IsHeap w hb (.slice a n c)) := hh
  have HK : Hid (IsKind w p s i0 a0) := hk
  have HO : Hid (w.ownsRow base 35 1 (.slice a n c) n xs) := hown
  clear hh hk hown
  have hta : ∀ w, (Instr.typeAssert (.iface 35 (.pointer (some ⟨p, 0, none⟩))) 20 35 false).run Try.prog w = .ok (.pointer (some ⟨p, 0, none⟩)) w := fun w => by kernel_rfl
  unfold ptr
  go_enter Try.func25, Try.ntmps25
  go_wp2_with (at_builtin; refine wpList_append_mine _ rfl (.tmp 23) (.tmp 25) 33 rfl base 35 i0' (.pointer none) 1 8 Try.underlying33 hi hz0 hz1 hz2 rfl (by decide) (.slice a n c) n xs rfl ?own ⟨w.heap.size, 0, none⟩ 1 1 [.pointer (some ⟨p, 0, none⟩)] rfl rfl ?c1 ?c2 ?b1 ?b2 ?b3 (by decide) ?next)
  case own => exact (mid_facts HH.out HK.out HO.out).2.2.2
  case c1 => intro j u hj; match j, hj with | 0, hj => simp at hj; subst hj; exact mid_new w hb p n
  case c2 => intro u hu; simp at hu; subst hu; rfl
  case b1 => unfold maxLen; omega
  case b2 => omega
  case b3 => simp; omega
  case next =>
    intro v' w' h1 h2 h3
    have E := end_facts HH.out HK.out HO.out h1 h2 h3
    obtain ⟨mA, mH, mK, mO⟩ := mid_facts HH.out HK.out HO.out
    have hh' : IsHeap w' hb (.slice a n c) := (h2.block hb (lt_of_heap mH) (fun e => own_ne mO mH (by decide) e.symm)).trans mH
    have k0 := hh'.kinds
    have kf := hh'.frozen 0
    obtain ⟨g, cap, rfl⟩ := own_form h1 (by omega)
    have EE : Hid _ := E
    clear E h1 h2 h3 mA mH mK mO hh' c0 f0 c18 c19 f18 f19
    go_wp2
    go_end0
    exact ⟨rfl, _, EE.out⟩

theorem zzpush_any (hb p n : Nat) (kv i0 : Value) (a0 : Int) (s : ByteArray) (xs : List Value) (base : Nat) (w : World) (hh : IsHeap w hb kv) (hk : IsKind w p s i0 a0)
    (hown : w.ownsRow base 35 1 kv n xs) (hn : n ≤ 4096) (hbase : base ≤ w.heap.size) :
    Calls Try.prog 16 #[ptr hb, ptr p] w fun e w' => e = .returned (.tuple #[]) ∧ ∃ kv', IsHeap w' hb kv' ∧ IsKind w' p s (ptr hb) n ∧ w'.ownsRow base 35 1 kv' (n + 1) (xs ++ [ptr p]) ∧
      (kv'.ownBlock = kv.ownBlock ∨ ∃ g, kv'.ownBlock = some g ∧ w.heap.size ≤ g) ∧ Alt (fun k => k = hb ∨ k = p ∨ some k = kv.ownBlock) w w' := by
  go_enter Try.func16, Try.ntmps16
  go_wp2_with fail
  refine (push_any hb p n kv i0 a0 s xs base w hh hk hown hn hbase).mono ?_
  rintro e w' ⟨rfl, hq⟩
  have HQ : Hid _ := hq
  clear hq hh hk hown
  go_wp2
  go_end0
  exact ⟨rfl, HQ.out⟩
end Go.Proofs.Qxb6614383a
