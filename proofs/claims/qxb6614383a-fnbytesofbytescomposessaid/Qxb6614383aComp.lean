import Derived.Test.Qxb6614383aReading
namespace Go.Proofs.Qxb6614383a.comp
open Go.RowKit
set_option linter.unusedVariables false

theorem step {a b c : World} (h : Below a.heap.size a b) (k : Below b.heap.size b c) : Below a.heap.size a c := h.trans (k.mono h.size)
theorem keeps {w w' : World} (h : Below w.heap.size w w') {a : Addr} {v : Value} (k : w.cell? a = some v) : w'.cell? a = some v := (h.cell (World.block_lt_of_cell? w a k)).trans k
theorem cutA_some (g o c l : Nat) (h : l < c) : cutA (some ⟨g, o, none⟩) c l = some ⟨g, o + l, none⟩ := by
  unfold cutA
  rw [if_neg (by omega)]
  simp [Addr.add_lit]
theorem cutA_zero (g c l : Nat) (h : l < c) : cutA (some ⟨g, 0, none⟩) c l = some ⟨g, l, none⟩ := by
  rw [cutA_some g 0 c l h, Nat.zero_add]

theorem bytes4_yes (a : Option Addr) (n c : Nat) (x y z u : Int) (w : World) (h : n ≤ 1048576) :
    Calls Try.prog 11 #[.slice a n c, .int .i32 x, .int .i32 y, .int .i32 z, .int .i32 u] w fun e w' => e = .returned (.bool true) ∧ w' = w := by
  go_enter Try.func11, Try.ntmps11
  go_wp2
  go_ret
  exact ⟨rfl, rfl⟩
theorem bytes4_no (a : Option Addr) (n c : Nat) (x y z u : Int) (w : World) (h : ¬ n ≤ 1048576) :
    Calls Try.prog 11 #[.slice a n c, .int .i32 x, .int .i32 y, .int .i32 z, .int .i32 u] w fun e w' => e = .returned (.bool false) ∧ w' = w := by
  go_enter Try.func11, Try.ntmps11
  go_wp2
  go_ret
  exact ⟨rfl, rfl⟩

/-- too long a text -/
theorem comp_long (a : Option Addr) (n c : Nat) (x y z u : Int) (w : World) (h : ¬ n ≤ 1048576) :
    Calls Try.prog 4 #[.slice a n c, .int .i32 x, .int .i32 y, .int .i32 z, .int .i32 u] w fun e w' => e = .returned (.bool true) ∧ Below w.heap.size w w' := by
  go_enter Try.func4, Try.ntmps4
  go_wp2_with fail
  refine (bytes4_no a n c x y z u _ h).mono ?_
  rintro e w' ⟨rfl, rfl⟩
  go_wp2
  go_ret
  exact ⟨rfl, Below.refl _ _⟩

/-- the outer cut does not fit -/
theorem comp_out (a : Option Addr) (n c : Nat) (x y z u : Int) (w : World) (h : n ≤ 1048576) (hy0 : -2147483648 ≤ y) (hy1 : y ≤ 2147483647) (hx : ¬ (0 ≤ x ∧ x ≤ y ∧ y ≤ n)) :
    Calls Try.prog 4 #[.slice a n c, .int .i32 x, .int .i32 y, .int .i32 z, .int .i32 u] w fun e w' => e = .returned (.bool true) ∧ Below w.heap.size w w' := by
  go_enter Try.func4, Try.ntmps4
  go_wp2_with fail
  refine (bytes4_yes a n c x y z u _ h).mono ?_
  rintro e w' ⟨rfl, rfl⟩
  go_wp2_with fail
  all_goals (go_ret; exact ⟨rfl, Below.refl _ _⟩)

/-- the inner cut does not fit -/
theorem comp_in (a : Option Addr) (n c : Nat) (x y z u : Int) (w : World) (h : n ≤ 1048576) (hx0 : 0 ≤ x) (hx1 : x ≤ y) (hx2 : y ≤ n) (hz : ¬ (0 ≤ z ∧ z ≤ u ∧ u ≤ y - x)) :
    Calls Try.prog 4 #[.slice a n c, .int .i32 x, .int .i32 y, .int .i32 z, .int .i32 u] w fun e w' => e = .returned (.bool true) ∧ Below w.heap.size w w' := by
  go_enter Try.func4, Try.ntmps4
  go_wp2_with fail
  refine (bytes4_yes a n c x y z u _ h).mono ?_
  rintro e w' ⟨rfl, rfl⟩
  go_wp2_with fail
  all_goals (go_ret; exact ⟨rfl, Below.refl _ _⟩)

set_option maxHeartbeats 1000000 in
/-- an empty inner cut -/
theorem comp_empty (a : Option Addr) (n c p q r : Nat) (zs : List Int) (w : World) (h : n ≤ 1048576) (hrow : IsRow .u8 w a n c zs) (h1 : p ≤ q) (h2 : q ≤ n) (h3 : r ≤ q - p) :
    Calls Try.prog 4 #[.slice a n c, .int .i32 p, .int .i32 q, .int .i32 r, .int .i32 r] w fun e w' => e = .returned (.bool true) ∧ Below w.heap.size w w' := by
  have i1 : (r : Int) ≤ (q : Int) - (p : Int) := by omega
  go_enter Try.func4, Try.ntmps4
  go_wp2_with fail
  refine (bytes4_yes a n c p q r r _ h).mono ?_
  rintro e w0 ⟨rfl, rfl⟩
  go_wp2_with fail
  refine (clone_any a n c zs _ hrow h).mono ?_
  rintro e w1 ⟨ga, rfl, b1, -⟩
  go_wp2_with fail
  refine (newReading_any ga n n _).mono ?_
  rintro e w2 ⟨rb, rfl, c2, b2⟩
  go_wp2_with fail
  refine (readingBytes_any rb ga n n p q _ c2 (by omega) (by omega)).mono ?_
  rintro e w3 ⟨rfl, b3⟩
  have c3 := keeps b3 c2
  go_wp2_with fail
  refine (newReading_any _ _ _ _).mono ?_
  rintro e w4 ⟨ri, rfl, d4, b4⟩
  have c4 := keeps b4 c3
  go_wp2_with fail
  refine (readingBytes_any ri _ _ (n - p) r r _ d4 (by omega) (by omega)).mono ?_
  rintro e w5 ⟨rfl, b5⟩
  have c5 := keeps b5 c4
  clear c2 c3 c4 d4
  go_wp2_with fail
  rw [show (p : Int) + (r : Int) = ((p + r : Nat) : Int) by omega]
  refine (readingBytes_any rb ga n n (p + r) (p + r) _ c5 (by omega) (by omega)).mono ?_
  rintro e w6 ⟨rfl, b6⟩
  rw [Nat.sub_self]
  clear c5
  go_wp2_with fail
  go_loopw [17] (fun i wr => i = .int .i64 0 ∧ w6 = wr) (fun i _ => 0)
  case atStart => exact ⟨rfl, rfl⟩
  case round =>
    obtain ⟨rfl, rfl⟩ := hrel
    go_wp2_with fail
    go_ret
    exact ⟨rfl, step (step (step (step (step b1 b2) b3) b4) b5) b6⟩

set_option maxHeartbeats 1000000 in
/-- something in the inner cut -/
theorem comp_main (a : Option Addr) (n c p q r s : Nat) (zs : List Int) (w : World) (h : n ≤ 1048576) (hrow : IsRow .u8 w a n c zs) (h1 : p ≤ q) (h2 : q ≤ n) (h3 : r < s) (h4 : s ≤ q - p) :
    Calls Try.prog 4 #[.slice a n c, .int .i32 p, .int .i32 q, .int .i32 r, .int .i32 s] w fun e w' => e = .returned (.bool true) ∧ Below w.heap.size w w' := by
  obtain ⟨b, off, rfl, hct⟩ := hrow.at (by omega)
  have HCT : Hid (∀ i, i < n → w.cell? ⟨b, off + i, none⟩ = some (.int .u8 (zs[i]?.getD 0))) := hct
  clear hct
  have i1 : (s : Int) ≤ (q : Int) - (p : Int) := by omega
  go_enter Try.func4, Try.ntmps4
  go_wp2_with fail
  refine (bytes4_yes _ n c p q r s _ h).mono ?_
  rintro e w0 ⟨rfl, rfl⟩
  go_wp2_with fail
  refine (clone_any _ n c zs _ hrow h).mono ?_
  rintro e w1 ⟨ga, rfl, b1, hga⟩
  obtain ⟨g, rfl, hcg⟩ := hga (by omega)
  have HCG : Hid (∀ i, i < n → w1.cell? ⟨g, i, none⟩ = some (.int .u8 (zs[i]?.getD 0))) := hcg
  clear hcg hga hrow
  go_wp2_with fail
  refine (newReading_any _ n n _).mono ?_
  rintro e w2 ⟨rb, rfl, c2, b2⟩
  go_wp2_with fail
  refine (readingBytes_any rb _ n n p q _ c2 (by omega) (by omega)).mono ?_
  rintro e w3 ⟨rfl, b3⟩
  rw [cutA_zero g n p (by omega)]
  have c3 := keeps b3 c2
  go_wp2_with fail
  refine (newReading_any _ _ _ _).mono ?_
  rintro e w4 ⟨ri, rfl, d4, b4⟩
  have c4 := keeps b4 c3
  go_wp2_with fail
  refine (readingBytes_any ri _ _ (n - p) r s _ d4 (by omega) (by omega)).mono ?_
  rintro e w5 ⟨rfl, b5⟩
  rw [cutA_some g p (n - p) r (by omega)]
  have c5 := keeps b5 c4
  clear c2 c3 c4 d4
  go_wp2_with fail
  rw [show (p : Int) + (r : Int) = ((p + r : Nat) : Int) by omega, show (p : Int) + (s : Int) = ((p + s : Nat) : Int) by omega]
  refine (readingBytes_any rb _ n n (p + r) (p + s) _ c5 (by omega) (by omega)).mono ?_
  rintro e w6 ⟨rfl, b6⟩
  rw [cutA_zero g n (p + r) (by omega), show p + s - (p + r) = s - r by omega]
  clear c5
  have B16 : Below w1.heap.size w1 w6 := step (step (step (step b2 b3) b4) b5) b6
  have B06 := step b1 B16
  have CG : Hid (∀ i, i < n → w6.cell? ⟨g, i, none⟩ = some (.int .u8 (zs[i]?.getD 0))) := fun i hi => keeps B16 (HCG.out i hi)
  have CT : Hid (∀ i, i < n → w6.cell? ⟨b, off + i, none⟩ = some (.int .u8 (zs[i]?.getD 0))) := fun i hi => keeps B06 (HCT.out i hi)
  clear HCG HCT b1 b2 b3 b4 b5 b6 B16
  have q1 : (((s - r : Nat) : Int) != (s : Int) - (r : Int)) = false := by rw [bne_eq_false_iff_eq]; omega
  go_wp2_with fail
  go_loopw [17] (fun i wr => ∃ k : Nat, k ≤ s - r ∧ i = .int .i64 k ∧ ∃ q, wr = w6.drewN q) (fun i _ => (s - r) - (intOf i).toNat)
  case atStart => exact ⟨0, Nat.zero_le _, rfl, 0, rfl⟩
  case round =>
    obtain ⟨k, hk, rfl, q, rfl⟩ := hrel
    by_cases hlt : k < s - r
    · have g1 := CG.out (p + r + k) (by omega)
      have g2 := CT.out (p + r + k) (by omega)
      generalize (zs[p + r + k]?.getD 0) = x at g1 g2
      have e0 : (x != x) = false := by simp
      have i1 : (k : Int) < ((s - r : Nat) : Int) := by omega
      have i2 : (p : Int) + (r : Int) + (k : Int) < (n : Int) := by omega
      go_wp2_with fail
      go_quiet (fail)
      go_wp2_with fail
      go_roundw
      case rel => exact ⟨k + 1, by omega, by go_num, _, rfl⟩
      case measure => simp [intOf]; omega
    · go_wp2_with fail
      go_ret
      exact ⟨rfl, below_drewN B06 _⟩
end Go.Proofs.Qxb6614383a.comp
