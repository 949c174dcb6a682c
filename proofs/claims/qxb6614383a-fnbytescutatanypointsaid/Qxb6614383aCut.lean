import Derived.Test.Qxb6614383aReading
namespace Go.Proofs.Qxb6614383a
open Go.RowKit
set_option linter.unusedVariables false

theorem Below.step {a b c : World} (h : Below a.heap.size a b) (k : Below b.heap.size b c) : Below a.heap.size a c := h.trans (k.mono h.size)
theorem Below.keeps {w w' : World} (h : Below w.heap.size w w') {a : Addr} {v : Value} (k : w.cell? a = some v) : w'.cell? a = some v := (h.cell (World.block_lt_of_cell? w a k)).trans k
theorem cutA_some (g c l : Nat) (h : l < c) : cutA (some ⟨g, 0, none⟩) c l = some ⟨g, l, none⟩ := by
  unfold cutA
  rw [if_neg (by omega)]
  simp [Addr.add_lit]

/-- too long a text -/
theorem cut_long (a : Option Addr) (n c : Nat) (x y z : Int) (w : World) (h : ¬ n ≤ 1048576) :
    Calls Try.prog 3 #[.slice a n c, .int .i32 x, .int .i32 y, .int .i32 z] w fun e w' => e = .returned (.bool true) ∧ Below w.heap.size w w' := by
  go_enter Try.func3, Try.ntmps3
  go_wp2_with fail
  refine (bytes3_no a n c x y z _ h).mono ?_
  rintro e w' ⟨rfl, rfl⟩
  go_wp2
  go_ret
  exact ⟨rfl, Below.refl _ _⟩

/-- no cut -/
theorem cut_out (a : Option Addr) (n c : Nat) (x y z : Int) (w : World) (h : n ≤ 1048576) (hz0 : -2147483648 ≤ z) (hz1 : z ≤ 2147483647) (hx : ¬ (0 ≤ x ∧ x ≤ y ∧ y ≤ z ∧ z ≤ n)) :
    Calls Try.prog 3 #[.slice a n c, .int .i32 x, .int .i32 y, .int .i32 z] w fun e w' => e = .returned (.bool true) ∧ Below w.heap.size w w' := by
  go_enter Try.func3, Try.ntmps3
  go_wp2_with fail
  refine (bytes3_yes a n c x y z _ h).mono ?_
  rintro e w' ⟨rfl, rfl⟩
  go_wp2_with fail
  all_goals (go_ret; exact ⟨rfl, Below.refl _ _⟩)

/-- nothing between the cuts -/
theorem cut_empty (a : Option Addr) (n c f : Nat) (zs : List Int) (w : World) (h : n ≤ 1048576) (hrow : IsRow .u8 w a n c zs) (hf : f ≤ n) :
    Calls Try.prog 3 #[.slice a n c, .int .i32 f, .int .i32 f, .int .i32 f] w fun e w' => e = .returned (.bool true) ∧ Below w.heap.size w w' := by
  go_enter Try.func3, Try.ntmps3
  go_wp2_with fail
  refine (bytes3_yes a n c f f f _ h).mono ?_
  rintro e w' ⟨rfl, rfl⟩
  go_wp2_with fail
  refine (clone_any a n c zs _ hrow h).mono ?_
  rintro e w1 ⟨ga, rfl, b1, -⟩
  go_wp2_with fail
  refine (newReading_any ga n n _).mono ?_
  rintro e w2 ⟨rb, rfl, c2, b2⟩
  go_wp2_with fail
  refine (readingBytes_any rb ga n n f f _ c2 (by omega) (by omega)).mono ?_
  rintro e w3 ⟨rfl, b3⟩
  have c3 := Below.keeps b3 c2
  go_wp2_with fail
  refine (readingBytes_any rb ga n n f f _ c3 (by omega) (by omega)).mono ?_
  rintro e w4 ⟨rfl, b4⟩
  have c4 := Below.keeps b4 c3
  go_wp2_with fail
  refine (readingBytes_any rb ga n n f f _ c4 (by omega) (by omega)).mono ?_
  rintro e w5 ⟨rfl, b5⟩
  clear c2 c3 c4
  rw [Nat.sub_self]
  go_wp2_with fail
  go_loopw [15] (fun i wr => i = .int .i64 0 ∧ w5 = wr) (fun i _ => 0)
  case atStart => exact ⟨rfl, rfl⟩
  case round =>
    obtain ⟨rfl, rfl⟩ := hrel
    go_wp2_with fail
    go_loopw [16] (fun i wr => i = .int .i64 0 ∧ w5 = wr) (fun i _ => 0)
    case atStart => exact ⟨rfl, rfl⟩
    case round =>
      obtain ⟨rfl, rfl⟩ := hrel
      go_wp2_with fail
      go_loopw [18] (fun i wr => i = .int .i64 0 ∧ w5 = wr) (fun i _ => 0)
      case atStart => exact ⟨rfl, rfl⟩
      case round =>
        obtain ⟨rfl, rfl⟩ := hrel
        go_wp2_with fail
        go_ret
        exact ⟨rfl, Below.step (Below.step (Below.step (Below.step b1 b2) b3) b4) b5⟩

set_option maxHeartbeats 1000000 in
/-- something between the cuts -/
theorem cut_main (a : Option Addr) (n c f m t : Nat) (zs : List Int) (w : World) (h : n ≤ 1048576) (hrow : IsRow .u8 w a n c zs) (hf : f < t) (h1 : f ≤ m) (h2 : m ≤ t) (h3 : t ≤ n) :
    Calls Try.prog 3 #[.slice a n c, .int .i32 f, .int .i32 m, .int .i32 t] w fun e w' => e = .returned (.bool true) ∧ Below w.heap.size w w' := by
  obtain ⟨b, off, rfl, hct⟩ := hrow.at (by omega)
  have HCT : Hid (∀ i, i < n → w.cell? ⟨b, off + i, none⟩ = some (.int .u8 (zs[i]?.getD 0))) := hct
  clear hct
  go_enter Try.func3, Try.ntmps3
  go_wp2_with fail
  refine (bytes3_yes _ n c f m t _ h).mono ?_
  rintro e w' ⟨rfl, rfl⟩
  go_wp2_with fail
  refine (clone_any _ n c zs _ hrow h).mono ?_
  rintro e w1 ⟨ga, rfl, b1, hga⟩
  obtain ⟨g, rfl, hcg⟩ := hga (by omega)
  have HCG : Hid (∀ i, i < n → w1.cell? ⟨g, i, none⟩ = some (.int .u8 (zs[i]?.getD 0))) := hcg
  clear hcg hga hrow
  go_wp2_with fail
  refine (newReading_any _ n n _).mono ?_
  rintro e w2 ⟨rb, rfl, c2, b2⟩
  go_wp2_with fail
  refine (readingBytes_any rb _ n n f t _ c2 (by omega) (by omega)).mono ?_
  rintro e w3 ⟨rfl, b3⟩
  rw [cutA_some g n f (by omega)]
  have c3 := Below.keeps b3 c2
  go_wp2_with fail
  refine (readingBytes_any rb _ n n f m _ c3 (by omega) (by omega)).mono ?_
  rintro e w4 ⟨rfl, b4⟩
  rw [cutA_some g n f (by omega)]
  have c4 := Below.keeps b4 c3
  go_wp2_with fail
  refine (readingBytes_any rb _ n n m t _ c4 (by omega) (by omega)).mono ?_
  rintro e w5 ⟨rfl, b5⟩
  clear c2 c3 c4
  have har := cutA_some g n m
  generalize cutA (some ⟨g, 0, none⟩) n m = ar at *
  have B15 : Below w1.heap.size w1 w5 := Below.step (Below.step (Below.step b2 b3) b4) b5
  have B05 := Below.step b1 B15
  have CG : Hid (∀ i, i < n → w5.cell? ⟨g, i, none⟩ = some (.int .u8 (zs[i]?.getD 0))) := fun i hi => Below.keeps B15 (HCG.out i hi)
  have CT : Hid (∀ i, i < n → w5.cell? ⟨b, off + i, none⟩ = some (.int .u8 (zs[i]?.getD 0))) := fun i hi => Below.keeps B05 (HCT.out i hi)
  have HAR : Hid (m < n → ar = some ⟨g, m, none⟩) := har
  clear HCG HCT b1 b2 b3 b4 b5 B15 har
  have q1 : (((t - m : Nat) : Int) != (t : Int) - (m : Int)) = false := by rw [bne_eq_false_iff_eq]; omega
  go_wp2_with fail
  go_loopw [15] (fun i wr => ∃ k : Nat, k ≤ t - f ∧ i = .int .i64 k ∧ ∃ q, wr = w5.drewN q) (fun i _ => (t - f) - (intOf i).toNat)
  case atStart => exact ⟨0, Nat.zero_le _, rfl, 0, rfl⟩
  case round =>
    obtain ⟨k, hk, rfl, q, rfl⟩ := hrel
    by_cases hlt : k < t - f
    · have g1 := CG.out (f + k) (by omega)
      have g2 := CT.out (f + k) (by omega)
      generalize (zs[f + k]?.getD 0) = x at g1 g2
      have e0 : (x != x) = false := by simp
      have i1 : (k : Int) < ((t - f : Nat) : Int) := by omega
      have i2 : (f : Int) + (k : Int) < (n : Int) := by omega
      go_wp2_with fail
      go_quiet (fail)
      go_wp2_with fail
      go_roundw
      case rel => exact ⟨k + 1, by omega, by go_num, _, rfl⟩
      case measure => simp [intOf]; omega
    · go_wp2_with fail
      go_loopw [16] (fun i wr => ∃ k : Nat, k ≤ m - f ∧ i = .int .i64 k ∧ ∃ q, wr = w5.drewN q) (fun i _ => (m - f) - (intOf i).toNat)
      case atStart => exact ⟨0, Nat.zero_le _, rfl, _, rfl⟩
      case round =>
        clear hlt hk
        obtain ⟨k, hk, rfl, q, rfl⟩ := hrel
        by_cases hlt : k < m - f
        · have g1 := CG.out (f + k) (by omega)
          generalize (zs[f + k]?.getD 0) = x at g1
          have e0 : (x != x) = false := by simp
          have i1 : (k : Int) < ((m - f : Nat) : Int) := by omega
          have i2 : (k : Int) < ((t - f : Nat) : Int) := by omega
          go_wp2_with fail
          go_quiet (fail)
          go_wp2_with fail
          go_roundw
          case rel => exact ⟨k + 1, by omega, by go_num, _, rfl⟩
          case measure => simp [intOf]; omega
        · go_wp2_with fail
          go_loopw [18] (fun i wr => ∃ k : Nat, k ≤ t - m ∧ i = .int .i64 k ∧ ∃ q, wr = w5.drewN q) (fun i _ => (t - m) - (intOf i).toNat)
          case atStart => exact ⟨0, Nat.zero_le _, rfl, _, rfl⟩
          case round =>
            clear hlt hk
            obtain ⟨k, hk, rfl, q, rfl⟩ := hrel
            by_cases hlt : k < t - m
            · have g1 := CG.out (m + k) (by omega)
              obtain rfl := HAR.out (by omega)
              have g2 : w5.cell? ⟨g, f + (m - f + k), none⟩ = some (.int .u8 (zs[m + k]?.getD 0)) := by rw [show f + (m - f + k) = m + k by omega]; exact g1
              generalize (zs[m + k]?.getD 0) = x at g1 g2
              have e0 : (x != x) = false := by simp
              have i1 : (k : Int) < ((t - m : Nat) : Int) := by omega
              have i2 : (m : Int) - (f : Int) + (k : Int) < ((t - f : Nat) : Int) := by omega
              go_wp2_with fail
              go_quiet (fail)
              go_wp2_with fail
              go_roundw
              case rel => exact ⟨k + 1, by omega, by go_num, _, rfl⟩
              case measure => simp [intOf]; omega
            · go_wp2_with fail
              go_ret
              exact ⟨rfl, below_drewN B05 _⟩
end Go.Proofs.Qxb6614383a
