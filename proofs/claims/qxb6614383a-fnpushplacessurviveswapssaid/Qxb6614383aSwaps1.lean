import Derived.Test.Qxb6614383aPlaces2
import Derived.Test.Qxb6614383aNames2
namespace Go.Proofs.Qxb6614383a
open Go.RowKit
set_option linter.unusedVariables false

theorem Try.info3 : (Try.prog.info? 3).map (fun i => (i.zero, i.size, i.bytes)) = some (some (.int .i64 0), 1, 8) := by kernel_rfl

/-- the elements' cells of a slice of ints, where there are elements -/
def IntsAt (w : World) (a : Option Addr) (n : Nat) (f : Nat → Int) : Prop :=
  0 < n → ∃ b off, a = some ⟨b, off, none⟩ ∧ ∀ i, i < n → w.cell? ⟨b, off + i, none⟩ = some (.int .i64 (f i))

set_option maxHeartbeats 1000000 in
set_option maxRecDepth 1000000 in
theorem swaps_big (a : Option Addr) (n c : Nat) (ss : Nat → ByteArray) (aI : Option Addr) (mI cI : Nat) (aJ : Option Addr) (mJ cJ : Nat) (x : ByteArray) (w : World) (hs : StrsAt w a n ss) (hss : ∀ i, (ss i).size ≤ 9223372036854775807) (hn : n ≤ 9223372036854775807)
    (hI : mI ≤ 9223372036854775807) (hJ : mJ ≤ 9223372036854775807) (hx : x.size ≤ 9223372036854775807) (hb : ¬ (n ≤ 4096 ∧ mI ≤ 65536 ∧ mJ ≤ 65536 ∧ x.size ≤ 1048576 ∧ 8 * mI + 8 * mJ + x.size ≤ 1048576)) :
    Calls Try.prog 6 #[.slice a n c, .slice aI mI cI, .slice aJ mJ cJ, .string x] w fun e w' => e = .returned (.bool true) ∧ Below w.heap.size w w' := by
  by_cases h1 : n ≤ 4096 ∧ mI ≤ 65536 ∧ mJ ≤ 65536 ∧ x.size ≤ 1048576
  · obtain ⟨h1, h2, h3, h4⟩ := h1
    have h5 : ¬ 8 * (mI : Int) + 8 * (mJ : Int) + (x.size : Int) ≤ 1048576 := by omega
    clear hb
    go_enter Try.func6, Try.ntmps6
    go_wp2_with fail
    refine (bytes22_any a n c ss aI mI cI aJ mJ cJ x _ hs hss hn hI hJ hx).mono ?_
    rintro e w' ⟨⟨t, rfl, ht⟩, rfl⟩
    clear ht hs hss
    cases t
    · go_wp2
      go_ret
      exact ⟨rfl, Below.refl _ _⟩
    · go_wp2
      all_goals (go_ret; exact ⟨rfl, Below.refl _ _⟩)
  · clear hb
    go_enter Try.func6, Try.ntmps6
    go_wp2_with fail
    refine (bytes22_any a n c ss aI mI cI aJ mJ cJ x _ hs hss hn hI hJ hx).mono ?_
    rintro e w' ⟨⟨t, rfl, ht⟩, rfl⟩
    clear ht hs hss
    cases t
    · go_wp2
      go_ret
      exact ⟨rfl, Below.refl _ _⟩
    · go_wp2
      all_goals (go_ret; exact ⟨rfl, Below.refl _ _⟩)

set_option maxHeartbeats 4000000 in
set_option maxRecDepth 1000000 in
theorem swaps_ne (a : Option Addr) (n c : Nat) (ss : Nat → ByteArray) (aI : Option Addr) (mI cI : Nat) (fI : Nat → Int) (aJ : Option Addr) (mJ cJ : Nat) (fJ : Nat → Int) (x : ByteArray) (w : World) (hs : StrsAt w a n ss) (hss : ∀ i, (ss i).size ≤ 9223372036854775807)
    (hI : IntsAt w aI mI fI) (hJ : IntsAt w aJ mJ fJ) (h1 : n ≤ 4096) (h2 : mI ≤ 65536) (h3 : mJ ≤ 65536) (h4 : x.size ≤ 1048576) (h5 : 8 * mI + 8 * mJ + x.size ≤ 1048576) (hm : mI ≠ mJ) :
    Calls Try.prog 6 #[.slice a n c, .slice aI mI cI, .slice aJ mJ cJ, .string x] w fun e w' => e = .returned (.bool true) ∧ Below w.heap.size w w' := by
  have HS : Hid (StrsAt w a n ss) := hs
  have HI : Hid (IntsAt w aI mI fI) := hI
  have HJ : Hid (IntsAt w aJ mJ fJ) := hJ
  have h5' : 8 * (mI : Int) + 8 * (mJ : Int) + (x.size : Int) ≤ 1048576 := by omega
  clear hI hJ
  go_enter Try.func6, Try.ntmps6
  go_wp2_with fail
  refine (bytes22_any a n c ss aI mI cI aJ mJ cJ x _ hs hss (by omega) (by omega) (by omega) (by omega)).mono ?_
  rintro e w' ⟨⟨t, rfl, ht⟩, rfl⟩
  clear hs hss
  cases t
  · clear ht
    go_wp2
    go_ret
    exact ⟨rfl, Below.refl _ _⟩
  have HT : Hid (∀ i, i < n → (ss i).size ≤ 1048576) := ht rfl
  clear ht
  go_wp2_with fail
  go_loop [9, 10] (fun z i => ∃ (k : Nat) (t : Int), k ≤ n ∧ i = .int .i64 k ∧ z = .int .i64 t ∧ 0 ≤ t ∧ t ≤ 1048576) (fun _ i => n - (intOf i).toNat)
  case atStart => exact ⟨0, 8 * (mI : Int) + 8 * (mJ : Int) + (x.size : Int), Nat.zero_le _, rfl, rfl, by omega, by omega⟩
  case round =>
    obtain ⟨k, t, hk, rfl, rfl, ht0, ht1⟩ := hrel
    by_cases hlt : k < n
    · obtain ⟨b, off, rfl, hc⟩ := HS.out (by omega)
      have hcell := hc k hlt
      have hsz := HT.out k hlt
      clear hc
      generalize ss k = y at hcell hsz
      by_cases hb2 : t + (16 + y.size) ≤ 1048576
      · go_wp2_with fail
        go_round
        case rel => exact ⟨k + 1, t + (16 + y.size), by omega, by go_num, rfl, by omega, by omega⟩
        case measure => simp [intOf]; omega
      · go_wp2_with fail
        go_ret
        exact ⟨rfl, Below.refl _ _⟩
    · clear hk ht0 ht1
      have hmq : ((mI : Int) != (mJ : Int)) = true := by rw [bne_iff_ne]; omega
      go_wp2_with fail
      go_ret
      exact ⟨rfl, Below.refl _ _⟩
end Go.Proofs.Qxb6614383a
