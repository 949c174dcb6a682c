import Derived.Test.Qxb6614383aKinds
namespace Go.Proofs.Qxb6614383a
open Go.RowKit
set_option linter.unusedVariables false

/-- the elements' cells of a slice of strings, where there are elements -/
def StrsAt (w : World) (a : Option Addr) (n : Nat) (ss : Nat → ByteArray) : Prop :=
  0 < n → ∃ b off, a = some ⟨b, off, none⟩ ∧ ∀ i, i < n → w.cell? ⟨b, off + i, none⟩ = some (.string (ss i))

/-- what the bound's answer tells -/
def Short (ss : Nat → ByteArray) (n : Nat) (w : World) (e : Ending) (w' : World) : Prop := (∃ t, e = .returned (.bool t) ∧ (t = true → ∀ i, i < n → (ss i).size ≤ 1048576)) ∧ w = w'
theorem Short.no {ss : Nat → ByteArray} {n : Nat} {w : World} : Short ss n w (.returned (.bool false)) w := ⟨⟨false, rfl, fun h => by cases h⟩, rfl⟩

set_option maxHeartbeats 400000 in
/-- the bound on all lengths: where it says yes each string is short -/
theorem bytes12_any (a : Option Addr) (n c : Nat) (ss : Nat → ByteArray) (w : World) (hs : StrsAt w a n ss) (hss : ∀ i, (ss i).size ≤ 9223372036854775807) (hn : n ≤ 9223372036854775807) :
    Calls Try.prog 12 #[.slice a n c] w (Short ss n w) := by
  by_cases hbig : n ≤ 1048576
  · go_enter Try.func12, Try.ntmps12
    go_wp2
    go_loop [3, 4] (fun z i => ∃ (k : Nat) (t : Int), k ≤ n ∧ i = .int .i64 k ∧ z = .int .i64 t ∧ 0 ≤ t ∧ t ≤ 1048576 ∧ Hid (∀ j, j < k → (ss j).size ≤ 1048576)) (fun _ i => n - (intOf i).toNat)
    case atStart => exact ⟨0, n, Nat.zero_le _, rfl, rfl, by omega, by omega, fun j hj => by omega⟩
    case round =>
      obtain ⟨k, t, hk, rfl, rfl, ht0, ht1, HJ⟩ := hrel
      by_cases hlt : k < n
      · obtain ⟨b, off, ex, hc⟩ := hs (by omega)
        subst ex
        have hcell := hc k hlt
        have hsz := hss k
        have HS : Hid (∀ i, (ss i).size ≤ 9223372036854775807) := hss
        clear hc hs hss
        by_cases hb1 : (ss k).size ≤ 1048576
        · by_cases hb2 : t + (ss k).size ≤ 1048576
          · have HN : Hid (∀ j, j < k + 1 → (ss j).size ≤ 1048576) := fun j hj => by
              by_cases e : j = k
              · subst e; exact hb1
              · exact HJ.out j (by omega)
            generalize hx : ss k = x at *
            have HX : Hid (ss k = x) := hx
            clear hx
            go_wp2
            go_round
            case rel => exact ⟨k + 1, t + x.size, by omega, by go_num, rfl, by omega, by omega, HN⟩
            case measure => simp [intOf]; omega
          · generalize hx : ss k = x at *
            have HX : Hid (ss k = x) := hx
            clear hx
            go_wp2
            go_ret
            exact Short.no
        · generalize hx : ss k = x at *
          have HX : Hid (ss k = x) := hx
          clear hx
          go_wp2
          go_ret
          exact Short.no
      · have HN : Hid (∀ j, j < n → (ss j).size ≤ 1048576) := fun j hj => HJ.out j (by omega)
        clear hs hss
        go_wp2
        go_ret
        exact ⟨⟨true, rfl, fun _ => HN.out⟩, rfl⟩
  · clear hs hss
    go_enter Try.func12, Try.ntmps12
    go_wp2
    go_ret
    exact Short.no
end Go.Proofs.Qxb6614383a
