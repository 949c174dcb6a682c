import Derived.Test.Qxb6605601aMem
namespace Go.Proofs.Qxb6605601a
open Go.RowKit
set_option linter.unusedVariables false

/-- what the bound's answer tells -/
def Short (ss : Nat → ByteArray) (n : Nat) (w : World) (e : Ending) (w' : World) : Prop := (∃ t, e = .returned (.bool t) ∧ (t = true → ∀ i, i < n → (ss i).size ≤ 1048576)) ∧ w = w'
theorem Short.no {ss : Nat → ByteArray} {n : Nat} {w : World} : Short ss n w (.returned (.bool false)) w := ⟨⟨false, rfl, fun h => by cases h⟩, rfl⟩
theorem Short.yes {ss : Nat → ByteArray} {n : Nat} {w : World} (h : ∀ i, i < n → (ss i).size ≤ 1048576) : Short ss n w (.returned (.bool true)) w := ⟨⟨true, rfl, fun _ => h⟩, rfl⟩

set_option maxHeartbeats 1000000 in
theorem bound7_any (a : Option Addr) (n c : Nat) (ss : Nat → ByteArray) (aR : Option Addr) (mR cR : Nat) (aL : Option Addr) (mL cL : Nat) (w : World) (hs : At w a n (fun i => Value.string (ss i))) (hss : ∀ i, (ss i).size ≤ 9223372036854775807) (hn : n ≤ 9223372036854775807)
    (hR : mR ≤ 9223372036854775807) (hL : mL ≤ 9223372036854775807) :
    Calls Try.prog 7 #[.slice a n c, .slice aR mR cR, .slice aL mL cL] w (Short ss n w) := by
  by_cases hbig : n ≤ 1048576
  · go_enter Try.func7, Try.ntmps7
    go_wp2_with fail
    go_loop [7, 8] (fun z i => ∃ (k : Nat) (t : Int), k ≤ n ∧ i = .int .i64 k ∧ z = .int .i64 t ∧ 0 ≤ t ∧ t ≤ 1048576 ∧ Hid (∀ j, j < k → (ss j).size ≤ 1048576)) (fun _ i => n - (intOf i).toNat)
    case atStart => exact ⟨0, n, Nat.zero_le _, rfl, rfl, by omega, by omega, fun j hj => by omega⟩
    case round =>
      obtain ⟨k, t, hk, rfl, rfl, ht0, ht1, HJ⟩ := hrel
      by_cases hlt : k < n
      · obtain ⟨b, off, ex, hc⟩ := hs (by omega)
        subst ex
        have hcell : w.cell? ⟨b, off + k, none⟩ = some (.string (ss k)) := hc k hlt
        have hsz := hss k
        have HS : Hid (∀ i, (ss i).size ≤ 9223372036854775807) := hss
        clear hc hs hss
        by_cases hb1 : (ss k).size ≤ 1048576
        · by_cases hb2 : t + (ss k).size ≤ 1048576
          · have HN : Hid (∀ j, j < k + 1 → (ss j).size ≤ 1048576) := fun j hj => by
              by_cases e : j = k
              · subst e; exact hb1
              · exact HJ.out j (by omega)
            generalize hx : ss k = x at *
            have HX : Hid (ss k = x) := hx
            clear hx
            go_wp2_with fail
            go_round
            case rel => exact ⟨k + 1, t + x.size, by omega, by go_num, rfl, by omega, by omega, HN⟩
            case measure => simp [intOf]; omega
          · generalize hx : ss k = x at *
            have HX : Hid (ss k = x) := hx
            clear hx
            go_wp2_with fail
            go_ret
            exact Short.no
        · generalize hx : ss k = x at *
          have HX : Hid (ss k = x) := hx
          clear hx
          go_wp2_with fail
          go_ret
          exact Short.no
      · have HN : Hid (∀ j, j < n → (ss j).size ≤ 1048576) := fun j hj => HJ.out j (by omega)
        clear hs hss
        go_wp2_with fail
        all_goals (go_ret; first | exact Short.yes HN.out | exact Short.no)
  · clear hs hss
    go_enter Try.func7, Try.ntmps7
    go_wp2_with fail
    go_ret
    exact Short.no

set_option maxHeartbeats 1000000 in
theorem bound15_any (a : Option Addr) (n c : Nat) (ss : Nat → ByteArray) (aR : Option Addr) (mR cR : Nat) (aA : Option Addr) (mA cA : Nat) (aB : Option Addr) (mB cB : Nat) (aC : Option Addr) (mC cC : Nat) (w : World) (hs : At w a n (fun i => Value.string (ss i))) (hss : ∀ i, (ss i).size ≤ 9223372036854775807) (hn : n ≤ 9223372036854775807)
    (hR : mR ≤ 9223372036854775807) (hA : mA ≤ 9223372036854775807) (hB : mB ≤ 9223372036854775807) (hC : mC ≤ 9223372036854775807) :
    Calls Try.prog 15 #[.slice a n c, .slice aR mR cR, .slice aA mA cA, .slice aB mB cB, .slice aC mC cC] w (Short ss n w) := by
  by_cases hbig : n ≤ 1048576
  · go_enter Try.func15, Try.ntmps15
    go_wp2_with fail
    go_loop [11, 12] (fun z i => ∃ (k : Nat) (t : Int), k ≤ n ∧ i = .int .i64 k ∧ z = .int .i64 t ∧ 0 ≤ t ∧ t ≤ 1048576 ∧ Hid (∀ j, j < k → (ss j).size ≤ 1048576)) (fun _ i => n - (intOf i).toNat)
    case atStart => exact ⟨0, n, Nat.zero_le _, rfl, rfl, by omega, by omega, fun j hj => by omega⟩
    case round =>
      obtain ⟨k, t, hk, rfl, rfl, ht0, ht1, HJ⟩ := hrel
      by_cases hlt : k < n
      · obtain ⟨b, off, ex, hc⟩ := hs (by omega)
        subst ex
        have hcell : w.cell? ⟨b, off + k, none⟩ = some (.string (ss k)) := hc k hlt
        have hsz := hss k
        have HS : Hid (∀ i, (ss i).size ≤ 9223372036854775807) := hss
        clear hc hs hss
        by_cases hb1 : (ss k).size ≤ 1048576
        · by_cases hb2 : t + (ss k).size ≤ 1048576
          · have HN : Hid (∀ j, j < k + 1 → (ss j).size ≤ 1048576) := fun j hj => by
              by_cases e : j = k
              · subst e; exact hb1
              · exact HJ.out j (by omega)
            generalize hx : ss k = x at *
            have HX : Hid (ss k = x) := hx
            clear hx
            go_wp2_with fail
            go_round
            case rel => exact ⟨k + 1, t + x.size, by omega, by go_num, rfl, by omega, by omega, HN⟩
            case measure => simp [intOf]; omega
          · generalize hx : ss k = x at *
            have HX : Hid (ss k = x) := hx
            clear hx
            go_wp2_with fail
            go_ret
            exact Short.no
        · generalize hx : ss k = x at *
          have HX : Hid (ss k = x) := hx
          clear hx
          go_wp2_with fail
          go_ret
          exact Short.no
      · have HN : Hid (∀ j, j < n → (ss j).size ≤ 1048576) := fun j hj => HJ.out j (by omega)
        clear hs hss
        go_wp2_with fail
        all_goals (go_ret; first | exact Short.yes HN.out | exact Short.no)
  · clear hs hss
    go_enter Try.func15, Try.ntmps15
    go_wp2_with fail
    go_ret
    exact Short.no
end Go.Proofs.Qxb6605601a
