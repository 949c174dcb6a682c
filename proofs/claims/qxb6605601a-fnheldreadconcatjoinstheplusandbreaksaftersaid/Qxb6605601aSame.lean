import Derived.Test.Qxb6605601aMem
namespace Go.Proofs.Qxb6605601a
open Go.RowKit
set_option linter.unusedVariables false

set_option maxHeartbeats 400000 in
theorem sameStrs_yes (a a' : Option Addr) (n c c' : Nat) (f : Nat → ByteArray) (w : World) (hn : n ≤ 9223372036854775807) (h1 : At w a n (fun i => Value.string (f i))) (h2 : At w a' n (fun i => Value.string (f i))) :
    Calls Try.prog 13 #[.slice a n c, .slice a' n c'] w fun e w' => e = .returned (.bool true) ∧ ∃ q, w' = w.drewN q := by
  have H1 : Hid (At w a n (fun i => Value.string (f i))) := h1
  have H2 : Hid (At w a' n (fun i => Value.string (f i))) := h2
  have hq : ((n : Int) != (n : Int)) = false := by simp
  clear h1 h2
  go_enter Try.func13, Try.ntmps13
  go_wp2
  clear hq
  go_loopw [5] (fun i wr => ∃ k : Nat, k ≤ n ∧ i = .int .i64 k ∧ ∃ q, wr = w.drewN q) (fun i _ => n - (intOf i).toNat)
  case atStart => exact ⟨0, Nat.zero_le _, rfl, 0, rfl⟩
  case round =>
    obtain ⟨k, hk, rfl, q, hq⟩ := hrel
    have HQ : Hid (wr = w.drewN q) := hq
    clear hq
    by_cases hlt : k < n
    · obtain ⟨b, off, rfl, hc⟩ := H1.out (by omega)
      obtain ⟨b', off', rfl, hc'⟩ := H2.out (by omega)
      have g1 : wr.cell? ⟨b, off + k, none⟩ = some (.string (f k)) := by rw [HQ.out]; exact hc k hlt
      have g2 : wr.cell? ⟨b', off' + k, none⟩ = some (.string (f k)) := by rw [HQ.out]; exact hc' k hlt
      clear hc hc'
      generalize f k = x at g1 g2
      have i1 : (k : Int) < (n : Int) := by omega
      have e1 : (!(x.toList == x.toList)) = false := by simp
      go_wp2_with fail
      go_quiet (fail)
      go_wp2_with fail
      go_roundw
      case rel => exact ⟨k + 1, by omega, by go_num, q + nq, by rw [HQ.out]; simp⟩
      case measure => simp [intOf]; omega
    · go_wp2_with fail
      go_ret
      exact ⟨rfl, q, HQ.out⟩

set_option maxHeartbeats 400000 in
theorem sameBytes_yes (a a' : Option Addr) (n c c' : Nat) (f : Nat → Int) (w : World) (hn : n ≤ 9223372036854775807) (h1 : At w a n (fun i => Value.int .u8 (f i))) (h2 : At w a' n (fun i => Value.int .u8 (f i))) :
    Calls Try.prog 14 #[.slice a n c, .slice a' n c'] w fun e w' => e = .returned (.bool true) ∧ ∃ q, w' = w.drewN q := by
  have H1 : Hid (At w a n (fun i => Value.int .u8 (f i))) := h1
  have H2 : Hid (At w a' n (fun i => Value.int .u8 (f i))) := h2
  have hq : ((n : Int) != (n : Int)) = false := by simp
  clear h1 h2
  go_enter Try.func14, Try.ntmps14
  go_wp2
  clear hq
  go_loopw [5] (fun i wr => ∃ k : Nat, k ≤ n ∧ i = .int .i64 k ∧ ∃ q, wr = w.drewN q) (fun i _ => n - (intOf i).toNat)
  case atStart => exact ⟨0, Nat.zero_le _, rfl, 0, rfl⟩
  case round =>
    obtain ⟨k, hk, rfl, q, hq⟩ := hrel
    have HQ : Hid (wr = w.drewN q) := hq
    clear hq
    by_cases hlt : k < n
    · obtain ⟨b, off, rfl, hc⟩ := H1.out (by omega)
      obtain ⟨b', off', rfl, hc'⟩ := H2.out (by omega)
      have g1 : wr.cell? ⟨b, off + k, none⟩ = some (.int .u8 (f k)) := by rw [HQ.out]; exact hc k hlt
      have g2 : wr.cell? ⟨b', off' + k, none⟩ = some (.int .u8 (f k)) := by rw [HQ.out]; exact hc' k hlt
      clear hc hc'
      generalize f k = x at g1 g2
      have i1 : (k : Int) < (n : Int) := by omega
      have e1 : (x != x) = false := by simp
      go_wp2_with fail
      go_quiet (fail)
      go_wp2_with fail
      go_roundw
      case rel => exact ⟨k + 1, by omega, by go_num, q + nq, by rw [HQ.out]; simp⟩
      case measure => simp [intOf]; omega
    · go_wp2_with fail
      go_ret
      exact ⟨rfl, q, HQ.out⟩
end Go.Proofs.Qxb6605601a
