import Derived.Test.Qxb6614354aRows
import Derived.WalkKit
import Derived.ProofKit
import Derived.WalkSpells
import Derived.WalkLawsBesides
import Derived.Deep.QuietTactic
import Derived.BigQuiet
namespace Go.Proofs.Qxb6614354a
open Go.RowKit
set_option linter.unusedVariables false

/-- s opens with p -/
def preB (s p : ByteArray) : Bool := p.data.toList.isPrefixOf s.data.toList

theorem preB_false_size {s p : ByteArray} (h : s.size < p.size) : preB s p = false := by
  unfold preB
  rw [Bool.eq_false_iff]
  intro hc
  have := (List.isPrefixOf_iff_prefix.1 hc).length_le
  simp only [Array.length_toList, ByteArray.size_data] at this
  omega

theorem preB_true {s p : ByteArray} (hp : p.size ≤ s.size) (h : ∀ j (hj : j < p.size), s[j]'(by omega) = p[j]) : preB s p = true := by
  unfold preB
  rw [List.isPrefixOf_iff_prefix, List.prefix_iff_eq_take]
  apply List.ext_getElem
  · simp; omega
  · intro i h1 h2
    have hi : i < p.size := by simpa using h1
    have := h i hi
    rw [List.getElem_take]
    exact this.symm

theorem preB_false_at {s p : ByteArray} (k : Nat) (hs : k < s.size) (hk : k < p.size) (h : s[k] ≠ p[k]) : preB s p = false := by
  unfold preB
  rw [Bool.eq_false_iff]
  intro hc
  have hpre := List.isPrefixOf_iff_prefix.1 hc
  apply h
  have h1 : k < p.data.toList.length := by simpa using hk
  have := hpre.getElem h1
  exact this.symm

set_option maxHeartbeats 400000 in
theorem hasPrefix_any (s p : ByteArray) (w : World) (hs : s.size ≤ maxLen) (hp : p.size ≤ maxLen) :
    Calls Try.prog 14 #[.string s, .string p] w fun e w' => e = .returned (.bool (preB s p)) ∧ ∃ n, w' = w.drewN n := by
  unfold maxLen at hs hp
  by_cases hlen : s.size < p.size
  · have HF := preB_false_size hlen
    have H : Hid (preB s p = false) := HF
    clear HF
    go_enter Try.func14, Try.ntmps14
    go_wp2
    go_ret
    exact ⟨by rw [H.out]; rfl, 0, rfl⟩
  · go_enter Try.func14, Try.ntmps14
    go_wp2
    go_loopw [5] (fun i wr => ∃ k : Nat, k ≤ p.size ∧ i = .int .i64 k ∧ (∃ n, wr = w.drewN n) ∧ Hid (∀ j (hj : j < p.size), j < k → s[j]'(by omega) = p[j])) (fun i _ => p.size - (intOf i).toNat)
    case atStart => exact ⟨0, Nat.zero_le _, rfl, ⟨0, rfl⟩, fun j hj h => by omega⟩
    case round =>
      obtain ⟨k, hk, rfl, ⟨n, rfl⟩, HJ⟩ := hrel
      by_cases hlt : k < p.size
      · have hlt2 : k < s.size := by omega
        by_cases hne : s[k] = p[k]
        · have hb : ((s[k].toNat : Int) != (p[k].toNat : Int)) = false := by simp [hne]
          have HE : Hid (s[k] = p[k]) := hne
          clear hne
          go_wp2
          go_quiet (fail)
          go_wp2
          go_roundw
          case rel => exact ⟨k + 1, by omega, by go_num, ⟨_, rfl⟩, fun j hj h => by
            by_cases e : j = k
            · subst e; exact HE.out
            · exact HJ.out j hj (by omega)⟩
          case measure => simp [intOf]; omega
        · have hb : ((s[k].toNat : Int) != (p[k].toNat : Int)) = true := by
            rw [bne_iff_ne]; intro h; exact hne (UInt8.toNat_inj.1 (by omega))
          have HE : Hid (preB s p = false) := preB_false_at k hlt2 hlt hne
          clear hne
          go_wp2
          go_quiet (fail)
          go_wp2
          go_ret
          exact ⟨by rw [HE.out]; rfl, n + nq, by simp⟩
      · have HE : Hid (preB s p = true) := preB_true (by omega) (fun j hj => HJ.out j hj (by omega))
        go_wp2
        go_ret
        exact ⟨by rw [HE.out]; rfl, _, rfl⟩

/-- the base can be reached: more than the scheme, and opens with it -/
def scheme : ByteArray := ⟨#[104, 116, 116, 112, 115, 58, 47, 47]⟩
def reachB (s : ByteArray) : Bool := decide (8 < s.size) && preB s scheme

set_option maxHeartbeats 400000 in
theorem reachable_any (s : ByteArray) (w : World) (hs : s.size ≤ maxLen) :
    Calls Try.prog 8 #[.string s] w fun e w' => e = .returned (.bool (reachB s)) ∧ ∃ n, w' = w.drewN n := by
  by_cases h8 : 8 < s.size
  · have hb : (8 : Int) < (s.size : Int) := by omega
    have HE : Hid (reachB s = preB s scheme) := by unfold reachB; rw [decide_eq_true h8]; rfl
    go_enter Try.func8, Try.ntmps8
    go_wp2_with fail
    refine (hasPrefix_any s scheme _ hs (by decide)).mono ?_
    rintro e w' ⟨rfl, n, rfl⟩
    go_wp2
    go_ret
    exact ⟨by rw [HE.out]; rfl, n, rfl⟩
  · have hb : decide ((8 : Int) < (s.size : Int)) = false := decide_eq_false (by omega)
    have HE : Hid (reachB s = false) := by unfold reachB; rw [decide_eq_false h8]; rfl
    go_enter Try.func8, Try.ntmps8
    go_wp2
    go_ret
    exact ⟨by rw [HE.out]; rfl, 0, rfl⟩

/-- the lengths sum to at most 2^20 -/
def fitsB (a b c : ByteArray) : Bool := decide (a.size + b.size + c.size ≤ 1048576)

set_option maxHeartbeats 400000 in
theorem bytes_any (a b c : ByteArray) (w : World) (ha : a.size ≤ maxLen) (hb : b.size ≤ maxLen) (hc : c.size ≤ maxLen) :
    Calls Try.prog 13 #[.string a, .string b, .string c] w fun e w' => e = .returned (.bool (fitsB a b c)) ∧ w' = w := by
  unfold maxLen at ha hb hc
  by_cases h : a.size + b.size + c.size ≤ 1048576
  · have HE : Hid (fitsB a b c = true) := by unfold fitsB Hid; simpa using h
    go_enter Try.func13, Try.ntmps13
    go_wp2
    go_ret
    exact ⟨by rw [HE.out]; rfl, rfl⟩
  · have HE : Hid (fitsB a b c = false) := by unfold fitsB Hid; simpa using h
    by_cases h1 : a.size ≤ 1048576
    · by_cases h2 : b.size ≤ 1048576
      · by_cases h3 : a.size + b.size ≤ 1048576
        · by_cases h4 : c.size ≤ 1048576
          all_goals
            go_enter Try.func13, Try.ntmps13
            go_wp2
            go_ret
            exact ⟨by rw [HE.out]; rfl, rfl⟩
        · go_enter Try.func13, Try.ntmps13
          go_wp2
          go_ret
          exact ⟨by rw [HE.out]; rfl, rfl⟩
      · go_enter Try.func13, Try.ntmps13
        go_wp2
        go_ret
        exact ⟨by rw [HE.out]; rfl, rfl⟩
    · go_enter Try.func13, Try.ntmps13
      go_wp2
      go_ret
      exact ⟨by rw [HE.out]; rfl, rfl⟩
end Go.Proofs.Qxb6614354a
