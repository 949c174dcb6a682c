import Derived.Test.Qxb6614354aWalk
namespace Go.Proofs.Qxb6614354a
open Go.RowKit
set_option linter.unusedVariables false

theorem told_last' (s : ByteArray) (h : 12 + s.size < (told s).size) : ((((told s)[12 + s.size]'h).toNat : Int) != 41) = false := by
  have e : 12 + s.size = s.size + 12 := by omega
  have h2 : (told s)[12 + s.size]'h = 41 := by
    have := told_last s (by omega)
    simpa only [e] using this
  rw [h2]; rfl
theorem told_mid' (s : ByteArray) : (told s).extract 12 (12 + s.size) = s := by rw [Nat.add_comm 12 s.size]; exact told_mid s
theorem told_eq (s t : ByteArray) : (((told s).toList == (told t).toList) == (s.toList == t.toList)) = true := by
  simp only [ByteArray.toList_eq]
  by_cases h : s = t
  · subst h; simp
  · have h1 : (s.data.toList == t.data.toList) = false := by
      rw [beq_eq_false_iff_ne]; intro e; exact h (WideShapes.bytes_inj e)
    have h2 : ((told s).data.toList == (told t).data.toList) = false := by
      rw [beq_eq_false_iff_ne]; intro e; exact h ((told_inj s t).1 (WideShapes.bytes_inj e))
    rw [h1, h2]; rfl

set_option maxHeartbeats 1000000 in
theorem apart_any (a b c : ByteArray) (w : World) (ha : a.size ≤ maxLen) (hb : b.size ≤ maxLen) (hc : c.size ≤ maxLen) :
    Calls Try.prog 4 #[.string a, .string b, .string c] w fun e w' => e = .returned (.bool true) ∧ Fine w w' := by
  cases hf : fitsB a b c
  · have HE : Hid (fitsB a b c = false) := hf
    clear hf
    go_enter Try.func4, Try.ntmps4
    go_wp2_with fail
    refine (bytes_fine a b c _ ha hb hc).mono ?_
    rintro e w1 ⟨rfl, f1⟩
    rw [HE.out]
    go_wp2
    go_ret
    exact ⟨rfl, f1⟩
  · have HE : Hid (fitsB a b c = true) := hf
    have hsum : a.size + b.size + c.size ≤ 1048576 := by simpa [fitsB] using hf
    clear hf
    by_cases h1 : a.size ≤ 262144 ∧ b.size ≤ 262144 ∧ c.size ≤ 262144
    · obtain ⟨h1, h2, h3⟩ := h1
      cases hra : reachB a
      · have HA : Hid (reachB a = false) := hra
        clear hra
        go_enter Try.func4, Try.ntmps4
        go_wp2_with fail
        refine (bytes_fine a b c _ ha hb hc).mono ?_
        rintro e w1 ⟨rfl, f1⟩
        rw [HE.out]
        go_wp2_with fail
        refine (reachable_fine a _ ha).mono ?_
        rintro e w2 ⟨rfl, f2⟩
        rw [HA.out]
        go_wp2_with fail
        go_ret
        exact ⟨rfl, f1.trans f2⟩
      · have HA : Hid (reachB a = true) := hra
        clear hra
        cases hrb : reachB b
        · have HB : Hid (reachB b = false) := hrb
          clear hrb
          go_enter Try.func4, Try.ntmps4
          go_wp2_with fail
          refine (bytes_fine a b c _ ha hb hc).mono ?_
          rintro e w1 ⟨rfl, f1⟩
          rw [HE.out]
          go_wp2_with fail
          refine (reachable_fine a _ ha).mono ?_
          rintro e w2 ⟨rfl, f2⟩
          rw [HA.out]
          go_wp2_with fail
          refine (reachable_fine b _ hb).mono ?_
          rintro e w3 ⟨rfl, f3⟩
          rw [HB.out]
          go_wp2_with fail
          go_ret
          exact ⟨rfl, (f1.trans f2).trans f3⟩
        · have HB : Hid (reachB b = true) := hrb
          clear hrb
          go_enter Try.func4, Try.ntmps4
          go_wp2_with fail
          refine (bytes_fine a b c _ ha hb hc).mono ?_
          rintro e w1 ⟨rfl, f1⟩
          rw [HE.out]
          go_wp2_with fail
          refine (reachable_fine a _ ha).mono ?_
          rintro e w2 ⟨rfl, f2⟩
          rw [HA.out]
          go_wp2_with fail
          refine (reachable_fine b _ hb).mono ?_
          rintro e w3 ⟨rfl, f3⟩
          rw [HB.out]
          go_wp2_with fail
          refine (newClient_any a c _).mono ?_
          rintro e w4 ⟨b4, rfl, c4, f4⟩
          go_wp2_with fail
          refine (newClient_any b c _).mono ?_
          rintro e w5 ⟨b5, rfl, c5, f5⟩
          have c45 := f5.cell c4
          go_wp2_with fail
          refine (string_any b4 a _ c45 h1).mono ?_
          rintro e w6 ⟨rfl, f6⟩
          have c56 := f6.cell c5
          go_wp2_with fail
          refine (string_any b5 b _ c56 h2).mono ?_
          rintro e w7 ⟨rfl, f7⟩
          have hsz := told_size a
          have HP : Hid (preB (told a) opened = true) := told_pre a
          have hlast := told_last' a (by omega)
          have hmid := told_mid' a
          have HQ : Hid ((((told a).toList == (told b).toList) == (a.toList == b.toList)) = true) := told_eq a b
          have heq : (a.toList == a.toList) = true := by simp
          have hszb := told_size b
          have FF : Fine w w7 := (((((f1.trans f2).trans f3).trans f4).trans f5).trans f6).trans f7
          clear c4 c5 c45 c56 f1 f2 f3 f4 f5 f6 f7
          go_wp2_with fail
          refine (hasPrefix_fine (told a) opened _ (by rw [hsz]; unfold maxLen; omega) (by decide)).mono ?_
          rintro e w8 ⟨rfl, f8⟩
          rw [HP.out]
          go_wp2_with fail
          go_ret
          exact ⟨congrArg (fun x => Ending.returned (Value.bool x)) HQ.out, FF.trans f8⟩
    · go_enter Try.func4, Try.ntmps4
      go_wp2_with fail
      refine (bytes_fine a b c _ ha hb hc).mono ?_
      rintro e w1 ⟨rfl, f1⟩
      rw [HE.out]
      go_wp2_with fail
      all_goals (go_ret; exact ⟨rfl, f1⟩)
end Go.Proofs.Qxb6614354a
