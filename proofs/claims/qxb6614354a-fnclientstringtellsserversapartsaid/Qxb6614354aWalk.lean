import Derived.Test.Qxb6614354aPre
import Derived.OpenShut
import Derived.ShutString
namespace Go.Proofs.Qxb6614354a
open Go.RowKit
set_option linter.unusedVariables false

/-- the world has at most new blocks -/
structure Fine (w w' : World) : Prop where
  grown : Grown w w'
  below : Below w.heap.size w w'

theorem Fine.refl (w : World) : Fine w w := ⟨Grown.refl _, Below.refl _ _⟩
theorem Fine.trans {a b c : World} (h : Fine a b) (k : Fine b c) : Fine a c :=
  ⟨⟨World.keptBut_trans h.grown.1 k.grown.1, fun x => (k.grown.2.1 x).trans (h.grown.2.1 x), Nat.le_trans h.grown.2.2 k.grown.2.2⟩, h.below.trans (k.below.mono h.below.size)⟩
theorem Fine.drewN (w : World) (n : Nat) : Fine w (w.drewN n) := ⟨Grown.refl w, below_drewN (Below.refl _ _) n⟩
theorem Fine.alloc (w : World) (c : Array Value) (t : TypeId) : Fine w (w.alloc (.cells c t)) := ⟨(Grown.refl w).alloc _ _, (Below.refl _ _).alloc (Nat.le_refl _) _⟩
theorem Fine.cell {w w' : World} (h : Fine w w') {a : Addr} {v : Value} (k : w.cell? a = some v) : w'.cell? a = some v :=
  (h.below.cell (World.block_lt_of_cell? w a k)).trans k

theorem hasPrefix_fine (s p : ByteArray) (w : World) (hs : s.size ≤ maxLen) (hp : p.size ≤ maxLen) :
    Calls Try.prog 14 #[.string s, .string p] w fun e w' => e = .returned (.bool (preB s p)) ∧ Fine w w' :=
  (hasPrefix_any s p w hs hp).mono fun e w' ⟨h, n, hw⟩ => ⟨h, hw ▸ Fine.drewN w n⟩
theorem reachable_fine (s : ByteArray) (w : World) (hs : s.size ≤ maxLen) :
    Calls Try.prog 8 #[.string s] w fun e w' => e = .returned (.bool (reachB s)) ∧ Fine w w' :=
  (reachable_any s w hs).mono fun e w' ⟨h, n, hw⟩ => ⟨h, hw ▸ Fine.drewN w n⟩
theorem bytes_fine (a b c : ByteArray) (w : World) (ha : a.size ≤ maxLen) (hb : b.size ≤ maxLen) (hc : c.size ≤ maxLen) :
    Calls Try.prog 13 #[.string a, .string b, .string c] w fun e w' => e = .returned (.bool (fitsB a b c)) ∧ Fine w w' :=
  (bytes_any a b c w ha hb hc).mono fun e w' ⟨h, hw⟩ => ⟨h, hw ▸ Fine.refl w⟩

theorem newClient_any (s t : ByteArray) (w : World) :
    Calls Try.prog 9 #[.string s, .string t] w fun e w' => ∃ b, e = .returned (.pointer (some ⟨b, 0, none⟩)) ∧ w'.cell? ⟨b, 0, none⟩ = some (.string s) ∧ Fine w w' := by
  go_enter Try.func9, Try.ntmps9
  go_wp2
  go_ret
  exact ⟨w.heap.size, rfl, by simp, Fine.alloc _ _ _⟩

/-- what String answers -/
def opened : ByteArray := ⟨#[103, 97, 116, 101, 46, 67, 108, 105, 101, 110, 116, 40]⟩
def told (s : ByteArray) : ByteArray := opened ++ s ++ ⟨#[41]⟩

theorem string_any (b : Nat) (s : ByteArray) (w : World) (h : w.cell? ⟨b, 0, none⟩ = some (.string s)) (hs : s.size ≤ 262144) :
    Calls Try.prog 10 #[.pointer (some ⟨b, 0, none⟩)] w fun e w' => e = .returned (.string (told s)) ∧ Fine w w' := by
  go_enter Try.func10, Try.ntmps10
  go_wp2

  go_ret
  exact ⟨rfl, Fine.refl _⟩

theorem told_size (s : ByteArray) : (told s).size = s.size + 13 := by
  unfold told opened
  simp only [ByteArray.size_append]
  show 12 + s.size + 1 = _
  omega

theorem told_data (s : ByteArray) : (told s).data.toList = opened.data.toList ++ (s.data.toList ++ [41]) := by
  unfold told
  simp [ByteArray.data_append]

theorem told_pre (s : ByteArray) : preB (told s) opened = true := by
  unfold preB
  rw [told_data, List.isPrefixOf_iff_prefix]
  exact List.prefix_append _ _

theorem told_last (s : ByteArray) (h : s.size + 12 < (told s).size) : (told s)[s.size + 12] = 41 := by
  have h1 : (told s)[s.size + 12] = (told s).data.toList[s.size + 12]'(by simpa using h) := rfl
  rw [h1]
  have h2 : (told s).data.toList[s.size + 12]? = some 41 := by
    rw [told_data, List.getElem?_append_right (by show 12 ≤ _; omega)]
    show (s.data.toList ++ [41])[s.size + 12 - 12]? = _
    rw [Nat.add_sub_cancel, List.getElem?_append_right (by simp)]
    simp
  rw [List.getElem?_eq_some_iff] at h2
  exact h2.2

theorem told_mid (s : ByteArray) : (told s).extract 12 (s.size + 12) = s := by
  apply ByteArray.ext
  apply Array.ext'
  rw [ByteArray.data_extract, Array.toList_extract]
  rw [told_data]
  show List.extract _ _ _ = _
  simp only [List.extract]
  rw [List.drop_append_of_le_length (by show 12 ≤ 12; omega)]
  rw [List.drop_of_length_le (by show 12 ≤ 12; omega)]
  simp

theorem told_inj (s t : ByteArray) : told s = told t ↔ s = t := by
  constructor
  · intro h
    have hs := congrArg ByteArray.size h
    rw [told_size, told_size] at hs
    have := told_mid s
    rw [h, show s.size = t.size by omega, told_mid] at this
    exact this.symm
  · intro h; rw [h]
end Go.Proofs.Qxb6614354a
