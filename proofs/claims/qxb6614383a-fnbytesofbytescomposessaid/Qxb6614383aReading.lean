import Derived.Test.Qxb6614383aBytes
namespace Go.Proofs.Qxb6614383a
open Go.RowKit
set_option linter.unusedVariables false

theorem newReading_any (a : Option Addr) (n c : Nat) (w : World) :
    Calls Try.prog 9 #[.slice a n c] w fun e w' => ∃ b, e = .returned (.pointer (some ⟨b, 0, none⟩)) ∧ w'.cell? ⟨b, 0, none⟩ = some (.slice a n c) ∧ Below w.heap.size w w' := by
  go_enter Try.func9, Try.ntmps9
  go_wp2
  go_ret
  exact ⟨w.heap.size, rfl, by simp, (Below.refl _ _).alloc (Nat.le_refl _) _⟩

/-- where a slice that begins at a, cut at l, begins: at the capacity's end it stays -/
def cutA (a : Option Addr) (c l : Nat) : Option Addr := if c = l then a else a.map (·.add l)

theorem bytes_any (rb : Nat) (a : Option Addr) (n c : Nat) (l h : Nat) (w : World) (hr : w.cell? ⟨rb, 0, none⟩ = some (.slice a n c)) (h1 : l ≤ h) (h2 : h ≤ c) :
    Calls Try.prog 24 #[.pointer (some ⟨rb, 0, none⟩), .agg #[.int .i32 l, .int .i32 h]] w fun e w' => e = .returned (.slice (cutA a c l) (h - l) (c - l)) ∧ Below w.heap.size w w' := by
  have hb := World.block_lt_of_cell? w _ hr
  have hr' : ∀ o, (w.alloc o).cell? ⟨rb, 0, none⟩ = some (.slice a n c) := fun o => by rw [World.cell?_alloc_past _ _ _ hb]; exact hr
  by_cases hcl : c = l
  · have HC : Hid (cutA a c l = a) := by unfold cutA Hid; simp [hcl]
    go_enter Try.func24, Try.ntmps24
    go_wp2
    go_quiet (fail)
    go_wp2
    go_ret
    subst hcl
    exact ⟨by rw [HC.out]; simp, below_drewN ((Below.refl _ _).alloc (Nat.le_refl _) _) _⟩
  · have HC : Hid (cutA a c l = a.map (·.add l)) := by unfold cutA Hid; simp [hcl]
    go_enter Try.func24, Try.ntmps24
    go_wp2
    go_quiet (fail)
    go_wp2
    go_ret
    exact ⟨by rw [HC.out]; simp, below_drewN ((Below.refl _ _).alloc (Nat.le_refl _) _) _⟩

theorem readingBytes_any (rb : Nat) (a : Option Addr) (n c : Nat) (l h : Nat) (w : World) (hr : w.cell? ⟨rb, 0, none⟩ = some (.slice a n c)) (h1 : l ≤ h) (h2 : h ≤ c) :
    Calls Try.prog 10 #[.pointer (some ⟨rb, 0, none⟩), .int .i32 l, .int .i32 h] w fun e w' => e = .returned (.slice (cutA a c l) (h - l) (c - l)) ∧ Below w.heap.size w w' := by
  go_enter Try.func10, Try.ntmps10
  go_wp2_with fail
  refine (bytes_any rb a n c l h _ hr h1 h2).mono ?_
  rintro e w' ⟨rfl, hb⟩
  go_wp2
  go_ret
  exact ⟨rfl, hb⟩
end Go.Proofs.Qxb6614383a
