import Derived.Test.Qxb6614383aOrder
import Derived.BigRegion
namespace Go.Proofs.Qxb6614383a
open Go.RowKit
set_option linter.unusedVariables false

theorem addr_ne {a b : Nat} (x y : Nat) (h : a ≠ b) : (⟨a, x, none⟩ : Addr) ≠ ⟨b, y, none⟩ := fun e => h (by simpa using congrArg Addr.block e)
theorem off_ne {a b : Nat} (g : Nat) (h : a ≠ b) : (⟨g, a, none⟩ : Addr) ≠ ⟨g, b, none⟩ := fun e => h (by simpa using congrArg Addr.off e)

/-- what is read behind the exchange of two elements of a row -/
theorem swap_cells {w : World} {g i j : Nat} {u v : Value} (hij : i ≠ j) (ci : w.cell? ⟨g, i, none⟩ = some u) (cj : w.cell? ⟨g, j, none⟩ = some v) (a b : Value) :
    ((w.setCell ⟨g, i, none⟩ a).setCell ⟨g, j, none⟩ b).cell? ⟨g, i, none⟩ = some a ∧ ((w.setCell ⟨g, i, none⟩ a).setCell ⟨g, j, none⟩ b).cell? ⟨g, j, none⟩ = some b ∧
      (∀ x, x.block ≠ g → ((w.setCell ⟨g, i, none⟩ a).setCell ⟨g, j, none⟩ b).cell? x = w.cell? x) ∧ (∀ x, ((w.setCell ⟨g, i, none⟩ a).setCell ⟨g, j, none⟩ b).frozen? x = w.frozen? x) := by
  refine ⟨?_, ?_, ?_, ?_⟩
  · rw [World.cell?_setCell_other _ _ _ _ (off_ne g hij.symm)]
    exact World.cell?_setCell_same _ _ _ ci
  · exact World.cell?_setCell_same _ _ _ ((World.cell?_setCell_other _ _ _ _ (off_ne g hij)).trans cj)
  · intro x hx
    rw [World.cell?_setCell_other _ _ _ _ (fun e => hx (by rw [← e])), World.cell?_setCell_other _ _ _ _ (fun e => hx (by rw [← e]))]
  · intro x
    rw [World.frozen?_setCell, World.frozen?_setCell]

set_option maxHeartbeats 4000000 in
set_option maxRecDepth 100000 in
theorem swap_ne (hb g n cap i j p q : Nat) (x y : Int) (w : World) (hi : i < n) (hj : j < n) (hij : i ≠ j) (hn : n ≤ 4097) (hgh : g ≠ hb) (hgp : g ≠ p) (hgq : g ≠ q) (hhp : hb ≠ p) (hhq : hb ≠ q) (hpq : p ≠ q)
    (c0 : w.cell? ⟨hb, 0, none⟩ = some (.slice (some ⟨g, 0, none⟩) n cap)) (ci : w.cell? ⟨g, i, none⟩ = some (ptr p)) (cj : w.cell? ⟨g, j, none⟩ = some (ptr q)) (fi : w.frozen? ⟨g, i, none⟩ = false) (fj : w.frozen? ⟨g, j, none⟩ = false)
    (cp : w.cell? ⟨p, 19, none⟩ = some (.int .i64 x)) (cq : w.cell? ⟨q, 19, none⟩ = some (.int .i64 y)) (fp : w.frozen? ⟨p, 19, none⟩ = false) (fq : w.frozen? ⟨q, 19, none⟩ = false) :
    Calls Try.prog 26 #[ptr hb, .int .i64 i, .int .i64 j] w fun e w' => e = .returned (.tuple #[]) ∧
      ∃ m, w' = ((((w.setCell ⟨g, i, none⟩ (ptr q)).setCell ⟨g, j, none⟩ (ptr p)).setCell ⟨q, 19, none⟩ (.int .i64 i)).setCell ⟨p, 19, none⟩ (.int .i64 j)).drewN m := by
  have b1 : (i : Int) < (n : Int) := by omega
  have b2 : (j : Int) < (n : Int) := by omega
  go_enter Try.func26, Try.ntmps26
  go_wp2_with fail
  go_region
  obtain ⟨d1, d2, d3, d4⟩ := swap_cells hij ci cj (ptr q) (ptr p)
  have e0 := (d3 ⟨hb, 0, none⟩ (fun e => hgh e.symm)).trans c0
  have ep := (d3 ⟨p, 19, none⟩ (fun e => hgp e.symm)).trans cp
  have eq := (d3 ⟨q, 19, none⟩ (fun e => hgq e.symm)).trans cq
  have hp := (d4 ⟨p, 19, none⟩).trans fp
  have hq := (d4 ⟨q, 19, none⟩).trans fq
  clear d3 d4 c0 ci cj fi fj cp cq fp fq
  generalize hW : (w.setCell ⟨g, i, none⟩ (ptr q)).setCell ⟨g, j, none⟩ (ptr p) = W1 at *
  have HW : Hid ((w.setCell ⟨g, i, none⟩ (ptr q)).setCell ⟨g, j, none⟩ (ptr p) = W1) := hW
  clear hW
  go_wp2_with fail
  go_region
  go_wp2
  go_end0
  exact ⟨rfl, 2, by rw [HW.out]; rfl⟩

theorem same_cells {w : World} {g i : Nat} {u : Value} (ci : w.cell? ⟨g, i, none⟩ = some u) (a b : Value) :
    ((w.setCell ⟨g, i, none⟩ a).setCell ⟨g, i, none⟩ b).cell? ⟨g, i, none⟩ = some b ∧
      (∀ x, x.block ≠ g → ((w.setCell ⟨g, i, none⟩ a).setCell ⟨g, i, none⟩ b).cell? x = w.cell? x) ∧ (∀ x, ((w.setCell ⟨g, i, none⟩ a).setCell ⟨g, i, none⟩ b).frozen? x = w.frozen? x) := by
  refine ⟨?_, ?_, ?_⟩
  · exact World.cell?_setCell_same _ _ _ (World.cell?_setCell_same _ _ _ ci)
  · intro x hx
    rw [World.cell?_setCell_other _ _ _ _ (fun e => hx (by rw [← e])), World.cell?_setCell_other _ _ _ _ (fun e => hx (by rw [← e]))]
  · intro x
    rw [World.frozen?_setCell, World.frozen?_setCell]

set_option maxHeartbeats 4000000 in
set_option maxRecDepth 100000 in
theorem swap_eq (hb g n cap i p : Nat) (x : Int) (w : World) (hi : i < n) (hn : n ≤ 4097) (hgh : g ≠ hb) (hgp : g ≠ p) (hhp : hb ≠ p)
    (c0 : w.cell? ⟨hb, 0, none⟩ = some (.slice (some ⟨g, 0, none⟩) n cap)) (ci : w.cell? ⟨g, i, none⟩ = some (ptr p)) (fi : w.frozen? ⟨g, i, none⟩ = false)
    (cp : w.cell? ⟨p, 19, none⟩ = some (.int .i64 x)) (fp : w.frozen? ⟨p, 19, none⟩ = false) :
    Calls Try.prog 26 #[ptr hb, .int .i64 i, .int .i64 i] w fun e w' => e = .returned (.tuple #[]) ∧
      ∃ m, w' = ((((w.setCell ⟨g, i, none⟩ (ptr p)).setCell ⟨g, i, none⟩ (ptr p)).setCell ⟨p, 19, none⟩ (.int .i64 i)).setCell ⟨p, 19, none⟩ (.int .i64 i)).drewN m := by
  have b1 : (i : Int) < (n : Int) := by omega
  go_enter Try.func26, Try.ntmps26
  go_wp2_with fail
  go_region
  obtain ⟨d1, d3, d4⟩ := same_cells ci (ptr p) (ptr p)
  have e0 := (d3 ⟨hb, 0, none⟩ (fun e => hgh e.symm)).trans c0
  have ep := (d3 ⟨p, 19, none⟩ (fun e => hgp e.symm)).trans cp
  have hp := (d4 ⟨p, 19, none⟩).trans fp
  clear d3 d4 c0 ci fi cp fp
  generalize hW : (w.setCell ⟨g, i, none⟩ (ptr p)).setCell ⟨g, i, none⟩ (ptr p) = W1 at *
  have HW : Hid ((w.setCell ⟨g, i, none⟩ (ptr p)).setCell ⟨g, i, none⟩ (ptr p) = W1) := hW
  clear hW
  go_wp2_with fail
  go_region
  go_wp2
  go_end0
  exact ⟨rfl, 2, by rw [HW.out]; rfl⟩
end Go.Proofs.Qxb6614383a
