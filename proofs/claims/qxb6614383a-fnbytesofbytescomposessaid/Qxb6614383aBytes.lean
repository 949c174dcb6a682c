import Derived.Test.Qxb6614383aRows
import Derived.WalkKit
import Derived.ProofKit
import Derived.WalkSpells
import Derived.WalkLawsBesides
import Derived.Deep.QuietTactic
import Derived.BigQuiet
namespace Go.Proofs.Qxb6614383a
open Go.RowKit
set_option linter.unusedVariables false

theorem Try.info5 : (Try.prog.info? 5).map (fun i => (i.zero, i.size, i.bytes)) = some (some (.int .u8 0), 1, 1) := by kernel_rfl

theorem bytes3_yes (a : Option Addr) (n c : Nat) (x y z : Int) (w : World) (h : n ≤ 1048576) :
    Calls Try.prog 7 #[.slice a n c, .int .i32 x, .int .i32 y, .int .i32 z] w fun e w' => e = .returned (.bool true) ∧ w' = w := by
  go_enter Try.func7, Try.ntmps7
  go_wp2
  go_ret
  exact ⟨rfl, rfl⟩
theorem bytes3_no (a : Option Addr) (n c : Nat) (x y z : Int) (w : World) (h : ¬ n ≤ 1048576) :
    Calls Try.prog 7 #[.slice a n c, .int .i32 x, .int .i32 y, .int .i32 z] w fun e w' => e = .returned (.bool false) ∧ w' = w := by
  go_enter Try.func7, Try.ntmps7
  go_wp2
  go_ret
  exact ⟨rfl, rfl⟩

theorem clone_nil (w : World) :
    Calls Try.prog 8 #[.slice none 0 0] w fun e w' => e = .returned (.slice none 0 0) ∧ w' = w := by
  have hs := fun (w : World) => Lib.run_eql_slice_nil (P := Try.prog) w 22 5 none 0 0 0 0 Try.underlying22
  go_enter Try.func8, Try.ntmps8
  go_wp2
  go_ret
  exact ⟨rfl, rfl⟩

theorem own_cell {w : World} {base : Nat} {e : TypeId} {g n cap : Nat} {xs : List Value} (h : w.ownsRow base e 1 (.slice (some ⟨g, 0, none⟩) n cap) n xs) (j : Nat) (hj : j < n) : ∃ u, w.cell? ⟨g, j, none⟩ = some u := by
  have h1 := h.1
  exact ⟨xs[j]'(by omega), (h.cellAt j (by omega)).trans (List.getElem?_eq_getElem _)⟩

theorem set_next {α : Type} (xs : List α) (z : α) (n k : Nat) (hk : k < n) (hn : n ≤ xs.length) (u : α) (hu : xs[k]? = some u) :
    (xs.take k ++ List.replicate (n - k) z).set k u = xs.take (k + 1) ++ List.replicate (n - (k + 1)) z := by
  have hl : (xs.take k).length = k := by simp; omega
  rw [List.set_append_right _ _ (by omega), hl, Nat.sub_self]
  have e : n - k = (n - (k + 1)) + 1 := by omega
  rw [e, List.replicate_succ, List.set_cons_zero, List.take_succ_eq_append_getElem (by omega)]
  obtain ⟨h1, h2⟩ := List.getElem?_eq_some_iff.1 hu
  rw [h2]
  simp

theorem set_step (zs : List Int) (n k : Nat) (hk : k < n) (hn : n ≤ zs.length) :
    (((zs.take k).map (Value.int .u8)) ++ List.replicate (n - k) (Value.int .u8 0)).set k (Value.int .u8 (zs[k]?.getD 0)) = ((zs.take (k + 1)).map (Value.int .u8)) ++ List.replicate (n - (k + 1)) (Value.int .u8 0) := by
  have := set_next (zs.map (Value.int .u8)) (Value.int .u8 0) n k hk (by simpa using hn) (Value.int .u8 (zs[k]?.getD 0)) (by simp [show k < zs.length by omega])
  simpa [List.map_take] using this

/-- what is known of a slice of numbers that came in -/
def IsRow (k : IntKind) (w : World) (a : Option Addr) (len cap : Nat) (zs : List Int) : Prop :=
  (a = none ∧ len = 0 ∧ cap = 0 ∧ zs = []) ∨
  ∃ x, a = some x ∧ len ≤ cap ∧ cap ≤ maxLen ∧ zs.length = cap ∧ (∀ i, i < zs.length → w.cell? (x.add i) = some (.int k (zs.getD i 0))) ∧ ∀ n ∈ zs, (Lit.int k n).wf = true

/-- the elements' cells, where there are elements -/
def At (k : IntKind) (w : World) (a : Option Addr) (len : Nat) (zs : List Int) : Prop :=
  0 < len → ∃ b off, a = some ⟨b, off, none⟩ ∧ ∀ i, i < len → w.cell? ⟨b, off + i, none⟩ = some (.int k (zs[i]?.getD 0))

theorem IsRow.at {k : IntKind} {w : World} {a : Option Addr} {len cap : Nat} {zs : List Int} (h : IsRow k w a len cap zs) : At k w a len zs := by
  intro hp
  rcases h with ⟨rfl, rfl, rfl, rfl⟩ | ⟨x, rfl, hl, hm, hz, hcell, hwz⟩
  · omega
  · obtain ⟨b, off, spot⟩ := x
    have hspot : spot = none := by simpa [Addr.add] using World.cell?_spot (hcell 0 (by omega))
    subst hspot
    exact ⟨b, off, rfl, fun i hi => by simpa [Addr.add_lit] using hcell i (by omega)⟩

theorem IsRow.len {k : IntKind} {w : World} {a : Option Addr} {len cap : Nat} {zs : List Int} (h : IsRow k w a len cap zs) : len ≤ zs.length := by
  rcases h with ⟨rfl, rfl, rfl, rfl⟩ | ⟨x, rfl, hl, hm, hz, hcell, hwz⟩ <;> first | omega | simp

set_option maxHeartbeats 400000 in
theorem clone_some (x : Addr) (n c : Nat) (zs : List Int) (w : World) (hn : n ≤ 1048576) (hz : n ≤ zs.length) (hat : At .u8 w (some x) n zs) :
    Calls Try.prog 8 #[.slice (some x) n c] w fun e w' => e = .returned (.slice (some ⟨w.heap.size, 0, none⟩) n n) ∧
      w'.ownsRow w.heap.size 5 1 (.slice (some ⟨w.heap.size, 0, none⟩) n n) n ((zs.take n).map (Value.int .u8)) ∧ Below w.heap.size w w' := by
  have hs := fun (w : World) => Lib.run_eql_slice_nil (P := Try.prog) w 22 5 (some x) n c 0 0 Try.underlying22
  obtain ⟨i0, hi, hz0, hz1, hz2⟩ := info_parts Try.info5
  go_enter Try.func8, Try.ntmps8
  go_wp2_with (at_make; refine wpList_make_full _ rfl _ _ 22 rfl w.heap.size 5 i0 (.int .u8 0) 1 Try.underlying22 hi hz0 hz1 _ _ _ _ n rfl rfl rfl rfl ?b2 ?b3 (Nat.le_refl _) ?_)
  case b2 => rw [hz2]; omega
  case b3 => unfold maxLen; omega
  intro w0 hown0 hgrow0
  have hown1 : w0.ownsRow w.heap.size 5 1 (.slice (some ⟨w.heap.size, 0, none⟩) n n) n (((zs.take 0).map (Value.int .u8)) ++ List.replicate (n - 0) (.int .u8 0)) := by
    have := hown0
    rw [toList_madeCells_one] at this
    simpa using this
  have hbel0 : Below w.heap.size w w0 := (Below.refl _ _).grown hgrow0 (Nat.le_refl _) (fun k h => by cases h)
  have HO : Hid (w0.ownsRow w.heap.size 5 1 (.slice (some ⟨w.heap.size, 0, none⟩) n n) n (((zs.take 0).map (Value.int .u8)) ++ List.replicate (n - 0) (.int .u8 0))) := hown1
  clear hown0 hown1 hgrow0
  go_wp2
  go_loopw [4] (fun i wr => ∃ k : Nat, k ≤ n ∧ i = .int .i64 k ∧ wr.ownsRow w.heap.size 5 1 (.slice (some ⟨w.heap.size, 0, none⟩) n n) n (((zs.take k).map (Value.int .u8)) ++ List.replicate (n - k) (.int .u8 0)) ∧ Below w.heap.size w wr) (fun i _ => n - (intOf i).toNat)
  case atStart => exact ⟨0, Nat.zero_le _, rfl, HO.out, hbel0⟩
  case round =>
    obtain ⟨k, hk, rfl, hown, hbel⟩ := hrel
    clear hbel0
    by_cases hlt : k < n
    · obtain ⟨b, off, ex, hc⟩ := hat (by omega)
      obtain rfl := Option.some.inj ex
      have hcell : wr.cell? ⟨b, off + k, none⟩ = some (.int .u8 (zs[k]?.getD 0)) := by
        rw [hbel.cell (p := ⟨b, off + k, none⟩) (World.block_lt_of_cell? w _ (hc k hlt))]; exact hc k hlt
      obtain ⟨u, hcy⟩ := own_cell hown k hlt
      have hfr := hown.frozenAt k
      have HS := hown.stored k (.int .u8 (zs[k]?.getD 0))
      rw [set_step zs n k hlt hz] at HS
      have HH : Hid ((wr.setCell ⟨w.heap.size, k, none⟩ (.int .u8 (zs[k]?.getD 0))).ownsRow w.heap.size 5 1 (.slice (some ⟨w.heap.size, 0, none⟩) n n) n (((zs.take (k + 1)).map (Value.int .u8)) ++ List.replicate (n - (k + 1)) (.int .u8 0))) := HS.1
      clear HS hown ex hc hat
      go_wp2
      go_roundw
      case rel => exact ⟨k + 1, by omega, by go_num, HH.out, hbel.setCell (Nat.le_refl _) _⟩
      case measure => simp [intOf]; omega
    · have e : k = n := by omega
      subst e
      have HH : Hid (wr.ownsRow w.heap.size 5 1 (.slice (some ⟨w.heap.size, 0, none⟩) k k) k ((zs.take k).map (Value.int .u8))) := by unfold Hid; simpa using hown
      clear hown
      go_wp2
      go_ret
      exact ⟨rfl, HH.out, hbel⟩

theorem clone_any (a : Option Addr) (n c : Nat) (zs : List Int) (w : World) (h : IsRow .u8 w a n c zs) (hn : n ≤ 1048576) :
    Calls Try.prog 8 #[.slice a n c] w fun e w' => ∃ ga, e = .returned (.slice ga n n) ∧ Below w.heap.size w w' ∧
      (0 < n → ∃ g, ga = some ⟨g, 0, none⟩ ∧ ∀ i, i < n → w'.cell? ⟨g, i, none⟩ = some (.int .u8 (zs[i]?.getD 0))) := by
  have hat := h.at
  have hlen := h.len
  rcases h with ⟨rfl, rfl, rfl, rfl⟩ | ⟨x, rfl, -⟩
  · exact (clone_nil w).mono fun e w' ⟨h1, h2⟩ => ⟨none, h1, h2 ▸ Below.refl _ _, fun h => by omega⟩
  · refine (clone_some x n c zs w hn hlen hat).mono fun e w' ⟨h1, h2, h3⟩ => ⟨_, h1, h3, fun _ => ⟨_, rfl, fun i hi => ?_⟩⟩
    rw [h2.cellAt i (by omega)]
    simp [hi, show i < zs.length by omega]
end Go.Proofs.Qxb6614383a
