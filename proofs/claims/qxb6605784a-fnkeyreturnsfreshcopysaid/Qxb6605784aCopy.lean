import Derived.Test.Qxb6605784aDistinct
namespace Go.Proofs.Qxb6605784a
open Go.RowKit
set_option linter.unusedVariables false

theorem Below.setCells {B : Nat} {w : World} {b : Nat} (hb : B ≤ b) : ∀ (vs : List Value) (o : Nat) (w' : World), Below B w w' → Below B w (w'.setCells b o vs)
  | [], _, _, h => h
  | v :: r, o, w', h => by
    rw [World.setCells]
    exact Below.setCells hb r (o + 1) _ (h.setCell hb v)

theorem Try.info28 : (Try.prog.info? 28).map (fun i => (i.zero, i.size, i.bytes)) = some (some (.agg (Array.replicate 32 (.int .u8 0))), 32, 32) := by kernel_rfl

/-- the copy as far as k keys -/
structure Copied (w : World) (g n : Nat) (f : Nat → Nat → Int) (k : Nat) (wr : World) : Prop where
  room : ∀ i, i < n → wr.there g (i * 32) 32
  done : ∀ i, i < k → wr.rangeAt g (i * 32) (keyRow (f i))
  below : Below w.heap.size w wr

theorem there_of_block {w : World} {g o n : Nat} {cs : Array Value} {t : TypeId} (h : w.heap[g]? = some (.cells cs t (0, 0))) (hs : o + n ≤ cs.size) : w.there g o n := fun j hj => by
  rw [cell_of_row w g (o + j) _ _ _ h]
  exact ⟨by simp; omega, frozen_of_row w g (o + j) _ _ h⟩

theorem Copied.start {w w' : World} {g n : Nat} {f : Nat → Nat → Int} {v : Value} {xs : List Value} (h : w'.ownsRow w.heap.size 28 32 (.slice (some ⟨g, 0, none⟩) n n) n xs) (hg : w.grownBy w' none) : Copied w g n f 0 w' := by
  rcases h.2 with ⟨h', _⟩ | ⟨g', cap, cur, h', hb, hgg, h1, h2, h3, h4⟩
  · simp at h'
  · simp at h'
    obtain ⟨rfl, rfl⟩ := h'
    exact ⟨fun i hi => there_of_block hgg (by omega), fun i hi => by omega, (Below.refl _ _).grown hg (Nat.le_refl _) (fun k h => by cases h)⟩

theorem Copied.next {w wr : World} {g n k : Nat} {f : Nat → Nat → Int} (h : Copied w g n f k wr) (hk : k < n) (hg : w.heap.size ≤ g) : Copied w g n f (k + 1) (wr.setCells g (k * 32) (keyRow (f k))) := by
  refine ⟨fun i hi => World.there_setCells (h.room i hi) _ _ _, fun i hi => ?_, Below.setCells hg _ _ _ h.below⟩
  by_cases e : i = k
  · subst e
    exact World.rangeAt_setCells_same _ _ _ _ (by rw [keyRow_length]; exact h.room i hk)
  · exact World.rangeAt_setCells_apart (h.done i (by omega)) _ _ _ (.inr (.inl (by rw [keyRow_length]; omega)))

theorem Copied.keys {w wr : World} {g n : Nat} {f : Nat → Nat → Int} (h : Copied w g n f n wr) : Keys wr (some ⟨g, 0, none⟩) n f := fun hn => by
  refine ⟨g, 0, rfl, fun i hi j hj => ?_⟩
  have := h.done i hi j (.int .u8 (f i j)) (by unfold keyRow; exact fRow_get _ hj)
  rwa [Nat.zero_add]

theorem keyRow_cells (g : Nat → Int) : (keyRow g).toArray.all (·.oneCell') = true := all_oneCell_toArray (fun v hv => by
  unfold keyRow fRow at hv
  simp at hv
  obtain ⟨j, _, rfl⟩ := hv
  rfl)

set_option maxHeartbeats 2000000 in
set_option maxRecDepth 100000 in
theorem copy_any (b off n c : Nat) (f : Nat → Nat → Int) (w : World) (hn : n ≤ 4096) (h0 : 0 < n) (hk : ∀ i, i < n → ∀ j, j < 32 → w.cell? ⟨b, off + i * 32 + j, none⟩ = some (.int .u8 (f i j))) :
    Calls Try.prog 21 #[.slice (some ⟨b, off, none⟩) n c] w fun e w' => e = .returned (.slice (some ⟨w.heap.size, 0, none⟩) n n) ∧ Keys w' (some ⟨w.heap.size, 0, none⟩) n f ∧ Below w.heap.size w w' := by
  have hs := fun (w : World) => Lib.run_eql_slice_nil (P := Try.prog) w 51 28 (some ⟨b, off, none⟩) n c 0 0 Try.underlying51
  obtain ⟨i0, hi, hz0, hz1, hz2⟩ := info_parts Try.info28
  have HK : Hid _ := hk
  clear hk
  go_enter Try.func21, Try.ntmps21
  go_wp2_with (at_make; refine wpList_make_full _ rfl _ _ 51 rfl w.heap.size 28 i0 _ 32 Try.underlying51 hi hz0 hz1 _ _ _ _ n rfl rfl rfl rfl ?b2 ?b3 (Nat.le_refl _) ?_)
  case b2 => rw [hz2]; omega
  case b3 => unfold maxLen; omega
  intro w0 hown0 hgrow0
  have S0 : Copied w w.heap.size n f 0 w0 := Copied.start (v := undef) hown0 hgrow0
  clear hown0 hgrow0 hz0
  go_wp2_with fail
  go_loopw [4] (fun i wr => ∃ k : Nat, k ≤ n ∧ i = .int .i64 k ∧ Copied w w.heap.size n f k wr) (fun i _ => n - (intOf i).toNat)
  case atStart => exact ⟨0, Nat.zero_le _, rfl, S0⟩
  case round =>
    clear S0
    obtain ⟨k, hk, rfl, S⟩ := hrel
    by_cases hlt : k < n
    · have R : wr.rangeAt b (off + k * 32) (keyRow (f k)) := key_range (fun j hj => (S.below.cell (p := ⟨b, off + k * 32 + j, none⟩) (World.block_lt_of_cell? w _ (HK.out k hlt j hj))).trans (HK.out k hlt j hj))
      have hT := S.room k hlt
      have hL := keyRow_length (f k)
      have hC := keyRow_cells (f k)
      have S1 := S.next hlt (Nat.le_refl _)
      have HR : Hid _ := R
      have HT : Hid _ := hT
      have HL : Hid _ := hL
      have HCC : Hid _ := hC
      have HS1 : Hid _ := S1
      clear R hT hL hC S S1
      generalize keyRow (f k) = cs at *
      have T1 : Hid (wr.there w.heap.size (k * 32) cs.toArray.size) := by show wr.there w.heap.size (k * 32) cs.length; rw [HL.out]; exact HT.out
      have T2 : Hid ((Try.prog.info? 28).map (·.size) = some cs.toArray.size) := by show _ = some cs.length; rw [HL.out]; exact Try.size28
      clear HT
      go_wp2_with (first
        | refine wpList_load_mid rfl 28 (.tmp 20) rfl b (off + k * 32) rfl cs _ (by exact HR.out) Try.underlying28 rfl (by rw [HL.out]; exact Try.size28) ?_
        | refine wpList_store_mid rfl 28 (.tmp 22) (.tmp 21) rfl w.heap.size (k * 32) cs.toArray rfl rfl (by exact T1.out) (by exact T2.out) (by exact HCC.out) ?_)
      go_roundw
      case rel => exact ⟨k + 1, by omega, by go_num, HS1.out⟩
      case measure => simp [intOf]; omega
    · obtain rfl : k = n := by omega
      go_wp2_with fail
      go_ret
      exact ⟨rfl, S.keys, S.below⟩
end Go.Proofs.Qxb6605784a
