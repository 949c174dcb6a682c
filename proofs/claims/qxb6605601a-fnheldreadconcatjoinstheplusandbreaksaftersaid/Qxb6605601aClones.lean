import Derived.Test.Qxb6605601aMem
namespace Go.Proofs.Qxb6605601a
open Go.RowKit
set_option linter.unusedVariables false

theorem Try.info9 : (Try.prog.info? 9).map (fun i => (i.zero, i.size, i.bytes)) = some (some (.string ⟨#[]⟩), 1, 16) := by kernel_rfl

theorem cloneStrs_nil (n c : Nat) (w : World) :
    Calls Try.prog 8 #[.slice none n c] w fun e w' => e = .returned (.slice none 0 0) ∧ w' = w := by
  have hs := fun (w : World) => Lib.run_eql_slice_nil (P := Try.prog) w 22 9 none n c 0 0 Try.underlying22
  go_enter Try.func8, Try.ntmps8
  go_wp2
  go_ret
  exact ⟨rfl, rfl⟩

set_option maxHeartbeats 400000 in
theorem cloneStrs_some (x : Addr) (n c : Nat) (f : Nat → ByteArray) (w : World) (hn : n ≤ 1048576) (hat : At w (some x) n (fun i => Value.string (f i))) :
    Calls Try.prog 8 #[.slice (some x) n c] w fun e w' => e = .returned (.slice (some ⟨w.heap.size, 0, none⟩) n n) ∧
      w'.ownsRow w.heap.size 9 1 (.slice (some ⟨w.heap.size, 0, none⟩) n n) n (fRow n (fun i => Value.string (f i))) ∧ Below w.heap.size w w' := by
  have hs := fun (w : World) => Lib.run_eql_slice_nil (P := Try.prog) w 22 9 (some x) n c 0 0 Try.underlying22
  obtain ⟨i0, hi, hz0, hz1, hz2⟩ := info_parts Try.info9
  go_enter Try.func8, Try.ntmps8
  go_wp2_with (at_make; refine wpList_make_full _ rfl _ _ 22 rfl w.heap.size 9 i0 (.string ⟨#[]⟩) 1 Try.underlying22 hi hz0 hz1 _ _ _ _ n rfl rfl rfl rfl ?b2 ?b3 (Nat.le_refl _) ?_)
  case b2 => rw [hz2]; omega
  case b3 => unfold maxLen; omega
  intro w0 hown0 hgrow0
  have hown1 : w0.ownsRow w.heap.size 9 1 (.slice (some ⟨w.heap.size, 0, none⟩) n n) n (fRow 0 (fun i => Value.string (f i)) ++ List.replicate (n - 0) (.string ⟨#[]⟩)) := by
    have := hown0
    rw [toList_madeCells_one] at this
    simpa [fRow] using this
  have hbel0 : Below w.heap.size w w0 := (Below.refl _ _).grown hgrow0 (Nat.le_refl _) (fun k h => by cases h)
  have HO : Hid (w0.ownsRow w.heap.size 9 1 (.slice (some ⟨w.heap.size, 0, none⟩) n n) n (fRow 0 (fun i => Value.string (f i)) ++ List.replicate (n - 0) (.string ⟨#[]⟩))) := hown1
  clear hown0 hown1 hgrow0
  go_wp2
  go_loopw [4] (fun i wr => ∃ k : Nat, k ≤ n ∧ i = .int .i64 k ∧ wr.ownsRow w.heap.size 9 1 (.slice (some ⟨w.heap.size, 0, none⟩) n n) n (fRow k (fun i => Value.string (f i)) ++ List.replicate (n - k) (.string ⟨#[]⟩)) ∧ Below w.heap.size w wr) (fun i _ => n - (intOf i).toNat)
  case atStart => exact ⟨0, Nat.zero_le _, rfl, HO.out, hbel0⟩
  case round =>
    obtain ⟨k, hk, rfl, hown, hbel⟩ := hrel
    clear hbel0
    by_cases hlt : k < n
    · obtain ⟨b, off, ex, hc⟩ := hat (by omega)
      obtain rfl := Option.some.inj ex
      have hcell : wr.cell? ⟨b, off + k, none⟩ = some (.string (f k)) := by
        rw [hbel.cell (p := ⟨b, off + k, none⟩) (World.block_lt_of_cell? w _ (hc k hlt))]; exact hc k hlt
      obtain ⟨u, hcy⟩ := own_cell hown k hlt
      have hfr := hown.frozenAt k
      have HS := hown.stored k (.string (f k))
      rw [fRow_set_next (fun i => Value.string (f i)) (.string ⟨#[]⟩) n k hlt] at HS
      have HH : Hid ((wr.setCell ⟨w.heap.size, k, none⟩ (.string (f k))).ownsRow w.heap.size 9 1 (.slice (some ⟨w.heap.size, 0, none⟩) n n) n (fRow (k + 1) (fun i => Value.string (f i)) ++ List.replicate (n - (k + 1)) (.string ⟨#[]⟩))) := HS.1
      clear HS hown ex hc hat
      go_wp2
      go_roundw
      case rel => exact ⟨k + 1, by omega, by go_num, HH.out, hbel.setCell (Nat.le_refl _) _⟩
      case measure => simp [intOf]; omega
    · have e : k = n := by omega
      subst e
      have HH : Hid (wr.ownsRow w.heap.size 9 1 (.slice (some ⟨w.heap.size, 0, none⟩) k k) k (fRow k (fun i => Value.string (f i)))) := by unfold Hid; simpa using hown
      clear hown
      go_wp2
      go_ret
      exact ⟨rfl, HH.out, hbel⟩

theorem cloneStrs_any (a : Option Addr) (n c : Nat) (f : Nat → ByteArray) (w : World) (hn : n ≤ 1048576) (hat : At w a n (fun i => Value.string (f i))) :
    Calls Try.prog 8 #[.slice a n c] w fun e w' => ∃ v, e = .returned v ∧ w'.ownsRow w.heap.size 9 1 v n (fRow n (fun i => Value.string (f i))) ∧ Below w.heap.size w w' := by
  cases a with
  | none =>
    obtain rfl : n = 0 := by
      rcases Nat.eq_zero_or_pos n with h | h
      · exact h
      · obtain ⟨b, off, e, -⟩ := hat h
        cases e
    exact (cloneStrs_nil 0 c w).mono fun e w' ⟨h1, h2⟩ => ⟨_, h1, World.ownsRow_nil _ _ _ _, h2 ▸ Below.refl _ _⟩
  | some x => exact (cloneStrs_some x n c f w hn hat).mono fun e w' ⟨h1, h2, h3⟩ => ⟨_, h1, h2, h3⟩

theorem Try.info5 : (Try.prog.info? 5).map (fun i => (i.zero, i.size, i.bytes)) = some (some (.int .u8 0), 1, 1) := by kernel_rfl

theorem cloneBytes_nil (n c : Nat) (w : World) :
    Calls Try.prog 9 #[.slice none n c] w fun e w' => e = .returned (.slice none 0 0) ∧ w' = w := by
  have hs := fun (w : World) => Lib.run_eql_slice_nil (P := Try.prog) w 23 5 none n c 0 0 Try.underlying23
  go_enter Try.func9, Try.ntmps9
  go_wp2
  go_ret
  exact ⟨rfl, rfl⟩

set_option maxHeartbeats 400000 in
theorem cloneBytes_some (x : Addr) (n c : Nat) (f : Nat → Int) (w : World) (hn : n ≤ 1048576) (hat : At w (some x) n (fun i => Value.int .u8 (f i))) :
    Calls Try.prog 9 #[.slice (some x) n c] w fun e w' => e = .returned (.slice (some ⟨w.heap.size, 0, none⟩) n n) ∧
      w'.ownsRow w.heap.size 5 1 (.slice (some ⟨w.heap.size, 0, none⟩) n n) n (fRow n (fun i => Value.int .u8 (f i))) ∧ Below w.heap.size w w' := by
  have hs := fun (w : World) => Lib.run_eql_slice_nil (P := Try.prog) w 23 5 (some x) n c 0 0 Try.underlying23
  obtain ⟨i0, hi, hz0, hz1, hz2⟩ := info_parts Try.info5
  go_enter Try.func9, Try.ntmps9
  go_wp2_with (at_make; refine wpList_make_full _ rfl _ _ 23 rfl w.heap.size 5 i0 (.int .u8 0) 1 Try.underlying23 hi hz0 hz1 _ _ _ _ n rfl rfl rfl rfl ?b2 ?b3 (Nat.le_refl _) ?_)
  case b2 => rw [hz2]; omega
  case b3 => unfold maxLen; omega
  intro w0 hown0 hgrow0
  have hown1 : w0.ownsRow w.heap.size 5 1 (.slice (some ⟨w.heap.size, 0, none⟩) n n) n (fRow 0 (fun i => Value.int .u8 (f i)) ++ List.replicate (n - 0) (.int .u8 0)) := by
    have := hown0
    rw [toList_madeCells_one] at this
    simpa [fRow] using this
  have hbel0 : Below w.heap.size w w0 := (Below.refl _ _).grown hgrow0 (Nat.le_refl _) (fun k h => by cases h)
  have HO : Hid (w0.ownsRow w.heap.size 5 1 (.slice (some ⟨w.heap.size, 0, none⟩) n n) n (fRow 0 (fun i => Value.int .u8 (f i)) ++ List.replicate (n - 0) (.int .u8 0))) := hown1
  clear hown0 hown1 hgrow0
  go_wp2
  go_loopw [4] (fun i wr => ∃ k : Nat, k ≤ n ∧ i = .int .i64 k ∧ wr.ownsRow w.heap.size 5 1 (.slice (some ⟨w.heap.size, 0, none⟩) n n) n (fRow k (fun i => Value.int .u8 (f i)) ++ List.replicate (n - k) (.int .u8 0)) ∧ Below w.heap.size w wr) (fun i _ => n - (intOf i).toNat)
  case atStart => exact ⟨0, Nat.zero_le _, rfl, HO.out, hbel0⟩
  case round =>
    obtain ⟨k, hk, rfl, hown, hbel⟩ := hrel
    clear hbel0
    by_cases hlt : k < n
    · obtain ⟨b, off, ex, hc⟩ := hat (by omega)
      obtain rfl := Option.some.inj ex
      have hcell : wr.cell? ⟨b, off + k, none⟩ = some (.int .u8 (f k)) := by
        rw [hbel.cell (p := ⟨b, off + k, none⟩) (World.block_lt_of_cell? w _ (hc k hlt))]; exact hc k hlt
      obtain ⟨u, hcy⟩ := own_cell hown k hlt
      have hfr := hown.frozenAt k
      have HS := hown.stored k (.int .u8 (f k))
      rw [fRow_set_next (fun i => Value.int .u8 (f i)) (.int .u8 0) n k hlt] at HS
      have HH : Hid ((wr.setCell ⟨w.heap.size, k, none⟩ (.int .u8 (f k))).ownsRow w.heap.size 5 1 (.slice (some ⟨w.heap.size, 0, none⟩) n n) n (fRow (k + 1) (fun i => Value.int .u8 (f i)) ++ List.replicate (n - (k + 1)) (.int .u8 0))) := HS.1
      clear HS hown ex hc hat
      go_wp2
      go_roundw
      case rel => exact ⟨k + 1, by omega, by go_num, HH.out, hbel.setCell (Nat.le_refl _) _⟩
      case measure => simp [intOf]; omega
    · have e : k = n := by omega
      subst e
      have HH : Hid (wr.ownsRow w.heap.size 5 1 (.slice (some ⟨w.heap.size, 0, none⟩) k k) k (fRow k (fun i => Value.int .u8 (f i)))) := by unfold Hid; simpa using hown
      clear hown
      go_wp2
      go_ret
      exact ⟨rfl, HH.out, hbel⟩

theorem cloneBytes_any (a : Option Addr) (n c : Nat) (f : Nat → Int) (w : World) (hn : n ≤ 1048576) (hat : At w a n (fun i => Value.int .u8 (f i))) :
    Calls Try.prog 9 #[.slice a n c] w fun e w' => ∃ v, e = .returned v ∧ w'.ownsRow w.heap.size 5 1 v n (fRow n (fun i => Value.int .u8 (f i))) ∧ Below w.heap.size w w' := by
  cases a with
  | none =>
    obtain rfl : n = 0 := by
      rcases Nat.eq_zero_or_pos n with h | h
      · exact h
      · obtain ⟨b, off, e, -⟩ := hat h
        cases e
    exact (cloneBytes_nil 0 c w).mono fun e w' ⟨h1, h2⟩ => ⟨_, h1, World.ownsRow_nil _ _ _ _, h2 ▸ Below.refl _ _⟩
  | some x => exact (cloneBytes_some x n c f w hn hat).mono fun e w' ⟨h1, h2, h3⟩ => ⟨_, h1, h2, h3⟩

theorem Try.info21 : (Try.prog.info? 21).map (fun i => (i.zero, i.size, i.bytes)) = some (some (.int .i32 0), 1, 4) := by kernel_rfl

theorem cloneRunes_nil (n c : Nat) (w : World) :
    Calls Try.prog 10 #[.slice none n c] w fun e w' => e = .returned (.slice none 0 0) ∧ w' = w := by
  have hs := fun (w : World) => Lib.run_eql_slice_nil (P := Try.prog) w 24 21 none n c 0 0 Try.underlying24
  go_enter Try.func10, Try.ntmps10
  go_wp2
  go_ret
  exact ⟨rfl, rfl⟩

set_option maxHeartbeats 400000 in
theorem cloneRunes_some (x : Addr) (n c : Nat) (f : Nat → Int) (w : World) (hn : n ≤ 1048576) (hat : At w (some x) n (fun i => Value.int .i32 (f i))) :
    Calls Try.prog 10 #[.slice (some x) n c] w fun e w' => e = .returned (.slice (some ⟨w.heap.size, 0, none⟩) n n) ∧
      w'.ownsRow w.heap.size 21 1 (.slice (some ⟨w.heap.size, 0, none⟩) n n) n (fRow n (fun i => Value.int .i32 (f i))) ∧ Below w.heap.size w w' := by
  have hs := fun (w : World) => Lib.run_eql_slice_nil (P := Try.prog) w 24 21 (some x) n c 0 0 Try.underlying24
  obtain ⟨i0, hi, hz0, hz1, hz2⟩ := info_parts Try.info21
  go_enter Try.func10, Try.ntmps10
  go_wp2_with (at_make; refine wpList_make_full _ rfl _ _ 24 rfl w.heap.size 21 i0 (.int .i32 0) 1 Try.underlying24 hi hz0 hz1 _ _ _ _ n rfl rfl rfl rfl ?b2 ?b3 (Nat.le_refl _) ?_)
  case b2 => rw [hz2]; omega
  case b3 => unfold maxLen; omega
  intro w0 hown0 hgrow0
  have hown1 : w0.ownsRow w.heap.size 21 1 (.slice (some ⟨w.heap.size, 0, none⟩) n n) n (fRow 0 (fun i => Value.int .i32 (f i)) ++ List.replicate (n - 0) (.int .i32 0)) := by
    have := hown0
    rw [toList_madeCells_one] at this
    simpa [fRow] using this
  have hbel0 : Below w.heap.size w w0 := (Below.refl _ _).grown hgrow0 (Nat.le_refl _) (fun k h => by cases h)
  have HO : Hid (w0.ownsRow w.heap.size 21 1 (.slice (some ⟨w.heap.size, 0, none⟩) n n) n (fRow 0 (fun i => Value.int .i32 (f i)) ++ List.replicate (n - 0) (.int .i32 0))) := hown1
  clear hown0 hown1 hgrow0
  go_wp2
  go_loopw [4] (fun i wr => ∃ k : Nat, k ≤ n ∧ i = .int .i64 k ∧ wr.ownsRow w.heap.size 21 1 (.slice (some ⟨w.heap.size, 0, none⟩) n n) n (fRow k (fun i => Value.int .i32 (f i)) ++ List.replicate (n - k) (.int .i32 0)) ∧ Below w.heap.size w wr) (fun i _ => n - (intOf i).toNat)
  case atStart => exact ⟨0, Nat.zero_le _, rfl, HO.out, hbel0⟩
  case round =>
    obtain ⟨k, hk, rfl, hown, hbel⟩ := hrel
    clear hbel0
    by_cases hlt : k < n
    · obtain ⟨b, off, ex, hc⟩ := hat (by omega)
      obtain rfl := Option.some.inj ex
      have hcell : wr.cell? ⟨b, off + k, none⟩ = some (.int .i32 (f k)) := by
        rw [hbel.cell (p := ⟨b, off + k, none⟩) (World.block_lt_of_cell? w _ (hc k hlt))]; exact hc k hlt
      obtain ⟨u, hcy⟩ := own_cell hown k hlt
      have hfr := hown.frozenAt k
      have HS := hown.stored k (.int .i32 (f k))
      rw [fRow_set_next (fun i => Value.int .i32 (f i)) (.int .i32 0) n k hlt] at HS
      have HH : Hid ((wr.setCell ⟨w.heap.size, k, none⟩ (.int .i32 (f k))).ownsRow w.heap.size 21 1 (.slice (some ⟨w.heap.size, 0, none⟩) n n) n (fRow (k + 1) (fun i => Value.int .i32 (f i)) ++ List.replicate (n - (k + 1)) (.int .i32 0))) := HS.1
      clear HS hown ex hc hat
      go_wp2
      go_roundw
      case rel => exact ⟨k + 1, by omega, by go_num, HH.out, hbel.setCell (Nat.le_refl _) _⟩
      case measure => simp [intOf]; omega
    · have e : k = n := by omega
      subst e
      have HH : Hid (wr.ownsRow w.heap.size 21 1 (.slice (some ⟨w.heap.size, 0, none⟩) k k) k (fRow k (fun i => Value.int .i32 (f i)))) := by unfold Hid; simpa using hown
      clear hown
      go_wp2
      go_ret
      exact ⟨rfl, HH.out, hbel⟩

theorem cloneRunes_any (a : Option Addr) (n c : Nat) (f : Nat → Int) (w : World) (hn : n ≤ 1048576) (hat : At w a n (fun i => Value.int .i32 (f i))) :
    Calls Try.prog 10 #[.slice a n c] w fun e w' => ∃ v, e = .returned v ∧ w'.ownsRow w.heap.size 21 1 v n (fRow n (fun i => Value.int .i32 (f i))) ∧ Below w.heap.size w w' := by
  cases a with
  | none =>
    obtain rfl : n = 0 := by
      rcases Nat.eq_zero_or_pos n with h | h
      · exact h
      · obtain ⟨b, off, e, -⟩ := hat h
        cases e
    exact (cloneRunes_nil 0 c w).mono fun e w' ⟨h1, h2⟩ => ⟨_, h1, World.ownsRow_nil _ _ _ _, h2 ▸ Below.refl _ _⟩
  | some x => exact (cloneRunes_some x n c f w hn hat).mono fun e w' ⟨h1, h2, h3⟩ => ⟨_, h1, h2, h3⟩
end Go.Proofs.Qxb6605601a
