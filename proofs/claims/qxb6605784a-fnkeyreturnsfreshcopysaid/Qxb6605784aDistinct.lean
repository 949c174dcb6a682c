import Derived.Test.Qxb6605784aMem
namespace Go.Proofs.Qxb6605784a
open Go.RowKit
set_option linter.unusedVariables false

theorem Try.size28 : (Try.prog.info? 28).map (·.size) = some 32 := by kernel_rfl
theorem Try.info5 : (Try.prog.info? 5).map (fun i => (i.zero, i.size, i.bytes)) = some (some (.int .u8 0), 1, 1) := by kernel_rfl
theorem plain5 : Try.prog.plainKey 5 = true := by kernel_rfl

theorem keyRow_at (g : Nat → Int) (j : Nat) (hj : j < 32) : (keyRow g).toArray[j]? = some (.int .u8 (g j)) := by
  unfold keyRow
  rw [List.getElem?_toArray, fRow_get _ hj]

theorem eqItems_keys (d : Nat) (g h : Nat → Int) : ∀ (is : List Nat), (∀ i ∈ is, i < 32) → ∃ r : Bool, ∀ w, (Op.eqItems (d + 1) 5 1 (keyRow g).toArray (keyRow h).toArray is).run Try.prog w = .ok r w
  | [], _ => ⟨true, fun w => by simp [Op.eqItems]⟩
  | i :: is, hall => by
    have hi : i < 32 := hall i (by simp)
    obtain ⟨r, hr⟩ := eqItems_keys d g h is (fun j hj => hall j (by simp [hj]))
    have p1 := fun w => run_part_plain (P := Try.prog) w plain5 (xs := (keyRow g).toArray) (off := i * 1) (v := .int .u8 (g i)) (by rw [Nat.mul_one]; exact keyRow_at g i hi)
    have p2 := fun w => run_part_plain (P := Try.prog) w plain5 (xs := (keyRow h).toArray) (off := i * 1) (v := .int .u8 (h i)) (by rw [Nat.mul_one]; exact keyRow_at h i hi)
    have p3 := fun w => run_equalIn_int (P := Try.prog) (w := w) d 5 .u8 .u8 (g i) (h i) Try.underlying5
    by_cases e : (g i == h i) = true
    · exact ⟨r, fun w => by simp only [Op.eqItems, Sem.run_bind, p1, p2, p3, Result.andThen_ok, e]; simpa using hr w⟩
    · simp only [Bool.not_eq_true] at e
      exact ⟨false, fun w => by simp only [Op.eqItems, Sem.run_bind, p1, p2, p3, Result.andThen_ok, e]; simp⟩

theorem eql_keys (g h : Nat → Int) : ∃ r : Bool, ∀ w, (binOp .eql 28 (.agg (keyRow g).toArray) (.agg (keyRow h).toArray)).run Try.prog w = .ok (.bool r) w := by
  obtain ⟨i, hi, _, h1, _⟩ := info_parts Try.info5
  obtain ⟨r, hr⟩ := eqItems_keys 9998 g h (List.range 32) (fun i hi => by simpa using hi)
  refine ⟨r, fun w => ?_⟩
  have hc : Try.prog.cellsOf 5 = 1 := by kernel_rfl
  have := run_equalIn_array (P := Try.prog) w 9999 (t := 28) (e := 5) (n := 32) (keyRow g).toArray (keyRow h).toArray Try.underlying28 hi
  rw [hc, hr w] at this
  simp only [binOp]
  simp [Op.equal, Op.maxDepth, this]

/-- a load in a quiet walk, by its law -/
theorem quiet_loadAt {P : Program} {C : World → Prop} {K : Act → Prop} {a : Act} {o : Oper} (ty : TypeId) (x : Operand) (ho : o.op = .load ty x) (p : Value) (hx : a.eval x = p) (v : Value)
    (hr : ∀ w, C w → (Instr.loadAt ty p).run P w = .ok v w) (hk : K (a.put o.dst v)) : o.quiet P a C K :=
  ⟨v, fun w hw => by unfold Oper.quietAt execOp; simp only [ho, hx, Sem.run_bind, hr w hw, Result.andThen_ok]; exact ⟨rfl, rfl⟩, hk⟩
theorem quiet_binOp {P : Program} {C : World → Prop} {K : Act → Prop} {a : Act} {o : Oper} (b : BinOp) (ty : TypeId) (x y : Operand) (ty' : TypeId) (ho : o.op = .binOp b ty x y ty') (p q : Value) (hx : a.eval x = p) (hy : a.eval y = q) (v : Value)
    (hg : ∀ w, (eqGuard b ty x y p q).run P w = .ok () w) (hr : ∀ w, C w → (binOp b ty p q).run P w = .ok v w) (hk : K (a.put o.dst v)) : o.quiet P a C K :=
  ⟨v, fun w hw => by unfold Oper.quietAt execOp; simp only [ho, hx, hy, Sem.run_bind, hg, Result.andThen_ok, hr w hw]; exact ⟨rfl, rfl⟩, hk⟩

set_option maxHeartbeats 2000000 in
theorem distinct_any (a : Option Addr) (n c : Nat) (f : Nat → Nat → Int) (w : World) (hn : n ≤ 4096) (hk : Keys w a n f) :
    Calls Try.prog 20 #[.slice a n c] w (SomeBool w) := by
  have HK : Hid (Keys w a n f) := hk
  clear hk
  go_enter Try.func20, Try.ntmps20
  go_wp2_with fail
  go_loopw [3] (fun i wr => ∃ (k q : Nat), k ≤ n ∧ i = .int .i64 k ∧ wr = w.drewN q) (fun i _ => n - (intOf i).toNat)
  case atStart => exact ⟨0, 0, Nat.zero_le _, rfl, rfl⟩
  case round =>
    obtain ⟨k, q, hk, rfl, hq⟩ := hrel
    have HQ : Hid (wr = w.drewN q) := hq
    clear hq
    by_cases hlt : k < n
    · obtain ⟨b, off, rfl, hc⟩ := HK.out (by omega)
      have R1 := key_range (g := f k) (hc k hlt)
      have HC : Hid _ := hc
      clear hc
      go_wp2_with fail
      go_loopw [4] (fun i wx => ∃ (k2 q2 : Nat), k + 1 ≤ k2 ∧ k2 ≤ n ∧ i = .int .i64 k2 ∧ wx = wr.drewN q2) (fun i _ => n - (intOf i).toNat)
      case atStart => exact ⟨k + 1, 0, Nat.le_refl _, by omega, by go_num, rfl⟩
      case round =>
        obtain ⟨k2, q2, hk1, hk2, rfl, hq2⟩ := hrel
        have HQ2 : Hid _ := hq2
        clear hq2
        by_cases hlt2 : k2 < n
        · have R2 := key_range (g := f k2) (HC.out k2 hlt2)
          obtain ⟨r, hr⟩ := eql_keys (f k) (f k2)
          have L1 : ∀ q, (Instr.loadAt 28 (.pointer (some ⟨b, off + k * 32, none⟩))).run Try.prog (wr.drewN q) = .ok (.agg (keyRow (f k)).toArray) (wr.drewN q) := fun q' => run_loadAt_mid (P := Try.prog) (wr.drewN q') b (off + k * 32) 28 (keyRow (f k)) _ (by rw [HQ2.out, HQ.out]; exact R1) Try.underlying28 rfl (by rw [keyRow_length]; exact Try.size28)
          have L2 : ∀ q, (Instr.loadAt 28 (.pointer (some ⟨b, off + k2 * 32, none⟩))).run Try.prog (wr.drewN q) = .ok (.agg (keyRow (f k2)).toArray) (wr.drewN q) := fun q' => run_loadAt_mid (P := Try.prog) (wr.drewN q') b (off + k2 * 32) 28 (keyRow (f k2)) _ (by rw [HQ2.out, HQ.out]; exact R2) Try.underlying28 rfl (by rw [keyRow_length]; exact Try.size28)
          generalize (keyRow (f k)).toArray = A at *
          generalize (keyRow (f k2)).toArray = D at *
          clear R1 R2
          go_wp2_with fail
          refine wp_region_quiet_lit (by kernel_rfl) (by kernel_rfl) ?_
          go_big_quiet_step (fail)
          go_big_quiet_step (fail)
          go_big_quiet_step (fail)
          go_big_quiet_want
          refine quiet_loadAt 28 (.tmp 21) rfl _ rfl (.agg A) (fun w' hw' => by obtain ⟨q', rfl⟩ := hw'; exact L1 q') ?_
          go_simp
          go_big_quiet_on
          go_big_quiet_step (fail)
          go_big_quiet_step (fail)
          go_big_quiet_step (fail)
          go_big_quiet_want
          refine quiet_loadAt 28 (.tmp 25) rfl _ rfl (.agg D) (fun w' hw' => by obtain ⟨q', rfl⟩ := hw'; exact L2 q') ?_
          go_simp
          go_big_quiet_on
          go_big_quiet_want
          refine quiet_binOp .eql 28 (.tmp 22) (.tmp 26) 28 rfl _ _ rfl rfl (.bool r) (fun w' => run_eqGuard_agg w' _ _ _ _ _ _ Try.eqGuardType28) (fun w' _ => hr w') ?_
          go_simp
          go_big_quiet_on
          refine wpQuiet_nil ?_
          intro _ hw'
          obtain ⟨nq, hw''⟩ := hw'
          subst hw''
          cases r
          · go_wp2_with fail
            go_roundw
            case rel => exact ⟨k2 + 1, q2 + nq, by omega, by omega, by go_num, by rw [HQ2.out, World.drewN_drewN]⟩
            case measure => simp [intOf]; omega
          · go_wp2_with fail
            go_ret
            rw [HQ2.out, HQ.out, World.drewN_drewN, World.drewN_drewN]
            exact SomeBool.mk' _ _
        · go_wp2_with fail
          go_roundw
          case rel => exact ⟨k + 1, q + q2, by omega, by go_num, by rw [HQ2.out, HQ.out, World.drewN_drewN]⟩
          case measure => simp [intOf]; omega
    · go_wp2_with fail
      go_ret
      rw [HQ.out]
      exact SomeBool.mk' _ _
end Go.Proofs.Qxb6605784a
