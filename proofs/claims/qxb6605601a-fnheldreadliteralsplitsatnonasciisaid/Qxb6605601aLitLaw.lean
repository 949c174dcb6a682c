import Derived.Test.Qxb6605601aLawKit
namespace Go.Proofs.Qxb6605601a
open Go.RowKit
set_option linter.unusedVariables false

set_option maxHeartbeats 1000000 in
set_option maxRecDepth 100000 in
theorem lit_big (a : Option Addr) (n c : Nat) (ss : Nat → ByteArray) (aR : Option Addr) (mR cR : Nat) (aL : Option Addr) (mL cL : Nat) (w : World) (hs : At w a n (fun i => Value.string (ss i))) (hss : ∀ i, (ss i).size ≤ 9223372036854775807) (hn : n ≤ 9223372036854775807)
    (hR : mR ≤ 9223372036854775807) (hL : mL ≤ 9223372036854775807) (hb : ¬ (n ≤ 65536 ∧ mR ≤ 1048576 ∧ mL ≤ 262144)) :
    Calls Try.prog 3 #[.slice a n c, .slice aR mR cR, .slice aL mL cL] w fun e w' => e = .returned (.bool true) ∧ Below w.heap.size w w' := by
  go_enter Try.func3, Try.ntmps3
  go_wp2_with fail
  refine (bound7_any a n c ss aR mR cR aL mL cL _ hs hss hn hR hL).mono ?_
  rintro e w' ⟨⟨t, rfl, ht⟩, rfl⟩
  clear ht hs hss
  cases t
  · go_wp2_with fail
    go_ret
    exact ⟨rfl, Below.refl _ _⟩
  · go_wp2_with fail
    all_goals (go_ret; exact ⟨rfl, Below.refl _ _⟩)

set_option maxHeartbeats 4000000 in
set_option maxRecDepth 100000 in
theorem lit_main (a : Option Addr) (n c : Nat) (ss : Nat → ByteArray) (aR : Option Addr) (mR cR : Nat) (fR : Nat → Int) (aL : Option Addr) (mL cL : Nat) (fL : Nat → Int) (w : World) (hs : At w a n (fun i => Value.string (ss i))) (hss : ∀ i, (ss i).size ≤ 9223372036854775807)
    (hR : At w aR mR (fun i => Value.int .u8 (fR i))) (hL : At w aL mL (fun i => Value.int .i32 (fL i))) (h1 : n ≤ 65536) (h2 : mR ≤ 1048576) (h3 : mL ≤ 262144) :
    Calls Try.prog 3 #[.slice a n c, .slice aR mR cR, .slice aL mL cL] w fun e w' => e = .returned (.bool true) ∧ Below w.heap.size w w' := by
  obtain ⟨i9, hi, hz0, hz1, hz2⟩ := info_parts Try.info9
  have HS : Hid (At w a n (fun i => Value.string (ss i))) := hs
  have HR : Hid (At w aR mR (fun i => Value.int .u8 (fR i))) := hR
  have HL : Hid (At w aL mL (fun i => Value.int .i32 (fL i))) := hL
  clear hR hL
  go_enter Try.func3, Try.ntmps3
  go_wp2_with fail
  refine (bound7_any a n c ss aR mR cR aL mL cL _ hs hss (by omega) (by omega) (by omega)).mono ?_
  rintro e w' ⟨⟨t, rfl, ht⟩, rfl⟩
  clear hs hss
  cases t
  · clear ht
    go_wp2_with fail
    go_ret
    exact ⟨rfl, Below.refl _ _⟩
  have HT : Hid (∀ i, i < n → (ss i).size ≤ 1048576) := ht rfl
  clear ht
  go_wp2_with fail
  go_loop [7, 8] (fun z i => ∃ (k : Nat) (t : Int), k ≤ n ∧ i = .int .i64 k ∧ z = .int .i64 t ∧ 0 ≤ t ∧ t ≤ 3145728) (fun _ i => n - (intOf i).toNat)
  case atStart => exact ⟨0, 16 * (n : Int) + mR + 4 * mL, Nat.zero_le _, rfl, rfl, by omega, by omega⟩
  case round =>
    obtain ⟨k, t, hk, rfl, rfl, ht0, ht1⟩ := hrel
    by_cases hlt : k < n
    · obtain ⟨b, off, rfl, hc⟩ := HS.out (by omega)
      have hcell : w.cell? ⟨b, off + k, none⟩ = some (.string (ss k)) := hc k hlt
      have hsz := HT.out k hlt
      clear hc
      generalize ss k = y at hcell hsz
      by_cases hb2 : t + y.size ≤ 1048576
      · go_wp2_with fail
        go_round
        case rel => exact ⟨k + 1, t + y.size, by omega, by go_num, rfl, by omega, by omega⟩
        case measure => simp [intOf]; omega
      · go_wp2_with fail
        go_ret
        exact ⟨rfl, Below.refl _ _⟩
    · by_cases hb3 : t ≤ 1048576
      · clear hk ht0 ht1
        go_wp2_with fail
        refine (cloneStrs_any a n c ss _ (by omega) HS.out).mono ?_
        rintro e w1 ⟨tv, rfl, ot, b1⟩
        go_wp2_with fail
        refine (cloneBytes_any aR mR cR fR _ (by omega) (HR.out.keeps b1)).mono ?_
        rintro e w2 ⟨rv, rfl, orr, b2⟩
        go_wp2_with fail
        refine (cloneRunes_any aL mL cL fL _ (by omega) (HL.out.keeps (Below.step b1 b2))).mono ?_
        rintro e w3 ⟨lv, rfl, ol, b3⟩
        have ot := own_lst ot
        have orr := own_lst orr
        have ol := own_lst ol
        have e1 : (lst n ss).length = n := lst_length n ss
        have e2 : (lst mR fR).length = mR := lst_length mR fR
        have e3 : (lst mL fL).length = mL := lst_length mL fL
        generalize lst n ss = T at *
        generalize lst mR fR = R at *
        generalize lst mL fL = L at *
        have bT : T.length ≤ 65536 := by omega
        have bR : R.length ≤ 1048576 := by omega
        have bL : L.length ≤ 262144 := by omega
        clear e1 e2 e3
        have b12 := Below.step b1 b2
        have b13 := Below.step b12 b3
        have ot3 := own_below ot (Below.step b2 b3) (Nat.le_refl _)
        have or3 := own_up (own_below orr b3 (Nat.le_refl _)) b1.size
        have ol3 := own_up ol b12.size
        have ltR : Hid (∀ k, rv.ownBlock = some k → w.heap.size ≤ k ∧ k < w3.heap.size) := fun k hk => or3.lt k hk
        have ltT : Hid (∀ k, tv.ownBlock = some k → w.heap.size ≤ k ∧ k < w3.heap.size) := fun k hk => ot3.lt k hk
        obtain ⟨ra, rc, rfl, atR, noR⟩ := own_read 0 or3
        obtain ⟨la, lc, rfl, atL, noL⟩ := own_read 0 ol3
        obtain ⟨ta, tc, rfl, atT, noT⟩ := own_read ByteArray.empty ot3
        clear ot orr ol b1 b2 b3 b12 noL noT
        have HA : Hid _ := atR
        have HB : Hid _ := atL
        have HC : Hid _ := atT
        have HN : Hid _ := noR
        have HOT : Hid _ := ot3
        have HOR : Hid _ := or3
        have HOL : Hid _ := ol3
        clear atR atL atT noR ot3 or3 ol3
        go_wp2_with fail
        refine (held_any ra R.length rc R la L.length lc L _ rfl rfl (by omega) (by omega) HN.out HA.out HB.out).mono ?_
        rintro e w4 ⟨gp, pvs, rfl, pl, prow, peach, b4⟩
        have P4 : Hid (PiecesIn w3.heap.size w4 gp pvs (pieces byt R L)) := ⟨pl, prow, peach⟩
        have hm1 : 1 ≤ (pieces byt R L).length := by rw [pieces_length byt L R 0]; omega
        have hm2 : (pieces byt R L).length ≤ 262145 := by rw [pieces_length byt L R 0]; have := cutsAt_length L 0; omega
        have HLaw : Hid (readLit strOfNums byt L T R = (T ++ kept strOfNums ((pieces byt R L).dropLast), (pieces byt R L)[(pieces byt R L).length - 1]?.getD [])) := readLit_law strOfNums L T R
        clear pl prow peach HA HB HN
        generalize pieces byt R L = Z at *
        go_wp2_with fail
        refine (cloneStrs_any ta T.length tc (fun i => T[i]?.getD ByteArray.empty) _ (by omega) (At.keeps (f := fun i => Value.string (T[i]?.getD ByteArray.empty)) HC.out b4)).mono ?_
        rintro e w5 ⟨wv, rfl, ow, b5⟩
        have ow := own_clone ow
        have b35 := Below.step b4 b5
        clear HC
        go_wp2_with fail
        go_loopw [10, 11] (fun wv i wr => ∃ k : Nat, k + 1 ≤ Z.length ∧ i = .int .i64 k ∧ wr.ownsRow w4.heap.size 9 1 wv (T ++ kept strOfNums (Z.take k)).length ((T ++ kept strOfNums (Z.take k)).map Value.string) ∧ Below w4.heap.size w4 wr) (fun _ i _ => Z.length - (intOf i).toNat)
        case atStart => exact ⟨0, by omega, rfl, by simpa [kept] using ow, b5⟩
        case round =>
          clear ow b5 b35
          obtain ⟨k2, hk2, rfl, ow, b5⟩ := hrel
          have P := P4.out.below b5 (Nat.le_refl _)
          have hws := b5.size
          have hkl := kept_len strOfNums (Z.take k2)
          simp only [List.length_take] at hkl
          by_cases hlt2 : k2 + 1 < Z.length
          · obtain ⟨pa, pc, hcell, ok⟩ := P.at k2 (by omega)
            have hkt := kept_take strOfNums Z k2 (by omega)
            have hcv := conv_piece ok
            clear P ok
            generalize Z[k2]?.getD [] = z at *
            by_cases hz : z = []
            · have HW : Hid (kept strOfNums (Z.take (k2 + 1)) = kept strOfNums (Z.take k2)) := by unfold Hid; rw [hkt, if_pos hz]; simp
              clear hkt hcv
              have hz0' : z.length ≤ 0 := by rw [hz]; simp
              clear hz
              go_wp2_with fail
              go_roundw
              case rel => exact ⟨k2 + 1, by omega, by go_num, by rw [HW.out]; exact ow, b5⟩
              case measure => simp [intOf]; omega
            · have HW : Hid (kept strOfNums (Z.take (k2 + 1)) = kept strOfNums (Z.take k2) ++ [strOfNums z]) := by unfold Hid; rw [hkt, if_neg hz]
              clear hkt
              have hz0' : 0 < z.length := List.length_pos_iff.2 hz
              clear hz
              have HO : Hid ((wr.alloc (.cells #[.string (strOfNums z)] 9)).ownsRow w4.heap.size 9 1 u10 (T ++ kept strOfNums (Z.take k2)).length ((T ++ kept strOfNums (Z.take k2)).map Value.string)) := ow.alloc _
              have HC : Hid (∀ j u, [Value.string (strOfNums z)][j]? = some u → (wr.alloc (.cells #[.string (strOfNums z)] 9)).cell? ((⟨wr.heap.size, 0, none⟩ : Addr).add j) = some u) := fun j u hj => by
                match j, hj with
                | 0, hj => simp at hj; subst hj; simp [Addr.add]
              have hln : (T ++ kept strOfNums (Z.take k2)).length ≤ 4194304 := by rw [List.length_append]; omega
              clear ow
              go_wp2_with (at_builtin; refine wpList_append_own _ rfl (.tmp 84) (.tmp 90) 22 rfl w4.heap.size 9 i9 (.string ⟨#[]⟩) 1 16 Try.underlying22 hi hz0 hz1 hz2 rfl (by decide) u10 (T ++ kept strOfNums (Z.take k2)).length ((T ++ kept strOfNums (Z.take k2)).map Value.string) rfl (by exact HO.out) ⟨wr.heap.size, 0, none⟩ 1 1 [.string (strOfNums z)] rfl rfl (by exact HC.out) (by intro u hu; simp at hu; subst hu; rfl) (by unfold maxLen; omega) (by omega) (by simp; omega) ?next)
              case next =>
                intro v' w6 q1 q2 _
                have ow2 : w6.ownsRow w4.heap.size 9 1 v' (T ++ kept strOfNums (Z.take (k2 + 1))).length ((T ++ kept strOfNums (Z.take (k2 + 1))).map Value.string) := by
                  rw [HW.out, ← List.append_assoc]
                  have := q1
                  simpa [Nat.add_assoc] using this
                have b6 : Below w4.heap.size w4 w6 := (b5.alloc b5.size _).grown q2 (by simp; omega) (fun q hq => (HO.out.lt q hq).1)
                clear q1 q2 HO HC HW hcv hcell
                go_wp2_with fail
                go_roundw
                case rel => exact ⟨k2 + 1, by omega, by go_num, ow2, b6⟩
                case measure => simp [intOf]; omega
          · have hke : k2 = Z.length - 1 := by omega
            have HK : Hid (kept strOfNums (Z.take k2) = kept strOfNums Z.dropLast) := by unfold Hid; rw [hke, ← List.dropLast_eq_take]
            clear hke
            obtain ⟨pa, pc, hcell, ok⟩ := P.at (Z.length - 1) (by omega)
            rw [HK.out] at ow
            have b36 : Below w3.heap.size w3 wr := b4.trans (b5.mono b4.size)
            have fT := own_below HOT.out b36 (Nat.le_refl _)
            have fR2 := own_below HOR.out b36 (Nat.le_refl _)
            have fL2 := own_below HOL.out b36 (Nat.le_refl _)
            have hB : w.heap.size ≤ wr.heap.size := Nat.le_trans b13.size b36.size
            have HRD : Hid _ := readLiteral_any w.heap.size _ _ _ T R L L.length wr fT fR2 fL2 rfl (by omega) (by omega) (by omega) hB
            have HOW : Hid _ := ow
            have HOK : Hid _ := ok
            have hb4 := b4.size
            have B0 : Below w.heap.size w wr := b13.trans (b36.mono b13.size)
            clear fT fR2 fL2 HOT HOR HOL P ow ok b36 HK hkl
            go_wp2_with fail
            refine Calls.mono HRD.out ?_
            rintro e w7 ⟨tv', rv', rfl, gt, gr, ga⟩
            rw [HLaw.out] at gt gr
            have B7 : Below w.heap.size w w7 := B0.trans (ga.below hB (fun j e => by
              rcases e with e | e
              · exact (ltT.out j e.symm).1
              · exact (ltR.out j e.symm).1))
            have ow7 := own_alt HOW.out ga (fun j hj e => by
              have h0 := (World.ownsRow.lt HOW.out j hj).1
              rcases e with e | e
              · have := (ltT.out j e.symm).2; omega
              · have := (ltR.out j e.symm).2; omega)
            have ok7 := own_alt HOK.out ga (fun j hj e => by
              have h0 := (World.ownsRow.lt HOK.out j hj).1
              rcases e with e | e
              · have := (ltT.out j e.symm).2; omega
              · have := (ltR.out j e.symm).2; omega)
            clear HRD HOW HOK HLaw ga B0 hcell
            obtain ⟨wa, wc, rfl, atW, -⟩ := own_read ByteArray.empty ow7
            obtain ⟨ga', gc', rfl, atG, -⟩ := own_read ByteArray.empty gt
            obtain ⟨ha', hc', rfl, atH, -⟩ := own_read 0 gr
            obtain ⟨ka, kc, ek, atK, -⟩ := own_read 0 ok7
            obtain ⟨rfl, rfl⟩ : pa = ka ∧ pc = kc := by simpa using ek
            have hlT : (T ++ kept strOfNums Z.dropLast).length ≤ 9223372036854775807 := by
              have := kept_len strOfNums Z.dropLast
              simp at this ⊢
              omega
            have hlR : (Z[Z.length - 1]?.getD []).length ≤ 9223372036854775807 := by
              have h0 := ok7
              rcases ok7.2 with ⟨_, h⟩ | ⟨_, _, _, _, _, _, hn1, hn2, _⟩
              · omega
              · unfold maxLen at hn2; omega
            clear ow7 ok7 gt gr ek
            have HW1 : Hid _ := atW
            have HW2 : Hid _ := atG
            have HW3 : Hid _ := atH
            have HW4 : Hid _ := atK
            clear atW atG atH atK
            generalize T ++ kept strOfNums Z.dropLast = TT at *
            generalize Z[Z.length - 1]?.getD [] = RR at *
            go_wp2_with fail
            refine (sameStrs_yes ga' wa TT.length gc' wc (fun i => TT[i]?.getD ByteArray.empty) _ hlT HW2.out HW1.out).mono ?_
            rintro e w8 ⟨rfl, q, rfl⟩
            go_wp2_with fail
            refine (sameBytes_yes ha' pa RR.length hc' pc (fun i => RR[i]?.getD 0) _ hlR (by exact HW3.out) (by exact HW4.out)).mono ?_
            rintro e w9 ⟨rfl, q2, rfl⟩
            go_wp2_with fail
            go_ret
            exact ⟨rfl, below_drewN B7 _⟩
      · go_wp2_with fail
        go_ret
        exact ⟨rfl, Below.refl _ _⟩
end Go.Proofs.Qxb6605601a
