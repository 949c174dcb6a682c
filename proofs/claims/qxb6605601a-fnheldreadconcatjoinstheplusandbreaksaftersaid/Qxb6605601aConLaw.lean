import Derived.Test.Qxb6605601aLawKit
import Derived.Test.Qxb6605601aConcat
namespace Go.Proofs.Qxb6605601a
open Go.RowKit
set_option linter.unusedVariables false

set_option maxHeartbeats 1000000 in
set_option maxRecDepth 100000 in
theorem con_big (a : Option Addr) (n c : Nat) (ss : Nat → ByteArray) (aR : Option Addr) (mR cR : Nat) (aA : Option Addr) (mA cA : Nat) (aD : Option Addr) (mD cD : Nat) (aC : Option Addr) (mC cC : Nat) (w : World) (hs : At w a n (fun i => Value.string (ss i))) (hss : ∀ i, (ss i).size ≤ 9223372036854775807) (hn : n ≤ 9223372036854775807)
    (hR : mR ≤ 9223372036854775807) (hA : mA ≤ 9223372036854775807) (hD : mD ≤ 9223372036854775807) (hC : mC ≤ 9223372036854775807) (hb : ¬ (n ≤ 65536 ∧ mR ≤ 1048576 ∧ mA ≤ 262144 ∧ mD ≤ 262144 ∧ mC ≤ 262144)) :
    Calls Try.prog 4 #[.slice a n c, .slice aR mR cR, .slice aA mA cA, .slice aD mD cD, .slice aC mC cC] w fun e w' => e = .returned (.bool true) ∧ Below w.heap.size w w' := by
  go_enter Try.func4, Try.ntmps4
  go_wp2_with fail
  refine (bound15_any a n c ss aR mR cR aA mA cA aD mD cD aC mC cC _ hs hss hn hR hA hD hC).mono ?_
  rintro e w' ⟨⟨t, rfl, ht⟩, rfl⟩
  clear ht hs hss
  cases t
  · go_wp2_with fail
    go_ret
    exact ⟨rfl, Below.refl _ _⟩
  · by_cases b1 : n ≤ 65536
    · by_cases b2 : mR ≤ 1048576
      · by_cases b3 : mA ≤ 262144
        · by_cases b4 : mD ≤ 262144
          · have b5 : ¬ mC ≤ 262144 := fun b5 => hb ⟨b1, b2, b3, b4, b5⟩
            clear hb
            go_wp2_with fail
            go_ret
            exact ⟨rfl, Below.refl _ _⟩
          · clear hb
            go_wp2_with fail
            go_ret
            exact ⟨rfl, Below.refl _ _⟩
        · clear hb
          go_wp2_with fail
          go_ret
          exact ⟨rfl, Below.refl _ _⟩
      · clear hb
        go_wp2_with fail
        go_ret
        exact ⟨rfl, Below.refl _ _⟩
    · clear hb
      go_wp2_with fail
      go_ret
      exact ⟨rfl, Below.refl _ _⟩

/-- the cells of a row that is the source of an append -/
theorem src_cells {w : World} {a : Option Addr} {l : List Int} (h : At w a l.length (fun i => Value.int .i32 (l[i]?.getD 0))) : ∀ ad, a = some ad → ∀ j u, (l.map (Value.int .i32))[j]? = some u → w.cell? (ad.add j) = some u := fun ad had j u hu => by
  have hj : j < l.length := by simpa using (List.getElem?_eq_some_iff.1 hu).1
  obtain ⟨b, off, e, hc⟩ := h (by omega)
  obtain rfl : (⟨b, off, none⟩ : Addr) = ad := by rw [e] at had; exact Option.some.inj had
  have h1 := hc j hj
  rw [Addr.add_lit, h1]
  simp [hj] at hu
  simp [hj, hu]

theorem con_law (T : List ByteArray) (R A D C : List Int) : conSt T R A D C 3 =
    ((T ++ kept strOfNums (pieces byt R (A ++ D))) ++ kept strOfNums ((pieces byt [] C).dropLast), (pieces byt [] C)[(pieces byt [] C).length - 1]?.getD []) := by
  show readLit strOfNums byt C (endRun strOfNums (readLit strOfNums byt D (readLit strOfNums byt A T R).1 (readLit strOfNums byt A T R).2).1 (readLit strOfNums byt D (readLit strOfNums byt A T R).1 (readLit strOfNums byt A T R).2).2) [] = _
  rw [← readLit_append, readLit_end, readLit_law]

set_option maxHeartbeats 8000000 in
set_option maxRecDepth 100000 in
theorem con_main (a : Option Addr) (n c : Nat) (ss : Nat → ByteArray) (aR : Option Addr) (mR cR : Nat) (fR : Nat → Int) (aA : Option Addr) (mA cA : Nat) (fA : Nat → Int) (aD : Option Addr) (mD cD : Nat) (fD : Nat → Int) (aC : Option Addr) (mC cC : Nat) (fC : Nat → Int) (w : World) (hs : At w a n (fun i => Value.string (ss i))) (hss : ∀ i, (ss i).size ≤ 9223372036854775807)
    (hR : At w aR mR (fun i => Value.int .u8 (fR i))) (hA : At w aA mA (fun i => Value.int .i32 (fA i))) (hD : At w aD mD (fun i => Value.int .i32 (fD i))) (hC : At w aC mC (fun i => Value.int .i32 (fC i))) (h1 : n ≤ 65536) (h2 : mR ≤ 1048576) (h3 : mA ≤ 262144) (h4 : mD ≤ 262144) (h5 : mC ≤ 262144) :
    Calls Try.prog 4 #[.slice a n c, .slice aR mR cR, .slice aA mA cA, .slice aD mD cD, .slice aC mC cC] w fun e w' => e = .returned (.bool true) ∧ Below w.heap.size w w' := by
  obtain ⟨i9, hi, hz0, hz1, hz2⟩ := info_parts Try.info9
  obtain ⟨i21, ji, jz0, jz1, jz2⟩ := info_parts Try.info21
  have HS : Hid (At w a n (fun i => Value.string (ss i))) := hs
  have HR : Hid (At w aR mR (fun i => Value.int .u8 (fR i))) := hR
  have HA : Hid (At w aA mA (fun i => Value.int .i32 (fA i))) := hA
  have HD : Hid (At w aD mD (fun i => Value.int .i32 (fD i))) := hD
  have HC : Hid (At w aC mC (fun i => Value.int .i32 (fC i))) := hC
  clear hR hA hD hC
  go_enter Try.func4, Try.ntmps4
  go_wp2_with fail
  refine (bound15_any a n c ss aR mR cR aA mA cA aD mD cD aC mC cC _ hs hss (by omega) (by omega) (by omega) (by omega) (by omega)).mono ?_
  rintro e w' ⟨⟨t, rfl, ht⟩, rfl⟩
  clear hs hss
  cases t
  · clear ht
    go_wp2_with fail
    go_ret
    exact ⟨rfl, Below.refl _ _⟩
  have HT : Hid (∀ i, i < n → (ss i).size ≤ 1048576) := ht rfl
  clear ht
  go_wp2_with fail
  go_loop [11, 12] (fun z i => ∃ (k : Nat) (t : Int), k ≤ n ∧ i = .int .i64 k ∧ z = .int .i64 t ∧ 0 ≤ t ∧ t ≤ 8388608) (fun _ i => n - (intOf i).toNat)
  case atStart => exact ⟨0, 16 * (n : Int) + mR + 4 * ((mA : Int) + mD + mC), Nat.zero_le _, rfl, rfl, by omega, by omega⟩
  case round =>
    obtain ⟨k, t, hk, rfl, rfl, ht0, ht1⟩ := hrel
    by_cases hlt : k < n
    · obtain ⟨b, off, rfl, hc⟩ := HS.out (by omega)
      have hcell : w.cell? ⟨b, off + k, none⟩ = some (.string (ss k)) := hc k hlt
      have hsz := HT.out k hlt
      clear hc
      generalize ss k = y at hcell hsz
      by_cases hb2 : t + y.size ≤ 1048576
      · go_wp2_with fail
        go_round
        case rel => exact ⟨k + 1, t + y.size, by omega, by go_num, rfl, by omega, by omega⟩
        case measure => simp [intOf]; omega
      · go_wp2_with fail
        go_ret
        exact ⟨rfl, Below.refl _ _⟩
    · by_cases hb3 : t ≤ 1048576
      · clear hk ht0 ht1
        go_wp2_with fail
        refine (cloneStrs_any a n c ss _ (by omega) HS.out).mono ?_
        rintro e w1 ⟨tv, rfl, ot, b1⟩
        go_wp2_with fail
        refine (cloneBytes_any aR mR cR fR _ (by omega) (HR.out.keeps b1)).mono ?_
        rintro e w2 ⟨rv, rfl, orr, b2⟩
        have b12 := Below.step b1 b2
        go_wp2_with fail
        refine (cloneRunes_any aA mA cA fA _ (by omega) (HA.out.keeps b12)).mono ?_
        rintro e w3 ⟨av, rfl, oa, b3⟩
        have b13 := Below.step b12 b3
        go_wp2_with fail
        refine (cloneRunes_any aD mD cD fD _ (by omega) (HD.out.keeps b13)).mono ?_
        rintro e w4 ⟨dv, rfl, od, b4⟩
        have b14 := Below.step b13 b4
        go_wp2_with fail
        refine (cloneRunes_any aC mC cC fC _ (by omega) (HC.out.keeps b14)).mono ?_
        rintro e w5 ⟨cv, rfl, oc, b5⟩
        have b15 := Below.step b14 b5
        have ot := own_lst ot
        have orr := own_lst orr
        have oa := own_lst oa
        have od := own_lst od
        have oc := own_lst oc
        have e1 : (lst n ss).length = n := lst_length n ss
        have e2 : (lst mR fR).length = mR := lst_length mR fR
        have e3 : (lst mA fA).length = mA := lst_length mA fA
        have e4 : (lst mD fD).length = mD := lst_length mD fD
        have e5 : (lst mC fC).length = mC := lst_length mC fC
        generalize lst n ss = T at *
        generalize lst mR fR = R at *
        generalize lst mA fA = A at *
        generalize lst mD fD = D at *
        generalize lst mC fC = C at *
        have bT : T.length ≤ 65536 := by omega
        have bR : R.length ≤ 1048576 := by omega
        have bA : A.length ≤ 262144 := by omega
        have bD : D.length ≤ 262144 := by omega
        have bC : C.length ≤ 262144 := by omega
        clear e1 e2 e3 e4 e5 h1 h2 h3 h4 h5 hb3 hlt
        have ot5 := own_below ot (Below.step (Below.step (Below.step b2 b3) b4) b5) (Nat.le_refl _)
        have or5 := own_up (own_below orr (Below.step (Below.step b3 b4) b5) (Nat.le_refl _)) b1.size
        have oa5 := own_up (own_below oa (Below.step b4 b5) (Nat.le_refl _)) b12.size
        have od5 := own_up (own_below od b5 (Nat.le_refl _)) b13.size
        have oc5 := own_up oc b14.size
        have ltR : Hid (∀ k, rv.ownBlock = some k → w.heap.size ≤ k ∧ k < w5.heap.size) := fun k hk => or5.lt k hk
        have ltT : Hid (∀ k, tv.ownBlock = some k → w.heap.size ≤ k ∧ k < w5.heap.size) := fun k hk => ot5.lt k hk
        clear ot orr oa od oc b1 b2 b3 b4 b5 b12 b13 b14
        obtain ⟨ra, rc, rfl, atR, noR⟩ := own_read 0 or5
        obtain ⟨aa, ac, rfl, atA, noA⟩ := own_read 0 oa5
        obtain ⟨da, dc, rfl, atD, noD⟩ := own_read 0 od5
        obtain ⟨ca, cc, rfl, atC, noC⟩ := own_read 0 oc5
        obtain ⟨ta, tc, rfl, atT, noT⟩ := own_read ByteArray.empty ot5
        clear noT noC
        have HAR : Hid _ := atR
        have HAA : Hid _ := atA
        have HAD : Hid _ := atD
        have HAC : Hid _ := atC
        have HAT : Hid _ := atT
        have HNR : Hid _ := noR
        have HNA : Hid _ := noA
        have HND : Hid _ := noD
        have HOT : Hid _ := ot5
        have HOR : Hid _ := or5
        have HOA : Hid _ := oa5
        have HOD : Hid _ := od5
        have HOC : Hid _ := oc5
        clear atR atA atD atC atT noR noA noD ot5 or5 oa5 od5 oc5 HS HR HA HD HC HT
        go_wp2_with (at_make; refine wpList_make_own _ rfl _ _ 24 rfl w5.heap.size 21 i21 (.int .i32 0) 1 Try.underlying24 ji jz0 jz1 _ _ _ (A.length + D.length) rfl rfl (by omega) (by rw [jz2]; omega) (by unfold maxLen; omega) (Nat.le_refl _) ?_)
        intro w6 os6 g6
        have b6 : Below w5.heap.size w5 w6 := (Below.refl _ _).grown g6 (Nat.le_refl _) (fun k h => by cases h)
        have HO6 : Hid (w6.ownsRow w5.heap.size 21 1 (.slice (some ⟨w5.heap.size, 0, none⟩) 0 (A.length + D.length)) 0 []) := os6
        have HS6 : Hid _ := src_cells (At.keeps (f := fun i => Value.int .i32 (A[i]?.getD 0)) HAA.out b6)
        have hs6 := b6.size
        clear os6 g6
        go_wp2_with (at_builtin; refine wpList_append_src _ rfl (.tmp 101) (.tmp 102) 24 rfl w5.heap.size 21 i21 (.int .i32 0) 1 4 Try.underlying24 ji jz0 jz1 jz2 rfl (by decide) _ 0 [] rfl (by exact HO6.out) aa A.length ac (A.map (Value.int .i32)) rfl (by simp) (by exact HNA.out) (by exact HS6.out) (ints_oneCell _ _) (by unfold maxLen; omega) (by omega) hs6 ?next7)
        case next7 =>
          intro sv7 w7 os7 g7
          have b7 : Below w5.heap.size w5 w7 := b6.grown g7 b6.size (fun k h => (World.ownsRow.lt HO6.out k h).1)
          have HO7 : Hid (w7.ownsRow w5.heap.size 21 1 sv7 A.length (A.map (Value.int .i32))) := by unfold Hid; simpa using os7
          have HS7 : Hid _ := src_cells (At.keeps (f := fun i => Value.int .i32 (D[i]?.getD 0)) HAD.out b7)
          have hs7 := b7.size
          clear os7 g7 HO6 HS6 hs6 b6
          go_wp2_with (at_builtin; refine wpList_append_src _ rfl (.tmp 104) (.tmp 105) 24 rfl w5.heap.size 21 i21 (.int .i32 0) 1 4 Try.underlying24 ji jz0 jz1 jz2 rfl (by decide) _ A.length (A.map (Value.int .i32)) rfl (by exact HO7.out) da D.length dc (D.map (Value.int .i32)) rfl (by simp) (by exact HND.out) (by exact HS7.out) (ints_oneCell _ _) (by unfold maxLen; omega) (by omega) hs7 ?next8)
          case next8 =>
            intro sv8 w8 os8 g8
            have b8 : Below w5.heap.size w5 w8 := b7.grown g8 b7.size (fun k h => (World.ownsRow.lt HO7.out k h).1)
            have os8' : w8.ownsRow w5.heap.size 21 1 sv8 (A ++ D).length ((A ++ D).map (Value.int .i32)) := by rw [List.length_append, List.map_append]; exact os8
            have bS : (A ++ D).length ≤ 524288 := by rw [List.length_append]; omega
            have HLaw : Hid _ := con_law T R A D C
            clear os8 g8 HO7 HS7 hs7 b7 HAA HAD HNA HND
            generalize A ++ D = S at *
            obtain ⟨sa, sc, rfl, atS, noS⟩ := own_read 0 os8'
            have HAS : Hid _ := atS
            clear atS noS os8'
            go_wp2_with fail
            refine (held_any ra R.length rc R sa S.length sc S _ rfl rfl (by omega) (by omega) HNR.out (At.keeps (f := fun i => Value.int .u8 (R[i]?.getD 0)) HAR.out b8) HAS.out).mono ?_
            rintro e w9 ⟨gp, pvs, rfl, pl, prow, peach, b9⟩
            have P9 : PiecesIn w8.heap.size w9 gp pvs (pieces byt R S) := ⟨pl, prow, peach⟩
            have b59 := Below.step b8 b9
            have hm1 : 1 ≤ (pieces byt R S).length := by rw [pieces_length byt S R 0]; omega
            have hm2 : (pieces byt R S).length ≤ 524289 := by rw [pieces_length byt S R 0]; have := cutsAt_length S 0; omega
            clear pl prow peach HAR HNR HAS
            generalize pieces byt R S = Z at *
            go_wp2_with fail
            refine (held_any none 0 0 [] ca C.length cc C _ rfl rfl (by omega) (by omega) (fun _ => ⟨rfl, rfl⟩) (fun h => absurd h (Nat.lt_irrefl 0)) (At.keeps (f := fun i => Value.int .i32 (C[i]?.getD 0)) HAC.out b59)).mono ?_
            rintro e w10 ⟨gq, qvs, rfl, ql, qrow, qeach, b10⟩
            have Q10 : Hid (PiecesIn w9.heap.size w10 gq qvs (pieces byt [] C)) := ⟨ql, qrow, qeach⟩
            have P10 : Hid (PiecesIn w8.heap.size w10 gp pvs Z) := P9.below b10 (Nat.le_refl _)
            have b50 := Below.step b59 b10
            have hq1 : 1 ≤ (pieces byt [] C).length := by rw [pieces_length byt C [] 0]; omega
            have hq2 : (pieces byt [] C).length ≤ 262145 := by rw [pieces_length byt C [] 0]; have := cutsAt_length C 0; omega
            clear ql qrow qeach HAC P9
            generalize pieces byt [] C = Y at *
            go_wp2_with fail
            refine (cloneStrs_any ta T.length tc (fun i => T[i]?.getD ByteArray.empty) _ (by omega) (At.keeps (f := fun i => Value.string (T[i]?.getD ByteArray.empty)) HAT.out b50)).mono ?_
            rintro e w11 ⟨wv, rfl, ow, b11⟩
            have ow := own_clone ow
            clear HAT
            go_wp2_with fail
            go_loopw [16, 17] (fun wv i wr => ∃ k : Nat, k ≤ Z.length ∧ i = .int .i64 k ∧ wr.ownsRow w10.heap.size 9 1 wv (T ++ kept strOfNums (Z.take k)).length ((T ++ kept strOfNums (Z.take k)).map Value.string) ∧ Below w10.heap.size w10 wr) (fun _ i _ => Z.length - (intOf i).toNat)
            case atStart => exact ⟨0, by omega, rfl, by simpa [kept] using ow, b11⟩
            case round =>
              clear ow b11
              obtain ⟨k2, hk2, rfl, ow, b11⟩ := hrel
              have P := P10.out.below b11 (Nat.le_refl _)
              have hws := b11.size
              have hkl := kept_len strOfNums (Z.take k2)
              simp only [List.length_take] at hkl
              by_cases hlt2 : k2 < Z.length
              · obtain ⟨pa, pc, hcell, ok⟩ := P.at k2 (by omega)
                have hkt := kept_take strOfNums Z k2 (by omega)
                have hcv := conv_piece ok
                clear P ok
                generalize Z[k2]?.getD [] = z at *
                by_cases hz : z = []
                · have HW : Hid (kept strOfNums (Z.take (k2 + 1)) = kept strOfNums (Z.take k2)) := by unfold Hid; rw [hkt, if_pos hz]; simp
                  clear hkt hcv
                  have hz0' : z.length ≤ 0 := by rw [hz]; simp
                  clear hz
                  go_wp2_with fail
                  go_roundw
                  case rel => exact ⟨k2 + 1, by omega, by go_num, by rw [HW.out]; exact ow, b11⟩
                  case measure => simp [intOf]; omega
                · have HW : Hid (kept strOfNums (Z.take (k2 + 1)) = kept strOfNums (Z.take k2) ++ [strOfNums z]) := by unfold Hid; rw [hkt, if_neg hz]
                  clear hkt
                  have hz0' : 0 < z.length := List.length_pos_iff.2 hz
                  clear hz
                  have HO : Hid ((wr.alloc (.cells #[.string (strOfNums z)] 9)).ownsRow w10.heap.size 9 1 u16 (T ++ kept strOfNums (Z.take k2)).length ((T ++ kept strOfNums (Z.take k2)).map Value.string)) := ow.alloc _
                  have HC : Hid (∀ j u, [Value.string (strOfNums z)][j]? = some u → (wr.alloc (.cells #[.string (strOfNums z)] 9)).cell? ((⟨wr.heap.size, 0, none⟩ : Addr).add j) = some u) := fun j u hj => by
                    match j, hj with
                    | 0, hj => simp at hj; subst hj; simp [Addr.add]
                  have hln : (T ++ kept strOfNums (Z.take k2)).length ≤ 4194304 := by rw [List.length_append]; omega
                  clear ow
                  go_wp2_with (at_builtin; refine wpList_append_own _ rfl (.tmp 126) (.tmp 132) 22 rfl w10.heap.size 9 i9 (.string ⟨#[]⟩) 1 16 Try.underlying22 hi hz0 hz1 hz2 rfl (by decide) u16 (T ++ kept strOfNums (Z.take k2)).length ((T ++ kept strOfNums (Z.take k2)).map Value.string) rfl (by exact HO.out) ⟨wr.heap.size, 0, none⟩ 1 1 [.string (strOfNums z)] rfl rfl (by exact HC.out) (by intro u hu; simp at hu; subst hu; rfl) (by unfold maxLen; omega) (by omega) (by simp; omega) ?next)
                  case next =>
                    intro v' w12 q1 q2 _
                    have ow2 : w12.ownsRow w10.heap.size 9 1 v' (T ++ kept strOfNums (Z.take (k2 + 1))).length ((T ++ kept strOfNums (Z.take (k2 + 1))).map Value.string) := by
                      rw [HW.out, ← List.append_assoc]
                      have := q1
                      simpa [Nat.add_assoc] using this
                    have b12 : Below w10.heap.size w10 w12 := (b11.alloc b11.size _).grown q2 (by simp; omega) (fun q hq => (HO.out.lt q hq).1)
                    clear q1 q2 HO HC HW hcv hcell
                    go_wp2_with fail
                    go_roundw
                    case rel => exact ⟨k2 + 1, by omega, by go_num, ow2, b12⟩
                    case measure => simp [intOf]; omega
              · rw [List.take_of_length_le (by omega)] at ow hkl
                have hTT : (T ++ kept strOfNums Z).length ≤ 1048576 := by rw [List.length_append]; have := kept_len strOfNums Z; omega
                clear hkl hk2 P P10
                generalize T ++ kept strOfNums Z = U at *
                go_wp2_with fail
                go_loopw [16, 18] (fun wv i wx => ∃ k : Nat, k + 1 ≤ Y.length ∧ i = .int .i64 k ∧ wx.ownsRow w10.heap.size 9 1 wv (U ++ kept strOfNums (Y.take k)).length ((U ++ kept strOfNums (Y.take k)).map Value.string) ∧ Below w10.heap.size w10 wx) (fun _ i _ => Y.length - (intOf i).toNat)
                case atStart => exact ⟨0, by omega, rfl, by simpa [kept] using ow, b11⟩
                case round =>
                  clear ow b11 hws
                  obtain ⟨k3, hk3, rfl, ow, b11⟩ := hrel
                  have P := Q10.out.below b11 (Nat.le_refl _)
                  have hws := b11.size
                  have hkl := kept_len strOfNums (Y.take k3)
                  simp only [List.length_take] at hkl
                  by_cases hlt3 : k3 + 1 < Y.length
                  · obtain ⟨pa, pc, hcell, ok⟩ := P.at k3 (by omega)
                    have hkt := kept_take strOfNums Y k3 (by omega)
                    have hcv := conv_piece ok
                    clear P ok
                    generalize Y[k3]?.getD [] = z at *
                    by_cases hz : z = []
                    · have HW : Hid (kept strOfNums (Y.take (k3 + 1)) = kept strOfNums (Y.take k3)) := by unfold Hid; rw [hkt, if_pos hz]; simp
                      clear hkt hcv
                      have hz0' : z.length ≤ 0 := by rw [hz]; simp
                      clear hz
                      go_wp2_with fail
                      go_roundw
                      case rel => exact ⟨k3 + 1, by omega, by go_num, by rw [HW.out]; exact ow, b11⟩
                      case measure => simp [intOf]; omega
                    · have HW : Hid (kept strOfNums (Y.take (k3 + 1)) = kept strOfNums (Y.take k3) ++ [strOfNums z]) := by unfold Hid; rw [hkt, if_neg hz]
                      clear hkt
                      have hz0' : 0 < z.length := List.length_pos_iff.2 hz
                      clear hz
                      have HO : Hid ((wr.alloc (.cells #[.string (strOfNums z)] 9)).ownsRow w10.heap.size 9 1 u16 (U ++ kept strOfNums (Y.take k3)).length ((U ++ kept strOfNums (Y.take k3)).map Value.string)) := ow.alloc _
                      have HC : Hid (∀ j u, [Value.string (strOfNums z)][j]? = some u → (wr.alloc (.cells #[.string (strOfNums z)] 9)).cell? ((⟨wr.heap.size, 0, none⟩ : Addr).add j) = some u) := fun j u hj => by
                        match j, hj with
                        | 0, hj => simp at hj; subst hj; simp [Addr.add]
                      have hln : (U ++ kept strOfNums (Y.take k3)).length ≤ 4194304 := by rw [List.length_append]; omega
                      clear ow
                      go_wp2_with (at_builtin; refine wpList_append_own _ rfl (.tmp 147) (.tmp 153) 22 rfl w10.heap.size 9 i9 (.string ⟨#[]⟩) 1 16 Try.underlying22 hi hz0 hz1 hz2 rfl (by decide) u16 (U ++ kept strOfNums (Y.take k3)).length ((U ++ kept strOfNums (Y.take k3)).map Value.string) rfl (by exact HO.out) ⟨wr.heap.size, 0, none⟩ 1 1 [.string (strOfNums z)] rfl rfl (by exact HC.out) (by intro u hu; simp at hu; subst hu; rfl) (by unfold maxLen; omega) (by omega) (by simp; omega) ?next)
                      case next =>
                        intro v' w12 q1 q2 _
                        have ow2 : w12.ownsRow w10.heap.size 9 1 v' (U ++ kept strOfNums (Y.take (k3 + 1))).length ((U ++ kept strOfNums (Y.take (k3 + 1))).map Value.string) := by
                          rw [HW.out, ← List.append_assoc]
                          have := q1
                          simpa [Nat.add_assoc] using this
                        have b12 : Below w10.heap.size w10 w12 := (b11.alloc b11.size _).grown q2 (by simp; omega) (fun q hq => (HO.out.lt q hq).1)
                        clear q1 q2 HO HC HW hcv hcell
                        go_wp2_with fail
                        go_roundw
                        case rel => exact ⟨k3 + 1, by omega, by go_num, ow2, b12⟩
                        case measure => simp [intOf]; omega
                  · have hke : k3 = Y.length - 1 := by omega
                    have HK : Hid (kept strOfNums (Y.take k3) = kept strOfNums Y.dropLast) := by unfold Hid; rw [hke, ← List.dropLast_eq_take]
                    clear hke
                    obtain ⟨pa, pc, hcell, ok⟩ := P.at (Y.length - 1) (by omega)
                    rw [HK.out] at ow
                    have b5r : Below w5.heap.size w5 wr := b50.trans (b11.mono b50.size)
                    have fT := own_below HOT.out b5r (Nat.le_refl _)
                    have fR2 := own_below HOR.out b5r (Nat.le_refl _)
                    have fA2 := own_below HOA.out b5r (Nat.le_refl _)
                    have fD2 := own_below HOD.out b5r (Nat.le_refl _)
                    have fC2 := own_below HOC.out b5r (Nat.le_refl _)
                    have hB : w.heap.size ≤ wr.heap.size := Nat.le_trans b15.size b5r.size
                    have HRD : Hid _ := readConcat_any w.heap.size _ _ _ _ _ T R A D C wr fT fR2 fA2 fD2 fC2 (by omega) (by omega) (by omega) (by omega) (by omega) hB
                    have HOW : Hid _ := ow
                    have HOK : Hid _ := ok
                    have hb9 := b59.size
                    have hb10 := b50.size
                    have B0 : Below w.heap.size w wr := b15.trans (b5r.mono b15.size)
                    clear fT fR2 fA2 fD2 fC2 HOT HOR HOA HOD HOC P ow ok b5r HK hkl Q10
                    go_wp2_with fail
                    refine Calls.mono HRD.out ?_
                    rintro e w13 ⟨tv', rv', rfl, gt, gr, ga⟩
                    rw [HLaw.out] at gt gr
                    have B7 : Below w.heap.size w w13 := B0.trans (ga.below hB (fun j e => by
                      rcases e with e | e
                      · exact (ltT.out j e.symm).1
                      · exact (ltR.out j e.symm).1))
                    have ow7 := own_alt HOW.out ga (fun j hj e => by
                      have h0 := (World.ownsRow.lt HOW.out j hj).1
                      rcases e with e | e
                      · have := (ltT.out j e.symm).2; omega
                      · have := (ltR.out j e.symm).2; omega)
                    have ok7 := own_alt HOK.out ga (fun j hj e => by
                      have h0 := (World.ownsRow.lt HOK.out j hj).1
                      rcases e with e | e
                      · have := (ltT.out j e.symm).2; omega
                      · have := (ltR.out j e.symm).2; omega)
                    clear HRD HOW HOK HLaw ga B0 hcell
                    obtain ⟨wa, wc, rfl, atW, -⟩ := own_read ByteArray.empty ow7
                    obtain ⟨ga', gc', rfl, atG, -⟩ := own_read ByteArray.empty gt
                    obtain ⟨ha', hc', rfl, atH, -⟩ := own_read 0 gr
                    obtain ⟨ka, kc, ek, atK, -⟩ := own_read 0 ok7
                    obtain ⟨rfl, rfl⟩ : pa = ka ∧ pc = kc := by simpa using ek
                    have hlT : (U ++ kept strOfNums Y.dropLast).length ≤ 9223372036854775807 := by
                      have := kept_len strOfNums Y.dropLast
                      simp at this ⊢
                      omega
                    have hlR : (Y[Y.length - 1]?.getD []).length ≤ 9223372036854775807 := by
                      rcases ok7.2 with ⟨_, h⟩ | ⟨_, _, _, _, _, _, hn1, hn2, _⟩
                      · omega
                      · unfold maxLen at hn2; omega
                    clear ow7 ok7 gt gr ek
                    have HW1 : Hid _ := atW
                    have HW2 : Hid _ := atG
                    have HW3 : Hid _ := atH
                    have HW4 : Hid _ := atK
                    clear atW atG atH atK
                    generalize U ++ kept strOfNums Y.dropLast = TT at *
                    generalize Y[Y.length - 1]?.getD [] = RR at *
                    go_wp2_with fail
                    refine (sameStrs_yes ga' wa TT.length gc' wc (fun i => TT[i]?.getD ByteArray.empty) _ hlT HW2.out HW1.out).mono ?_
                    rintro e w14 ⟨rfl, q, rfl⟩
                    go_wp2_with fail
                    refine (sameBytes_yes ha' pa RR.length hc' pc (fun i => RR[i]?.getD 0) _ hlR (by exact HW3.out) (by exact HW4.out)).mono ?_
                    rintro e w15 ⟨rfl, q2, rfl⟩
                    go_wp2_with fail
                    go_ret
                    exact ⟨rfl, below_drewN B7 _⟩
      · go_wp2_with fail
        go_ret
        exact ⟨rfl, Below.refl _ _⟩
end Go.Proofs.Qxb6605601a
