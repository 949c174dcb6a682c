import Derived.Test.Qxb6614383aSwaps1
namespace Go.Proofs.Qxb6614383a
open Go.RowKit
set_option linter.unusedVariables false

theorem own_cell2 {w : World} {base : Nat} {e : TypeId} {g n cap : Nat} {xs : List Value} (h : w.ownsRow base e 1 (.slice (some ⟨g, 0, none⟩) n cap) n xs) (j : Nat) (hj : j < n) : ∃ u, w.cell? ⟨g, j, none⟩ = some u := by
  have h1 := h.1
  exact ⟨xs[j]'(by omega), (h.cellAt j (by omega)).trans (List.getElem?_eq_getElem _)⟩

theorem cell_set_some {w : World} {p q : Addr} {x v : Value} (h : w.cell? q = some v) : ∃ v', (w.setCell p x).cell? q = some v' := by
  by_cases e : p = q
  · subst e; exact ⟨x, World.cell?_setCell_same w p x h⟩
  · exact ⟨v, (World.cell?_setCell_other w p q x e).trans h⟩

set_option maxHeartbeats 4000000 in
set_option maxRecDepth 1000000 in
theorem swaps_main (a : Option Addr) (n c : Nat) (ss : Nat → ByteArray) (aI : Option Addr) (m cI : Nat) (fI : Nat → Int) (aJ : Option Addr) (cJ : Nat) (fJ : Nat → Int) (x : ByteArray) (w : World) (hs : StrsAt w a n ss) (hss : ∀ i, (ss i).size ≤ 9223372036854775807)
    (hI : IntsAt w aI m fI) (hJ : IntsAt w aJ m fJ) (h1 : n ≤ 4096) (h2 : m ≤ 65536) (h4 : x.size ≤ 1048576) (h5 : 8 * m + 8 * m + x.size ≤ 1048576) :
    Calls Try.prog 6 #[.slice a n c, .slice aI m cI, .slice aJ m cJ, .string x] w fun e w' => e = .returned (.bool true) ∧ Below w.heap.size w w' := by
  obtain ⟨i0', hi, hz0, hz1, hz2⟩ := info_parts Try.info35
  obtain ⟨i3, ji, jz0, jz1, jz2⟩ := info_parts Try.info3
  have HS : Hid (StrsAt w a n ss) := hs
  have HI : Hid (IntsAt w aI m fI) := hI
  have HJ : Hid (IntsAt w aJ m fJ) := hJ
  have h5' : 8 * (m : Int) + 8 * (m : Int) + (x.size : Int) ≤ 1048576 := by omega
  clear hI hJ
  go_enter Try.func6, Try.ntmps6
  go_wp2_with fail
  refine (bytes22_any a n c ss aI m cI aJ m cJ x _ hs hss (by omega) (by omega) (by omega) (by omega)).mono ?_
  rintro e w' ⟨⟨t, rfl, ht⟩, rfl⟩
  clear hs hss
  cases t
  · clear ht
    go_wp2
    go_ret
    exact ⟨rfl, Below.refl _ _⟩
  have HT : Hid (∀ i, i < n → (ss i).size ≤ 1048576) := ht rfl
  clear ht
  go_wp2_with fail
  go_loop [9, 10] (fun z i => ∃ (k : Nat) (t : Int), k ≤ n ∧ i = .int .i64 k ∧ z = .int .i64 t ∧ 0 ≤ t ∧ t ≤ 1048576) (fun _ i => n - (intOf i).toNat)
  case atStart => exact ⟨0, 8 * (m : Int) + 8 * (m : Int) + (x.size : Int), Nat.zero_le _, rfl, rfl, by omega, by omega⟩
  case round =>
    obtain ⟨k, t, hk, rfl, rfl, ht0, ht1⟩ := hrel
    by_cases hlt : k < n
    · --R1
      obtain ⟨b, off, rfl, hc⟩ := HS.out (by omega)
      have hcell := hc k hlt
      have hsz := HT.out k hlt
      clear hc
      generalize ss k = y at hcell hsz
      by_cases hb2 : t + (16 + y.size) ≤ 1048576
      · go_wp2_with fail
        go_round
        case rel => exact ⟨k + 1, t + (16 + y.size), by omega, by go_num, rfl, by omega, by omega⟩
        case measure => simp [intOf]; omega
      · go_wp2_with fail
        go_ret
        exact ⟨rfl, Below.refl _ _⟩
    · clear hk ht0 ht1
      have hmq : ((m : Int) != (m : Int)) = false := by simp
      go_wp2_with fail
      clear hmq
      go_loop [12] (fun i => ∃ k : Nat, k ≤ m ∧ i = .int .i64 k ∧ Hid (∀ t, t < k → (0 ≤ fI t ∧ fI t < n) ∧ 0 ≤ fJ t ∧ fJ t < n)) (fun i => m - (intOf i).toNat)
      case atStart => exact ⟨0, Nat.zero_le _, rfl, fun t h => by omega⟩
      case round =>
        obtain ⟨k2, hk2, rfl, HR⟩ := hrel
        by_cases hlt2 : k2 < m
        · --R2
          obtain ⟨bI, oI, rfl, hcI⟩ := HI.out (by omega)
          obtain ⟨bJ, oJ, rfl, hcJ⟩ := HJ.out (by omega)
          have gI := hcI k2 hlt2
          have gJ := hcJ k2 hlt2
          clear hcI hcJ
          by_cases hok : (0 ≤ fI k2 ∧ fI k2 < n) ∧ 0 ≤ fJ k2 ∧ fJ k2 < n
          · have HR' : Hid (∀ t, t < k2 + 1 → (0 ≤ fI t ∧ fI t < n) ∧ 0 ≤ fJ t ∧ fJ t < n) := fun t h => by
              by_cases e : t = k2
              · subst e; exact hok
              · exact HR.out t (by omega)
            obtain ⟨⟨o1, o2⟩, o3, o4⟩ := hok
            generalize fI k2 = y at gI o1 o2
            generalize fJ k2 = z at gJ o3 o4
            go_wp2_with fail
            go_round
            case rel => exact ⟨k2 + 1, by omega, by go_num, HR'⟩
            case measure => simp [intOf]; omega
          · generalize fI k2 = y at gI hok
            generalize fJ k2 = z at gJ hok
            go_wp2_with fail
            all_goals (go_ret; exact ⟨rfl, Below.refl _ _⟩)
        · have HF : Hid (∀ t, t < m → (0 ≤ fI t ∧ fI t < n) ∧ 0 ≤ fJ t ∧ fJ t < n) := fun t h => HR.out t (by omega)
          clear hk2 HR
          go_wp2_with fail
          refine (newHeap_any _).mono ?_
          rintro e w1 ⟨rfl, -, rfl⟩
          go_wp2_with fail
          refine (kindList_any _).mono ?_
          rintro e w2 ⟨rfl, rfl⟩
          have I0 := Inv.start w ss
          generalize w.alloc (.cells #[.slice none 0 0, .nilFunc] 57) = W1 at *
          go_wp2_with fail
          go_loopw [14, 15] (fun ksv i wr => ∃ k3 : Nat, k3 ≤ n ∧ i = .int .i64 k3 ∧ Inv w w.heap.size ss k3 ksv wr) (fun _ i _ => n - (intOf i).toNat)
          case atStart => exact ⟨0, Nat.zero_le _, rfl, I0⟩
          case round =>
            clear I0
            obtain ⟨k3, hk3, rfl, hinv⟩ := hrel
            by_cases hlt3 : k3 < n
            · --R3
              obtain ⟨kv, ps, h1', h2', h3', h4', h5', h6', h7', h8'⟩ := hinv
              obtain ⟨b, off, rfl, hc⟩ := HS.out (by omega)
              have hbw : b < w.heap.size := World.block_lt_of_cell? w _ (hc k3 hlt3)
              have hcell : wr.cell? ⟨b, off + k3, none⟩ = some (.string (ss k3)) := (h8'.cell (p := ⟨b, off + k3, none⟩) hbw).trans (hc k3 hlt3)
              clear hc
              have HH : Hid (∀ (w2 : World) (ksv' : Value), w2.ownsRow w.heap.size 35 1 ksv' (k3 + 1) (ps.map ptr ++ [ptr wr.heap.size]) → (mid2 wr (ss k3)).grownBy w2 u14.ownBlock → (ksv'.ownBlock = u14.ownBlock ∨ ∃ g, ksv'.ownBlock = some g ∧ wr.heap.size + 2 ≤ g) →
                  Ready w w.heap.size ss k3 wr.heap.size kv ksv' ps w2) := fun w2 ksv' a1 a2 a3 => ready h1' h2' h3' h4' h5' h6' h7' h8' a1 a2 a3
              have HO : Hid ((mid2 wr (ss k3)).ownsRow w.heap.size 35 1 u14 k3 (ps.map ptr)) := own_alt h4' (mid2_alt wr (ss k3)) (fun k _ h => h)
              have hsz := h8'.size
              clear h1' h2' h3' h4' h5' h6' h7' h8'
              go_wp2_with fail
              refine (newKind_any (ss k3) _).mono ?_
              rintro e w1 ⟨rfl, -, rfl⟩
              have hc1 : ∀ j u, [ptr wr.heap.size][j]? = some u → (mid2 wr (ss k3)).cell? ((⟨wr.heap.size + 1, 0, none⟩ : Addr).add j) = some u := by
                intro j u hj
                match j, hj with
                | 0, hj => simp at hj; subst hj; exact mid2_new wr (ss k3)
              have HC1 : Hid _ := hc1
              clear hc1
              go_wp2_with (at_builtin; refine wpList_append_mine _ rfl (.tmp 134) (.tmp 136) 33 rfl w.heap.size 35 i0' (.pointer none) 1 8 Try.underlying33 hi hz0 hz1 hz2 rfl (by decide) u14 k3 (ps.map ptr) rfl (by exact HO.out) ⟨wr.heap.size + 1, 0, none⟩ 1 1 [ptr wr.heap.size] rfl rfl (by exact HC1.out) (by intro u hu; simp at hu; subst hu; rfl) (by unfold maxLen; omega) (by omega) (by simp; omega) (by decide) ?next)
              case next =>
                intro v' w2 a1 a2 a3
                have R := HH.out w2 v' a1 a2 a3
                clear HH HO HC1 a1 a2 a3 hcell
                go_wp2_with fail
                refine (zzpush_any w.heap.size wr.heap.size k3 kv _ _ (ss k3) (ps.map ptr) w.heap.size _ R.heap R.kind R.own (by omega) R.base).mono ?_
                rintro e w3 ⟨rfl, kv', p1, p2, p3, p4, p5⟩
                have I' := R.step p1 p2 p3 p4 p5
                clear R p1 p2 p3 p4 p5
                go_wp2_with fail
                go_roundw
                case rel => exact ⟨k3 + 1, by omega, by go_num, I'⟩
                case measure => simp [intOf]; omega
            · --E3
              rw [show k3 = n by omega] at hinv
              have hinv2 := hinv
              obtain ⟨kv, ps, -, hhp, hown, hlist, -⟩ := hinv2
              obtain ⟨akv, ckv, rfl⟩ := own_slice hown
              obtain ⟨aks, cks, rfl⟩ := own_slice hlist
              clear hown hlist
              have HV : Hid (Inv w w.heap.size ss n (.slice aks n cks) wr) := hinv
              clear hinv hk3
              have hnq : ((n : Int) != (n : Int)) = false := by simp
              go_wp2_with fail
              refine (heapLen_any _ akv n ckv _ hhp).mono ?_
              rintro e w4 ⟨rfl, rfl⟩
              clear hhp
              have hsz := (show Below w.heap.size w wr from by obtain ⟨_, _, _, _, _, _, _, _, _, h⟩ := HV.out; exact h).size
              go_wp2_with (at_make; refine wpList_make_full _ rfl _ _ 43 rfl w.heap.size 3 i3 (.int .i64 0) 1 Try.underlying43 ji jz0 jz1 _ _ _ _ n rfl rfl rfl rfl (by rw [jz2]; omega) (by unfold maxLen; omega) (by omega) ?_)
              intro w5 hown5 hgrow5
              have hown6 : w5.ownsRow w.heap.size 3 1 (.slice (some ⟨wr.heap.size, 0, none⟩) n n) n (List.replicate n (.int .i64 0)) := by
                have := hown5
                rw [toList_madeCells_one] at this
                simpa using this
              obtain ⟨kv, P, S0⟩ := SwH.start HV.out hown6 hgrow5
              clear hown5 hown6 hgrow5 HV hnq hsz
              generalize wr.heap.size = gp at *
              go_wp2_with fail
              go_loopw [18] (fun i wr => ∃ (k4 : Nat) (M : Nat → Nat), k4 ≤ n ∧ i = .int .i64 k4 ∧ SwH w w.heap.size n kv P P M (.slice aks n cks) (.slice (some ⟨gp, 0, none⟩) n n) wr ∧ Hid (∀ i, i < k4 → M i = i)) (fun i _ => n - (intOf i).toNat)
              case atStart => exact ⟨0, _, Nat.zero_le _, rfl, S0, fun i h => by omega⟩
              case round =>
                clear S0
                obtain ⟨k4, M, hk4, rfl, S, HM⟩ := hrel
                by_cases hlt4 : k4 < n
                · --R4
                  obtain ⟨u, hcu⟩ := own_cell2 S.perm k4 hlt4
                  have hfr := S.perm.frozenAt k4
                  have S' := S.setPerm k4 k4
                  have HM' : Hid (∀ i, i < k4 + 1 → upd M k4 k4 i = i) := fun i h => by
                    unfold upd
                    by_cases e : i = k4
                    · rw [if_pos e, e]
                    · rw [if_neg e]; exact HM.out i (by omega)
                  clear S
                  go_wp2_with fail
                  go_roundw
                  case rel => exact ⟨k4 + 1, _, by omega, by go_num, S', HM'⟩
                  case measure => simp [intOf]; omega
                · --E4
                  have L0 : Hid (∀ i, i < n → P i = P (M i) ∧ M i < n) := fun i h => by
                    have := HM.out i (by omega)
                    rw [this]; exact ⟨rfl, h⟩
                  clear HM hk4
                  go_wp2_with fail
                  generalize hPQ : P = Q at S L0
                  have S1 : SwH w w.heap.size n kv P Q M (.slice aks n cks) (.slice (some ⟨gp, 0, none⟩) n n) wr := by rw [hPQ]; exact S
                  have L1 : Hid (∀ i, i < n → P i = Q (M i) ∧ M i < n) := by rw [hPQ]; exact L0
                  clear S L0 hPQ
                  go_loopw [19] (fun i wr => ∃ (k5 : Nat) (P M : Nat → Nat), k5 ≤ m ∧ i = .int .i64 k5 ∧ SwH w w.heap.size n kv P Q M (.slice aks n cks) (.slice (some ⟨gp, 0, none⟩) n n) wr ∧ Hid (∀ i, i < n → P i = Q (M i) ∧ M i < n)) (fun i _ => m - (intOf i).toNat)
                  case atStart => exact ⟨0, _, _, Nat.zero_le _, rfl, S1, L1⟩
                  case round =>
                    clear S1 L1
                    obtain ⟨k5, P, M, hk5, rfl, S, HL⟩ := hrel
                    by_cases hlt5 : k5 < m
                    · --R5
                      obtain ⟨bI, oI, rfl, hcI⟩ := HI.out (by omega)
                      obtain ⟨bJ, oJ, rfl, hcJ⟩ := HJ.out (by omega)
                      obtain ⟨⟨f1, f2⟩, f3, f4⟩ := HF.out k5 hlt5
                      have gI : wr.cell? ⟨bI, oI + k5, none⟩ = some (.int .i64 (fI k5)) := (S.below.cell (p := ⟨bI, oI + k5, none⟩) (World.block_lt_of_cell? w _ (hcI k5 hlt5))).trans (hcI k5 hlt5)
                      have gJ : wr.cell? ⟨bJ, oJ + k5, none⟩ = some (.int .i64 (fJ k5)) := (S.below.cell (p := ⟨bJ, oJ + k5, none⟩) (World.block_lt_of_cell? w _ (hcJ k5 hlt5))).trans (hcJ k5 hlt5)
                      clear hcI hcJ
                      obtain ⟨i, hfi⟩ := Int.eq_ofNat_of_zero_le f1
                      obtain ⟨j, hfj⟩ := Int.eq_ofNat_of_zero_le f3
                      rw [hfi] at gI f2
                      rw [hfj] at gJ f4
                      clear f1 f3 hfi hfj
                      have hin : i < n := by omega
                      have hjn : j < n := by omega
                      obtain ⟨g, cap, rfl⟩ := own_form S.own (by omega)
                      go_wp2_with fail
                      refine (zzswap_any _ i j S hin hjn h1).mono ?_
                      rintro e w6 ⟨rfl, S6⟩
                      clear S gI gJ
                      have ci : w6.cell? ⟨gp, i, none⟩ = some (.int .i64 (M i)) := by rw [S6.perm.cellAt i (by omega), fRow_get _ hin]
                      have cj : w6.cell? ⟨gp, j, none⟩ = some (.int .i64 (M j)) := by rw [S6.perm.cellAt j (by omega), fRow_get _ hjn]
                      have fi := S6.perm.frozenAt i
                      have fj := S6.perm.frozenAt j
                      have S7 := (S6.setPerm i (M j)).setPerm j (M i)
                      have L7 : Hid (∀ k, k < n → swp P i j k = Q (swp M i j k) ∧ swp M i j k < n) := law_swp hin hjn HL.out
                      obtain ⟨y, hy⟩ := cell_set_some (p := ⟨gp, i, none⟩) (x := .int .i64 (M j)) cj
                      clear S6 HL
                      go_wp2_with fail
                      go_roundw
                      case rel => exact ⟨k5 + 1, _, _, by omega, by go_num, S7, L7⟩
                      case measure => simp [intOf]; omega
                    · --E5
                      clear hk5
                      go_wp2_with fail
                      have RR : Hid (∀ k, k < n → ∃ g cap g2 cap2 p, kv = .slice (some ⟨g, 0, none⟩) n cap ∧ aks = some ⟨g2, 0, none⟩ ∧ wr.cell? ⟨g, k, none⟩ = some (ptr p) ∧ wr.cell? ⟨gp, k, none⟩ = some (.int .i64 (M k)) ∧ M k < n ∧ wr.cell? ⟨g2, M k, none⟩ = some (ptr p) ∧
                          wr.cell? ⟨p, 19, none⟩ = some (.int .i64 k) ∧ wr.cell? ⟨p, 18, none⟩ = some (ptr w.heap.size)) := fun k hk => by
                        obtain ⟨g, cap, hkv⟩ := own_form S.own (by omega)
                        obtain ⟨g2, cap2, hks⟩ := own_form S.list (by omega)
                        have hks2 : aks = some ⟨g2, 0, none⟩ ∧ cks = cap2 := by simpa using hks
                        rw [hkv, hks2.1] at S
                        obtain ⟨p, r⟩ := S.reads HL.out k hk
                        exact ⟨g, cap, g2, cap2, p, hkv, hks2.1, r⟩
                      have HSS : Hid _ := S
                      have hhp := S.heap
                      have hSl := S.list
                      clear S
                      go_loop [24] (fun i => ∃ k6 : Nat, k6 ≤ n ∧ i = .int .i64 k6) (fun i => n - (intOf i).toNat)
                      case atStart => exact ⟨0, Nat.zero_le _, rfl⟩
                      case round =>
                        obtain ⟨k6, hk6, rfl⟩ := hrel
                        by_cases hlt6 : k6 < n
                        · --R6
                          obtain ⟨g, cap, g2, cap2, p, rfl, rfl, r1, r2, r3, r4, r5, r6⟩ := RR.out k6 hlt6
                          clear hSl
                          have e0 : ((k6 : Int) != (k6 : Int)) = false := by simp
                          have n35 := neq35 ⟨p, 0, none⟩
                          have n31 := neq31 ⟨w.heap.size, 0, none⟩
                          generalize M k6 = mk at r2 r3 r4
                          go_wp2_with fail
                          refine (heapKind_any w.heap.size g n cap k6 p _ hhp hlt6 r1 (by omega)).mono ?_
                          rintro e w7 ⟨rfl, rfl⟩
                          clear hhp r1
                          go_wp2_with (first | (go_at_call 19; refine (kindAt_any p _ _ r5).mono ?_; rintro e w8 ⟨rfl, rfl⟩) | (go_at_call 20; refine (kindIdle_any p _ _ r6).mono ?_; rintro e w8 ⟨rfl, rfl⟩))
                          go_round
                          case rel => exact ⟨k6 + 1, by omega, by go_num⟩
                          case measure => simp [intOf]; omega
                        · --E6
                          clear hhp hSl RR hk6
                          go_wp2_with fail
                          refine (newKind_any x _).mono ?_
                          rintro e w7 ⟨rfl, hkx, rfl⟩
                          have S8 := HSS.out.alloc (.cells (kst x (.pointer none) 0) 89)
                          have hpx : Hid (∀ i, i < n → P i ≠ wr.heap.size) := fun i hi => by
                            obtain ⟨⟨s, ks⟩, -⟩ := HSS.out.kinds i hi
                            exact Nat.ne_of_lt (lt_of_heap ks)
                          have hge := HSS.out.below.size
                          clear HSS
                          generalize wr.heap.size = px at *
                          generalize wr.alloc (.cells (kst x (.pointer none) 0) 89) = w8 at *
                          go_wp2_with fail
                          refine (zzpush_any w.heap.size px n kv _ _ x (fRow n (fun i => ptr (P i))) w.heap.size _ S8.heap hkx S8.own (by omega) S8.below.size).mono ?_
                          rintro e w9 ⟨rfl, kv', p1, p2, p3, p4, p5⟩
                          obtain ⟨g', cap', rfl, F⟩ := S8.push hkx hpx.out hge p1 p2 p3 p5
                          clear S8 hkx hpx hge p1 p2 p3 p4 p5
                          have hq1 : (((n + 1 : Nat) : Int) != (n : Int) + 1) = false := by rw [bne_eq_false_iff_eq]; omega
                          have hq2 : ((n : Int) + 1 != (n : Int) + 1) = false := by simp
                          have hq3 : ((n : Int) != (n : Int)) = false := by simp
                          go_wp2_with fail
                          refine (heapLen_any _ _ (n + 1) cap' _ F.heap).mono ?_
                          rintro e w10 ⟨rfl, rfl⟩
                          have n35 := neq35 ⟨px, 0, none⟩
                          have n31 := neq31 ⟨w.heap.size, 0, none⟩
                          have e1 : (!(x.toList == x.toList)) = false := by simp
                          have HFF : Hid _ := F
                          clear F
                          go_wp2_with fail
                          refine (heapKind_any w.heap.size g' (n + 1) cap' n px _ HFF.out.heap (by omega) HFF.out.last (by omega)).mono ?_
                          rintro e w11 ⟨rfl, rfl⟩
                          go_wp2_with fail
                          refine (kindAt_any px _ _ HFF.out.kx.at).mono ?_
                          rintro e w11 ⟨rfl, rfl⟩
                          go_wp2_with fail
                          refine (kindIdle_any px _ _ HFF.out.kx.idle).mono ?_
                          rintro e w11 ⟨rfl, rfl⟩
                          go_wp2_with fail
                          refine (kindName_any px _ _ HFF.out.kx.name).mono ?_
                          rintro e w11 ⟨rfl, rfl⟩
                          go_wp2_with fail
                          clear n35 hq1 hq2 hq3 e1
                          go_loop [27] (fun i => ∃ k7 : Nat, k7 ≤ n ∧ i = .int .i64 k7) (fun i => n - (intOf i).toNat)
                          case atStart => exact ⟨0, Nat.zero_le _, rfl⟩
                          case round =>
                            obtain ⟨k7, hk7, rfl⟩ := hrel
                            by_cases hlt7 : k7 < n
                            · --R7
                              obtain ⟨g2, cap2, hks⟩ := own_form HFF.out.list (by omega)
                              obtain ⟨rfl, -⟩ : aks = some ⟨g2, 0, none⟩ ∧ cks = cap2 := by simpa using hks
                              obtain ⟨p, r1, r2, r3, r4, r5, r6⟩ := HFF.out.reads HL.out k7 hlt7
                              have hhp := HFF.out.heap
                              clear HFF hks
                              have e0 : ((k7 : Int) != (k7 : Int)) = false := by simp
                              have n35 := neq35 ⟨p, 0, none⟩
                              generalize M k7 = mk at r2 r3 r4
                              go_wp2_with fail
                              refine (heapKind_any w.heap.size g' (n + 1) cap' k7 p _ hhp (by omega) r1 (by omega)).mono ?_
                              rintro e w12 ⟨rfl, rfl⟩
                              clear hhp r1
                              go_wp2_with (first | (go_at_call 19; refine (kindAt_any p _ _ r5).mono ?_; rintro e w13 ⟨rfl, rfl⟩))
                              go_round
                              case rel => exact ⟨k7 + 1, by omega, by go_num⟩
                              case measure => simp [intOf]; omega
                            · go_wp2_with fail
                              go_ret
                              exact ⟨rfl, HFF.out.below⟩
end Go.Proofs.Qxb6614383a
