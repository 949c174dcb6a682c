import Derived.Test.Qxb6614383aOrder
namespace Go.Proofs.Qxb6614383a
open Go.RowKit
set_option linter.unusedVariables false

set_option maxHeartbeats 1000000 in
set_option maxRecDepth 100000 in
theorem order_main (b off n c : Nat) (ss : Nat → ByteArray) (w : World) (hn0 : 0 < n) (hn : n ≤ 4096) (hss : ∀ i, (ss i).size ≤ 9223372036854775807)
    (hc : ∀ i, i < n → w.cell? ⟨b, off + i, none⟩ = some (.string (ss i))) :
    Calls Try.prog 5 #[.slice (some ⟨b, off, none⟩) n c] w fun e w' => e = .returned (.bool true) ∧ Below w.heap.size w w' := by
  obtain ⟨i0', hi, hz0, hz1, hz2⟩ := info_parts Try.info35
  have hbw : b < w.heap.size := World.block_lt_of_cell? w _ (hc 0 hn0)
  have HC : Hid (∀ i, i < n → w.cell? ⟨b, off + i, none⟩ = some (.string (ss i))) := hc
  go_enter Try.func5, Try.ntmps5
  go_wp2_with fail
  refine (bytes12_any _ n c ss _ (fun _ => ⟨b, off, rfl, hc⟩) hss (by omega)).mono ?_
  rintro e w' ⟨⟨t, rfl, ht⟩, rfl⟩
  clear hc hss
  cases t
  · clear ht
    go_wp2
    go_ret
    exact ⟨rfl, Below.refl _ _⟩
  have HT : Hid (∀ i, i < n → (ss i).size ≤ 1048576) := ht rfl
  clear ht
  go_wp2_with fail
  go_loop [3, 4] (fun z i => ∃ (k : Nat) (t : Int), k ≤ n ∧ i = .int .i64 k ∧ z = .int .i64 t ∧ 0 ≤ t ∧ t ≤ 1048576) (fun _ i => n - (intOf i).toNat)
  case atStart => exact ⟨0, 0, Nat.zero_le _, rfl, rfl, by omega, by omega⟩
  case round =>
    obtain ⟨k, t, hk, rfl, rfl, ht0, ht1⟩ := hrel
    by_cases hlt : k < n
    · have hcell := HC.out k hlt
      have hsz := HT.out k hlt
      generalize ss k = x at hcell hsz
      by_cases hb2 : t + (16 + x.size) ≤ 1048576
      · go_wp2_with fail
        go_round
        case rel => exact ⟨k + 1, t + (16 + x.size), by omega, by go_num, rfl, by omega, by omega⟩
        case measure => simp [intOf]; omega
      · go_wp2_with fail
        go_ret
        exact ⟨rfl, Below.refl _ _⟩
    · go_wp2_with fail
      refine (newHeap_any _).mono ?_
      rintro e w1 ⟨rfl, -, rfl⟩
      go_wp2_with fail
      refine (kindList_any _).mono ?_
      rintro e w2 ⟨rfl, rfl⟩
      have I0 := Inv.start w ss
      generalize w.alloc (.cells #[.slice none 0 0, .nilFunc] 57) = W1 at *
      go_wp2_with fail
      clear hk ht0 ht1 hlt
      go_loopw [6, 7] (fun ksv i wr => ∃ k2 : Nat, k2 ≤ n ∧ i = .int .i64 k2 ∧ Inv w w.heap.size ss k2 ksv wr) (fun _ i _ => n - (intOf i).toNat)
      case atStart => exact ⟨0, Nat.zero_le _, rfl, I0⟩
      case round =>
        clear I0
        obtain ⟨k2, hk2, rfl, hinv⟩ := hrel
        by_cases hlt : k2 < n
        · obtain ⟨kv, ps, h1, h2, h3, h4, h5, h6, h7, h8⟩ := hinv
          have hcell : wr.cell? ⟨b, off + k2, none⟩ = some (.string (ss k2)) := (h8.cell (p := ⟨b, off + k2, none⟩) hbw).trans (HC.out k2 hlt)
          have hq : (((k2 + 1 : Nat) : Int) != (k2 : Int) + 1) = false := by rw [bne_eq_false_iff_eq]; omega
          have hq2 : ((k2 : Int) + 1 != (k2 : Int) + 1) = false := by simp
          have HH : Hid (∀ (w2 : World) (ksv' : Value), w2.ownsRow w.heap.size 35 1 ksv' (k2 + 1) (ps.map ptr ++ [ptr wr.heap.size]) → (mid2 wr (ss k2)).grownBy w2 u6.ownBlock → (ksv'.ownBlock = u6.ownBlock ∨ ∃ g, ksv'.ownBlock = some g ∧ wr.heap.size + 2 ≤ g) →
              Ready w w.heap.size ss k2 wr.heap.size kv ksv' ps w2) := fun w2 ksv' a1 a2 a3 => ready h1 h2 h3 h4 h5 h6 h7 h8 a1 a2 a3
          have HO : Hid ((mid2 wr (ss k2)).ownsRow w.heap.size 35 1 u6 k2 (ps.map ptr)) := own_alt h4 (mid2_alt wr (ss k2)) (fun k _ h => h)
          have hsz := h8.size
          clear h2 h3 h4 h5 h6 h7 h8
          go_wp2_with fail
          refine (newKind_any (ss k2) _).mono ?_
          rintro e w1 ⟨rfl, -, rfl⟩
          have hc1 : ∀ j u, [ptr wr.heap.size][j]? = some u → (mid2 wr (ss k2)).cell? ((⟨wr.heap.size + 1, 0, none⟩ : Addr).add j) = some u := by
            intro j u hj
            match j, hj with
            | 0, hj => simp at hj; subst hj; exact mid2_new wr (ss k2)
          have HC1 : Hid _ := hc1
          clear hc1
          go_wp2_with (at_builtin; refine wpList_append_mine _ rfl (.tmp 46) (.tmp 48) 33 rfl w.heap.size 35 i0' (.pointer none) 1 8 Try.underlying33 hi hz0 hz1 hz2 rfl (by decide) u6 k2 (ps.map ptr) rfl (by exact HO.out) ⟨wr.heap.size + 1, 0, none⟩ 1 1 [ptr wr.heap.size] rfl rfl (by exact HC1.out) (by intro u hu; simp at hu; subst hu; rfl) (by unfold maxLen; omega) (by omega) (by simp; omega) (by decide) ?next)
          case next =>
            intro v' w2 a1 a2 a3
            have R := HH.out w2 v' a1 a2 a3
            clear HH HO HC1 a1 a2 a3 hcell
            go_wp2_with fail
            refine (zzpush_any w.heap.size wr.heap.size k2 kv _ _ (ss k2) (ps.map ptr) w.heap.size _ R.heap R.kind R.own (by omega) R.base).mono ?_
            rintro e w3 ⟨rfl, kv', p1, p2, p3, p4, p5⟩
            have I' := R.step p1 p2 p3 p4 p5
            obtain ⟨a', c', rfl⟩ := own_slice p3
            clear R p2 p3 p4 p5
            go_wp2_with fail
            refine (heapLen_any _ a' (k2 + 1) c' _ p1).mono ?_
            rintro e w4 ⟨rfl, rfl⟩
            clear p1
            go_wp2_with fail
            go_roundw
            case rel => exact ⟨k2 + 1, by omega, by go_num, I'⟩
            case measure => simp [intOf]; omega
        · rw [show k2 = n by omega] at hinv
          obtain ⟨kv, ps, h1, h2, h3, h4, h5, h6, h7, h8⟩ := hinv
          obtain ⟨g, cap, rfl⟩ := own_form h3 hn0
          obtain ⟨g2, cap2, rfl⟩ := own_form h4 hn0
          have hall : ∀ i, i < n → ∃ p, wr.cell? ⟨g, i, none⟩ = some (ptr p) ∧ wr.cell? ⟨g2, i, none⟩ = some (ptr p) ∧ wr.cell? ⟨p, 19, none⟩ = some (.int .i64 i) ∧ wr.cell? ⟨p, 18, none⟩ = some (ptr w.heap.size) ∧
              wr.cell? ⟨p, 0, none⟩ = some (.string (ss i)) ∧ wr.cell? ⟨b, off + i, none⟩ = some (.string (ss i)) := by
            intro i hi
            have hp : ps[i]? = some (ps[i]'(by omega)) := List.getElem?_eq_getElem _
            obtain ⟨k1, -⟩ := h6 i _ hp
            refine ⟨ps[i]'(by omega), ?_, ?_, k1.at, k1.idle, k1.name, (h8.cell (p := ⟨b, off + i, none⟩) hbw).trans (HC.out i hi)⟩
            · rw [h3.cellAt i (by omega)]; simp [hp]
            · rw [h4.cellAt i (by omega)]; simp [hp]
          have HA : Hid _ := hall
          have HB : Hid (Below w.heap.size w wr) := h8
          have HH : Hid (IsHeap wr w.heap.size (.slice (some ⟨g, 0, none⟩) n cap)) := h2
          clear hall h1 h2 h3 h4 h5 h6 h7 h8 hk2
          generalize wr = W at *
          go_wp2_with fail
          go_loopw [9] (fun i wr => ∃ k3 : Nat, k3 ≤ n ∧ i = .int .i64 k3 ∧ ∃ q, wr = W.drewN q) (fun i _ => n - (intOf i).toNat)
          case atStart => exact ⟨0, Nat.zero_le _, rfl, 0, rfl⟩
          case round =>
            clear hlt
            obtain ⟨k3, hk3, rfl, q, hq⟩ := hrel
            have HQ : Hid (wr = W.drewN q) := hq
            clear hq
            by_cases hlt : k3 < n
            · obtain ⟨p, g1, g2', g3, g4, g5, g6⟩ : ∃ p, wr.cell? ⟨g, k3, none⟩ = some (ptr p) ∧ wr.cell? ⟨g2, k3, none⟩ = some (ptr p) ∧ wr.cell? ⟨p, 19, none⟩ = some (.int .i64 k3) ∧ wr.cell? ⟨p, 18, none⟩ = some (ptr w.heap.size) ∧
                  wr.cell? ⟨p, 0, none⟩ = some (.string (ss k3)) ∧ wr.cell? ⟨b, off + k3, none⟩ = some (.string (ss k3)) := by rw [HQ.out]; exact HA.out k3 hlt
              have hh : IsHeap wr w.heap.size (.slice (some ⟨g, 0, none⟩) n cap) := by rw [HQ.out]; exact HH.out
              have i1 : (k3 : Int) < (n : Int) := by omega
              have e0 : ((k3 : Int) != (k3 : Int)) = false := by simp
              generalize ss k3 = x at g5 g6
              have e1 : (!(x.toList == x.toList)) = false := by simp
              have n35 := neq35 ⟨p, 0, none⟩
              have n31 := neq31 ⟨w.heap.size, 0, none⟩
              go_wp2_with fail
              refine (heapKind_any w.heap.size g n cap k3 p _ hh hlt g1 (by omega)).mono ?_
              rintro e w5 ⟨rfl, rfl⟩
              clear hh
              go_wp2_with fail
              go_quiet (first | (go_at_call 19; exact Calls.quiet_of_same (kindAt_any p _ _ (by exact g3))) | (go_at_call 20; exact Calls.quiet_of_same (kindIdle_any p _ _ (by exact g4))) | (go_at_call 21; exact Calls.quiet_of_same (kindName_any p _ _ (by exact g5))))
              go_wp2_with fail
              go_roundw
              case rel => exact ⟨k3 + 1, by omega, by go_num, q + nq, by rw [HQ.out]; simp⟩
              case measure => simp [intOf]; omega
            · go_wp2_with fail
              go_ret
              exact ⟨rfl, by rw [HQ.out]; exact below_drewN HB.out _⟩

theorem order_big (a : Option Addr) (n c : Nat) (ss : Nat → ByteArray) (w : World) (hs : StrsAt w a n ss) (hss : ∀ i, (ss i).size ≤ 9223372036854775807) (hn : n ≤ 9223372036854775807) (hb : ¬ n ≤ 4096) :
    Calls Try.prog 5 #[.slice a n c] w fun e w' => e = .returned (.bool true) ∧ Below w.heap.size w w' := by
  go_enter Try.func5, Try.ntmps5
  go_wp2_with fail
  refine (bytes12_any a n c ss _ hs hss hn).mono ?_
  rintro e w' ⟨⟨t, rfl, ht⟩, rfl⟩
  clear ht hs hss
  cases t
  · go_wp2
    go_ret
    exact ⟨rfl, Below.refl _ _⟩
  · go_wp2
    go_ret
    exact ⟨rfl, Below.refl _ _⟩

set_option maxRecDepth 100000 in
theorem order_zero (a : Option Addr) (c : Nat) (w : World) :
    Calls Try.prog 5 #[.slice a 0 c] w fun e w' => e = .returned (.bool true) ∧ Below w.heap.size w w' := by
  go_enter Try.func5, Try.ntmps5
  go_wp2_with fail
  refine (bytes12_any a 0 c (fun _ => ByteArray.empty) _ (fun h => by omega) (fun _ => by decide) (by omega)).mono ?_
  rintro e w' ⟨⟨t, rfl, ht⟩, rfl⟩
  clear ht
  cases t
  · go_wp2
    go_ret
    exact ⟨rfl, Below.refl _ _⟩
  · go_wp2_with fail
    go_loop [3, 4] (fun z i => z = .int .i64 0 ∧ i = .int .i64 0) (fun _ i => 0)
    case atStart => exact ⟨rfl, rfl⟩
    case round =>
      obtain ⟨rfl, rfl⟩ := hrel
      go_wp2_with fail
      refine (newHeap_any _).mono ?_
      rintro e w1 ⟨rfl, -, rfl⟩
      go_wp2_with fail
      refine (kindList_any _).mono ?_
      rintro e w2 ⟨rfl, rfl⟩
      go_wp2_with fail
      go_loop [6, 7] (fun z i => z = .slice none 0 0 ∧ i = .int .i64 0) (fun _ i => 0)
      case atStart => exact ⟨rfl, rfl⟩
      case round =>
        obtain ⟨rfl, rfl⟩ := hrel
        go_wp2_with fail
        go_loop [9] (fun i => i = .int .i64 0) (fun i => 0)
        case atStart => rfl
        case round =>
          obtain rfl := hrel
          go_wp2_with fail
          go_ret
          exact ⟨rfl, (Below.refl _ _).alloc (Nat.le_refl _) _⟩
end Go.Proofs.Qxb6614383a
