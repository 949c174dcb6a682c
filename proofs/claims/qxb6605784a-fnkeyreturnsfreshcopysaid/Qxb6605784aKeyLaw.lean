import Derived.Test.Qxb6605784aGroup
namespace Go.Proofs.Qxb6605784a
open Go.RowKit
set_option linter.unusedVariables false

theorem SomeBool.below {w w' : World} {e : Ending} (h : SomeBool w e w') : ∃ t, e = .returned (.bool t) ∧ Below w.heap.size w w' := by
  obtain ⟨⟨t, rfl⟩, q, rfl⟩ := h
  exact ⟨t, rfl, below_drewN (Below.refl _ _) _⟩

/-- ^x of a byte -/
def inv (x : Int) : Int := bits BinOp.xor IntKind.u8 (if IntKind.u8.signed = true then -1 else IntKind.u8.max) x

/-- the key's bytes, the first k turned -/
def mix (g : Nat → Int) (k l : Nat) : Value := .int .u8 (if l < k then inv (g l) else g l)

structure Mixed (w : World) (bk cap : Nat) (g : Nat → Int) (k : Nat) (wr : World) : Prop where
  row : wr.ownsRow w.heap.size 5 1 (.slice (some ⟨bk, 0, none⟩) 32 cap) 32 (fRow 32 (mix g k))
  below : Below w.heap.size w wr

theorem Mixed.start {w w5 : World} {bk cap : Nat} {g : Nat → Int} (h : w5.ownsRow w.heap.size 5 1 (.slice (some ⟨bk, 0, none⟩) 32 cap) 32 (keyRow g)) (hb : Below w.heap.size w w5) : Mixed w bk cap g 0 w5 := by
  refine ⟨?_, hb⟩
  have e : fRow 32 (mix g 0) = keyRow g := by
    unfold keyRow fRow mix
    simp
  rw [e]; exact h

theorem Mixed.cell {w wr : World} {bk cap k : Nat} {g : Nat → Int} (h : Mixed w bk cap g k wr) (l : Nat) (hl : l < 32) (hk : k ≤ l := by omega) : wr.cell? ⟨bk, l, none⟩ = some (.int .u8 (g l)) := by
  rw [h.row.cellAt l (by omega), fRow_get _ hl]
  unfold mix
  rw [if_neg (by omega)]

theorem mix_set (g : Nat → Int) (k : Nat) (hk : k < 32) : (fRow 32 (mix g k)).set k (.int .u8 (inv (g k))) = fRow 32 (mix g (k + 1)) := by
  unfold fRow
  apply List.ext_getElem
  · simp
  · intro l h1 h2
    have hl : l < 32 := by simpa using h2
    rw [List.getElem_set]
    by_cases e : k = l
    · subst e; simp [mix]
    · rw [if_neg e]
      simp only [List.getElem_map, List.getElem_range]
      unfold mix
      by_cases e2 : l < k
      · rw [if_pos e2, if_pos (by omega)]
      · rw [if_neg e2, if_neg (by omega)]

theorem Mixed.next {w wr : World} {bk cap k : Nat} {g : Nat → Int} (h : Mixed w bk cap g k wr) (hk : k < 32) : Mixed w bk cap g (k + 1) (wr.setCell ⟨bk, k, none⟩ (.int .u8 (inv (g k)))) := by
  have h1 := h.row.stored k (.int .u8 (inv (g k)))
  rw [mix_set g k hk] at h1
  exact ⟨h1.1, h.below.setCell (h.row.lt bk rfl).1 _⟩

theorem Mixed.cells {w wr : World} {bk cap : Nat} {g : Nat → Int} (h : Mixed w bk cap g 32 wr) : ∀ l, l < 32 → wr.cell? ⟨bk, l, none⟩ = some (.int .u8 (inv (g l))) := fun l hl => by
  rw [h.row.cellAt l (by omega), fRow_get _ hl]
  unfold mix
  rw [if_pos hl]

set_option maxHeartbeats 4000000 in
set_option maxRecDepth 100000 in
theorem key_main (a : Option Addr) (n c : Nat) (f : Nat → Nat → Int) (i : Int) (w : World) (hk : Keys w a n f) (hn : n ≤ 9223372036854775807) :
    Calls Try.prog 5 #[.slice a n c, .int .i64 i] w fun e w' => e = .returned (.bool true) ∧ Below w.heap.size w w' := by
  have HK : Hid _ := hk
  clear hk
  go_enter Try.func5, Try.ntmps5
  go_wp2_with fail
  refine (zz_any a n c i w hn).mono ?_
  rintro e w1 hz
  obtain ⟨t, rfl, b1⟩ := hz.below
  clear hz
  cases t
  · go_wp2_with fail
    go_ret
    exact ⟨rfl, b1⟩
  by_cases hb' : 4096 < n
  · go_wp2_with fail
    go_ret
    exact ⟨rfl, b1⟩
  have hb : n ≤ 4096 := by omega
  clear hb'
  by_cases hi0 : i < 0
  · go_wp2_with fail
    go_ret
    exact ⟨rfl, b1⟩
  obtain ⟨ni, rfl⟩ : ∃ ni : Nat, i = (ni : Int) := ⟨i.toNat, by omega⟩
  clear hi0
  by_cases hin' : n ≤ ni
  · go_wp2_with fail
    go_ret
    exact ⟨rfl, b1⟩
  have hin : ni < n := by omega
  clear hin'
  have k1 := Keys.keeps HK.out b1
  go_wp2_with fail
  refine (distinct_any a n c f w1 hb k1).mono ?_
  rintro e w2 hz
  obtain ⟨t, rfl, b2⟩ := hz.below
  have b02 := Below.step b1 b2
  clear hz
  cases t
  · go_wp2_with fail
    go_ret
    exact ⟨rfl, b02⟩
  have k2 := k1.keeps b2
  obtain ⟨b, off, rfl, hc⟩ := k2 (by omega)
  have HC : Hid _ := hc
  clear HK k1 k2 hc b1 b2
  go_wp2_with fail
  refine (copy_any b off n c f w2 hb (by omega) HC.out).mono ?_
  rintro e w3 ⟨rfl, k3, b3⟩
  have b03 := Below.step b02 b3
  have K3 : Hid (∀ i, i < n → ∀ j, j < 32 → w3.cell? ⟨w2.heap.size, i * 32 + j, none⟩ = some (.int .u8 (f i j))) := by
    obtain ⟨b', off', e, hc⟩ := k3 (by omega)
    simp at e
    obtain ⟨rfl, rfl⟩ := e
    intro i hi j hj
    have := hc i hi j hj
    rwa [Nat.zero_add] at this
  clear HC k3 b02 b3
  generalize w2.heap.size = gk at *
  go_wp2_with fail
  refine (group_any gk 0 n n f w3 hb (by omega) (fun i hi j hj => by rw [Nat.zero_add]; exact K3.out i hi j hj)).mono ?_
  rintro e w4 ⟨gb, rfl, G4, b4⟩
  have b04 := Below.step b03 b4
  have K4 : Hid (∀ i, i < n → ∀ j, j < 32 → w4.cell? ⟨gk, i * 32 + j, none⟩ = some (.int .u8 (f i j))) := fun i hi j hj => Below.keeps b4 (K3.out i hi j hj)
  have HG4 : Hid _ := G4
  clear G4 K3 b03 b4
  go_wp2_with fail
  refine (key_any gb n ni f w4 HG4.out hin hb).mono ?_
  rintro e w5 ⟨bk, cap, rfl, O5, b5⟩
  have HO5 : Hid _ := O5
  clear O5
  go_wp2_with fail
  go_loopw [7] (fun j wr => ∃ k : Nat, k ≤ 32 ∧ j = .int .i64 k ∧ Mixed w4 bk cap (f ni) k wr) (fun i _ => 32 - (intOf i).toNat)
  case atStart => exact ⟨0, by omega, rfl, Mixed.start HO5.out b5⟩
  case round =>
    clear HO5 b5
    obtain ⟨k, hk, rfl, M⟩ := hrel
    by_cases hlt : k < 32
    · have hcell := M.cell k hlt
      have hfr := M.row.frozenAt k
      have HM : Hid _ := M.next hlt
      clear M
      generalize f ni k = x at hcell HM
      go_wp2_with fail
      go_roundw
      case rel => exact ⟨k + 1, by omega, by go_num, HM.out⟩
      case measure => simp [intOf]; omega
    · obtain rfl : k = 32 := by omega
      have hne : ((n : Int) != (n : Int)) = false := by simp
      have b5 := M.below
      have C5 : Hid _ := M.cells
      have G5 : Hid (Grp wr gb n f) := Grp.keeps HG4.out b5
      have K5 : Hid (∀ i, i < n → ∀ j, j < 32 → wr.cell? ⟨gk, i * 32 + j, none⟩ = some (.int .u8 (f i j))) := fun i hi j hj => Below.keeps b5 (K4.out i hi j hj)
      have b05 := Below.step b04 b5
      clear M HG4 K4 b5 b04
      generalize hW : wr = W at *
      clear hW
      go_wp2_with fail
      refine (len_any gb n f W G5.out).mono ?_
      rintro e w6 ⟨rfl, rfl⟩
      go_wp2_with fail
      go_loopw [8] (fun j wx => ∃ k : Nat, k ≤ n ∧ j = .int .i64 k ∧ Below W.heap.size W wx) (fun i _ => n - (intOf i).toNat)
      case atStart => exact ⟨0, by omega, rfl, Below.refl _ _⟩
      case round =>
        obtain ⟨k2, hk2, rfl, b6⟩ := hrel
        have HB6 : Hid _ := b6
        clear b6
        by_cases hlt2 : k2 < n
        · go_wp2_with fail
          refine (key_any gb n k2 f wr (Grp.keeps G5.out HB6.out) hlt2 hb).mono ?_
          rintro e w7 ⟨bc, cap2, rfl, O7, b7⟩
          have C7 : Hid (∀ j, j < 32 → w7.cell? ⟨bc, j, none⟩ = some (.int .u8 (f k2 j))) := fun j hj => by
            rw [O7.cellAt j (by omega)]; unfold keyRow; rw [fRow_get _ hj]
          have b67 := Below.step HB6.out b7
          have K7 : Hid (∀ j, j < 32 → w7.cell? ⟨gk, k2 * 32 + j, none⟩ = some (.int .u8 (f k2 j))) := fun j hj => Below.keeps b67 (K5.out k2 hlt2 j hj)
          have HB7 : Hid _ := b67
          clear O7 b7 b67 HB6
          go_wp2_with fail
          go_loopw [10] (fun j wy => ∃ (k q : Nat), k ≤ 32 ∧ j = .int .i64 k ∧ wy = w7.drewN q) (fun i _ => 32 - (intOf i).toNat)
          case atStart => exact ⟨0, 0, by omega, rfl, rfl⟩
          case round =>
            obtain ⟨k3, q, hk3, rfl, hq⟩ := hrel
            by_cases hlt3 : k3 < 32
            · have hc1 : wr.cell? ⟨bc, k3, none⟩ = some (.int .u8 (f k2 k3)) := by rw [hq]; exact C7.out k3 hlt3
              have hc2 : wr.cell? ⟨gk, k2 * 32 + k3, none⟩ = some (.int .u8 (f k2 k3)) := by rw [hq]; exact K7.out k3 hlt3
              have HQ : Hid _ := hq
              clear hq
              generalize f k2 k3 = x at hc1 hc2
              have hx : (x != x) = false := by simp
              go_wp2_with fail
              go_quiet (fail)
              go_wp2_with fail
              go_roundw
              case rel => exact ⟨k3 + 1, q + nq, by omega, by go_num, by rw [HQ.out, World.drewN_drewN]⟩
              case measure => simp [intOf]; omega
            · have b8 : Below W.heap.size W wr := by rw [hq]; exact below_drewN HB7.out _
              clear hq
              go_wp2_with fail
              go_roundw
              case rel => exact ⟨k2 + 1, by omega, by go_num, b8⟩
              case measure => simp [intOf]; omega
        · have C6 : Hid (∀ j, j < 32 → wr.cell? ⟨bk, j, none⟩ = some (.int .u8 (inv (f ni j)))) := fun j hj => Below.keeps HB6.out (C5.out j hj)
          have K6 : Hid (∀ j, j < 32 → wr.cell? ⟨gk, ni * 32 + j, none⟩ = some (.int .u8 (f ni j))) := fun j hj => Below.keeps HB6.out (K5.out ni hin j hj)
          have B6 : Hid _ := Below.step b05 HB6.out
          clear HB6 C5 K5 G5 b05
          generalize hV : wr = V at *
          clear hV
          go_wp2_with fail
          go_loopw [11] (fun j wy => ∃ (k q : Nat), k ≤ 32 ∧ j = .int .i64 k ∧ wy = V.drewN q) (fun i _ => 32 - (intOf i).toNat)
          case atStart => exact ⟨0, 0, by omega, rfl, rfl⟩
          case round =>
            obtain ⟨k4, q, hk4, rfl, hq⟩ := hrel
            by_cases hlt4 : k4 < 32
            · have hc1 : wr.cell? ⟨bk, k4, none⟩ = some (.int .u8 (inv (f ni k4))) := by rw [hq]; exact C6.out k4 hlt4
              have hc2 : wr.cell? ⟨gk, ni * 32 + k4, none⟩ = some (.int .u8 (f ni k4)) := by rw [hq]; exact K6.out k4 hlt4
              have HQ : Hid _ := hq
              clear hq
              generalize f ni k4 = x at hc1 hc2
              have hx : bits BinOp.xor IntKind.u8 (if IntKind.u8.signed = true then -1 else IntKind.u8.max) x = inv x := rfl
              have hy : (inv x != inv x) = false := by simp
              generalize inv x = y at *
              go_wp2_with fail
              go_quiet (fail)
              go_wp2_with fail
              go_roundw
              case rel => exact ⟨k4 + 1, q + nq, by omega, by go_num, by rw [HQ.out, World.drewN_drewN]⟩
              case measure => simp [intOf]; omega
            · have b8 : Below w.heap.size w wr := by rw [hq]; exact below_drewN B6.out _
              clear hq
              go_wp2_with fail
              go_ret
              exact ⟨rfl, b8⟩
end Go.Proofs.Qxb6605784a
