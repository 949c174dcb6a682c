import Derived.Test.Qxb6605784aCopy
import Derived.Laws.CopyOwn
namespace Go.Proofs.Qxb6605784a
open Go.RowKit
set_option linter.unusedVariables false

theorem Try.info58 : (Try.prog.info? 58).map (fun i => (i.zero, i.size, i.bytes)) = some (some (.slice none 0 0), 1, 24) := by kernel_rfl

/-- key i of the row at g2: its own 32 bytes -/
def KeyIn (w : World) (g2 i : Nat) (f : Nat → Nat → Int) : Prop :=
  ∃ bi, bi ≠ g2 ∧ w.cell? ⟨g2, i, none⟩ = some (.slice (some ⟨bi, 0, none⟩) 32 32) ∧ ∀ j, j < 32 → w.cell? ⟨bi, j, none⟩ = some (.int .u8 (f i j))

theorem KeyIn.keeps {w w' : World} {g2 i : Nat} {f : Nat → Nat → Int} (h : KeyIn w g2 i f) (hb : Below w.heap.size w w') : KeyIn w' g2 i f := by
  obtain ⟨bi, h0, h1, h2⟩ := h
  exact ⟨bi, h0, Below.keeps hb h1, fun j hj => Below.keeps hb (h2 j hj)⟩

/-- the group's row as far as k keys -/
structure Grouped (w : World) (g n : Nat) (f : Nat → Nat → Int) (k : Nat) (wr : World) : Prop where
  room : ∃ cs : Array Value, wr.heap[g]? = some (.cells cs 58 (0, 0)) ∧ cs.size = n
  done : ∀ i, i < k → KeyIn wr g i f
  below : Below w.heap.size w wr

theorem own_block {w : World} {base : Nat} {e : TypeId} {g n cap : Nat} {xs : List Value} (h : w.ownsRow base e 1 (.slice (some ⟨g, 0, none⟩) n cap) n xs) : ∃ cs : Array Value, w.heap[g]? = some (.cells cs e (0, 0)) ∧ cs.size = cap ∧ base ≤ g := by
  rcases h.2 with ⟨h', _⟩ | ⟨g', cap', cur, h', hb, hgg, h1, h2, h3, h4⟩
  · simp at h'
  · simp at h'
    obtain ⟨rfl, rfl⟩ := h'
    exact ⟨cur, hgg, by omega, hb⟩

theorem Grouped.start {w w' : World} {g n : Nat} {f : Nat → Nat → Int} {xs : List Value} (h : w'.ownsRow w.heap.size 58 1 (.slice (some ⟨g, 0, none⟩) n n) n xs) (hg : w.grownBy w' none) : Grouped w g n f 0 w' := by
  obtain ⟨cs, h1, h2, h3⟩ := own_block h
  exact ⟨⟨cs, h1, h2⟩, fun i hi => by omega, (Below.refl _ _).grown hg (Nat.le_refl _) (fun k h => by cases h)⟩

/-- the next key is laid -/
theorem Grouped.next {w wr w2 : World} {g n k : Nat} {f : Nat → Nat → Int} (h : Grouped w g n f k wr) (hk : k < n) (hg : w.heap.size ≤ g) (hb : Below wr.heap.size wr w2)
    (h2 : w2.heap[wr.heap.size]? = some (.cells (keyRow (f k)).toArray 5 (0, 0))) : Grouped w g n f (k + 1) (w2.setCell ⟨g, k, none⟩ (.slice (some ⟨wr.heap.size, 0, none⟩) 32 32)) := by
  obtain ⟨cs, hc, hs⟩ := h.room
  have hlt := lt_of_heap hc
  have hc2 : w2.heap[g]? = some (.cells cs 58 (0, 0)) := (hb.block g hlt).trans hc
  have hex : ∃ u, w2.cell? ⟨g, k, none⟩ = some u := by
    rw [cell_of_row w2 g k _ _ _ hc2]; exact ⟨_, Array.getElem?_eq_getElem (by omega)⟩
  obtain ⟨u, hu⟩ := hex
  refine ⟨⟨_, heap_setCell_same w2 g k _ _ _ hc2, by simp; omega⟩, fun i hi => ?_, (h.below.trans (hb.mono h.below.size)).setCell hg _⟩
  by_cases e : i = k
  · subst e
    refine ⟨wr.heap.size, by omega, World.cell?_setCell_same _ _ _ hu, fun j hj => ?_⟩
    rw [World.cell?_setCell_other _ _ _ _ (by simp <;> omega), cell_of_row w2 _ j _ _ _ h2, keyRow_at _ _ hj]
  · obtain ⟨bi, h0, h3, h4⟩ := (h.done i (by omega)).keeps hb
    refine ⟨bi, h0, ?_, fun j hj => ?_⟩
    · rw [World.cell?_setCell_other _ _ _ _ (by simp <;> omega)]; exact h3
    · rw [World.cell?_setCell_other _ _ _ _ (by simp <;> omega)]; exact h4 j hj

/-- the group as it stands at gb -/
def Grp (w : World) (gb n : Nat) (f : Nat → Nat → Int) : Prop :=
  ∃ g2, w.cell? ⟨gb, 0, none⟩ = some (.slice (some ⟨g2, 0, none⟩) n n) ∧ ∀ i, i < n → KeyIn w g2 i f
theorem Grp.keeps {w w' : World} {gb n : Nat} {f : Nat → Nat → Int} (h : Grp w gb n f) (hb : Below w.heap.size w w') : Grp w' gb n f := by
  obtain ⟨g2, h1, h2⟩ := h
  exact ⟨g2, Below.keeps hb h1, fun i hi => (h2 i hi).keeps hb⟩

def GroupPost (n : Nat) (f : Nat → Nat → Int) (w : World) (e : Ending) (w' : World) : Prop :=
  ∃ gb, e = .returned (.pointer (some ⟨gb, 0, none⟩)) ∧ Grp w' gb n f ∧ Below w.heap.size w w'

theorem keyRow_ones (g : Nat → Int) : ∀ v ∈ keyRow g, v.oneCell' = true := fun v hv => by
  unfold keyRow fRow at hv
  simp at hv
  obtain ⟨j, _, rfl⟩ := hv
  rfl

set_option maxHeartbeats 2000000 in
set_option maxRecDepth 100000 in
theorem group_any (b off n c : Nat) (f : Nat → Nat → Int) (w : World) (hn : n ≤ 4096) (h0 : 0 < n) (hk : ∀ i, i < n → ∀ j, j < 32 → w.cell? ⟨b, off + i * 32 + j, none⟩ = some (.int .u8 (f i j))) :
    Calls Try.prog 22 #[.slice (some ⟨b, off, none⟩) n c] w (GroupPost n f w) := by
  have hs := fun (w : World) => Lib.run_eql_slice_nil (P := Try.prog) w 51 28 (some ⟨b, off, none⟩) n c 0 0 Try.underlying51
  obtain ⟨i0, hi, hz0, hz1, hz2⟩ := info_parts Try.info58
  obtain ⟨i5, ji, jz0, jz1, jz2⟩ := info_parts Try.info5
  have hsz5 : (Try.prog.info? 5).map (·.size) = some 1 := by rw [ji]; simp [jz1]
  have HK : Hid _ := hk
  clear hk
  go_enter Try.func22, Try.ntmps22
  go_wp2_with (at_make; refine wpList_make_full _ rfl _ _ 84 rfl w.heap.size 58 i0 _ 1 Try.underlying84 hi hz0 hz1 _ _ _ _ n rfl rfl rfl rfl ?b2 ?b3 (Nat.le_refl _) ?_)
  case b2 => rw [hz2]; omega
  case b3 => unfold maxLen; omega
  intro w0 hown0 hgrow0
  have S0 : Grouped w w.heap.size n f 0 w0 := Grouped.start hown0 hgrow0
  clear hown0 hgrow0
  go_wp2_with fail
  go_loopw [4] (fun i wr => ∃ k : Nat, k ≤ n ∧ i = .int .i64 k ∧ Grouped w w.heap.size n f k wr) (fun i _ => n - (intOf i).toNat)
  case atStart => exact ⟨0, Nat.zero_le _, rfl, S0⟩
  case round =>
    clear S0
    obtain ⟨k, hk, rfl, S⟩ := hrel
    by_cases hlt : k < n
    · go_wp2_with (at_make; refine wpList_make_full _ rfl _ _ 57 rfl wr.heap.size 5 i5 _ 1 Try.underlying57 ji jz0 jz1 _ _ _ _ 32 rfl rfl rfl rfl ?b2 ?b3 (Nat.le_refl _) ?_)
      case b2 => rw [jz2]; omega
      case b3 => unfold maxLen; omega
      intro w1 hown1 hgrow1
      have b1 : Below wr.heap.size wr w1 := (Below.refl _ _).grown hgrow1 (Nat.le_refl _) (fun k h => by cases h)
      obtain ⟨cur, hcur, hcs, -⟩ := own_block hown1
      have HS : Hid _ := S
      have HR : Hid (∀ j v, (keyRow (f k))[j]? = some v → w1.cell? ((⟨b, off + k * 32, none⟩ : Addr).add j) = some v) := by
        have R : w1.rangeAt b (off + k * 32) (keyRow (f k)) := key_range (fun j hj => by
          have h1 := HK.out k hlt j hj
          have h2 := (S.below.cell (p := ⟨b, off + k * 32 + j, none⟩) (World.block_lt_of_cell? w _ h1)).trans h1
          exact Below.keeps b1 h2)
        intro j v hv
        rw [Addr.add_mid]
        exact R j v hv
      have HC : Hid (w1.heap[wr.heap.size]? = some (.cells cur.toList.toArray 5 (0, 0))) := by unfold Hid; simpa using hcur
      have HL : Hid (cur.toList.length = 32) := by unfold Hid; simpa using hcs
      have HKL : Hid ((keyRow (f k)).length = 32) := keyRow_length _
      have HB : Hid _ := b1
      clear hown1 hgrow1 S hcur hcs b1
      go_wp2_with (refine wpList_copy_splice rfl (.tmp 20) (.tmp 24) 57 57 rfl 5 Try.underlying57 hsz5 (some ⟨wr.heap.size, 0, none⟩) (some ⟨b, off + k * 32, none⟩) 32 32 32 32 rfl rfl wr.heap.size 0 cur.toList 5 (by exact HC.out) (keyRow (f k)) (by rw [HKL.out]; rfl) (by intro _; exact ⟨rfl, _, rfl, HR.out⟩) (by rw [HKL.out, HL.out]; exact Nat.le_refl _) (keyRow_ones _) wr.heap.size wr (by exact HB.out) (Nat.le_refl _) ?next)
      case next =>
        intro w2 hrow b2
        have HN : Hid (Grouped w w.heap.size n f (k + 1) (w2.setCell ⟨w.heap.size, k, none⟩ (.slice (some ⟨wr.heap.size, 0, none⟩) 32 32))) := HS.out.next hlt (Nat.le_refl _) b2 (by
          have := hrow.out
          rw [this]
          have e : splice cur.toList 0 (keyRow (f k)) = keyRow (f k) := by
            unfold splice
            rw [HKL.out, List.drop_of_length_le (by rw [HL.out]; exact Nat.le_refl _)]
            simp
          rw [e])
        obtain ⟨cs, hc, hcsz⟩ := HS.out.room
        have hc2 : w2.heap[w.heap.size]? = some (.cells cs 58 (0, 0)) := (b2.block _ (lt_of_heap hc)).trans hc
        obtain ⟨u, hu⟩ : ∃ u, w2.cell? ⟨w.heap.size, k, none⟩ = some u := by
          rw [cell_of_row w2 _ k _ _ _ hc2]; exact ⟨_, Array.getElem?_eq_getElem (by omega)⟩
        have hfr := frozen_of_row w2 w.heap.size k _ _ hc2
        clear hrow b2 HS HR HC HL HB HKL hc hc2 hcsz
        go_wp2_with fail
        go_roundw
        case rel => exact ⟨k + 1, by omega, by go_num, HN.out⟩
        case measure => simp [intOf]; omega
    · obtain rfl : k = n := by omega
      go_wp2_with fail
      go_ret
      exact ⟨wr.heap.size, rfl, ⟨w.heap.size, by simp, fun i hi => (S.done i hi).keeps ((Below.refl _ _).alloc (Nat.le_refl _) _)⟩, S.below.alloc S.below.size _⟩

/-- what Key and Clone hand back: a new block with the key's bytes -/
def KeyPost (g : Nat → Int) (w : World) (e : Ending) (w' : World) : Prop :=
  ∃ gk cap, e = .returned (.slice (some ⟨gk, 0, none⟩) 32 cap) ∧ w'.ownsRow w.heap.size 5 1 (.slice (some ⟨gk, 0, none⟩) 32 cap) 32 (keyRow g) ∧ Below w.heap.size w w'

set_option maxHeartbeats 1000000 in
theorem clone_any (b : Nat) (g : Nat → Int) (w : World) (hc : ∀ j, j < 32 → w.cell? ⟨b, j, none⟩ = some (.int .u8 (g j))) :
    Calls Try.prog 27 #[.slice (some ⟨b, 0, none⟩) 32 32] w (KeyPost g w) := by
  have hs := fun (w : World) => Lib.run_eql_slice_nil (P := Try.prog) w 58 5 (some ⟨b, 0, none⟩) 32 32 0 0 Try.underlying58
  obtain ⟨i5, ji, jz0, jz1, jz2⟩ := info_parts Try.info5
  have hb : b < w.heap.size := World.block_lt_of_cell? w _ (hc 0 (by decide))
  have HR : Hid (∀ j v, (keyRow g)[j]? = some v → (w.alloc (.cells #[] 5)).cell? ((⟨b, 0, none⟩ : Addr).add j) = some v) := fun j v hv => by
    have hj : j < 32 := by have := (List.getElem?_eq_some_iff.1 hv).1; rwa [keyRow_length] at this
    unfold keyRow at hv
    rw [fRow_get _ hj] at hv
    rw [Addr.add_mid, Nat.zero_add, World.cell?_alloc_lt _ _ _ hb, hc j hj]
    exact hv
  have HO : Hid ((w.alloc (.cells #[] 5)).ownsRow w.heap.size 5 1 (.slice (some ⟨w.heap.size, 0, none⟩) 0 0) 0 []) :=
    ⟨rfl, .inr ⟨w.heap.size, 0, #[], rfl, Nat.le_refl _, heap_alloc_new _ _, Nat.le_refl _, by unfold maxLen; omega, rfl, by simp⟩⟩
  clear hc
  go_enter Try.func27, Try.ntmps27
  go_wp2_with (at_builtin; refine wpList_append_own _ rfl (.tmp 5) (.tmp 6) 58 rfl w.heap.size 5 i5 (.int .u8 0) 1 1 Try.underlying58 ji jz0 jz1 jz2 rfl (by decide) (.slice (some ⟨w.heap.size, 0, none⟩) 0 0) 0 [] rfl (by exact HO.out) ⟨b, 0, none⟩ 32 32 (keyRow g) rfl (keyRow_length _) (by exact HR.out) (keyRow_ones _) (by unfold maxLen; omega) (by omega) (by simp) ?next)
  case next =>
    intro v' W q1 q2 _
    obtain ⟨gk, cap, rfl⟩ := own_form q1 (by omega)
    have HP : Hid (KeyPost g w (.returned (.slice (some ⟨gk, 0, none⟩) 32 cap)) W) := ⟨gk, cap, rfl, by simpa using q1, ((Below.refl _ w).alloc (Nat.le_refl _) _).grown q2 (by simp) (fun q hq => (World.ownsRow.lt HO.out q hq).1)⟩
    clear q1 q2
    go_wp2_with fail
    go_ret
    exact HP.out

set_option maxHeartbeats 1000000 in
theorem key_any (gb n i : Nat) (f : Nat → Nat → Int) (w : World) (h : Grp w gb n f) (hi : i < n) (hn : n ≤ 4096) :
    Calls Try.prog 23 #[.pointer (some ⟨gb, 0, none⟩), .int .i64 i] w (KeyPost (f i) w) := by
  obtain ⟨g2, h1, h2⟩ := h
  obtain ⟨bi, -, h3, h4⟩ := h2 i hi
  have H4 : Hid _ := h4
  clear h2 h4
  go_enter Try.func23, Try.ntmps23
  go_wp2_with fail
  refine (clone_any bi (f i) w H4.out).mono ?_
  rintro e w' hP
  have hP' := hP
  obtain ⟨gk, cap, rfl, -, -⟩ := hP'
  go_wp2_with fail
  go_ret
  exact hP

theorem len_any (gb n : Nat) (f : Nat → Nat → Int) (w : World) (h : Grp w gb n f) :
    Calls Try.prog 24 #[.pointer (some ⟨gb, 0, none⟩)] w fun e w' => e = .returned (.int .i64 n) ∧ w = w' := by
  obtain ⟨g2, h1, -⟩ := h
  go_enter Try.func24, Try.ntmps24
  go_wp2_with fail
  go_ret
  exact ⟨rfl, rfl⟩
end Go.Proofs.Qxb6605784a
