import Derived.Test.Qxb6605601aLit
namespace Go.Proofs.Qxb6605601a
open Go.RowKit
set_option linter.unusedVariables false
set_option linter.unusedSimpArgs false

theorem takes15 (w : World) : Calls Try.prog 27 #[.int .u8 15] w fun e w' => e = .returned (.bool false) ∧ w = w' := by
  go_enter Try.func27, Try.ntmps27
  go_wp2
  go_ret
  exact ⟨rfl, rfl⟩

/-- a read has come to its end -/
def CameEnd (B rb : Nat) (tv rv : Value) (T' : List ByteArray) (R' : List Int) (w : World) (e : Ending) (w' : World) : Prop :=
  e = .returned (.tuple #[]) ∧ ∃ tv' rv', Came B rb tv rv w T' R' tv' rv' w'

theorem IsRe.came {B rb : Nat} {tv rv tv' rv' : Value} {w w' : World} {T T' : List ByteArray} {R R' : List Int} {p : Nat} {op : Int} {sub rune : Value} (h : IsRe w p op sub rune) (C : Came B rb tv rv w T' R' tv' rv' w') (h0 : RS B w rb tv rv T R) : IsRe w' p op sub rune :=
  C.block h0 h (by decide) (by decide) (by decide)

set_option maxHeartbeats 1000000 in
/-- a capture reads its part -/
theorem read_cap (B rb p q g : Nat) (tv rv lv : Value) (T' : List ByteArray) (R' : List Int) (w : World) (hp : IsRe w p 13 (.slice (some ⟨g, 0, none⟩) 1 1) lv) (hg : w.heap[g]? = some (.cells #[.pointer (some ⟨q, 0, none⟩)] 51 (0, 0)))
    (hq : Calls Try.prog 24 #[.pointer (some ⟨rb, 0, none⟩), .pointer (some ⟨q, 0, none⟩)] w (CameEnd B rb tv rv T' R' w)) :
    Calls Try.prog 24 #[.pointer (some ⟨rb, 0, none⟩), .pointer (some ⟨p, 0, none⟩)] w (CameEnd B rb tv rv T' R' w) := by
  have o0 := hp.op
  have o2 := hp.sub
  have c0 : w.cell? ⟨g, 0, none⟩ = some (.pointer (some ⟨q, 0, none⟩)) := by rw [cell_of_row w g 0 _ _ _ hg]; rfl
  have HQ : Hid _ := hq
  clear hp hg hq
  go_enter Try.func24, Try.ntmps24
  go_wp2_with fail
  refine Calls.mono HQ.out ?_
  rintro e w2 ⟨rfl, tv', rv', C⟩
  go_wp2_with fail
  refine bodyPost_ret (results_none rfl _ _ _) rfl ?_
  exact ⟨rfl, _, _, C⟩

set_option maxHeartbeats 1000000 in
/-- a plus reads its part and ends the run -/
theorem read_plus (B rb p q g : Nat) (tv rv lv : Value) (T T' : List ByteArray) (R R' : List Int) (w : World) (h : RS B w rb tv rv T R) (hp : IsRe w p 15 (.slice (some ⟨g, 0, none⟩) 1 1) lv) (hg : w.heap[g]? = some (.cells #[.pointer (some ⟨q, 0, none⟩)] 51 (0, 0)))
    (hq : Calls Try.prog 24 #[.pointer (some ⟨rb, 0, none⟩), .pointer (some ⟨q, 0, none⟩)] w (CameEnd B rb tv rv T' R' w)) (hRb : R'.length ≤ 4194304) (hTb : T'.length ≤ 4194304) (hB : B ≤ w.heap.size) :
    Calls Try.prog 24 #[.pointer (some ⟨rb, 0, none⟩), .pointer (some ⟨p, 0, none⟩)] w (CameEnd B rb tv rv (endRun strOfNums T' R') [] w) := by
  have o0 := hp.op
  have o2 := hp.sub
  have c0 : w.cell? ⟨g, 0, none⟩ = some (.pointer (some ⟨q, 0, none⟩)) := by rw [cell_of_row w g 0 _ _ _ hg]; rfl
  have HQ : Hid _ := hq
  have HP : Hid _ := hp
  have H0 : Hid _ := h
  clear hp hg hq h
  go_enter Try.func24, Try.ntmps24
  go_wp2_with fail
  refine Calls.mono HQ.out ?_
  rintro e w2 ⟨rfl, tv', rv', C⟩
  have hp2 := IsRe.came HP.out C H0.out
  have o20 := hp2.op
  have hB2 : B ≤ w2.heap.size := Nat.le_trans hB C.alt.size
  clear hp2 o0 o2 c0
  go_wp2_with fail
  refine (takes15 _).mono ?_
  rintro e w3 ⟨rfl, rfl⟩
  go_wp2_with fail
  refine (endRun_any B rb tv' rv' T' R' _ C.rs (by omega) (by omega) hB2).mono ?_
  rintro e w3 hE
  obtain rfl := hE.1
  obtain ⟨tv2, rv2, C2⟩ := hE.came
  have C3 := C.then C2
  clear hE C2 C
  go_wp2_with fail
  refine bodyPost_ret (results_none rfl _ _ _) rfl ?_
  exact ⟨rfl, _, _, C3⟩

set_option maxHeartbeats 1000000 in
/-- a row of parts is read one after the other -/
theorem read_cat (B rb p g n : Nat) (tv rv lv : Value) (st : Nat → List ByteArray × List Int) (ps : Nat → Nat) (cs : Array Value) (w : World) (h : RS B w rb tv rv (st 0).1 (st 0).2) (hp : IsRe w p 18 (.slice (some ⟨g, 0, none⟩) n n) lv) (hg : w.heap[g]? = some (.cells cs 51 (0, 0)))
    (hn : n ≤ 1048576) (hcs : ∀ k, k < n → cs[k]? = some (.pointer (some ⟨ps k, 0, none⟩)))
    (hk : ∀ k, k < n → ∀ tv1 rv1 w1, Came B rb tv rv w (st k).1 (st k).2 tv1 rv1 w1 → Calls Try.prog 24 #[.pointer (some ⟨rb, 0, none⟩), .pointer (some ⟨ps k, 0, none⟩)] w1 (CameEnd B rb tv1 rv1 (st (k + 1)).1 (st (k + 1)).2 w1)) :
    Calls Try.prog 24 #[.pointer (some ⟨rb, 0, none⟩), .pointer (some ⟨p, 0, none⟩)] w (CameEnd B rb tv rv (st n).1 (st n).2 w) := by
  have o0 := hp.op
  have o2 := hp.sub
  have HK : Hid _ := hk
  have HG : Hid _ := hg
  have HCS : Hid _ := hcs
  have H0 : Hid _ := h
  clear hp hg hk h hcs
  go_enter Try.func24, Try.ntmps24
  go_wp2_with fail
  go_loopw [56] (fun i wr => ∃ (k : Nat) (tv' rv' : Value), k ≤ n ∧ i = .int .i64 k ∧ Came B rb tv rv w (st k).1 (st k).2 tv' rv' wr) (fun i _ => n - (intOf i).toNat)
  case atStart => exact ⟨0, tv, rv, Nat.zero_le _, rfl, Came.start H0.out⟩
  case round =>
    obtain ⟨k, tv', rv', hk, rfl, C⟩ := hrel
    by_cases hlt : k < n
    · have hg2 := C.block H0.out HG.out (by decide) (by decide) (by decide)
      have hcell : wr.cell? ⟨g, k, none⟩ = some (.pointer (some ⟨ps k, 0, none⟩)) := by
        rw [cell_of_row wr g k _ _ _ hg2]; exact HCS.out k hlt
      have HC : Hid _ := HK.out k hlt tv' rv' wr C
      clear hg2
      generalize ps k = pk at hcell HC
      go_wp2_with fail
      refine Calls.mono HC.out ?_
      rintro e w2 ⟨rfl, tv2, rv2, C2⟩
      have C3 := C.then C2
      clear C C2 HC hcell
      go_wp2_with fail
      go_roundw
      case rel => exact ⟨k + 1, tv2, rv2, by omega, by go_num, C3⟩
      case measure => simp [intOf]; omega
    · obtain rfl : k = n := by omega
      go_wp2_with fail
      refine bodyPost_ret (results_none rfl _ _ _) rfl ?_
      exact ⟨rfl, _, _, C⟩

/-- one block after the other -/
def allocs (w : World) : List Obj → World
  | [] => w
  | o :: os => allocs (w.alloc o) os

theorem allocs_alt (os : List Obj) : ∀ w, Alt (fun _ => False) w (allocs w os) := by
  induction os with
  | nil => exact fun w => Alt.refl _ w
  | cons o os ih => exact fun w => ((Alt.refl _ w).alloc o).trans (Alt.trans (ih (w.alloc o)) (Alt.refl _ _))

theorem allocs_at (os : List Obj) : ∀ (w : World) (k : Nat) (o : Obj), os[k]? = some o → (allocs w os).heap[w.heap.size + k]? = some o := by
  induction os with
  | nil => intro w k o h; simp at h
  | cons a os ih =>
    intro w k o h
    cases k with
    | zero =>
      simp at h
      subst h
      exact (allocs_alt os (w.alloc a)).at (heap_alloc_new w a) (fun h => h)
    | succ k =>
      simp at h
      have := ih (w.alloc a) k o h
      rw [show (w.alloc a).heap.size + k = w.heap.size + (k + 1) by simp; omega] at this
      exact this

abbrev reObj (op : Int) (sub rune : Value) : Obj := .cells #[.int .u8 op, .int .u16 0, sub, .pointer none, rune, .int .i32 0, .int .i32 0, .int .i64 0, .int .i64 0, .int .i64 0, .string ⟨#[]⟩] 58
abbrev ptrTo (k : Nat) : Value := .pointer (some ⟨k, 0, none⟩)

/-- the blocks of ZZheldReadConcat -/
def conObjs (s : Nat) (tv rv av bv cv : Value) : List Obj :=
  [.cells #[tv, rv] 49, reObj 3 (.slice none 0 0) av, .cells #[ptrTo (s + 1)] 51, reObj 13 (.slice (some ⟨s + 2, 0, none⟩) 1 1) (.slice none 0 0), reObj 3 (.slice none 0 0) bv, .cells #[ptrTo (s + 4)] 51,
   reObj 15 (.slice (some ⟨s + 5, 0, none⟩) 1 1) (.slice none 0 0), reObj 3 (.slice none 0 0) cv, .cells #[ptrTo (s + 3), ptrTo (s + 6), ptrTo (s + 7)] 51, reObj 18 (.slice (some ⟨s + 8, 0, none⟩) 3 3) (.slice none 0 0)]

def con0 (w : World) (tv rv av bv cv : Value) : World := allocs w (conObjs w.heap.size tv rv av bv cv)

/-- the states of the read -/
def conSt (T : List ByteArray) (R A D C : List Int) : Nat → List ByteArray × List Int
  | 0 => (T, R)
  | 1 => readLit strOfNums byt A T R
  | 2 => (endRun strOfNums (readLit strOfNums byt D (readLit strOfNums byt A T R).1 (readLit strOfNums byt A T R).2).1 (readLit strOfNums byt D (readLit strOfNums byt A T R).1 (readLit strOfNums byt A T R).2).2, [])
  | _ => readLit strOfNums byt C (endRun strOfNums (readLit strOfNums byt D (readLit strOfNums byt A T R).1 (readLit strOfNums byt A T R).2).1 (readLit strOfNums byt D (readLit strOfNums byt A T R).1 (readLit strOfNums byt A T R).2).2) []

def conPs (s : Nat) : Nat → Nat
  | 0 => s + 3
  | 1 => s + 6
  | _ => s + 7

theorem con0_read (B : Nat) (tv rv av bv cv : Value) (T : List ByteArray) (R A D C : List Int) (w : World) (ht : w.ownsRow B 9 1 tv T.length (T.map Value.string)) (hr : w.ownsRow B 5 1 rv R.length (R.map (Value.int .u8)))
    (ha : w.ownsRow B 21 1 av A.length (A.map (Value.int .i32))) (hd : w.ownsRow B 21 1 bv D.length (D.map (Value.int .i32))) (hc : w.ownsRow B 21 1 cv C.length (C.map (Value.int .i32)))
    (hA : A.length ≤ 262144) (hD : D.length ≤ 262144) (hC : C.length ≤ 262144) (hRb : R.length ≤ 1048576) (hTb : T.length ≤ 1048576) (hB : B ≤ w.heap.size) :
    Calls Try.prog 24 #[ptrTo w.heap.size, ptrTo (w.heap.size + 9)] (con0 w tv rv av bv cv) (CameEnd B w.heap.size tv rv (conSt T R A D C 3).1 (conSt T R A D C 3).2 (con0 w tv rv av bv cv)) := by
  have alt := allocs_alt (conObjs w.heap.size tv rv av bv cv) w
  have at_ := allocs_at (conObjs w.heap.size tv rv av bv cv) w
  have rs : RS B (con0 w tv rv av bv cv) w.heap.size tv rv T R := ⟨at_ 0 _ rfl, own_alt ht alt (fun _ _ h => h), own_alt hr alt (fun _ _ h => h)⟩
  have l1 := readLit_len1 strOfNums byt A T R
  have l2 := readLit_len2 strOfNums byt A T R
  have l3 := readLit_len1 strOfNums byt D (readLit strOfNums byt A T R).1 (readLit strOfNums byt A T R).2
  have l4 := readLit_len2 strOfNums byt D (readLit strOfNums byt A T R).1 (readLit strOfNums byt A T R).2
  have l5 := endRun_len strOfNums (readLit strOfNums byt D (readLit strOfNums byt A T R).1 (readLit strOfNums byt A T R).2).1 (readLit strOfNums byt D (readLit strOfNums byt A T R).1 (readLit strOfNums byt A T R).2).2
  have ha0 := own_alt ha alt (fun _ _ h => h)
  have hd0 := own_alt hd alt (fun _ _ h => h)
  have hc0 := own_alt hc alt (fun _ _ h => h)
  have hB0 : B ≤ (con0 w tv rv av bv cv).heap.size := Nat.le_trans hB alt.size
  refine read_cat B w.heap.size (w.heap.size + 9) (w.heap.size + 8) 3 tv rv (.slice none 0 0) (conSt T R A D C) (conPs w.heap.size) #[ptrTo (w.heap.size + 3), ptrTo (w.heap.size + 6), ptrTo (w.heap.size + 7)] (con0 w tv rv av bv cv) rs (at_ 9 _ rfl) (at_ 8 _ rfl) (by decide) ?_ ?_
  · intro k hk
    match k, hk with
    | 0, _ => rfl
    | 1, _ => rfl
    | 2, _ => rfl
  · intro k hk tv1 rv1 w1 C1
    have hB1 : B ≤ w1.heap.size := Nat.le_trans hB0 C1.alt.size
    match k, hk with
    | 0, _ =>
      refine read_cap B _ _ (w.heap.size + 1) (w.heap.size + 2) tv1 rv1 (.slice none 0 0) _ _ w1 (IsRe.came (at_ 3 _ rfl) C1 rs) (C1.block rs (at_ 2 _ rfl) (by decide) (by decide) (by decide)) ?_
      exact read_lit B _ _ tv1 rv1 (.slice none 0 0) av T R A B A.length w1 C1.rs (IsRe.came (at_ 1 _ rfl) C1 rs) (C1.keeps rs ha0 (by decide) (by decide) (by decide)) rfl (by omega) (by omega) (by omega) hB1
    | 1, _ =>
      refine read_plus B _ _ (w.heap.size + 4) (w.heap.size + 5) tv1 rv1 (.slice none 0 0) _ _ _ _ w1 C1.rs (IsRe.came (at_ 6 _ rfl) C1 rs) (C1.block rs (at_ 5 _ rfl) (by decide) (by decide) (by decide)) ?_ (by omega) (by omega) hB1
      exact read_lit B _ _ tv1 rv1 (.slice none 0 0) bv _ _ D B D.length w1 C1.rs (IsRe.came (at_ 4 _ rfl) C1 rs) (C1.keeps rs hd0 (by decide) (by decide) (by decide)) rfl (by omega) (by show (readLit strOfNums byt A T R).2.length ≤ _; omega) (by show (readLit strOfNums byt A T R).1.length ≤ _; omega) hB1
    | 2, _ =>
      exact read_lit B _ _ tv1 rv1 (.slice none 0 0) cv _ _ C B C.length w1 C1.rs (IsRe.came (at_ 7 _ rfl) C1 rs) (C1.keeps rs hc0 (by decide) (by decide) (by decide)) rfl (by omega) (by exact Nat.zero_le _) (by show (endRun strOfNums _ _).length ≤ _; omega) hB1

set_option maxHeartbeats 2000000 in
set_option maxRecDepth 100000 in
theorem readConcat_any (B : Nat) (tv rv av bv cv : Value) (T : List ByteArray) (R A D C : List Int) (w : World) (ht : w.ownsRow B 9 1 tv T.length (T.map Value.string)) (hr : w.ownsRow B 5 1 rv R.length (R.map (Value.int .u8)))
    (ha : w.ownsRow B 21 1 av A.length (A.map (Value.int .i32))) (hd : w.ownsRow B 21 1 bv D.length (D.map (Value.int .i32))) (hc : w.ownsRow B 21 1 cv C.length (C.map (Value.int .i32)))
    (hA : A.length ≤ 262144) (hD : D.length ≤ 262144) (hC : C.length ≤ 262144) (hRb : R.length ≤ 1048576) (hTb : T.length ≤ 1048576) (hB : B ≤ w.heap.size) :
    Calls Try.prog 16 #[tv, rv, av, bv, cv] w (ReadPost B tv rv (conSt T R A D C 3).1 (conSt T R A D C 3).2 w) := by
  have HRD : Hid _ := con0_read B tv rv av bv cv T R A D C w ht hr ha hd hc hA hD hC hRb hTb hB
  obtain ⟨ta, tc, rfl⟩ := own_slice ht
  obtain ⟨ra, rc, rfl⟩ := own_slice hr
  obtain ⟨aa, ac, rfl⟩ := own_slice ha
  obtain ⟨da, dc, rfl⟩ := own_slice hd
  obtain ⟨ca, cc, rfl⟩ := own_slice hc
  clear ht hr ha hd hc
  go_enter Try.func16, Try.ntmps16
  go_wp2_with fail
  refine Calls.mono HRD.out ?_
  rintro e w2 ⟨rfl, tv', rv', C2⟩
  have c0 := C2.rs.cell0
  have c1 := C2.rs.cell1
  have HP : Hid (∀ q, ReadPost B (.slice ta T.length tc) (.slice ra R.length rc) (conSt T R A D C 3).1 (conSt T R A D C 3).2 w (.returned (.tuple #[tv', rv'])) (w2.drewN q)) := fun q => ReadPost.of (allocs_alt _ w) C2 q
  obtain ⟨ta', tc', rfl⟩ := own_slice C2.rs.texts
  obtain ⟨ra', rc', rfl⟩ := own_slice C2.rs.run
  clear HRD C2
  generalize (conSt T R A D C 3).1 = T1 at *
  generalize (conSt T R A D C 3).2 = R1 at *
  go_wp2_with fail
  go_quiet (fail)
  go_wp2_with fail
  go_ret2
  exact HP.out _
end Go.Proofs.Qxb6605601a
