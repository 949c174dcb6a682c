import Derived.Test.Qxb6605601aMem
import Derived.Test.Qxb6605601aPlain
import Derived.Test.Qxb6605601aClones
import Derived.Laws.AppendOwnNone
namespace Go.Proofs.Qxb6605601a
open Go.RowKit
set_option linter.unusedVariables false

theorem Try.info3 : (Try.prog.info? 3).map (fun i => (i.zero, i.size, i.bytes)) = some (some (.int .i64 0), 1, 8) := by kernel_rfl
theorem Try.info23 : (Try.prog.info? 23).map (fun i => (i.zero, i.size, i.bytes)) = some (some (.slice none 0 0), 1, 24) := by kernel_rfl

/-- a rune's low byte -/
def byt (c : Int) : Int := IntKind.u8.wrap c

theorem take_snoc (rs : List Int) (k : Nat) (h : k < rs.length) : rs.take (k + 1) = rs.take k ++ [rs[k]?.getD 0] := by
  rw [List.take_succ_eq_append_getElem h]; simp [h]

/-- the cuts among the first k -/
def cutsV (rs : List Int) (k : Nat) : List Value := (cutsAt 0 (rs.take k)).map (fun i : Nat => Value.int .i64 i)

theorem cutsV_hit (rs : List Int) (k : Nat) (h : k < rs.length) (hc : 128 ≤ rs[k]?.getD 0) : cutsV rs (k + 1) = cutsV rs k ++ [.int .i64 k] := by
  unfold cutsV
  rw [take_snoc rs k h, cutsAt_snoc, if_pos hc]
  simp [Nat.min_eq_left (Nat.le_of_lt h)]
theorem cutsV_miss (rs : List Int) (k : Nat) (h : k < rs.length) (hc : ¬ 128 ≤ rs[k]?.getD 0) : cutsV rs (k + 1) = cutsV rs k := by
  unfold cutsV
  rw [take_snoc rs k h, cutsAt_snoc, if_neg hc]
  simp
theorem cutsV_len (rs : List Int) (k : Nat) : (cutsV rs k).length ≤ k := by
  unfold cutsV
  have := cutsAt_length (rs.take k) 0
  simp at *
  omega

/-- append of whatever slice (nil, empty or not) to a row of the call's own -/
theorem wpList_append_src {P : Program} (w : World) {ops : Array Oper} {rest : List Oper} {o : Oper} {a : Act} {Q : Exit → Act → World → Prop} (hgd : o.guard = none) (s x : Operand) (t : TypeId)
    (ho : o.op = .call { callee := .builtin .append, args := #[s, x], argTypes := #[t, t] })
    (base : Nat) (e : TypeId) (i : TypeInfo) (z : Value) (size bytes : Nat) (ht : P.underlying t = some (.slice e)) (hi : P.info? e = some i) (hz : i.zero = some z)
    (hsize : i.size = size) (hby : i.bytes = bytes) (hzs : z.cells.size = size) (hsz : 0 < size)
    (v : Value) (n : Nat) (xs : List Value) (hs : a.eval s = v) (hown : w.ownsRow base e size v n xs)
    (ao : Option Addr) (m c : Nat) (news : List Value) (hx : a.eval x = .slice ao m c) (hl : news.length = m * size) (hnone : ao = none → m = 0 ∧ c = 0) (hnews : ∀ ad, ao = some ad → ∀ j u, news[j]? = some u → w.cell? (ad.add j) = some u) (h1 : ∀ u ∈ news, u.oneCell' = true)
    (h63 : n + m ≤ maxLen) (hbytes : (n + m) * bytes ≤ 140737488355328) (hbase : base ≤ w.heap.size)
    (h : ∀ v' w', w'.ownsRow base e size v' (n + m) (xs ++ news) → w.grownBy w' v.ownBlock → wpList P ops Q rest (a.put o.dst v') w') : wpList P ops Q (o :: rest) a w := by
  cases ao with
  | some ad => exact wpList_append_own w hgd s x t ho base e i z size bytes ht hi hz hsize hby hzs hsz v n xs hs hown ad m c news hx hl (hnews ad rfl) h1 h63 hbytes hbase (fun v' w' a b _ => h v' w' a b)
  | none =>
    obtain ⟨rfl, rfl⟩ := hnone rfl
    obtain rfl : news = [] := List.eq_nil_of_length_eq_zero (by simpa using hl)
    exact wpList_append_own_none hgd s x t ho base e i size ht hi v n xs hs hown hx (h v w (by simpa using hown) (World.grownBy.refl _ _))

/-- what heldPieces hands back -/
def HeldPost (pre rs : List Int) (w : World) (e : Ending) (w' : World) : Prop :=
  ∃ (gp : Nat) (pvs : List Value), e = .returned (.slice (some ⟨gp, 0, none⟩) (pieces byt pre rs).length (pieces byt pre rs).length) ∧ pvs.length = (pieces byt pre rs).length ∧
    w'.ownsRow w.heap.size 23 1 (.slice (some ⟨gp, 0, none⟩) (pieces byt pre rs).length (pieces byt pre rs).length) (pieces byt pre rs).length pvs ∧
    (∀ (i : Nat) (v : Value) (z : List Int), pvs[i]? = some v → (pieces byt pre rs)[i]? = some z → w'.ownsRow w.heap.size 5 1 v z.length (z.map (Value.int .u8))) ∧ Below w.heap.size w w'

/-- k pieces laid, the next begins at fr -/
structure R2S (w : World) (pre rs : List Int) (cv : Value) (gp k fr : Nat) (done : List (List Int)) (pvs : List Value) (wr : World) : Prop where
  dlen : done.length = k
  plen : pvs.length = k
  row : wr.ownsRow w.heap.size 23 1 (.slice (some ⟨gp, 0, none⟩) k ((cutsAt 0 rs).length + 1)) k pvs
  each : ∀ (i : Nat) (v : Value) (z : List Int), pvs[i]? = some v → done[i]? = some z → wr.ownsRow w.heap.size 5 1 v z.length (z.map (Value.int .u8))
  cuts : wr.ownsRow w.heap.size 3 1 cv (cutsAt 0 rs).length ((cutsAt 0 rs).map (fun i : Nat => Value.int .i64 i))
  below : Below w.heap.size w wr
  more : k ≤ (cutsAt 0 rs).length → fr ≤ rs.length ∧ (cutsAt 0 rs).drop k = cutsAt fr (rs.drop fr) ∧ done ++ pieces byt (if k = 0 then pre else []) (rs.drop fr) = pieces byt pre rs
  all : (cutsAt 0 rs).length < k → done = pieces byt pre rs

theorem row_block {w : World} {base : Nat} {e : TypeId} {g n cap : Nat} {xs : List Value} (h : w.ownsRow base e 1 (.slice (some ⟨g, 0, none⟩) n cap) n xs) : ∃ cur, w.heap[g]? = some (.cells cur e (0, 0)) := by
  rcases h.2 with ⟨h', _⟩ | ⟨g', cap', cur, h', _, hg, _⟩
  · simp at h'
  · simp only [Value.slice.injEq, Option.some.injEq, Addr.mk.injEq, and_true, true_and] at h'
    obtain ⟨rfl, rfl⟩ := h'
    exact ⟨cur, hg⟩

theorem R2S.next {w : World} {pre rs : List Int} {cv : Value} {gp k fr : Nat} {done : List (List Int)} {pvs : List Value} {wr : World} (h : R2S w pre rs cv gp k fr done pvs wr) (hk : k ≤ (cutsAt 0 rs).length) (to : Nat)
    (hto : (k < (cutsAt 0 rs).length ∧ (cutsAt 0 rs)[k]? = some to) ∨ (k = (cutsAt 0 rs).length ∧ to = rs.length)) :
    fr ≤ to ∧ to ≤ rs.length ∧ ∀ (W W' : World) (pv : Value) (o : Obj) (z : List Int), z = (if k = 0 then pre else []) ++ ((rs.drop fr).take (to - fr)).map byt → Below wr.heap.size wr W →
      W.ownsRow wr.heap.size 5 1 pv z.length (z.map (Value.int .u8)) → W'.ownsRow w.heap.size 23 1 (.slice (some ⟨gp, 0, none⟩) (k + 1) ((cutsAt 0 rs).length + 1)) (k + 1) (pvs ++ [pv]) → (W.alloc o).grownBy W' (some gp) →
      R2S w pre rs cv gp (k + 1) (to + 1) (done ++ [z]) (pvs ++ [pv]) W' := by
  obtain ⟨m1, m2, m3⟩ := h.more hk
  have law : fr ≤ to ∧ to ≤ rs.length ∧ (k + 1 ≤ (cutsAt 0 rs).length → to + 1 ≤ rs.length ∧ (cutsAt 0 rs).drop (k + 1) = cutsAt (to + 1) (rs.drop (to + 1)) ∧
      (done ++ [(if k = 0 then pre else []) ++ ((rs.drop fr).take (to - fr)).map byt]) ++ pieces byt [] (rs.drop (to + 1)) = pieces byt pre rs) ∧
      ((cutsAt 0 rs).length < k + 1 → done ++ [(if k = 0 then pre else []) ++ ((rs.drop fr).take (to - fr)).map byt] = pieces byt pre rs) := by
    rcases hto with ⟨hlt, hg⟩ | ⟨hke, rfl⟩
    · have hd : cutsAt fr (rs.drop fr) = to :: (cutsAt 0 rs).drop (k + 1) := by
        rw [← m2, List.drop_eq_getElem_cons hlt]
        obtain ⟨h1, h2⟩ := List.getElem?_eq_some_iff.1 hg
        rw [h2]
      obtain ⟨n1, n2, n3, n4⟩ := pieces_next byt (rs.drop fr) fr to _ (if k = 0 then pre else []) hd
      have e : (rs.drop fr).drop (to + 1 - fr) = rs.drop (to + 1) := by rw [List.drop_drop]; congr 1; omega
      rw [e] at n3 n4
      simp only [List.length_drop] at n2
      refine ⟨n1, by omega, fun _ => ⟨by omega, n3, ?_⟩, fun hlt' => by omega⟩
      rw [← m3, n4]
      simp
    · have hd : cutsAt fr (rs.drop fr) = [] := by rw [← m2, hke]; simp
      have n4 := pieces_last byt (rs.drop fr) fr (if k = 0 then pre else []) hd
      refine ⟨m1, Nat.le_refl _, fun hlt' => by omega, fun _ => ?_⟩
      rw [← m3, n4]
      rw [List.take_of_length_le (by simp)]
  obtain ⟨l1, l2, l3, l4⟩ := law
  refine ⟨l1, l2, fun W W' pv o z hz hbel hpv hrow hgrow => ?_⟩
  obtain ⟨cur, hcur⟩ := row_block h.row
  have hcurW : (W.alloc o).heap[gp]? = some (.cells cur 23 (0, 0)) := by
    rw [Below.heap_alloc _ _ _ (Nat.lt_of_lt_of_le (lt_of_heap hcur) hbel.size), hbel.block gp (lt_of_heap hcur)]
    exact hcur
  have keep : ∀ {base : Nat} {e : TypeId} {v : Value} {n : Nat} {xs : List Value}, W.ownsRow base e 1 v n xs → e ≠ 23 → W'.ownsRow base e 1 v n xs := fun ho hne =>
    (ho.alloc o).kept hgrow (.inr (own_ne (ho.alloc o) hcurW hne))
  have hsz := h.below.size
  have hgB : w.heap.size ≤ gp := (h.row.lt gp rfl).1
  refine ⟨by simp [h.dlen], by simp [h.plen], hrow, ?_, keep (own_below h.cuts hbel (Nat.le_refl _)) (by decide), ?_, ?_, ?_⟩
  · intro i v z' hv hz'
    by_cases hi : i < k
    · rw [List.getElem?_append_left (by rw [h.plen]; exact hi)] at hv
      rw [List.getElem?_append_left (by rw [h.dlen]; exact hi)] at hz'
      exact keep (own_below (h.each i v z' hv hz') hbel (Nat.le_refl _)) (by decide)
    · have hik : i = k := by
        have := (List.getElem?_eq_some_iff.1 hv).1
        simp [h.plen] at this; omega
      subst hik
      rw [List.getElem?_append_right (by rw [h.plen]; exact Nat.le_refl _), h.plen] at hv
      rw [List.getElem?_append_right (by rw [h.dlen]; exact Nat.le_refl _), h.dlen] at hz'
      simp at hv hz'
      subst hv hz'
      exact keep (own_up hpv hsz) (by decide)
  · exact ((h.below.trans (hbel.mono hsz)).alloc (Nat.le_trans hsz hbel.size) o).grown hgrow (by have := hbel.size; simp; omega) (fun q hq => by simp at hq; omega)
  · intro hk'
    rw [hz, if_neg (show ¬ k + 1 = 0 by omega)]
    exact l3 hk'
  · intro hk'
    rw [hz]
    exact l4 hk'

theorem R2S.fin {w : World} {pre rs : List Int} {cv : Value} {gp m k fr : Nat} {done : List (List Int)} {pvs : List Value} {wr : World} (h : R2S w pre rs cv gp k fr done pvs wr) (hm : (cutsAt 0 rs).length = m) (hk : k = m + 1) :
    HeldPost pre rs w (.returned (.slice (some ⟨gp, 0, none⟩) k (m + 1))) wr := by
  subst hm hk
  have hl := pieces_length byt rs pre 0
  have hd := h.all (by omega)
  refine ⟨gp, pvs, ?_, by rw [hl, h.plen], ?_, ?_, h.below⟩
  · rw [hl]
  · rw [hl]; exact h.row
  · rw [← hd]; exact h.each

/-- a piece grown by one byte -/
def grew (bs rs : List Int) (fr j : Nat) : List Int := bs ++ ((rs.drop fr).take (j - fr)).map byt
theorem grew_start (bs rs : List Int) (fr : Nat) : grew bs rs fr fr = bs := by simp [grew]
theorem grew_step (bs rs : List Int) (fr j : Nat) (h1 : fr ≤ j) (h2 : j < rs.length) : grew bs rs fr (j + 1) = grew bs rs fr j ++ [byt (rs[j]?.getD 0)] := by
  unfold grew
  rw [show j + 1 - fr = (j - fr) + 1 by omega, List.take_succ_eq_append_getElem (by simp; omega)]
  simp [show fr + (j - fr) = j by omega, h2]
theorem grew_len (bs rs : List Int) (fr j : Nat) : (grew bs rs fr j).length ≤ bs.length + rs.length := by
  unfold grew
  simp
  omega

theorem R2S.start {w w1 w2 : World} {pre rs : List Int} {cv : Value} (hc : w1.ownsRow w.heap.size 3 1 cv (cutsAt 0 rs).length ((cutsAt 0 rs).map (fun i : Nat => Value.int .i64 i))) (hb : Below w.heap.size w w1)
    (ho : w2.ownsRow w.heap.size 23 1 (.slice (some ⟨w1.heap.size, 0, none⟩) 0 ((cutsAt 0 rs).length + 1)) 0 []) (hg : w1.grownBy w2 none) : R2S w pre rs cv w1.heap.size 0 0 [] [] w2 :=
  ⟨rfl, rfl, ho, fun i v z h => by simp at h, hc.kept hg (by cases cv.ownBlock <;> simp), hb.grown hg hb.size (fun k h => by cases h), fun _ => ⟨Nat.zero_le _, by simp, by simp⟩, fun h => by omega⟩

set_option maxHeartbeats 1000000 in
theorem held_any (ap : Option Addr) (np cp : Nat) (pre : List Int) (ar : Option Addr) (n cr : Nat) (rs : List Int) (w : World) (hp : pre.length = np) (hr : rs.length = n) (hnp : np ≤ 1048576) (hn : n ≤ 1048576)
    (hpn : ap = none → np = 0 ∧ cp = 0) (h1 : At w ap np (fun i => .int .u8 (pre[i]?.getD 0))) (h2 : At w ar n (fun i => .int .i32 (rs[i]?.getD 0))) :
    Calls Try.prog 11 #[.slice ap np cp, .slice ar n cr] w (HeldPost pre rs w) := by
  obtain ⟨i3, ji, jz0, jz1, jz2⟩ := info_parts Try.info3
  obtain ⟨i23, ki, kz0, kz1, kz2⟩ := info_parts Try.info23
  obtain ⟨i5, li, lz0, lz1, lz2⟩ := info_parts Try.info5
  have H1 : Hid (At w ap np (fun i => .int .u8 (pre[i]?.getD 0))) := h1
  have H2 : Hid (At w ar n (fun i => .int .i32 (rs[i]?.getD 0))) := h2
  clear h1 h2
  go_enter Try.func11, Try.ntmps11
  go_wp2_with fail
  go_loopw [5, 6] (fun cv i wr => ∃ k : Nat, k ≤ n ∧ i = .int .i64 k ∧ wr.ownsRow w.heap.size 3 1 cv (cutsV rs k).length (cutsV rs k) ∧ Below w.heap.size w wr) (fun _ i _ => n - (intOf i).toNat)
  case atStart => exact ⟨0, Nat.zero_le _, rfl, World.ownsRow_nil _ _ _ _, Below.refl _ _⟩
  case round =>
    obtain ⟨k, hk, rfl, hown, hbel⟩ := hrel
    by_cases hlt : k < n
    · obtain ⟨b, off, rfl, hc⟩ := H2.out (by omega)
      have hcell : wr.cell? ⟨b, off + k, none⟩ = some (.int .i32 (rs[k]?.getD 0)) := (hbel.cell (p := ⟨b, off + k, none⟩) (World.block_lt_of_cell? w _ (hc k hlt))).trans (hc k hlt)
      clear hc
      have hlen := cutsV_len rs k
      have hsz := hbel.size
      by_cases hcut : 128 ≤ rs[k]?.getD 0
      · have HV : Hid (cutsV rs (k + 1) = cutsV rs k ++ [.int .i64 k]) := cutsV_hit rs k (by omega) hcut
        generalize rs[k]?.getD 0 = x at hcell hcut
        have HO : Hid ((wr.alloc (.cells #[.int .i64 k] 3)).ownsRow w.heap.size 3 1 u5 (cutsV rs k).length (cutsV rs k)) := hown.alloc _
        clear hown
        go_wp2_with (at_builtin; refine wpList_append_own _ rfl (.tmp 24) (.tmp 26) 46 rfl w.heap.size 3 i3 (.int .i64 0) 1 8 Try.underlying46 ji jz0 jz1 jz2 rfl (by decide) u5 (cutsV rs k).length (cutsV rs k) rfl (by exact HO.out) ⟨wr.heap.size, 0, none⟩ 1 1 [.int .i64 k] rfl rfl (by intro j u hj; match j, hj with | 0, hj => simp at hj; subst hj; simp [Addr.add]) (by intro u hu; simp at hu; subst hu; rfl) (by unfold maxLen; omega) (by omega) (by simp; omega) ?next)
        case next =>
          intro v' w1 hown' hgrow _
          have hown2 : w1.ownsRow w.heap.size 3 1 v' (cutsV rs (k + 1)).length (cutsV rs (k + 1)) := by
            rw [HV.out]; simpa using hown'
          have hbel2 : Below w.heap.size w w1 := (hbel.alloc hbel.size _).grown hgrow (by simp; omega) (fun q hq => (HO.out.lt q hq).1)
          clear hown' hgrow HO HV
          go_wp2_with fail
          go_roundw
          case rel => exact ⟨k + 1, by omega, by go_num, hown2, hbel2⟩
          case measure => simp [intOf]; omega
      · have HO : Hid (wr.ownsRow w.heap.size 3 1 u5 (cutsV rs (k + 1)).length (cutsV rs (k + 1))) := by rw [cutsV_miss rs k (by omega) hcut]; exact hown
        generalize rs[k]?.getD 0 = x at hcell hcut
        clear hown
        go_wp2_with fail
        go_roundw
        case rel => exact ⟨k + 1, by omega, by go_num, HO.out, hbel⟩
        case measure => simp [intOf]; omega
    · have hcv : cutsV rs n = (cutsAt 0 rs).map (fun i : Nat => Value.int .i64 i) := by unfold cutsV; rw [List.take_of_length_le (by omega)]
      rw [show k = n by omega, hcv, List.length_map] at hown
      clear hcv
      obtain ⟨ac, cc, rfl⟩ := own_slice hown
      have hlen := cutsAt_length rs 0
      have hsz := hbel.size
      have HO : Hid _ := hown
      clear hown
      generalize hm : (cutsAt 0 rs).length = m at *
      have HM : Hid ((cutsAt 0 rs).length = m) := hm
      clear hm
      go_wp2_with (at_make; refine wpList_make_own _ rfl _ _ 29 rfl w.heap.size 23 i23 (.slice none 0 0) 1 Try.underlying29 ki kz0 kz1 _ _ _ (m + 1) rfl rfl (by omega) (by rw [kz2]; omega) (by unfold maxLen; omega) hsz ?_)
      intro w2 hown2 hgrow2
      have S0 : R2S w pre rs (.slice ac m cc) wr.heap.size 0 0 [] [] w2 := R2S.start (by rw [HM.out]; exact HO.out) hbel (by rw [HM.out]; exact hown2) hgrow2
      clear hown2 hgrow2 HO hbel hsz
      generalize wr.heap.size = gp at *
      go_wp2_with fail
      go_loopw [7, 8, 9] (fun pv f kk wr => ∃ (k2 fr : Nat) (done : List (List Int)) (pvs : List Value), k2 ≤ m + 1 ∧ kk = .int .i64 k2 ∧ f = .int .i64 fr ∧ fr ≤ n + 1 ∧ pv = .slice (some ⟨gp, 0, none⟩) k2 (m + 1) ∧ R2S w pre rs (.slice ac m cc) gp k2 fr done pvs wr) (fun _ _ kk _ => m + 2 - (intOf kk).toNat)
      case atStart => exact ⟨0, 0, [], [], by omega, rfl, rfl, by omega, rfl, S0⟩
      case round =>
        clear S0
        obtain ⟨k2, fr, done, pvs, hk2, rfl, rfl, hfr, rfl, S⟩ := hrel
        by_cases hle : k2 ≤ m
        · generalize hWr : wr = Wr at *
          clear hWr
          have hsz := S.below.size
          by_cases hz : k2 = 0
          · have hk0 : ((k2 : Int) == 0) = true := by rw [beq_iff_eq]; omega
            have HZ : Hid (k2 = 0) := hz
            have hz' : k2 ≤ 0 := by omega
            clear hz
            by_cases hlt2 : k2 < m
            · have hc := S.cuts
              rw [HM.out] at hc
              obtain ⟨gc, capc, ec⟩ := own_form hc (by omega)
              obtain ⟨rfl, rfl⟩ : ac = some ⟨gc, 0, none⟩ ∧ cc = capc := by simpa using ec
              obtain ⟨to, hto⟩ : ∃ to, (cutsAt 0 rs)[k2]? = some to := ⟨_, List.getElem?_eq_getElem (by rw [HM.out]; exact hlt2)⟩
              have hcut : Wr.cell? ⟨gc, k2, none⟩ = some (.int .i64 to) := by
                rw [hc.cellAt k2 (by omega)]; simp [hto]
              obtain ⟨t1, t2, NX0⟩ := S.next (by rw [HM.out]; exact hle) to (.inl ⟨by rw [HM.out]; exact hlt2, hto⟩)
              have NX : Hid _ := NX0
              clear hc ec hto NX0
              have HZE : Hid (grew pre rs fr to = (if k2 = 0 then pre else []) ++ ((rs.drop fr).take (to - fr)).map byt) := by unfold grew Hid; rw [if_pos HZ.out]
              have HPC : Hid (∀ ad, ap = some ad → ∀ j u, (pre.map (Value.int .u8))[j]? = some u → Wr.cell? (ad.add j) = some u) := fun ad had j u hu => by
                have hj : j < pre.length := by simpa using (List.getElem?_eq_some_iff.1 hu).1
                obtain ⟨b, off, e, hc⟩ := H1.out (by omega)
                obtain rfl : (⟨b, off, none⟩ : Addr) = ad := by rw [e] at had; exact Option.some.inj had
                have h1 := hc j (by omega)
                rw [Addr.add_lit, S.below.cell (p := ⟨b, off + j, none⟩) (World.block_lt_of_cell? w _ h1), h1]
                simp [hj] at hu
                simp [hj, hu]
              have HS : Hid _ := S
              clear S
              go_wp2_with (at_builtin; refine wpList_append_src _ rfl (.tmp 50) (.tmp 51) 23 rfl Wr.heap.size 5 i5 (.int .u8 0) 1 1 Try.underlying23 li lz0 lz1 lz2 rfl (by decide) (.slice none 0 0) 0 [] rfl (World.ownsRow_nil _ _ _ _) ap np cp (pre.map (Value.int .u8)) rfl (by simp; omega) hpn (by exact HPC.out) (ints_oneCell _ _) (by unfold maxLen; omega) (by omega) (Nat.le_refl _) ?next)
              case next =>
                intro p0 W hp0 hgW
                have HP0 : Hid (W.ownsRow Wr.heap.size 5 1 p0 pre.length (pre.map (Value.int .u8))) := by
                  unfold Hid
                  rw [hp]
                  first | exact hp0 | simpa using hp0
                have hbW : Below Wr.heap.size Wr W := (Below.refl _ _).grown hgW (Nat.le_refl _) (fun k h => by cases h)
                clear hp0 hgW HPC
                go_wp2_with fail
                go_loopw [11, 12] (fun pv i wi => ∃ j : Nat, fr ≤ j ∧ j ≤ to ∧ i = .int .i64 j ∧ wi.ownsRow Wr.heap.size 5 1 pv (grew pre rs fr j).length ((grew pre rs fr j).map (Value.int .u8)) ∧ Below Wr.heap.size Wr wi) (fun _ i _ => to - (intOf i).toNat)
                case atStart => exact ⟨fr, Nat.le_refl _, t1, rfl, by rw [grew_start]; exact HP0.out, hbW⟩
                case round =>
                  clear HP0 hbW
                  obtain ⟨j, hj1, hj2, rfl, hown, hbel⟩ := hrel
                  have hgl : (grew pre rs fr j).length ≤ 2097152 := by
                    have h := grew_len pre rs fr j
                    first | omega | (simp only [List.length_nil] at h; omega)
                  have hws := hbel.size
                  by_cases hjt : j < to
                  · obtain ⟨b, off, rfl, hc⟩ := H2.out (by omega)
                    have hcell : wr.cell? ⟨b, off + j, none⟩ = some (.int .i32 (rs[j]?.getD 0)) := by
                      have h1 := hc j (by omega)
                      have h0 := World.block_lt_of_cell? w _ h1
                      rw [hbel.cell (p := ⟨b, off + j, none⟩) (by exact Nat.lt_of_lt_of_le h0 hsz), HS.out.below.cell (p := ⟨b, off + j, none⟩) h0]
                      exact h1
                    have HG : Hid (grew pre rs fr (j + 1) = grew pre rs fr j ++ [byt (rs[j]?.getD 0)]) := grew_step pre rs fr j hj1 (by omega)
                    clear hc
                    generalize rs[j]?.getD 0 = x at hcell HG
                    have HO : Hid ((wr.alloc (.cells #[.int .u8 (byt x)] 5)).ownsRow Wr.heap.size 5 1 u11 (grew pre rs fr j).length ((grew pre rs fr j).map (Value.int .u8))) := hown.alloc _
                    have HC : Hid (∀ j u, [Value.int .u8 (byt x)][j]? = some u → (wr.alloc (.cells #[.int .u8 (byt x)] 5)).cell? ((⟨wr.heap.size, 0, none⟩ : Addr).add j) = some u) := fun j u hj => by
                      match j, hj with
                      | 0, hj => simp at hj; subst hj; simp [Addr.add]
                    clear hown
                    go_wp2_with (at_builtin; refine wpList_append_own _ rfl (.tmp 59) (.tmp 65) 23 rfl Wr.heap.size 5 i5 (.int .u8 0) 1 1 Try.underlying23 li lz0 lz1 lz2 rfl (by decide) u11 (grew pre rs fr j).length ((grew pre rs fr j).map (Value.int .u8)) rfl (by exact HO.out) ⟨wr.heap.size, 0, none⟩ 1 1 [.int .u8 (byt x)] rfl rfl (by exact HC.out) (by intro u hu; simp at hu; subst hu; rfl) (by unfold maxLen; omega) (by omega) (by simp; omega) ?next)
                    case next =>
                      intro v' w1 hown' hgrow _
                      have hown2 : w1.ownsRow Wr.heap.size 5 1 v' (grew pre rs fr (j + 1)).length ((grew pre rs fr (j + 1)).map (Value.int .u8)) := by rw [HG.out]; simpa using hown'
                      have hbel2 : Below Wr.heap.size Wr w1 := (hbel.alloc hbel.size _).grown hgrow (by simp; omega) (fun q hq => (HO.out.lt q hq).1)
                      clear hown' hgrow HO HG HC
                      go_wp2_with fail
                      go_roundw
                      case rel => exact ⟨j + 1, by omega, by omega, by go_num, hown2, hbel2⟩
                      case measure => simp [intOf]; omega
                  · rw [show j = to by omega] at hown
                    obtain ⟨ap1, cp1, rfl⟩ := own_slice hown
                    have HO : Hid _ := hown
                    have HR : Hid ((wr.alloc (.cells #[.slice ap1 (grew pre rs fr to).length cp1] 23)).ownsRow w.heap.size 23 1 (.slice (some ⟨gp, 0, none⟩) k2 (m + 1)) k2 pvs) := by
                      have := HS.out.row
                      rw [HM.out] at this
                      exact (own_below this hbel (Nat.le_refl _)).alloc _
                    have HC : Hid (∀ j u, [Value.slice ap1 (grew pre rs fr to).length cp1][j]? = some u → (wr.alloc (.cells #[.slice ap1 (grew pre rs fr to).length cp1] 23)).cell? ((⟨wr.heap.size, 0, none⟩ : Addr).add j) = some u) := fun j u hj => by
                      match j, hj with
                      | 0, hj => simp at hj; subst hj; simp [Addr.add]
                    clear hown
                    go_wp2_with (at_builtin; refine wpList_append_fits _ rfl (.tmp 67) (.tmp 69) 29 rfl w.heap.size 23 i23 1 Try.underlying29 ki kz1 gp k2 (m + 1) pvs rfl (by exact HR.out) ⟨wr.heap.size, 0, none⟩ 1 1 [.slice ap1 (grew pre rs fr to).length cp1] rfl rfl (by exact HC.out) (by intro u hu; simp at hu; subst hu; rfl) (by omega) ?next)
                    case next =>
                      intro w1 hown' hgrow
                      have S' := NX.out wr w1 _ _ (grew pre rs fr to) HZE.out hbel HO.out (by rw [HM.out]; exact hown') hgrow
                      clear hown' hgrow HO HR HC
                      go_wp2_with fail
                      go_roundw
                      case rel => exact ⟨k2 + 1, to + 1, _, _, by omega, by go_num, by go_num, by omega, rfl, S'⟩
                      case measure => simp [intOf]; omega
            · obtain ⟨t1, t2, NX0⟩ := S.next (by rw [HM.out]; exact hle) n (.inr ⟨by rw [HM.out]; omega, hr.symm⟩)
              have NX : Hid _ := NX0
              clear NX0
              have HZE : Hid (grew pre rs fr n = (if k2 = 0 then pre else []) ++ ((rs.drop fr).take (n - fr)).map byt) := by unfold grew Hid; rw [if_pos HZ.out]
              have HPC : Hid (∀ ad, ap = some ad → ∀ j u, (pre.map (Value.int .u8))[j]? = some u → Wr.cell? (ad.add j) = some u) := fun ad had j u hu => by
                have hj : j < pre.length := by simpa using (List.getElem?_eq_some_iff.1 hu).1
                obtain ⟨b, off, e, hc⟩ := H1.out (by omega)
                obtain rfl : (⟨b, off, none⟩ : Addr) = ad := by rw [e] at had; exact Option.some.inj had
                have h1 := hc j (by omega)
                rw [Addr.add_lit, S.below.cell (p := ⟨b, off + j, none⟩) (World.block_lt_of_cell? w _ h1), h1]
                simp [hj] at hu
                simp [hj, hu]
              have HS : Hid _ := S
              clear S
              go_wp2_with (at_builtin; refine wpList_append_src _ rfl (.tmp 50) (.tmp 51) 23 rfl Wr.heap.size 5 i5 (.int .u8 0) 1 1 Try.underlying23 li lz0 lz1 lz2 rfl (by decide) (.slice none 0 0) 0 [] rfl (World.ownsRow_nil _ _ _ _) ap np cp (pre.map (Value.int .u8)) rfl (by simp; omega) hpn (by exact HPC.out) (ints_oneCell _ _) (by unfold maxLen; omega) (by omega) (Nat.le_refl _) ?next)
              case next =>
                intro p0 W hp0 hgW
                have HP0 : Hid (W.ownsRow Wr.heap.size 5 1 p0 pre.length (pre.map (Value.int .u8))) := by
                  unfold Hid
                  rw [hp]
                  first | exact hp0 | simpa using hp0
                have hbW : Below Wr.heap.size Wr W := (Below.refl _ _).grown hgW (Nat.le_refl _) (fun k h => by cases h)
                clear hp0 hgW HPC
                go_wp2_with fail
                go_loopw [11, 12] (fun pv i wi => ∃ j : Nat, fr ≤ j ∧ j ≤ n ∧ i = .int .i64 j ∧ wi.ownsRow Wr.heap.size 5 1 pv (grew pre rs fr j).length ((grew pre rs fr j).map (Value.int .u8)) ∧ Below Wr.heap.size Wr wi) (fun _ i _ => n - (intOf i).toNat)
                case atStart => exact ⟨fr, Nat.le_refl _, t1, rfl, by rw [grew_start]; exact HP0.out, hbW⟩
                case round =>
                  clear HP0 hbW
                  obtain ⟨j, hj1, hj2, rfl, hown, hbel⟩ := hrel
                  have hgl : (grew pre rs fr j).length ≤ 2097152 := by
                    have h := grew_len pre rs fr j
                    first | omega | (simp only [List.length_nil] at h; omega)
                  have hws := hbel.size
                  by_cases hjt : j < n
                  · obtain ⟨b, off, rfl, hc⟩ := H2.out (by omega)
                    have hcell : wr.cell? ⟨b, off + j, none⟩ = some (.int .i32 (rs[j]?.getD 0)) := by
                      have h1 := hc j (by omega)
                      have h0 := World.block_lt_of_cell? w _ h1
                      rw [hbel.cell (p := ⟨b, off + j, none⟩) (by exact Nat.lt_of_lt_of_le h0 hsz), HS.out.below.cell (p := ⟨b, off + j, none⟩) h0]
                      exact h1
                    have HG : Hid (grew pre rs fr (j + 1) = grew pre rs fr j ++ [byt (rs[j]?.getD 0)]) := grew_step pre rs fr j hj1 (by omega)
                    clear hc
                    generalize rs[j]?.getD 0 = x at hcell HG
                    have HO : Hid ((wr.alloc (.cells #[.int .u8 (byt x)] 5)).ownsRow Wr.heap.size 5 1 u11 (grew pre rs fr j).length ((grew pre rs fr j).map (Value.int .u8))) := hown.alloc _
                    have HC : Hid (∀ j u, [Value.int .u8 (byt x)][j]? = some u → (wr.alloc (.cells #[.int .u8 (byt x)] 5)).cell? ((⟨wr.heap.size, 0, none⟩ : Addr).add j) = some u) := fun j u hj => by
                      match j, hj with
                      | 0, hj => simp at hj; subst hj; simp [Addr.add]
                    clear hown
                    go_wp2_with (at_builtin; refine wpList_append_own _ rfl (.tmp 59) (.tmp 65) 23 rfl Wr.heap.size 5 i5 (.int .u8 0) 1 1 Try.underlying23 li lz0 lz1 lz2 rfl (by decide) u11 (grew pre rs fr j).length ((grew pre rs fr j).map (Value.int .u8)) rfl (by exact HO.out) ⟨wr.heap.size, 0, none⟩ 1 1 [.int .u8 (byt x)] rfl rfl (by exact HC.out) (by intro u hu; simp at hu; subst hu; rfl) (by unfold maxLen; omega) (by omega) (by simp; omega) ?next)
                    case next =>
                      intro v' w1 hown' hgrow _
                      have hown2 : w1.ownsRow Wr.heap.size 5 1 v' (grew pre rs fr (j + 1)).length ((grew pre rs fr (j + 1)).map (Value.int .u8)) := by rw [HG.out]; simpa using hown'
                      have hbel2 : Below Wr.heap.size Wr w1 := (hbel.alloc hbel.size _).grown hgrow (by simp; omega) (fun q hq => (HO.out.lt q hq).1)
                      clear hown' hgrow HO HG HC
                      go_wp2_with fail
                      go_roundw
                      case rel => exact ⟨j + 1, by omega, by omega, by go_num, hown2, hbel2⟩
                      case measure => simp [intOf]; omega
                  · rw [show j = n by omega] at hown
                    obtain ⟨ap1, cp1, rfl⟩ := own_slice hown
                    have HO : Hid _ := hown
                    have HR : Hid ((wr.alloc (.cells #[.slice ap1 (grew pre rs fr n).length cp1] 23)).ownsRow w.heap.size 23 1 (.slice (some ⟨gp, 0, none⟩) k2 (m + 1)) k2 pvs) := by
                      have := HS.out.row
                      rw [HM.out] at this
                      exact (own_below this hbel (Nat.le_refl _)).alloc _
                    have HC : Hid (∀ j u, [Value.slice ap1 (grew pre rs fr n).length cp1][j]? = some u → (wr.alloc (.cells #[.slice ap1 (grew pre rs fr n).length cp1] 23)).cell? ((⟨wr.heap.size, 0, none⟩ : Addr).add j) = some u) := fun j u hj => by
                      match j, hj with
                      | 0, hj => simp at hj; subst hj; simp [Addr.add]
                    clear hown
                    go_wp2_with (at_builtin; refine wpList_append_fits _ rfl (.tmp 67) (.tmp 69) 29 rfl w.heap.size 23 i23 1 Try.underlying29 ki kz1 gp k2 (m + 1) pvs rfl (by exact HR.out) ⟨wr.heap.size, 0, none⟩ 1 1 [.slice ap1 (grew pre rs fr n).length cp1] rfl rfl (by exact HC.out) (by intro u hu; simp at hu; subst hu; rfl) (by omega) ?next)
                    case next =>
                      intro w1 hown' hgrow
                      have S' := NX.out wr w1 _ _ (grew pre rs fr n) HZE.out hbel HO.out (by rw [HM.out]; exact hown') hgrow
                      clear hown' hgrow HO HR HC
                      go_wp2_with fail
                      go_roundw
                      case rel => exact ⟨k2 + 1, n + 1, _, _, by omega, by go_num, by go_num, by omega, rfl, S'⟩
                      case measure => simp [intOf]; omega
          · have hk0 : ((k2 : Int) == 0) = false := by rw [beq_eq_false_iff_ne]; omega
            have HZ : Hid (¬ k2 = 0) := hz
            by_cases hlt2 : k2 < m
            · have hc := S.cuts
              rw [HM.out] at hc
              obtain ⟨gc, capc, ec⟩ := own_form hc (by omega)
              obtain ⟨rfl, rfl⟩ : ac = some ⟨gc, 0, none⟩ ∧ cc = capc := by simpa using ec
              obtain ⟨to, hto⟩ : ∃ to, (cutsAt 0 rs)[k2]? = some to := ⟨_, List.getElem?_eq_getElem (by rw [HM.out]; exact hlt2)⟩
              have hcut : Wr.cell? ⟨gc, k2, none⟩ = some (.int .i64 to) := by
                rw [hc.cellAt k2 (by omega)]; simp [hto]
              obtain ⟨t1, t2, NX0⟩ := S.next (by rw [HM.out]; exact hle) to (.inl ⟨by rw [HM.out]; exact hlt2, hto⟩)
              have NX : Hid _ := NX0
              clear hc ec hto NX0
              have HZE : Hid (grew [] rs fr to = (if k2 = 0 then pre else []) ++ ((rs.drop fr).take (to - fr)).map byt) := by unfold grew Hid; rw [if_neg HZ.out]
              have HS : Hid _ := S
              clear S
              have HP0 : Hid (Wr.ownsRow Wr.heap.size 5 1 (.slice none 0 0) ([] : List Int).length (([] : List Int).map (Value.int .u8))) := World.ownsRow_nil _ _ _ _
              have hbW : Below Wr.heap.size Wr Wr := Below.refl _ _
              go_wp2_with fail
              go_loopw [11, 12] (fun pv i wi => ∃ j : Nat, fr ≤ j ∧ j ≤ to ∧ i = .int .i64 j ∧ wi.ownsRow Wr.heap.size 5 1 pv (grew [] rs fr j).length ((grew [] rs fr j).map (Value.int .u8)) ∧ Below Wr.heap.size Wr wi) (fun _ i _ => to - (intOf i).toNat)
              case atStart => exact ⟨fr, Nat.le_refl _, t1, rfl, by rw [grew_start]; exact HP0.out, hbW⟩
              case round =>
                clear HP0 hbW
                obtain ⟨j, hj1, hj2, rfl, hown, hbel⟩ := hrel
                have hgl : (grew [] rs fr j).length ≤ 2097152 := by
                  have h := grew_len [] rs fr j
                  first | omega | (simp only [List.length_nil] at h; omega)
                have hws := hbel.size
                by_cases hjt : j < to
                · obtain ⟨b, off, rfl, hc⟩ := H2.out (by omega)
                  have hcell : wr.cell? ⟨b, off + j, none⟩ = some (.int .i32 (rs[j]?.getD 0)) := by
                    have h1 := hc j (by omega)
                    have h0 := World.block_lt_of_cell? w _ h1
                    rw [hbel.cell (p := ⟨b, off + j, none⟩) (by exact Nat.lt_of_lt_of_le h0 hsz), HS.out.below.cell (p := ⟨b, off + j, none⟩) h0]
                    exact h1
                  have HG : Hid (grew [] rs fr (j + 1) = grew [] rs fr j ++ [byt (rs[j]?.getD 0)]) := grew_step [] rs fr j hj1 (by omega)
                  clear hc
                  generalize rs[j]?.getD 0 = x at hcell HG
                  have HO : Hid ((wr.alloc (.cells #[.int .u8 (byt x)] 5)).ownsRow Wr.heap.size 5 1 u11 (grew [] rs fr j).length ((grew [] rs fr j).map (Value.int .u8))) := hown.alloc _
                  have HC : Hid (∀ j u, [Value.int .u8 (byt x)][j]? = some u → (wr.alloc (.cells #[.int .u8 (byt x)] 5)).cell? ((⟨wr.heap.size, 0, none⟩ : Addr).add j) = some u) := fun j u hj => by
                    match j, hj with
                    | 0, hj => simp at hj; subst hj; simp [Addr.add]
                  clear hown
                  go_wp2_with (at_builtin; refine wpList_append_own _ rfl (.tmp 59) (.tmp 65) 23 rfl Wr.heap.size 5 i5 (.int .u8 0) 1 1 Try.underlying23 li lz0 lz1 lz2 rfl (by decide) u11 (grew [] rs fr j).length ((grew [] rs fr j).map (Value.int .u8)) rfl (by exact HO.out) ⟨wr.heap.size, 0, none⟩ 1 1 [.int .u8 (byt x)] rfl rfl (by exact HC.out) (by intro u hu; simp at hu; subst hu; rfl) (by unfold maxLen; omega) (by omega) (by simp; omega) ?next)
                  case next =>
                    intro v' w1 hown' hgrow _
                    have hown2 : w1.ownsRow Wr.heap.size 5 1 v' (grew [] rs fr (j + 1)).length ((grew [] rs fr (j + 1)).map (Value.int .u8)) := by rw [HG.out]; simpa using hown'
                    have hbel2 : Below Wr.heap.size Wr w1 := (hbel.alloc hbel.size _).grown hgrow (by simp; omega) (fun q hq => (HO.out.lt q hq).1)
                    clear hown' hgrow HO HG HC
                    go_wp2_with fail
                    go_roundw
                    case rel => exact ⟨j + 1, by omega, by omega, by go_num, hown2, hbel2⟩
                    case measure => simp [intOf]; omega
                · rw [show j = to by omega] at hown
                  obtain ⟨ap1, cp1, rfl⟩ := own_slice hown
                  have HO : Hid _ := hown
                  have HR : Hid ((wr.alloc (.cells #[.slice ap1 (grew [] rs fr to).length cp1] 23)).ownsRow w.heap.size 23 1 (.slice (some ⟨gp, 0, none⟩) k2 (m + 1)) k2 pvs) := by
                    have := HS.out.row
                    rw [HM.out] at this
                    exact (own_below this hbel (Nat.le_refl _)).alloc _
                  have HC : Hid (∀ j u, [Value.slice ap1 (grew [] rs fr to).length cp1][j]? = some u → (wr.alloc (.cells #[.slice ap1 (grew [] rs fr to).length cp1] 23)).cell? ((⟨wr.heap.size, 0, none⟩ : Addr).add j) = some u) := fun j u hj => by
                    match j, hj with
                    | 0, hj => simp at hj; subst hj; simp [Addr.add]
                  clear hown
                  go_wp2_with (at_builtin; refine wpList_append_fits _ rfl (.tmp 67) (.tmp 69) 29 rfl w.heap.size 23 i23 1 Try.underlying29 ki kz1 gp k2 (m + 1) pvs rfl (by exact HR.out) ⟨wr.heap.size, 0, none⟩ 1 1 [.slice ap1 (grew [] rs fr to).length cp1] rfl rfl (by exact HC.out) (by intro u hu; simp at hu; subst hu; rfl) (by omega) ?next)
                  case next =>
                    intro w1 hown' hgrow
                    have S' := NX.out wr w1 _ _ (grew [] rs fr to) HZE.out hbel HO.out (by rw [HM.out]; exact hown') hgrow
                    clear hown' hgrow HO HR HC
                    go_wp2_with fail
                    go_roundw
                    case rel => exact ⟨k2 + 1, to + 1, _, _, by omega, by go_num, by go_num, by omega, rfl, S'⟩
                    case measure => simp [intOf]; omega
            · obtain ⟨t1, t2, NX0⟩ := S.next (by rw [HM.out]; exact hle) n (.inr ⟨by rw [HM.out]; omega, hr.symm⟩)
              have NX : Hid _ := NX0
              clear NX0
              have HZE : Hid (grew [] rs fr n = (if k2 = 0 then pre else []) ++ ((rs.drop fr).take (n - fr)).map byt) := by unfold grew Hid; rw [if_neg HZ.out]
              have HS : Hid _ := S
              clear S
              have HP0 : Hid (Wr.ownsRow Wr.heap.size 5 1 (.slice none 0 0) ([] : List Int).length (([] : List Int).map (Value.int .u8))) := World.ownsRow_nil _ _ _ _
              have hbW : Below Wr.heap.size Wr Wr := Below.refl _ _
              go_wp2_with fail
              go_loopw [11, 12] (fun pv i wi => ∃ j : Nat, fr ≤ j ∧ j ≤ n ∧ i = .int .i64 j ∧ wi.ownsRow Wr.heap.size 5 1 pv (grew [] rs fr j).length ((grew [] rs fr j).map (Value.int .u8)) ∧ Below Wr.heap.size Wr wi) (fun _ i _ => n - (intOf i).toNat)
              case atStart => exact ⟨fr, Nat.le_refl _, t1, rfl, by rw [grew_start]; exact HP0.out, hbW⟩
              case round =>
                clear HP0 hbW
                obtain ⟨j, hj1, hj2, rfl, hown, hbel⟩ := hrel
                have hgl : (grew [] rs fr j).length ≤ 2097152 := by
                  have h := grew_len [] rs fr j
                  first | omega | (simp only [List.length_nil] at h; omega)
                have hws := hbel.size
                by_cases hjt : j < n
                · obtain ⟨b, off, rfl, hc⟩ := H2.out (by omega)
                  have hcell : wr.cell? ⟨b, off + j, none⟩ = some (.int .i32 (rs[j]?.getD 0)) := by
                    have h1 := hc j (by omega)
                    have h0 := World.block_lt_of_cell? w _ h1
                    rw [hbel.cell (p := ⟨b, off + j, none⟩) (by exact Nat.lt_of_lt_of_le h0 hsz), HS.out.below.cell (p := ⟨b, off + j, none⟩) h0]
                    exact h1
                  have HG : Hid (grew [] rs fr (j + 1) = grew [] rs fr j ++ [byt (rs[j]?.getD 0)]) := grew_step [] rs fr j hj1 (by omega)
                  clear hc
                  generalize rs[j]?.getD 0 = x at hcell HG
                  have HO : Hid ((wr.alloc (.cells #[.int .u8 (byt x)] 5)).ownsRow Wr.heap.size 5 1 u11 (grew [] rs fr j).length ((grew [] rs fr j).map (Value.int .u8))) := hown.alloc _
                  have HC : Hid (∀ j u, [Value.int .u8 (byt x)][j]? = some u → (wr.alloc (.cells #[.int .u8 (byt x)] 5)).cell? ((⟨wr.heap.size, 0, none⟩ : Addr).add j) = some u) := fun j u hj => by
                    match j, hj with
                    | 0, hj => simp at hj; subst hj; simp [Addr.add]
                  clear hown
                  go_wp2_with (at_builtin; refine wpList_append_own _ rfl (.tmp 59) (.tmp 65) 23 rfl Wr.heap.size 5 i5 (.int .u8 0) 1 1 Try.underlying23 li lz0 lz1 lz2 rfl (by decide) u11 (grew [] rs fr j).length ((grew [] rs fr j).map (Value.int .u8)) rfl (by exact HO.out) ⟨wr.heap.size, 0, none⟩ 1 1 [.int .u8 (byt x)] rfl rfl (by exact HC.out) (by intro u hu; simp at hu; subst hu; rfl) (by unfold maxLen; omega) (by omega) (by simp; omega) ?next)
                  case next =>
                    intro v' w1 hown' hgrow _
                    have hown2 : w1.ownsRow Wr.heap.size 5 1 v' (grew [] rs fr (j + 1)).length ((grew [] rs fr (j + 1)).map (Value.int .u8)) := by rw [HG.out]; simpa using hown'
                    have hbel2 : Below Wr.heap.size Wr w1 := (hbel.alloc hbel.size _).grown hgrow (by simp; omega) (fun q hq => (HO.out.lt q hq).1)
                    clear hown' hgrow HO HG HC
                    go_wp2_with fail
                    go_roundw
                    case rel => exact ⟨j + 1, by omega, by omega, by go_num, hown2, hbel2⟩
                    case measure => simp [intOf]; omega
                · rw [show j = n by omega] at hown
                  obtain ⟨ap1, cp1, rfl⟩ := own_slice hown
                  have HO : Hid _ := hown
                  have HR : Hid ((wr.alloc (.cells #[.slice ap1 (grew [] rs fr n).length cp1] 23)).ownsRow w.heap.size 23 1 (.slice (some ⟨gp, 0, none⟩) k2 (m + 1)) k2 pvs) := by
                    have := HS.out.row
                    rw [HM.out] at this
                    exact (own_below this hbel (Nat.le_refl _)).alloc _
                  have HC : Hid (∀ j u, [Value.slice ap1 (grew [] rs fr n).length cp1][j]? = some u → (wr.alloc (.cells #[.slice ap1 (grew [] rs fr n).length cp1] 23)).cell? ((⟨wr.heap.size, 0, none⟩ : Addr).add j) = some u) := fun j u hj => by
                    match j, hj with
                    | 0, hj => simp at hj; subst hj; simp [Addr.add]
                  clear hown
                  go_wp2_with (at_builtin; refine wpList_append_fits _ rfl (.tmp 67) (.tmp 69) 29 rfl w.heap.size 23 i23 1 Try.underlying29 ki kz1 gp k2 (m + 1) pvs rfl (by exact HR.out) ⟨wr.heap.size, 0, none⟩ 1 1 [.slice ap1 (grew [] rs fr n).length cp1] rfl rfl (by exact HC.out) (by intro u hu; simp at hu; subst hu; rfl) (by omega) ?next)
                  case next =>
                    intro w1 hown' hgrow
                    have S' := NX.out wr w1 _ _ (grew [] rs fr n) HZE.out hbel HO.out (by rw [HM.out]; exact hown') hgrow
                    clear hown' hgrow HO HR HC
                    go_wp2_with fail
                    go_roundw
                    case rel => exact ⟨k2 + 1, n + 1, _, _, by omega, by go_num, by go_num, by omega, rfl, S'⟩
                    case measure => simp [intOf]; omega
        · have F := S.fin HM.out (by omega)
          clear S
          go_wp2_with fail
          go_ret
          exact F
end Go.Proofs.Qxb6605601a
