import Derived.Test.Qxb6605601aRows
import Derived.WalkKit
import Derived.ProofKit
import Derived.WalkSpells
import Derived.WalkLawsBesides
import Derived.ArgAppend
import Derived.Deep.QuietTactic
import Derived.BigQuiet
namespace Go.Proofs.Qxb6605601a
open Go.RowKit
set_option linter.unusedVariables false

/-! ### Which blocks may have turned -/

/-- Of the blocks that were there those in S alone may have turned. -/
structure Alt (S : Nat → Prop) (w w' : World) : Prop where
  os : w'.os = w.os
  tape : w'.tape = w.tape
  output : w'.output = w.output
  size : w.heap.size ≤ w'.heap.size
  block : ∀ k, k < w.heap.size → ¬ S k → w'.heap[k]? = w.heap[k]?

theorem Alt.refl (S : Nat → Prop) (w : World) : Alt S w w := ⟨rfl, rfl, rfl, Nat.le_refl _, fun _ _ _ => rfl⟩
theorem Alt.trans {S : Nat → Prop} {a b c : World} (h : Alt S a b) (k : Alt S b c) : Alt S a c :=
  ⟨k.os.trans h.os, k.tape.trans h.tape, k.output.trans h.output, Nat.le_trans h.size k.size, fun i hi hs => (k.block i (Nat.lt_of_lt_of_le hi h.size) hs).trans (h.block i hi hs)⟩
theorem Alt.mono {S T : Nat → Prop} {a b : World} (h : Alt S a b) (hST : ∀ k, k < a.heap.size → S k → T k) : Alt T a b :=
  ⟨h.os, h.tape, h.output, h.size, fun i hi hs => h.block i hi (fun x => hs (hST i hi x))⟩
theorem Alt.alloc {S : Nat → Prop} {a w : World} (h : Alt S a w) (o : Obj) : Alt S a (w.alloc o) :=
  h.trans ⟨rfl, rfl, rfl, by simp, fun k hk _ => Below.heap_alloc w o k hk⟩
theorem Alt.drewN {S : Nat → Prop} {a w : World} (h : Alt S a w) (n : Nat) : Alt S a (w.drewN n) := h.trans ⟨rfl, rfl, rfl, Nat.le_refl _, fun _ _ _ => rfl⟩
theorem Alt.setCell {S : Nat → Prop} {a w : World} (h : Alt S a w) (p : Addr) (hp : S p.block) (v : Value) : Alt S a (w.setCell p v) :=
  h.trans ⟨rfl, rfl, rfl, by simp [World.setCell], fun k _ hk => heap_setCell_other w p k v (fun e => hk (e ▸ hp))⟩
theorem Alt.grown {S : Nat → Prop} {a w w' : World} {row : Option Nat} (h : Alt S a w) (hg : w.grownBy w' row) (hr : ∀ k, row = some k → S k) : Alt S a w' :=
  h.trans ⟨hg.os, hg.tape, hg.output, hg.size, fun k hk hs => hg.block k hk (fun e => hs (hr k e.symm))⟩
theorem Alt.below {S : Nat → Prop} {w w' : World} {B : Nat} (h : Alt S w w') (hB : B ≤ w.heap.size) (hS : ∀ k, S k → B ≤ k) : Below B w w' :=
  ⟨h.os, h.tape, h.output, h.size, fun k hk => h.block k (by omega) (fun x => by have := hS k x; omega)⟩
theorem Alt.at {S : Nat → Prop} {w w' : World} (h : Alt S w w') {k : Nat} {o : Obj} (hk : w.heap[k]? = some o) (hs : ¬ S k) : w'.heap[k]? = some o :=
  (h.block k (Array.getElem?_eq_some_iff.1 hk).1 hs).trans hk

/-- a block that is there -/
theorem lt_of_heap {w : World} {k : Nat} {o : Obj} (hk : w.heap[k]? = some o) : k < w.heap.size := (Array.getElem?_eq_some_iff.1 hk).1

/-! ### append, and which block it lies in behind it -/

theorem run_append_mine {P : Program} (w : World) (base : Nat) (t ty e : TypeId) (i : TypeInfo) (z : Value) (size bytes : Nat) (ht : P.underlying t = some (.slice e)) (hi : P.info? e = some i) (hz : i.zero = some z)
    (hsize : i.size = size) (hby : i.bytes = bytes) (hzs : z.cells.size = size) (hsz : 0 < size)
    (v : Value) (n : Nat) (xs : List Value) (hown : w.ownsRow base e size v n xs)
    (a : Addr) (m c : Nat) (news : List Value) (hl : news.length = m * size) (hnews : ∀ j u, news[j]? = some u → w.cell? (a.add j) = some u) (h1 : ∀ u ∈ news, u.oneCell' = true)
    (h63 : n + m ≤ maxLen) (hbytes : (n + m) * bytes ≤ 140737488355328) (hbase : base ≤ w.heap.size) (hm : 0 < m) :
    ∃ v' w', (Builtin.append_ #[t, t] ty #[v, .slice (some a) m c]).run P w = .ok v' w' ∧ w'.ownsRow base e size v' (n + m) (xs ++ news) ∧ w.grownBy w' v.ownBlock ∧
      (v'.ownBlock = v.ownBlock ∨ ∃ g, v'.ownBlock = some g ∧ w.heap.size ≤ g) := by
  have up : ∀ {w' : World} {v' : Value} {N : Nat} {ys : List Value}, w'.ownsRow w.heap.size e size v' N ys → w'.ownsRow base e size v' N ys := by
    intro w' v' N ys h
    refine ⟨h.1, ?_⟩
    rcases h.2 with h2 | ⟨g, cap, cur, hv, hg, r⟩
    · exact .inl h2
    · exact .inr ⟨g, cap, cur, hv, by omega, r⟩
  have fresh : ∀ {w' : World} {v' : Value} {N : Nat} {ys : List Value}, w'.ownsRow w.heap.size e size v' N ys → 0 < N → ∃ g, v'.ownBlock = some g ∧ w.heap.size ≤ g := by
    intro w' v' N ys h hN
    rcases h.2 with ⟨_, h2⟩ | ⟨g, cap, cur, rfl, hg, r⟩
    · omega
    · exact ⟨g, rfl, hg⟩
  rcases hown.2 with ⟨rfl, rfl⟩ | ⟨g, cap, cur, rfl, hbg, hg, hnc, hcm, hcs, htake⟩
  · have hx : xs = [] := List.eq_nil_of_length_eq_zero (by simpa using hown.1)
    subst hx
    obtain ⟨v', w', hrun, r1, r2, -⟩ := run_append_own (P := P) w w.heap.size t ty e i z size bytes ht hi hz hsize hby hzs hsz (.slice none 0 0) 0 [] (World.ownsRow_nil w _ e size) a m c news hl hnews h1 h63 hbytes (Nat.le_refl _)
    exact ⟨v', w', hrun, up r1, r2, .inr (fresh r1 (by omega))⟩
  · by_cases hroom : n + m ≤ cap
    · obtain ⟨w', hrun, r1, r2⟩ := run_append_fits (P := P) w base t ty e i size ht hi hsize g n cap xs hown a m c news hl hnews h1 hroom
      exact ⟨_, w', hrun, r1, r2, .inl rfl⟩
    · have holds : ∀ j u, xs[j]? = some u → w.cell? ((⟨g, 0, none⟩ : Addr).add j) = some u := hown.cells (g := g) rfl
      obtain ⟨v', w', hrun, r1, r2⟩ := run_append_arg_grows (P := P) w t ty e i z size bytes ht hi hz hsize hby hzs hsz ⟨g, 0, none⟩ n cap xs hown.1 holds a m c news hl hnews (by omega) h63 hbytes
      exact ⟨v', w', hrun, up r1, ⟨r2.os, r2.tape, r2.output, r2.size, fun k hk _ => r2.block k hk (by simp)⟩, .inr (fresh r1 (by omega))⟩

theorem wpList_append_mine {P : Program} (w : World) {ops : Array Oper} {rest : List Oper} {o : Oper} {a : Act} {Q : Exit → Act → World → Prop} (hgd : o.guard = none) (s x : Operand) (t : TypeId)
    (ho : o.op = .call { callee := .builtin .append, args := #[s, x], argTypes := #[t, t] })
    (base : Nat) (e : TypeId) (i : TypeInfo) (z : Value) (size bytes : Nat) (ht : P.underlying t = some (.slice e)) (hi : P.info? e = some i) (hz : i.zero = some z)
    (hsize : i.size = size) (hby : i.bytes = bytes) (hzs : z.cells.size = size) (hsz : 0 < size)
    (v : Value) (n : Nat) (xs : List Value) (hs : a.eval s = v) (hown : w.ownsRow base e size v n xs)
    (ad : Addr) (m c : Nat) (news : List Value) (hx : a.eval x = .slice (some ad) m c) (hl : news.length = m * size) (hnews : ∀ j u, news[j]? = some u → w.cell? (ad.add j) = some u) (h1 : ∀ u ∈ news, u.oneCell' = true)
    (h63 : n + m ≤ maxLen) (hbytes : (n + m) * bytes ≤ 140737488355328) (hbase : base ≤ w.heap.size) (hm : 0 < m)
    (h : ∀ v' w', w'.ownsRow base e size v' (n + m) (xs ++ news) → w.grownBy w' v.ownBlock → (v'.ownBlock = v.ownBlock ∨ ∃ g, v'.ownBlock = some g ∧ w.heap.size ≤ g) → wpList P ops Q rest (a.put o.dst v') w') : wpList P ops Q (o :: rest) a w := by
  refine wpList_plain hgd fun K hK' => ?_
  obtain ⟨v', w', hr, h2, h3, h4⟩ := run_append_mine (P := P) w base t o.type e i z size bytes ht hi hz hsize hby hzs hsz v n xs hown ad m c news hl hnews h1 h63 hbytes hbase hm
  unfold Oper.wp
  simp [execOp, ho, resolve, invoke, builtin, hs, hx, hr, Result.andThen]
  exact hK' _ _ (h v' w' h2 h3 h4)

/-- a row of elements of type e is no block of another type -/
theorem own_ne {w : World} {base : Nat} {e t : TypeId} {size : Nat} {v : Value} {n : Nat} {xs : List Value} (h : w.ownsRow base e size v n xs) {k : Nat} {cs : Array Value} {fr : Nat × Nat} (hk : w.heap[k]? = some (.cells cs t fr)) (hne : e ≠ t) : v.ownBlock ≠ some k := by
  rcases h.2 with ⟨rfl, _⟩ | ⟨g, cap, cur, rfl, _, hg, _⟩
  · simp [Value.ownBlock]
  · intro e
    obtain rfl : g = k := by simpa [Value.ownBlock] using e
    rw [hg] at hk
    simp at hk
    exact hne hk.2.1

/-- what is owned stays owned where its block has not turned -/
theorem own_alt {S : Nat → Prop} {w w' : World} {base : Nat} {e : TypeId} {size : Nat} {v : Value} {n : Nat} {xs : List Value} (h : w.ownsRow base e size v n xs) (ha : Alt S w w') (hne : ∀ k, v.ownBlock = some k → ¬ S k) : w'.ownsRow base e size v n xs := by
  refine ⟨h.1, ?_⟩
  rcases h.2 with hn | ⟨g, cap, cur, rfl, hb, hgg, rest⟩
  · exact .inl hn
  · exact .inr ⟨g, cap, cur, rfl, hb, ha.at hgg (hne g rfl), rest⟩

theorem own_form {w : World} {base : Nat} {e : TypeId} {size : Nat} {v : Value} {n : Nat} {xs : List Value} (h : w.ownsRow base e size v n xs) (hn : 0 < n) : ∃ g cap, v = .slice (some ⟨g, 0, none⟩) n cap := by
  rcases h.2 with ⟨_, h2⟩ | ⟨g, cap, cur, rfl, _⟩
  · omega
  · exact ⟨g, cap, rfl⟩

theorem own_slice {w : World} {base : Nat} {e : TypeId} {size : Nat} {v : Value} {n : Nat} {xs : List Value} (h : w.ownsRow base e size v n xs) : ∃ a cap, v = .slice a n cap := by
  rcases h.2 with ⟨rfl, rfl⟩ | ⟨g, cap, cur, rfl, _⟩
  · exact ⟨none, 0, rfl⟩
  · exact ⟨_, cap, rfl⟩

/-! ### rows told by a function of the place -/

def fRow (n : Nat) (f : Nat → Value) : List Value := (List.range n).map f
theorem fRow_get {n i : Nat} (f : Nat → Value) (h : i < n) : (fRow n f)[i]? = some (f i) := by
  unfold fRow; simp [h]
theorem fRow_length (n : Nat) (f : Nat → Value) : (fRow n f).length = n := by simp [fRow]
theorem fRow_take {n k : Nat} (f : Nat → Value) (h : k ≤ n) : (fRow n f).take k = fRow k f := by
  unfold fRow
  rw [← List.map_take, List.take_range, Nat.min_eq_left h]
theorem fRow_of_list {α : Type} (l : List α) (g : α → Value) (d : α) : l.map g = fRow l.length (fun i => g (l.getD i d)) := by
  unfold fRow
  apply List.ext_getElem
  · simp
  · intro i h1 h2
    have hi : i < l.length := by simpa using h1
    simp [hi]

/-- the elements' cells of a slice, where there are elements -/
def At (w : World) (a : Option Addr) (n : Nat) (f : Nat → Value) : Prop :=
  0 < n → ∃ b off, a = some ⟨b, off, none⟩ ∧ ∀ i, i < n → w.cell? ⟨b, off + i, none⟩ = some (f i)

theorem own_at {w : World} {base : Nat} {e : TypeId} {v : Value} {n : Nat} {f : Nat → Value} (h : w.ownsRow base e 1 v n (fRow n f)) : ∃ a c, v = .slice a n c ∧ At w a n f := by
  obtain ⟨a, c, rfl⟩ := own_slice h
  refine ⟨a, c, rfl, fun hn => ?_⟩
  obtain ⟨g, cap, hv⟩ := own_form h hn
  obtain ⟨rfl, rfl⟩ : a = some ⟨g, 0, none⟩ ∧ c = cap := by simpa using hv
  exact ⟨g, 0, rfl, fun i hi => by rw [Nat.zero_add, h.cellAt i (by omega), fRow_get _ hi]⟩

theorem own_cell {w : World} {base : Nat} {e : TypeId} {g n cap : Nat} {xs : List Value} (h : w.ownsRow base e 1 (.slice (some ⟨g, 0, none⟩) n cap) n xs) (j : Nat) (hj : j < n) : ∃ u, w.cell? ⟨g, j, none⟩ = some u := by
  have h1 := h.1
  exact ⟨xs[j]'(by omega), (h.cellAt j (by omega)).trans (List.getElem?_eq_getElem _)⟩

theorem own_up {w : World} {base base' : Nat} {e : TypeId} {size : Nat} {v : Value} {n : Nat} {xs : List Value} (h : w.ownsRow base e size v n xs) (hb : base' ≤ base) : w.ownsRow base' e size v n xs := by
  refine ⟨h.1, ?_⟩
  rcases h.2 with h2 | ⟨g, cap, cur, hv, hg, r⟩
  · exact .inl h2
  · exact .inr ⟨g, cap, cur, hv, Nat.le_trans hb hg, r⟩

/-- what is owned below B stays owned where all below B is as it was -/
theorem own_below {w w' : World} {base B : Nat} {e : TypeId} {size : Nat} {v : Value} {n : Nat} {xs : List Value} (h : w.ownsRow base e size v n xs) (hb : Below B w w') (hB : w.heap.size ≤ B) : w'.ownsRow base e size v n xs := by
  refine ⟨h.1, ?_⟩
  rcases h.2 with hn | ⟨g, cap, cur, rfl, hg, hgg, rest⟩
  · exact .inl hn
  · exact .inr ⟨g, cap, cur, rfl, hg, (hb.block g (Nat.lt_of_lt_of_le (lt_of_heap hgg) hB)).trans hgg, rest⟩

theorem set_next {α : Type} (xs : List α) (z : α) (n k : Nat) (hk : k < n) (hn : n ≤ xs.length) (u : α) (hu : xs[k]? = some u) :
    (xs.take k ++ List.replicate (n - k) z).set k u = xs.take (k + 1) ++ List.replicate (n - (k + 1)) z := by
  have hl : (xs.take k).length = k := by simp; omega
  rw [List.set_append_right _ _ (by omega), hl, Nat.sub_self]
  have e : n - k = (n - (k + 1)) + 1 := by omega
  rw [e, List.replicate_succ, List.set_cons_zero, List.take_succ_eq_append_getElem (by omega)]
  obtain ⟨h1, h2⟩ := List.getElem?_eq_some_iff.1 hu
  rw [h2]
  simp

theorem fRow_set_next (f : Nat → Value) (z : Value) (n k : Nat) (hk : k < n) :
    (fRow k f ++ List.replicate (n - k) z).set k (f k) = fRow (k + 1) f ++ List.replicate (n - (k + 1)) z := by
  have := set_next (fRow n f) z n k hk (by rw [fRow_length]; exact Nat.le_refl _) (f k) (fRow_get f hk)
  rwa [fRow_take f (by omega), fRow_take f (by omega)] at this

theorem Below.step {a b c : World} (h : Below a.heap.size a b) (k : Below b.heap.size b c) : Below a.heap.size a c := h.trans (k.mono h.size)
theorem Below.keeps {w w' : World} (h : Below w.heap.size w w') {a : Addr} {v : Value} (k : w.cell? a = some v) : w'.cell? a = some v := (h.cell (World.block_lt_of_cell? w a k)).trans k
theorem At.keeps {w w' : World} {a : Option Addr} {n : Nat} {f : Nat → Value} (h : At w a n f) (hb : Below w.heap.size w w') : At w' a n f := fun hn => by
  obtain ⟨b, off, rfl, hc⟩ := h hn
  exact ⟨b, off, rfl, fun i hi => Below.keeps hb (hc i hi)⟩
end Go.Proofs.Qxb6605601a
