import Derived.Test.Qxb6605784aRows
import Derived.WalkKit
import Derived.ProofKit
import Derived.WalkSpells
import Derived.WalkLawsBesides
import Derived.ArgAppend
import Derived.Deep.QuietTactic
import Derived.BigQuiet
import Derived.Deep.MidRow
import Derived.ChangeKeysEq
import Derived.OwnWalk
namespace Go.Proofs.Qxb6605784a
open Go.RowKit
set_option linter.unusedVariables false

/-- a block that is there -/
theorem lt_of_heap {w : World} {k : Nat} {o : Obj} (hk : w.heap[k]? = some o) : k < w.heap.size := (Array.getElem?_eq_some_iff.1 hk).1

theorem own_form {w : World} {base : Nat} {e : TypeId} {size : Nat} {v : Value} {n : Nat} {xs : List Value} (h : w.ownsRow base e size v n xs) (hn : 0 < n) : ∃ g cap, v = .slice (some ⟨g, 0, none⟩) n cap := by
  rcases h.2 with ⟨_, h2⟩ | ⟨g, cap, cur, rfl, _⟩
  · omega
  · exact ⟨g, cap, rfl⟩

theorem own_slice {w : World} {base : Nat} {e : TypeId} {size : Nat} {v : Value} {n : Nat} {xs : List Value} (h : w.ownsRow base e size v n xs) : ∃ a cap, v = .slice a n cap := by
  rcases h.2 with ⟨rfl, rfl⟩ | ⟨g, cap, cur, rfl, _⟩
  · exact ⟨none, 0, rfl⟩
  · exact ⟨_, cap, rfl⟩

/-! ### rows told by a function of the place -/

def fRow (n : Nat) (f : Nat → Value) : List Value := (List.range n).map f
theorem fRow_get {n i : Nat} (f : Nat → Value) (h : i < n) : (fRow n f)[i]? = some (f i) := by
  unfold fRow; simp [h]
theorem fRow_length (n : Nat) (f : Nat → Value) : (fRow n f).length = n := by simp [fRow]
theorem fRow_take {n k : Nat} (f : Nat → Value) (h : k ≤ n) : (fRow n f).take k = fRow k f := by
  unfold fRow
  rw [← List.map_take, List.take_range, Nat.min_eq_left h]
theorem fRow_of_list {α : Type} (l : List α) (g : α → Value) (d : α) : l.map g = fRow l.length (fun i => g (l.getD i d)) := by
  unfold fRow
  apply List.ext_getElem
  · simp
  · intro i h1 h2
    have hi : i < l.length := by simpa using h1
    simp [hi]

/-- the elements' cells of a slice, where there are elements -/
def At (w : World) (a : Option Addr) (n : Nat) (f : Nat → Value) : Prop :=
  0 < n → ∃ b off, a = some ⟨b, off, none⟩ ∧ ∀ i, i < n → w.cell? ⟨b, off + i, none⟩ = some (f i)

theorem own_at {w : World} {base : Nat} {e : TypeId} {v : Value} {n : Nat} {f : Nat → Value} (h : w.ownsRow base e 1 v n (fRow n f)) : ∃ a c, v = .slice a n c ∧ At w a n f := by
  obtain ⟨a, c, rfl⟩ := own_slice h
  refine ⟨a, c, rfl, fun hn => ?_⟩
  obtain ⟨g, cap, hv⟩ := own_form h hn
  obtain ⟨rfl, rfl⟩ : a = some ⟨g, 0, none⟩ ∧ c = cap := by simpa using hv
  exact ⟨g, 0, rfl, fun i hi => by rw [Nat.zero_add, h.cellAt i (by omega), fRow_get _ hi]⟩

theorem own_cell {w : World} {base : Nat} {e : TypeId} {g n cap : Nat} {xs : List Value} (h : w.ownsRow base e 1 (.slice (some ⟨g, 0, none⟩) n cap) n xs) (j : Nat) (hj : j < n) : ∃ u, w.cell? ⟨g, j, none⟩ = some u := by
  have h1 := h.1
  exact ⟨xs[j]'(by omega), (h.cellAt j (by omega)).trans (List.getElem?_eq_getElem _)⟩

theorem own_up {w : World} {base base' : Nat} {e : TypeId} {size : Nat} {v : Value} {n : Nat} {xs : List Value} (h : w.ownsRow base e size v n xs) (hb : base' ≤ base) : w.ownsRow base' e size v n xs := by
  refine ⟨h.1, ?_⟩
  rcases h.2 with h2 | ⟨g, cap, cur, hv, hg, r⟩
  · exact .inl h2
  · exact .inr ⟨g, cap, cur, hv, Nat.le_trans hb hg, r⟩

/-- what is owned below B stays owned where all below B is as it was -/
theorem own_below {w w' : World} {base B : Nat} {e : TypeId} {size : Nat} {v : Value} {n : Nat} {xs : List Value} (h : w.ownsRow base e size v n xs) (hb : Below B w w') (hB : w.heap.size ≤ B) : w'.ownsRow base e size v n xs := by
  refine ⟨h.1, ?_⟩
  rcases h.2 with hn | ⟨g, cap, cur, rfl, hg, hgg, rest⟩
  · exact .inl hn
  · exact .inr ⟨g, cap, cur, rfl, hg, (hb.block g (Nat.lt_of_lt_of_le (lt_of_heap hgg) hB)).trans hgg, rest⟩

theorem set_next {α : Type} (xs : List α) (z : α) (n k : Nat) (hk : k < n) (hn : n ≤ xs.length) (u : α) (hu : xs[k]? = some u) :
    (xs.take k ++ List.replicate (n - k) z).set k u = xs.take (k + 1) ++ List.replicate (n - (k + 1)) z := by
  have hl : (xs.take k).length = k := by simp; omega
  rw [List.set_append_right _ _ (by omega), hl, Nat.sub_self]
  have e : n - k = (n - (k + 1)) + 1 := by omega
  rw [e, List.replicate_succ, List.set_cons_zero, List.take_succ_eq_append_getElem (by omega)]
  obtain ⟨h1, h2⟩ := List.getElem?_eq_some_iff.1 hu
  rw [h2]
  simp

theorem fRow_set_next (f : Nat → Value) (z : Value) (n k : Nat) (hk : k < n) :
    (fRow k f ++ List.replicate (n - k) z).set k (f k) = fRow (k + 1) f ++ List.replicate (n - (k + 1)) z := by
  have := set_next (fRow n f) z n k hk (by rw [fRow_length]; exact Nat.le_refl _) (f k) (fRow_get f hk)
  rwa [fRow_take f (by omega), fRow_take f (by omega)] at this

theorem Below.step {a b c : World} (h : Below a.heap.size a b) (k : Below b.heap.size b c) : Below a.heap.size a c := h.trans (k.mono h.size)
theorem Below.keeps {w w' : World} (h : Below w.heap.size w w') {a : Addr} {v : Value} (k : w.cell? a = some v) : w'.cell? a = some v := (h.cell (World.block_lt_of_cell? w a k)).trans k
theorem At.keeps {w w' : World} {a : Option Addr} {n : Nat} {f : Nat → Value} (h : At w a n f) (hb : Below w.heap.size w w') : At w' a n f := fun hn => by
  obtain ⟨b, off, rfl, hc⟩ := h hn
  exact ⟨b, off, rfl, fun i hi => Below.keeps hb (hc i hi)⟩


/-! ### the keys that came in: n rows of 32 bytes -/

/-- the bytes of a slice of keys, where there are keys -/
def Keys (w : World) (a : Option Addr) (n : Nat) (f : Nat → Nat → Int) : Prop :=
  0 < n → ∃ b off, a = some ⟨b, off, none⟩ ∧ ∀ i, i < n → ∀ j, j < 32 → w.cell? ⟨b, off + i * 32 + j, none⟩ = some (.int .u8 (f i j))

theorem Keys.keeps {w w' : World} {a : Option Addr} {n : Nat} {f : Nat → Nat → Int} (h : Keys w a n f) (hb : Below w.heap.size w w') : Keys w' a n f := fun hn => by
  obtain ⟨b, off, rfl, hc⟩ := h hn
  exact ⟨b, off, rfl, fun i hi j hj => Below.keeps hb (hc i hi j hj)⟩

/-- one key's cells -/
def keyRow (g : Nat → Int) : List Value := fRow 32 (fun j => .int .u8 (g j))
theorem keyRow_length (g : Nat → Int) : (keyRow g).length = 32 := fRow_length _ _

theorem key_range {w : World} {b off i : Nat} {g : Nat → Int} (h : ∀ j, j < 32 → w.cell? ⟨b, off + i * 32 + j, none⟩ = some (.int .u8 (g j))) : w.rangeAt b (off + i * 32) (keyRow g) := fun j v hv => by
  have hj : j < 32 := by have := (List.getElem?_eq_some_iff.1 hv).1; rwa [keyRow_length] at this
  rw [h j hj]
  unfold keyRow at hv
  rw [fRow_get _ hj] at hv
  exact hv

/-- some bool; nothing turned but the draws -/
def SomeBool (w : World) (e : Ending) (w' : World) : Prop := (∃ t, e = .returned (.bool t)) ∧ ∃ q, w' = w.drewN q
theorem SomeBool.mk' {w : World} (t : Bool) (q : Nat) : SomeBool w (.returned (.bool t)) (w.drewN q) := ⟨⟨t, rfl⟩, q, rfl⟩
theorem SomeBool.mk0 {w : World} (t : Bool) : SomeBool w (.returned (.bool t)) w := ⟨⟨t, rfl⟩, 0, rfl⟩

/-! ### zzBytes -/
set_option maxHeartbeats 1000000 in
theorem zz_any (a : Option Addr) (n c : Nat) (i : Int) (w : World) (hn : n ≤ 9223372036854775807) :
    Calls Try.prog 19 #[.slice a n c, .int .i64 i] w (SomeBool w) := by
  by_cases hb : n ≤ 1048576
  · go_enter Try.func19, Try.ntmps19
    go_wp2_with fail
    go_loop [5, 6] (fun z i => ∃ (k : Nat) (t : Int), k ≤ n ∧ i = .int .i64 k ∧ z = .int .i64 t ∧ 0 ≤ t ∧ t ≤ 1048576) (fun _ i => n - (intOf i).toNat)
    case atStart => exact ⟨0, n, Nat.zero_le _, rfl, rfl, by omega, by omega⟩
    case round =>
      obtain ⟨k, t, hk, rfl, rfl, ht0, ht1⟩ := hrel
      by_cases hlt : k < n
      · by_cases h2 : t + 32 ≤ 1048576
        · go_wp2_with fail
          go_round
          case rel => exact ⟨k + 1, t + 32, by omega, by go_num, rfl, by omega, by omega⟩
          case measure => simp [intOf]; omega
        · go_wp2_with fail
          go_ret
          exact SomeBool.mk0 _
      · go_wp2_with fail
        go_ret
        exact SomeBool.mk0 _
  · go_enter Try.func19, Try.ntmps19
    go_wp2_with fail
    go_ret
    exact SomeBool.mk0 _
end Go.Proofs.Qxb6605784a
