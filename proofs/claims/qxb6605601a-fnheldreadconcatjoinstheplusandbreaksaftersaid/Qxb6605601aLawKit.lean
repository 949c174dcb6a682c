import Derived.Test.Qxb6605601aLit
import Derived.Test.Qxb6605601aClones
import Derived.Test.Qxb6605601aSame
import Derived.Test.Qxb6605601aBound
namespace Go.Proofs.Qxb6605601a
open Go.RowKit
set_option linter.unusedVariables false

/-- a list out of a function of the place -/
def lst {α : Type} (n : Nat) (f : Nat → α) : List α := (List.range n).map f
theorem lst_length {α : Type} (n : Nat) (f : Nat → α) : (lst n f).length = n := by simp [lst]
theorem lst_map {α : Type} (n : Nat) (f : Nat → α) (g : α → Value) : fRow n (fun i => g (f i)) = (lst n f).map g := by
  simp [fRow, lst, Function.comp_def]
theorem own_lst {α : Type} {w : World} {b : Nat} {e : TypeId} {v : Value} {n : Nat} {f : Nat → α} {g : α → Value} (h : w.ownsRow b e 1 v n (fRow n (fun i => g (f i)))) : w.ownsRow b e 1 v (lst n f).length ((lst n f).map g) := by
  rw [lst_length, ← lst_map]; exact h

/-- an owned list's slice, as it is read -/
theorem own_read {α : Type} {w : World} {b : Nat} {e : TypeId} {v : Value} {l : List α} {g : α → Value} (d : α) (h : w.ownsRow b e 1 v l.length (l.map g)) :
    ∃ a c, v = .slice a l.length c ∧ At w a l.length (fun i => g (l[i]?.getD d)) ∧ (a = none → l.length = 0 ∧ c = 0) := by
  obtain ⟨a, c, rfl⟩ := own_slice h
  refine ⟨a, c, rfl, fun hn => ?_, fun hn => ?_⟩
  · obtain ⟨g1, cap, hv⟩ := own_form h hn
    obtain ⟨rfl, rfl⟩ : a = some ⟨g1, 0, none⟩ ∧ c = cap := by simpa using hv
    refine ⟨g1, 0, rfl, fun i hi => ?_⟩
    rw [Nat.zero_add, h.cellAt i (by omega)]
    simp [hi]
  · subst hn
    rcases h.2 with ⟨h', h2⟩ | ⟨g', cap, cur, h', _⟩
    · simp at h'; exact ⟨by simp [h'.1], h'.2⟩
    · simp at h'

theorem own_clone {α : Type} {w : World} {b : Nat} {e : TypeId} {v : Value} {l : List α} {g : α → Value} {d : α} (h : w.ownsRow b e 1 v l.length (fRow l.length (fun i => g (l[i]?.getD d)))) : w.ownsRow b e 1 v l.length (l.map g) := by
  have e1 : fRow l.length (fun i => g (l[i]?.getD d)) = l.map g := by
    unfold fRow
    apply List.ext_getElem
    · simp
    · intro i h1 h2
      have hi : i < l.length := by simpa using h2
      simp [hi]
  rw [← e1]; exact h

/-- what a loop over the pieces has kept -/
theorem kept_take {S : Type} (str : List Int → S) (Z : List (List Int)) (k : Nat) (h : k < Z.length) : kept str (Z.take (k + 1)) = kept str (Z.take k) ++ (if Z[k]?.getD [] = [] then [] else [str (Z[k]?.getD [])]) := by
  rw [List.take_succ_eq_append_getElem h, kept_append, kept_cons]
  simp [kept, h]
theorem kept_len {S : Type} (str : List Int → S) (Z : List (List Int)) : (kept str Z).length ≤ Z.length := by
  unfold kept
  rw [List.length_map]
  exact List.length_filter_le _ _

theorem readLit_law {S : Type} (str : List Int → S) (l : List Int) (T : List S) (R : List Int) :
    readLit str byt l T R = (T ++ kept str ((pieces byt R l).dropLast), (pieces byt R l)[(pieces byt R l).length - 1]?.getD []) := by
  have h1 : 1 ≤ (pieces byt R l).length := by rw [pieces_length byt l R 0]; omega
  rw [readLit_eq, List.getLast_eq_getElem]
  simp [show (pieces byt R l).length - 1 < (pieces byt R l).length by omega]

/-- the pieces as they lie -/
structure PiecesIn (B : Nat) (w : World) (gp : Nat) (pvs : List Value) (Z : List (List Int)) : Prop where
  len : pvs.length = Z.length
  row : w.ownsRow B 23 1 (.slice (some ⟨gp, 0, none⟩) Z.length Z.length) Z.length pvs
  each : ∀ (i : Nat) (v : Value) (z : List Int), pvs[i]? = some v → Z[i]? = some z → w.ownsRow B 5 1 v z.length (z.map (Value.int .u8))

theorem PiecesIn.below {B B' : Nat} {w w' : World} {gp : Nat} {pvs : List Value} {Z : List (List Int)} (h : PiecesIn B w gp pvs Z) (hb : Below B' w w') (hB : w.heap.size ≤ B') : PiecesIn B w' gp pvs Z :=
  ⟨h.len, own_below h.row hb hB, fun i v z h1 h2 => own_below (h.each i v z h1 h2) hb hB⟩

theorem PiecesIn.at {B : Nat} {w : World} {gp : Nat} {pvs : List Value} {Z : List (List Int)} (h : PiecesIn B w gp pvs Z) (i : Nat) (hi : i < Z.length) :
    ∃ a c, w.cell? ⟨gp, i, none⟩ = some (.slice a (Z[i]?.getD []).length c) ∧ w.ownsRow B 5 1 (.slice a (Z[i]?.getD []).length c) (Z[i]?.getD []).length ((Z[i]?.getD []).map (Value.int .u8)) := by
  have hp : pvs[i]? = some (pvs[i]'(by rw [h.len]; exact hi)) := List.getElem?_eq_getElem _
  have hz : Z[i]? = some (Z[i]?.getD []) := by simp [hi]
  have ho := h.each i _ _ hp hz
  obtain ⟨a, c, e⟩ := own_slice ho
  refine ⟨a, c, ?_, ?_⟩
  · rw [h.row.cellAt i (by omega), hp, e]
  · rw [e] at ho; exact ho

/-- string(p) of a piece that holds a byte -/
theorem conv_piece {B : Nat} {w : World} {a : Option Addr} {c : Nat} {z : List Int} (h : w.ownsRow B 5 1 (.slice a z.length c) z.length (z.map (Value.int .u8))) :
    (convert 23 9 (.slice a z.length c)).run Try.prog w = .ok (.string (strOfNums z)) w := by
  by_cases hz : 0 < z.length
  · obtain ⟨g, cap, e⟩ := own_form h hz
    obtain ⟨rfl, rfl⟩ : a = some ⟨g, 0, none⟩ ∧ c = cap := by simpa using e
    exact run_convert_bytes_arg w 23 5 Try.underlying23 Try.underlying5 g 0 z.length c z rfl (fun i hi => by
      rw [Nat.zero_add, h.cellAt i (by omega)]; simp [hi]) 9 Try.underlying9
  · obtain rfl : z = [] := List.eq_nil_of_length_eq_zero (by omega)
    cases a with
    | none => exact run_convert_bytes_nil w 23 5 Try.underlying23 Try.underlying5 0 c 9 Try.underlying9
    | some x =>
      rcases h.2 with ⟨h', _⟩ | ⟨g, cap, cur, h', _⟩
      · simp at h'
      · simp at h'
        obtain ⟨rfl, rfl⟩ := h'
        exact run_convert_bytes_arg w 23 5 Try.underlying23 Try.underlying5 g 0 0 c [] rfl (fun i hi => by omega) 9 Try.underlying9
end Go.Proofs.Qxb6605601a
