/-
  The proof of 'Rows.FnKeyReturnsFreshCopySaid': the frame is turned after the kit's own shell; the walk lies in Qxb6605784aMem, Distinct, Copy, Group, KeyLaw.
-/
import Derived.Test.Qxb6605784aRows
import Derived.Test.Qxb6605784aKeyLaw
import Derived.Deep.Slices
import Derived.WalkKit
import Derived.ProofKit
import Derived.OpenShut
import Derived.ChangeOld
import Derived.Below
namespace Go.Proofs.Qxb6605784a.fnKeyReturnsFreshCopy
open Go.ChangeShapes Go.WideShapes Go.ChangeAt Go.RowKit
set_option linter.unusedVariables false

theorem own : ownKnob Try.prog.godebug = none := by kernel_rfl
theorem laidOut : laidOutB Try.prog = true := by kernel_rfl
theorem cells28 : Try.prog.cellsOf 28 = 32 := by kernel_rfl
theorem cells5 : Try.prog.cellsOf 5 = 1 := by kernel_rfl

theorem take1 {cs : List Value} {j : Nat} {v : Value} (h : (cs.drop j).take 1 = [v]) : cs[j]? = some v := by
  have h0 : ((cs.drop j).take 1)[0]? = some v := by rw [h]; rfl
  simpa using h0

/-- What the walk is told of the keys that came in. -/
theorem opened {H : Type} {enc : TypeId × Value → H} {W : World} {fuel : Nat} {a : Option Addr} {len cap : Nat} {x : DataW H × List MemPlace}
    (h : DataW.trod enc Try.prog W 0 (fun _ => true) true fuel 51 [.slice a len cap] = some x) : (∃ f, Keys W a len f) ∧ len ≤ 9223372036854775807 := by
  rcases Go.Deep.open_slice Try.underlying51 h with ⟨hcs, _⟩ | ⟨ad, len', cap', m, n', D, Pl, hcs, _, hl, hm, hmm, _, hx⟩
  · simp at hcs
    obtain ⟨rfl, rfl, rfl⟩ := hcs
    exact ⟨⟨fun _ _ => 0, fun h => by omega⟩, by omega⟩
  · simp at hcs
    obtain ⟨rfl, rfl, rfl⟩ := hcs
    have hlm : len ≤ m := by rw [hmm]; simp; exact hl
    have key : ∀ i, i < len → ∀ j, j < 32 → ∃ z, W.cell? ((ad.add (i * 32)).add j) = some (.int .u8 z) := by
      intro i hi j hj
      obtain ⟨cs', h1, h2⟩ := hx i (by omega)
      rw [cells28] at h1
      obtain ⟨_, hlen, hget⟩ := World.cells?_some h1
      obtain ⟨xs, m1, rfl, hx1, hlen2, hn3, hel⟩ := DataW.trod_array Try.underlying28 h2
      have h3 := hel j hj
      rw [cells5, Nat.mul_one, List.getElem?_eq_getElem (by omega)] at h3
      obtain ⟨z, e1, _⟩ := DataW.trod_int Try.underlying5 h3
      exact ⟨z, by rw [hget j hj]; exact take1 e1⟩
    refine ⟨?_, by unfold maxLen at hm; omega⟩
    by_cases hp : 0 < len
    · obtain ⟨b, off, spot⟩ := ad
      have hspot : spot = none := by
        obtain ⟨z, hz⟩ := key 0 hp 0 (by decide)
        simpa [Addr.add] using World.cell?_spot hz
      subst hspot
      refine ⟨fun i j => match W.cell? ⟨b, off + i * 32 + j, none⟩ with | some (.int _ z) => z | _ => 0, fun _ => ⟨b, off, rfl, fun i hi j hj => ?_⟩⟩
      obtain ⟨z, hz⟩ := key i hi j hj
      rw [Addr.add_mid, Addr.add_mid] at hz
      simp only [hz]
    · exact ⟨fun _ _ => 0, fun h => absurd h hp⟩

/-! ### THE ROW's STEP -/
set_option maxRecDepth 100000 in
theorem lifted (os : Os) (started : os.Started) (H : Type) (enc : TypeId × Value → H) :
    ReturnsInHanded {} Try.checked os 5 .any (Rows.fnKeyReturnsFreshCopySpec.pre6 enc Try.prog Try.f5 Rows.fnKeyReturnsFreshCopyRow.domain false) (Rows.fnKeyReturnsFreshCopySpec.post enc Try.prog Try.f5 false true false false) := by
  refine returnsInHanded_of_change (C := Try.checked) own started (by kernel_rfl) Try.func5
    (ChangeSpec.witness6 (enc := enc) (C := Try.checked) false ⟨#[], #[.slice none 0 0, .int .i64 0], []⟩ 8 (by kernel_rfl) (by kernel_rfl) (by kernel_rfl) (by kernel_rfl)) ?_
  intro W base args ds gs before hval0 hW hcnd _
  have hval : ∀ (j : Nat) t v, Try.f5.params[j]? = some t → args[j]? = some v → Value.okWide Try.prog W .any base t v := hval0
  have hW' := hW
  obtain ⟨p, q, hA0, hV, rfl, hfz, hnd⟩ := hW
  have hA : DataW.TrodAll enc Try.prog W 0 (fun _ => true) true Try.f5.params.toList args.toList ds p := hA0
  rw [Try.params5] at hA hval
  obtain ⟨v0, vs0, d0, ds0, p0, q0, hargs, rfl, rfl, h0, r0⟩ := trodAll_cons hA
  obtain ⟨v1, vs1, d1, ds1, p1, q1, rfl, rfl, rfl, h1, r1⟩ := trodAll_cons r0
  obtain ⟨rfl, rfl, rfl⟩ := trodAll_nil r1
  obtain rfl : args = #[v0, v1] := by cases args; simp_all
  obtain ⟨rfl, rfl⟩ := trodVars_none hV
  obtain ⟨a0, len0, cap0, rfl⟩ := okWide_slice Try.underlying51 (hval 0 51 v0 rfl rfl)
  have k0 := h0
  have lt0 : ∀ x ∈ p0, x.block < W.heap.size := by obtain ⟨m, hm⟩ := k0; exact DataW.trod_lt m _ _ _ hm
  obtain ⟨⟨f, hk⟩, hlen⟩ : (∃ f, Keys W a0 len0 f) ∧ len0 ≤ 9223372036854775807 := by
    obtain ⟨fuel, hf⟩ := h0
    exact opened (by simpa [Value.cells] using hf)
  have k1 := h1
  have lt1 : ∀ x ∈ p1, x.block < W.heap.size := by obtain ⟨m, hm⟩ := k1; exact DataW.trod_lt m _ _ _ hm
  obtain ⟨z, rfl, rfl, rfl, wz⟩ := open_int Try.underlying3 (hval 1 3 v1 rfl rfl) h1
  clear hA0 hval0
  refine (key_main a0 len0 cap0 f z W hk hlen).mono fun e W' ⟨he, bel⟩ => ?_
  subst he
  exact ⟨_, rfl, _, _, _, [], _, [], hW', trodAll_mk1 (shut_bool Try.underlying4 _), (trodAll_cons_mk (Below.trod laidOut (by kernel_rfl) (of_decide_eq_true (by kernel_rfl)) k0 bel lt0) (trodAll_cons_mk (Below.trod laidOut (by kernel_rfl) (of_decide_eq_true (by kernel_rfl)) k1 bel lt1) trodAll_mk0)), rfl, bel.frame _, fun h => by cases h⟩

theorem over : Rows.fnKeyReturnsFreshCopyRow.holds Try.pinned (OpenSpec.ofChange Rows.fnKeyReturnsFreshCopySpec) :=
  OpenClaim.holds_of_wide 5 Try.f5 rfl rfl rfl rfl rfl rfl rfl ⟨rfl, rfl, rfl, rfl, rfl⟩ rfl rfl rfl rfl rfl (by kernel_rfl) Try.func5 (by kernel_rfl)
    (of_decide_eq_true (by kernel_rfl)) (by unfold Func.isWrapper; first | (rw [if_pos (by decide +kernel)]; kernel_rfl) | (rw [if_neg (by decide +kernel)]; exact ⟨rfl, rfl⟩))
    (fun os started H enc _ => lifted os started H enc)

/-- The statement. -/
theorem proved : Rows.FnKeyReturnsFreshCopySaid := over
#print axioms proved
end Go.Proofs.Qxb6605784a.fnKeyReturnsFreshCopy
