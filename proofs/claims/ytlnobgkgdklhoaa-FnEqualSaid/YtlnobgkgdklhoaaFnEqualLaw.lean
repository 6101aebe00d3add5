/-
  FnEqual: for all function types a and b, the thin package's Equal says that they are equal just where the reference's keys are equal, and each equals itself; the call returns true and changes nothing. No condition.
-/
import Derived.Test.YtlnobgkgdklhoaaRows
import Derived.Test.YtlnobgkgdklhoaaRow
import Derived.Test.YtlnobgkgdklhoaaFnEqualWalk
import Derived.Test.YtlnobgkgdklhoaaOpen
import Derived.ProofKit
import Derived.OpenShut
namespace Go.Proofs.Ytlnobgkgdklhoaa.fnEqual
open Go.ChangeShapes Go.WideShapes Go.ChangeAt Go.RowKit
set_option linter.unusedVariables false

theorem own : ownKnob Try.prog.godebug = none := by kernel_rfl

theorem opensFT : Opens Try.prog 24 (Lay.int.slice.pair Lay.int.slice) :=
  have hs : Opens Try.prog 22 Lay.int.slice := opens_slice Try.underlying22 (by kernel_rfl) (opens_int Try.underlying3 (by kernel_rfl)) (by decide)
  opens_struct Try.underlying24 (by kernel_rfl) (opensF_cons hs rfl (opensF_one hs rfl))
/-! ### THE ROW's STEP: WRITTEN OUT: LEAVE IT -/
theorem hts : ∀ t ∈ Try.f3.params.toList, Try.prog.readableRec t = true ∧ t < Try.prog.types.size := by
  rw [Try.params3]
  intro t ht
  simp only [List.mem_cons, List.not_mem_nil, or_false] at ht
  rcases ht with rfl | rfl <;> exact ⟨by kernel_rfl, of_decide_eq_true (by kernel_rfl)⟩
set_option maxRecDepth 100000 in
theorem lifted (os : Os) (started : os.Started) (H : Type) (enc : TypeId × Value → H) :
    ReturnsInHanded {} Try.checked os 3 .any (Rows.fnEqualSpec.pre6 enc Try.prog Try.f3 Rows.fnEqualRow.domain false) (Rows.fnEqualSpec.post enc Try.prog Try.f3 false true false false) := by
  refine returnsInHanded_of_change (C := Try.checked) own started (by kernel_rfl) Try.func3
    (ChangeSpec.witness6 (enc := enc) (C := Try.checked) false ⟨#[], #[.agg #[.slice none 0 0, .slice none 0 0], .agg #[.slice none 0 0, .slice none 0 0]], []⟩ 8 (by kernel_rfl) (by kernel_rfl) (by kernel_rfl) (by kernel_rfl)) ?_
  intro W base args ds gs before hval0 hW hcnd _
  have hval : ∀ (j : Nat) t v, Try.f3.params[j]? = some t → args[j]? = some v → Value.okWide Try.prog W .any base t v := hval0
  have hW' := hW
  obtain ⟨p, q, hA0, hV, rfl, hfz, hnd⟩ := hW
  have hA : DataW.TrodAll enc Try.prog W 0 (fun _ => true) true Try.f3.params.toList args.toList ds p := hA0
  rw [Try.params3] at hA hval
  obtain ⟨v0, vs0, d0, ds0, p0, q0, hargs, rfl, rfl, h0, r0⟩ := trodAll_cons hA
  obtain ⟨v1, vs1, d1, ds1, p1, q1, rfl, rfl, rfl, h1, r1⟩ := trodAll_cons r0
  obtain ⟨rfl, rfl, rfl⟩ := trodAll_nil r1
  obtain rfl : args = #[v0, v1] := by cases args; simp_all
  obtain ⟨rfl, rfl⟩ := trodVars_none hV
  obtain ⟨c0, rfl, -⟩ := okWide_struct Try.underlying24 (hval 0 _ v0 rfl rfl)
  obtain ⟨c1, rfl, -⟩ := okWide_struct Try.underlying24 (hval 1 _ v1 rfl rfl)
  obtain ⟨f0, k0⟩ := h0
  obtain ⟨f1, k1⟩ := h1
  obtain ⟨x, u1, u2, e0, g1, g2⟩ := opensFT.2 k0
  obtain ⟨y, u3, u4, e1, g3, g4⟩ := opensFT.2 k1
  obtain ⟨m1, q1, rfl, -, -⟩ := id g1
  obtain ⟨m2, q2, rfl, -, -⟩ := id g2
  obtain ⟨m3, q3, rfl, -, -⟩ := id g3
  obtain ⟨m4, q4, rfl, -, -⟩ := id g4
  obtain rfl : c0 = _ := Array.toList_inj.1 e0
  obtain rfl : c1 = _ := Array.toList_inj.1 e1
  refine (FnEqual_calls _ _ _ _ _ _ _ _ _ W g1 g2 g3 g4 (fun _ h => h)).mono fun e W' ⟨he, hg⟩ => ?_
  subst he
  exact ⟨_, rfl, post_true (by kernel_rfl) hts rfl rfl _ rfl Try.underlying4 hW' hg⟩

theorem over : Rows.fnEqualRow.holds Try.pinned (OpenSpec.ofChange Rows.fnEqualSpec) :=
  OpenClaim.holds_of_wide 3 Try.f3 rfl rfl rfl rfl rfl rfl rfl ⟨rfl, rfl, rfl, rfl, rfl⟩ rfl rfl rfl rfl rfl (by kernel_rfl) Try.func3 (by kernel_rfl)
    (of_decide_eq_true (by kernel_rfl)) (by unfold Func.isWrapper; first | (rw [if_pos (by decide +kernel)]; kernel_rfl) | (rw [if_neg (by decide +kernel)]; exact ⟨rfl, rfl⟩))
    (fun os started H enc _ => lifted os started H enc)

/-- ████ THE STATEMENT ████ -/
theorem proved : Rows.FnEqualSaid :=
  over
#print axioms proved
end Go.Proofs.Ytlnobgkgdklhoaa.fnEqual
