/-
  FnWriteCode: for every code entry c that the guards let in, the thin package's WriteCode writes it without an error, as the bytes that the reference makes of it; the call returns true and changes nothing. No condition.
-/
import Derived.Test.YtgfnbdfmigcmbaaRows
import Derived.Test.YtgfnbdfmigcmbaaRow
import Derived.Test.YtgfnbdfmigcmbaaFnWriteCodeWalk
import Derived.Test.YtgfnbdfmigcmbaaOpenD
import Derived.ProofKit
import Derived.OpenShut
namespace Go.Proofs.Ytgfnbdfmigcmbaa.fnWriteCode
open Go.ChangeShapes Go.WideShapes Go.ChangeAt Go.RowKit
set_option linter.unusedVariables false

theorem own : ownKnob Try.prog.godebug = none := by kernel_rfl

theorem opensArg : Opens Try.prog 76 Lay.arg :=
  opens_struct Try.underlying76 (by kernel_rfl) (opensF_cons (opens_int Try.underlying3 (by kernel_rfl)) rfl (opensF_one (opens_u64 Try.underlying46 (by kernel_rfl)) rfl))
theorem opensArgs : Opens Try.prog 69 Lay.arg.slice := opens_slice Try.underlying69 (by kernel_rfl) opensArg (by decide)
theorem opensIns : ∀ k, OpensD Try.prog 71 (Lay.ins k) k
  | 0 => ⟨by kernel_rfl, fun h => absurd h (Nat.not_lt_zero _)⟩
  | k + 1 => OpensD.via (β := Ins) (opensD_struct Try.underlying71 (by show _ = 1 + (1 + (1 + (1 + 1))); kernel_rfl)
      (opensDF_cons ((opens_int Try.underlying3 (by kernel_rfl)).d k) rfl (opensDF_cons (opensArgs.d k) rfl (opensDF_cons ((opens_bool Try.underlying4 (by kernel_rfl)).d k) rfl
        (opensDF_cons ((opens_int Try.underlying3 (by kernel_rfl)).d k) rfl (opensDF_one ((opensD_slice Try.underlying23 (by kernel_rfl) (opensIns k) (by rw [Lay.ins_size]; decide)).le (Nat.le_succ k)) rfl))))))
      (fun i : Ins => (i.op, i.args, i.st, i.ty, i.body)) (fun x => Ins.mk x.1 x.2.1 x.2.2.1 x.2.2.2.1 x.2.2.2.2) (fun _ => rfl)
theorem opensLoc : Opens Try.prog 42 Lay.loc :=
  opens_struct Try.underlying42 (by kernel_rfl) (opensF_cons (opens_u32 Try.underlying40 (by kernel_rfl)) rfl (opensF_one (opens_int Try.underlying3 (by kernel_rfl)) rfl))
theorem opensCode (k : Nat) : OpensD Try.prog 25 (Lay.loc.slice.pair (Lay.ins k).slice) (k + 2) :=
  opensD_struct Try.underlying25 (by kernel_rfl) (opensDF_cons ((opens_slice Try.underlying22 (by kernel_rfl) opensLoc (by decide)).d _) rfl (opensDF_one (opensD_slice Try.underlying23 (by kernel_rfl) (opensIns k) (by rw [Lay.ins_size]; decide)) rfl))
/-! ### THE ROW's STEP: WRITTEN OUT: LEAVE IT -/
theorem hts : ∀ t ∈ Try.f3.params.toList, Try.prog.readableRec t = true ∧ t < Try.prog.types.size := by
  rw [Try.params3]
  intro t ht
  simp only [List.mem_cons, List.not_mem_nil, or_false] at ht
  rcases ht with rfl <;> exact ⟨by kernel_rfl, of_decide_eq_true (by kernel_rfl)⟩
set_option maxRecDepth 100000 in
theorem lifted (os : Os) (started : os.Started) (H : Type) (enc : TypeId × Value → H) :
    ReturnsInHanded {} Try.checked os 3 .any (Rows.fnWriteCodeSpec.pre6 enc Try.prog Try.f3 Rows.fnWriteCodeRow.domain false) (Rows.fnWriteCodeSpec.post enc Try.prog Try.f3 false true false false) := by
  refine returnsInHanded_of_change (C := Try.checked) own started (by kernel_rfl) Try.func3
    (ChangeSpec.witness6 (enc := enc) (C := Try.checked) false ⟨#[], #[.agg #[.slice none 0 0, .slice none 0 0]], []⟩ 8 (by kernel_rfl) (by kernel_rfl) (by kernel_rfl) (by kernel_rfl)) ?_
  intro W base args ds gs before hval0 hW hcnd _
  have hval : ∀ (j : Nat) t v, Try.f3.params[j]? = some t → args[j]? = some v → Value.okWide Try.prog W .any base t v := hval0
  have hW' := hW
  obtain ⟨p, q, hA0, hV, rfl, hfz, hnd⟩ := hW
  have hA : DataW.TrodAll enc Try.prog W 0 (fun _ => true) true Try.f3.params.toList args.toList ds p := hA0
  rw [Try.params3] at hA hval
  obtain ⟨v0, vs0, d0, ds0, p0, q0, hargs, rfl, rfl, h0, r0⟩ := trodAll_cons hA
  obtain ⟨rfl, rfl, rfl⟩ := trodAll_nil r0
  obtain rfl : args = #[v0] := by cases args; simp_all
  obtain ⟨rfl, rfl⟩ := trodVars_none hV
  obtain ⟨c0, rfl, -⟩ := okWide_struct Try.underlying25 (hval 0 _ v0 rfl rfl)
  obtain ⟨f0, k0⟩ := h0
  obtain ⟨x, u1, u2, e0, g1, g2⟩ := (opensCode (SizeOf.sizeOf d0)).2 (by show SizeOf.sizeOf d0 < _; omega) k0
  obtain ⟨m1, q1, rfl, -, -⟩ := id g1
  obtain ⟨m2, q2, rfl, -, -⟩ := id g2
  obtain rfl : c0 = _ := Array.toList_inj.1 e0
  refine (FnWriteCode_calls _ _ _ _ _ _ _ _ _ W g1 g2).mono fun e W' ⟨he, hg⟩ => ?_
  subst he
  exact ⟨_, rfl, post_true (by kernel_rfl) hts rfl rfl _ rfl Try.underlying4 hW' hg⟩

theorem over : Rows.fnWriteCodeRow.holds Try.pinned (OpenSpec.ofChange Rows.fnWriteCodeSpec) :=
  OpenClaim.holds_of_wide 3 Try.f3 rfl rfl rfl rfl rfl rfl rfl ⟨rfl, rfl, rfl, rfl, rfl⟩ rfl rfl rfl rfl rfl (by kernel_rfl) Try.func3 (by kernel_rfl)
    (of_decide_eq_true (by kernel_rfl)) (by unfold Func.isWrapper; first | (rw [if_pos (by decide +kernel)]; kernel_rfl) | (rw [if_neg (by decide +kernel)]; exact ⟨rfl, rfl⟩))
    (fun os started H enc _ => lifted os started H enc)

/-- ████ THE STATEMENT ████ -/
theorem proved : Rows.FnWriteCodeSaid :=
  over
#print axioms proved
end Go.Proofs.Ytgfnbdfmigcmbaa.fnWriteCode
