/-
  FnCodeBack: every code entry c that the guards let in, and that the reference can read back from its own bytes, is written by the thin package's WriteCode without an error and read back by ReadCode as it was (equal keys); the call returns true and changes nothing. Condition: the package variables io.ErrShortBuffer, io.EOF and io.ErrUnexpectedEOF hold what the program's text lays in them (the card ties that).
-/
import Derived.Test.YtkbadfljmbeciaaGreatDoorCards
import Derived.Test.YtkbadfljmbeciaaGreatDoorTie
import Derived.Test.YtkbadfljmbeciaaGreatDoorLibB
import Derived.Test.YtkbadfljmbeciaaGreatDoorFnCodeBackWalk
import Derived.ProofKit
import Derived.OpenShut
import Derived.LaidMore
import Derived.SevenTiedAt
import Derived.Stop.LaidErr
namespace Go.Proofs.YtkbadfljmbeciaaGreatDoor.fnCodeBack
open Go.ChangeShapes Go.WideShapes Go.ChangeAt Go.RowKit
set_option linter.unusedVariables false

theorem own : ownKnob Tryz.prog.godebug = none := by kernel_rfl
theorem opensArg : Opens Tryz.prog 166 Lay.arg :=
  opens_struct Tryz.underlying166 (by kernel_rfl) (opensF_cons (opens_int Tryz.underlying3 (by kernel_rfl)) rfl (opensF_one (opens_u64 Tryz.underlying81 (by kernel_rfl)) rfl))
theorem opensArgs : Opens Tryz.prog 160 Lay.arg.slice := opens_slice Tryz.underlying160 (by kernel_rfl) opensArg (by decide)
theorem opensIns : ∀ k, OpensD Tryz.prog 162 (Lay.ins k) k
  | 0 => ⟨by kernel_rfl, fun h => absurd h (Nat.not_lt_zero _)⟩
  | k + 1 => OpensD.via (β := Ins) (opensD_struct Tryz.underlying162 (by show _ = 1 + (1 + (1 + (1 + 1))); kernel_rfl)
      (opensDF_cons ((opens_int Tryz.underlying3 (by kernel_rfl)).d k) rfl (opensDF_cons (opensArgs.d k) rfl (opensDF_cons ((opens_bool Tryz.underlying4 (by kernel_rfl)).d k) rfl
        (opensDF_cons ((opens_int Tryz.underlying3 (by kernel_rfl)).d k) rfl (opensDF_one ((opensD_slice Tryz.underlying38 (by kernel_rfl) (opensIns k) (by rw [Lay.ins_size]; decide)).le (Nat.le_succ k)) rfl))))))
      (fun i : Ins => (i.op, i.args, i.st, i.ty, i.body)) (fun x => Ins.mk x.1 x.2.1 x.2.2.1 x.2.2.2.1 x.2.2.2.2) (fun _ => rfl)
theorem opensLoc : Opens Tryz.prog 78 Lay.loc :=
  opens_struct Tryz.underlying78 (by kernel_rfl) (opensF_cons (opens_u32 Tryz.underlying23 (by kernel_rfl)) rfl (opensF_one (opens_int Tryz.underlying3 (by kernel_rfl)) rfl))
theorem opensCode (k : Nat) : OpensD Tryz.prog 40 (Lay.loc.slice.pair (Lay.ins k).slice) (k + 2) :=
  opensD_struct Tryz.underlying40 (by kernel_rfl) (opensDF_cons ((opens_slice Tryz.underlying37 (by kernel_rfl) opensLoc (by decide)).d _) rfl (opensDF_one (opensD_slice Tryz.underlying38 (by kernel_rfl) (opensIns k) (by rw [Lay.ins_size]; decide)) rfl))
/-- What the row lists. -/
def laid3 : List (String × DataW Unit) := [("io.ErrShortBuffer", Rows.laid_io_ErrShortBuffer), ("io.EOF", Rows.laid_io_EOF), ("io.ErrUnexpectedEOF", Rows.laid_io_ErrUnexpectedEOF)]
theorem gEOF : Tryz.prog.globalNamed "io.EOF" = some 2 := by kernel_rfl
theorem tEOF : (Tryz.prog.globals[2]?).map (·.type) = some 95 := by kernel_rfl
theorem star : "*" ++ "errors.errorString" = "*errors.errorString" := by decide
theorem rowES (u : TypeId) (h : Tryz.prog.typeName? 3 u = some "*errors.errorString") : u = 330 :=
  typeName_ptr_named (nm := "errors.errorString") (loose_all _ _ _ _ _ (by rw [star]; kernel_rfl)) (loose_all _ _ _ _ _ (by kernel_rfl)) (by decide) u (by rw [star]; exact h)
theorem door_met (os : Os) (args : Array Value) : laidMetH Tryz.prog laid3 ((World.doorLaid Tryz.prog 85 os).forCall (fun _ _ => 0) ⟨#[], args, []⟩).memory :=
  laidMetH_of_parts3 (fuel := 8) (laidMet_of_run' 8 (by kernel_rfl) (by kernel_rfl)) (by kernel_rfl) (by kernel_rfl)
theorem of_laid {W : World} (h : laidMetH Tryz.prog laid3 W) : ∃ pe, W.cell? eofAt = some (eofV pe) := by
  rw [MakeChecks.laidMetH_plain _ _ _ (by kernel_rfl)] at h
  obtain ⟨a0, s0, hv0, -, -, -⟩ := laid_sentinel h.tail gEOF tEOF Tryz.underlying95 rowES Tryz.underlying330 Tryz.underlying332 rfl rfl Tryz.underlying9 (by kernel_rfl) (by kernel_rfl)
  exact ⟨a0, by simpa using World.var?_cell gEOF hv0 0⟩
theorem hts : ∀ t ∈ Tryz.f4.params.toList, Tryz.prog.readableRec t = true ∧ t < Tryz.prog.types.size := by
  rw [Tryz.params4]
  intro t ht
  simp only [List.mem_cons, List.not_mem_nil, or_false] at ht
  rcases ht with rfl <;> exact ⟨by kernel_rfl, of_decide_eq_true (by kernel_rfl)⟩
set_option maxRecDepth 100000 in
theorem lifted (os : Os) (started : os.Started) (H : Type) (enc : TypeId × Value → H) :
    ReturnsInHanded {} Tryz.checked os 4 .any (fun w args => (Rows.fnCodeBackSpec.pre enc Tryz.prog Tryz.f4 [] false w args ∧ laidMetH Tryz.prog laid3 w) ∧ sizedMet enc Tryz.prog Tryz.f4 (OpenSpec.ofChange Rows.fnCodeBackSpec) false w args)
      (Rows.fnCodeBackSpec.post enc Tryz.prog Tryz.f4 false true false false) := by
  refine returnsInHanded_of_change_and (C := Tryz.checked) (X := fun w _ => laidMetH Tryz.prog laid3 w) (fun _ _ _ hh h => h.of_heap hh) own started (by kernel_rfl) Tryz.func4
    (ChangeSpec.witness_shaped (enc := enc) (C := Tryz.checked) (os := os) (X := fun w _ => laidMetH Tryz.prog laid3 w) false (World.doorLaid Tryz.prog 85 os) #[.agg #[.slice none 0 0, .slice none 0 0]] 8 rfl (World.shaped_of_RefB (by kernel_rfl) (by kernel_rfl)) (by kernel_rfl) (by kernel_rfl) (by kernel_rfl) (door_met os _)) ?_
  intro W base args ds gs before hval0 hW _ _ hL _
  have hval : ∀ (j : Nat) t v, Tryz.f4.params[j]? = some t → args[j]? = some v → Value.okWide Tryz.prog W .any base t v := hval0
  have hW' := hW
  obtain ⟨p, q, hA0, hV, rfl, hfz, hnd⟩ := hW
  have hA : DataW.TrodAll enc Tryz.prog W 0 (fun _ => true) true Tryz.f4.params.toList args.toList ds p := hA0
  rw [Tryz.params4] at hA hval
  obtain ⟨v0, vs0, d0, ds0, p0, q0, hargs, rfl, rfl, h0, r0⟩ := trodAll_cons hA
  obtain ⟨rfl, rfl, rfl⟩ := trodAll_nil r0
  obtain rfl : args = #[v0] := by cases args; simp_all
  obtain ⟨rfl, rfl⟩ := trodVars_none hV
  obtain ⟨c0, rfl, -⟩ := okWide_struct Tryz.underlying40 (hval 0 _ v0 rfl rfl)
  obtain ⟨f0, k0⟩ := h0
  obtain ⟨x, u1, u2, e0, g1, g2⟩ := (opensCode (SizeOf.sizeOf d0)).2 (by show SizeOf.sizeOf d0 < _; omega) k0
  obtain ⟨m1, q1, rfl, -, -⟩ := id g1
  obtain ⟨m2, q2, rfl, -, -⟩ := id g2
  obtain rfl : c0 = _ := Array.toList_inj.1 e0
  obtain ⟨pe, hE⟩ := of_laid hL
  refine (FnCodeBack_calls _ _ _ _ _ _ _ _ _ pe W g1 g2 hE).mono fun e W' ⟨he, hg⟩ => ?_
  subst he
  exact ⟨_, rfl, post_true (by kernel_rfl) hts rfl rfl _ rfl Tryz.underlying4 hW' hg⟩
theorem over : Rows.fnCodeBackRow.holds Tryz.pinned (OpenSpec.ofChange Rows.fnCodeBackSpec) :=
  OpenClaim.holds_of_wide 4 Tryz.f4 rfl rfl rfl rfl rfl rfl rfl ⟨rfl, rfl, rfl, rfl, rfl⟩ rfl rfl rfl rfl rfl (by kernel_rfl) Tryz.func4 (by kernel_rfl)
    (of_decide_eq_true (by kernel_rfl)) (by unfold Func.isWrapper; first | (rw [if_pos (by decide +kernel)]; kernel_rfl) | (rw [if_neg (by decide +kernel)]; exact ⟨rfl, rfl⟩))
    (fun os started H enc _ => lifted os started H enc)
/-- ████ THE STATEMENT ████ -/
theorem proved : Rows.FnCodeBackCardSaid :=
  Claim7.holds_tied_plain_at .later [] [.sentinel, .sentinel, .sentinel] true (true, "e096afc1b84ae0ebee2cefa9adbd1921a0bd9e0733125bbb4b0c39918dc206af") true
    over (fun _ h => by cases h) (by kernel_rfl) (fun _ h => by cases h) fnCodeBack_row_tie rfl ⟨rfl, rfl⟩ (by kernel_rfl) rfl
    (fun f fn hf hfn => by
      obtain rfl : f = 4 := Option.some.inj ((show Tryz.prog.funcNamed "pub-wasmbinaries/laws.FnCodeBack" = some 4 by kernel_rfl).symm.trans hf) |>.symm
      obtain rfl : fn = Tryz.f4 := (Option.some.inj (Tryz.func4.symm.trans hfn)).symm
      exact ⟨by kernel_rfl, fun j t ht => by
        rw [Tryz.params4] at ht
        have hm : t ∈ [40] := by simpa using Array.mem_of_getElem? ht
        have hall : ([40].all fun u => !Tryz.prog.wantsStandIn u) = true := by kernel_rfl
        exact (show Tryz.prog.wantsStandIn t = false by simpa using List.all_eq_true.1 hall t hm)⟩)
    (by kernel_rfl)
#print axioms proved
end Go.Proofs.YtkbadfljmbeciaaGreatDoor.fnCodeBack
