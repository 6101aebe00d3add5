/-
  FnCodes, the second form: for every row l of code entries of a bulk of at most 1048576 that the guards let in, and that the reference can read back from their own bytes, the thin package's Codes over a module of these entries gives them back, in order (equal keys); the call returns true and changes nothing. Condition: the package variables io.ErrShortBuffer, io.EOF and io.ErrUnexpectedEOF hold what the program's text lays in them (the card ties that).
-/
import Derived.Test.YtbdahjpdjamgiaaGreatDoorCards
import Derived.Test.YtbdahjpdjamgiaaGreatDoorTie
import Derived.Test.YtbdahjpdjamgiaaGreatDoorPart3
import Derived.Test.YtbdahjpdjamgiaaGreatDoorPart32
import Derived.Test.YtbdahjpdjamgiaaGreatDoorPart33
import Derived.ProofKit
import Derived.OpenShut
import Derived.LaidMore
import Derived.SevenTiedAt
import Derived.Stop.LaidErr
import Derived.Deep.DeepHandedRow
import Derived.Deep.DeepWitnessRowRef
namespace Go.Proofs.YtbdahjpdjamgiaaGreatDoor.fnCodes
open Go.ChangeShapes Go.WideShapes Go.ChangeAt Go.RowKit
set_option linter.unusedVariables false

theorem own : ownKnob Tryz.prog.godebug = none := by kernel_rfl
theorem opensArg : Opens Tryz.prog 142 Lay.arg :=
  opens_struct Tryz.underlying142 (by kernel_rfl) (opensF_cons (opens_int Tryz.underlying3 (by kernel_rfl)) rfl (opensF_one (opens_u64 Tryz.underlying76 (by kernel_rfl)) rfl))
theorem opensArgs : Opens Tryz.prog 136 Lay.arg.slice := opens_slice Tryz.underlying136 (by kernel_rfl) opensArg (by decide)
theorem opensIns : ∀ k, OpensB Tryz.prog 138 (Lay.ins k) (fun _ => 0) k
  | 0 => ⟨by kernel_rfl, fun h => absurd h (Nat.not_lt_zero _)⟩
  | k + 1 => (OpensB.via (β := Ins) (opensB_struct Tryz.underlying138 (by show _ = 1 + (1 + (1 + (1 + 1))); kernel_rfl)
      (opensBF_cons ((opens_int Tryz.underlying3 (by kernel_rfl)).b k) rfl (opensBF_cons (opensArgs.b k) rfl (opensBF_cons ((opens_bool Tryz.underlying4 (by kernel_rfl)).b k) rfl
        (opensBF_cons ((opens_int Tryz.underlying3 (by kernel_rfl)).b k) rfl (opensBF_one ((opensB_slice Tryz.underlying38 (by kernel_rfl) (opensIns k) (by rw [Lay.ins_size]; decide)).le (Nat.le_succ k) (fun _ => Nat.le_refl _)) rfl))))))
      (fun i : Ins => (i.op, i.args, i.st, i.ty, i.body)) (fun x => Ins.mk x.1 x.2.1 x.2.2.1 x.2.2.2.1 x.2.2.2.2) (fun _ => rfl)).le (Nat.le_refl _) (fun _ => Nat.zero_le _)
theorem opensLoc : Opens Tryz.prog 73 Lay.loc :=
  opens_struct Tryz.underlying73 (by kernel_rfl) (opensF_cons (opens_u32 Tryz.underlying23 (by kernel_rfl)) rfl (opensF_one (opens_int Tryz.underlying3 (by kernel_rfl)) rfl))
theorem opensCodeK (k : Nat) : OpensB Tryz.prog 40 (Lay.loc.slice.pair (Lay.ins k).slice) (fun x => x.1.length + 1) (k + 2) :=
  (opensB_struct Tryz.underlying40 (by kernel_rfl) (opensBF_cons ((opensB_slice Tryz.underlying37 (by kernel_rfl) (opensLoc.b k) (by decide))) rfl (opensBF_one (opensB_slice Tryz.underlying38 (by kernel_rfl) (opensIns k) (by rw [Lay.ins_size]; decide)) rfl))).le (Nat.le_refl _)
    (fun a => by simp only [wRow, sum_one]; omega)
theorem opensCode (k : Nat) : OpensB Tryz.prog 40 Lay.code (fun x => x.1.length + 1) k := ⟨by kernel_rfl, fun {H enc w base spare held fuel cs x} hk hx => by
  obtain ⟨a, ha, hw⟩ := (opensCodeK (Rows.uptoBulk x.1)).2 (by omega) hx
  exact ⟨a, ⟨_, ha⟩, hw⟩⟩
theorem opensL (k : Nat) : OpensB Tryz.prog 22 Lay.code.slice (wRow fun x => x.1.length + 1) (k + 1) := opensB_slice Tryz.underlying22 (by kernel_rfl) (opensCode k) (by decide)
theorem bounds : ∀ (l : List CodeP), (l.map fun x => x.1.length + 1).sum ≤ 1048576 → l.length ≤ 1048576 ∧ ∀ (i : Nat) (hi : i < l.length), l[i].1.length ≤ 1048576 := by
  have key : ∀ l : List CodeP, l.length ≤ (l.map fun x => x.1.length + 1).sum ∧ ∀ (i : Nat) (hi : i < l.length), l[i].1.length ≤ (l.map fun x => x.1.length + 1).sum := by
    intro l
    induction l with
    | nil => exact ⟨by simp, fun i hi => absurd hi (by simp)⟩
    | cons x xs ih =>
      simp only [List.map_cons, List.sum_cons, List.length_cons]
      refine ⟨by have := ih.1; omega, fun i hi => ?_⟩
      cases i with
      | zero => simp only [List.getElem_cons_zero]; omega
      | succ i => simp only [List.getElem_cons_succ]; have := ih.2 i (by omega); omega
  intro l h
  exact ⟨Nat.le_trans (key l).1 h, fun i hi => Nat.le_trans ((key l).2 i hi) h⟩
theorem gEOF : Tryz.prog.globalNamed "io.EOF" = some 2 := by kernel_rfl
theorem tEOF : (Tryz.prog.globals[2]?).map (·.type) = some 90 := by kernel_rfl
theorem star : "*" ++ "errors.errorString" = "*errors.errorString" := by decide
theorem rowES (u : TypeId) (h : Tryz.prog.typeName? 3 u = some "*errors.errorString") : u = 317 :=
  typeName_ptr_named (nm := "errors.errorString") (loose_all _ _ _ _ _ (by rw [star]; kernel_rfl)) (loose_all _ _ _ _ _ (by kernel_rfl)) (by decide) u (by rw [star]; exact h)
theorem door_met (os : Os) (args : Array Value) : laidMetH Tryz.prog Rows.fnCodesUptoRow.laid ((World.doorLaid Tryz.prog 58 os).forCall (fun _ _ => 0) ⟨#[], args, []⟩).memory :=
  laidMetH_of_parts3 (fuel := 8) (laidMet_of_run' 8 (by kernel_rfl) (by kernel_rfl)) (by kernel_rfl) (by kernel_rfl)
theorem of_laid {W : World} (h : laidMetH Tryz.prog Rows.fnCodesUptoRow.laid W) : ∃ pe, W.cell? eofAt = some (eofV pe) := by
  rw [MakeChecks.laidMetH_plain _ _ _ (by kernel_rfl)] at h
  obtain ⟨a0, s0, hv0, -, -, -⟩ := laid_sentinel h.tail gEOF tEOF Tryz.underlying90 rowES Tryz.underlying317 Tryz.underlying319 rfl rfl Tryz.underlying9 (by kernel_rfl) (by kernel_rfl)
  exact ⟨a0, by simpa using World.var?_cell gEOF hv0 0⟩
theorem hts : ∀ t ∈ Tryz.f3.params.toList, Tryz.prog.readableRec t = true ∧ t < Tryz.prog.types.size := by
  rw [Tryz.params3]
  intro t ht
  simp only [List.mem_cons, List.not_mem_nil, or_false] at ht
  rcases ht with rfl <;> exact ⟨by kernel_rfl, of_decide_eq_true (by kernel_rfl)⟩
theorem reads (os : Os) {H : Type} (enc : TypeId × Value → H) : ∃ places, DataW.whole enc Tryz.prog ((World.doorLaid Tryz.prog 58 os).forCall (fun _ _ => 0) ⟨#[], #[.slice none 0 0], []⟩).memory Tryz.f3.params.toList Rows.fnCodesSpec.vars false #[Value.slice none 0 0].toList 8 = some ([.nil], [], places) := ⟨[], by kernel_rfl⟩
set_option maxRecDepth 100000 in
theorem lifted (os : Os) (started : os.Started) (H : Type) (enc : TypeId × Value → H) (F : Stop.Interp) :
    ReturnsInHanded {} Tryz.checked os 3 .any ((Rows.OpenSpec.upto Rows.fnCodesSpec).preRow enc Tryz.prog Tryz.f3 Rows.fnCodesUptoRow.domain false Rows.fnCodesUptoRow.laid) (((Rows.OpenSpec.upto Rows.fnCodesSpec).at F).post enc Tryz.prog Tryz.f3 false true false false) := by
  obtain ⟨places, hx⟩ := reads os enc
  refine returnsInHanded_of_row (C := Tryz.checked) (s := Rows.OpenSpec.upto Rows.fnCodesSpec) own started (by kernel_rfl) Tryz.func3
    (witness_row_atRef (enc := enc) (C := Tryz.checked) false (World.doorLaid Tryz.prog 58 os) #[.slice none 0 0] rfl (by kernel_rfl) (by kernel_rfl) (by kernel_rfl)
      (OpenSpec.preRow_of_cond 8 hx (by kernel_rfl) (fun k hk => by cases hk; kernel_rfl) (by kernel_rfl) (door_met os _))) ?_
  intro W base args ds gs before hval0 hW _ hcond _ hL _ _
  have hval : ∀ (j : Nat) t v, Tryz.f3.params[j]? = some t → args[j]? = some v → Value.okWide Tryz.prog W .any base t v := hval0
  have hk : Rows.uptoSmall H (ds ++ gs) = true := hcond _ rfl
  have hW' : DataW.Whole enc Tryz.prog Tryz.f3.params.toList Rows.fnCodesSpec.vars false W args.toList ds gs before := hW
  obtain ⟨p, q, hA0, hV, rfl, hfz, hnd⟩ := hW
  have hA : DataW.TrodAll enc Tryz.prog W 0 (fun _ => true) true Tryz.f3.params.toList args.toList ds p := hA0
  rw [Tryz.params3] at hA hval
  obtain ⟨v0, vs0, d0, ds0, p0, q0, hargs, rfl, rfl, h0, r0⟩ := trodAll_cons hA
  obtain ⟨rfl, rfl, rfl⟩ := trodAll_nil r0
  obtain rfl : args = #[v0] := by cases args; simp_all
  obtain ⟨rfl, rfl⟩ := trodVars_none hV
  obtain ⟨aa, m, cap, rfl⟩ := okWide_slice Tryz.underlying22 (hval 0 _ v0 rfl rfl)
  have hb : Rows.uptoBulkAll ([d0] ++ []) ≤ 1048576 := of_decide_eq_true hk
  simp only [List.append_nil, Rows.uptoBulkAll] at hb
  obtain ⟨f0, k0⟩ := h0
  obtain ⟨x, hx, hw⟩ := (opensL (Rows.uptoBulk d0)).2 (by show Rows.uptoBulk d0 < _; omega) k0
  have hw' : (x.map fun y : CodeP => y.1.length + 1).sum + 1 ≤ Rows.uptoBulk d0 := hw
  obtain ⟨b1, b2⟩ := bounds x (by omega)
  obtain ⟨pe, hE⟩ := of_laid hL
  refine (FnCodes_calls x aa m cap pe W hx hE b1 b2).mono fun e W' ⟨he, hg⟩ => ?_
  subst he
  exact ⟨_, rfl, post_true (by kernel_rfl) hts rfl rfl _ rfl Tryz.underlying4 hW' hg⟩
theorem over : Rows.fnCodesUptoRow.holds Tryz.pinned (Rows.OpenSpec.upto Rows.fnCodesSpec) :=
  OpenClaim.holds_of_cond 3 Tryz.f3 rfl rfl rfl rfl rfl rfl rfl ⟨rfl, rfl, rfl, rfl, rfl⟩ rfl rfl rfl rfl rfl (by kernel_rfl) Tryz.func3 (by kernel_rfl)
    (of_decide_eq_true (by kernel_rfl)) (by unfold Func.isWrapper; first | (rw [if_pos (by decide +kernel)]; kernel_rfl) | (rw [if_neg (by decide +kernel)]; exact ⟨rfl, rfl⟩))
    (fun os started H enc _ F => by rw [OpenClaim.pre_eq_preRow]; exact lifted os started H enc F)
/-- ████ THE STATEMENT ████ -/
theorem proved : Rows.FnCodesUptoCardSaid :=
  Claim7.holds_tied_plain_at .later [] _ _ _ _
    over (fun _ h => by cases h) (by kernel_rfl) (fun _ h => by cases h) fnCodesUpto_row_tie rfl ⟨rfl, rfl⟩ (by kernel_rfl) rfl
    (fun f fn hf hfn => by
      obtain rfl : f = 3 := Option.some.inj ((show Tryz.prog.funcNamed "pub-wasmbinaries/laws.FnCodes" = some 3 by kernel_rfl).symm.trans hf) |>.symm
      obtain rfl : fn = Tryz.f3 := (Option.some.inj (Tryz.func3.symm.trans hfn)).symm
      exact ⟨by kernel_rfl, fun j t ht => by
        rw [Tryz.params3] at ht
        have hm : t ∈ [22] := by simpa using Array.mem_of_getElem? ht
        have hall : ([22].all fun u => !Tryz.prog.wantsStandIn u) = true := by kernel_rfl
        exact (show Tryz.prog.wantsStandIn t = false by simpa using List.all_eq_true.1 hall t hm)⟩)
    (by kernel_rfl)
#print axioms proved
end Go.Proofs.YtbdahjpdjamgiaaGreatDoor.fnCodes
