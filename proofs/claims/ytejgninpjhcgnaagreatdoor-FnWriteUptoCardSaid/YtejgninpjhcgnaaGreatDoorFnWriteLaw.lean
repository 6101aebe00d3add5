/-
  FnWrite, the second form: for every module m of a bulk of at most 1048576 that the guards let in (small, and legal as the reference says), the thin package's Write over it gives bytes that the reference reads back as that module (equal keys); the call returns true and changes nothing. Condition: what the row lists.
-/
import Derived.Test.YtejgninpjhcgnaaGreatDoorPart25
import Derived.LaidMore
import Derived.SevenTiedAt
import Derived.Stop.LaidErr
import Derived.Deep.DeepHandedRow
import Derived.Deep.DeepWitnessRowRef
import Derived.Test.YtejgninpjhcgnaaGreatDoorCards
import Derived.Test.YtejgninpjhcgnaaGreatDoorTie
namespace Go.Proofs.YtejgninpjhcgnaaGreatDoor.fnWrite
set_option maxRecDepth 100000
open Go.ChangeShapes Go.WideShapes Go.ChangeAt Go.RowKit
theorem own : ownKnob Tryz.prog.godebug = none := by kernel_rfl
theorem door_met (os : Os) (args : Array Value) : laidMetH Tryz.prog Rows.fnWriteUptoRow.laid ((World.doorLaid Tryz.prog 77 os).forCall (fun _ _ => 0) ⟨#[], args, []⟩).memory :=
 laidMetH_of_parts3 (fuel := 8) (laidMet_of_run' 8 (by kernel_rfl) (by kernel_rfl)) (by kernel_rfl) (by kernel_rfl)
theorem Am : ∀ t ∈ Tryz.f4.params.toList, Tryz.prog.readableRec t = true ∧ t < Tryz.prog.types.size := by
 rw [Tryz.params4]
 intro t ht
 simp only [List.mem_cons, List.not_mem_nil, or_false] at ht
 rcases ht with rfl <;> exact ⟨by kernel_rfl, of_decide_eq_true (by kernel_rfl)⟩
theorem reads (os : Os) {H : Type} (enc : TypeId × Value → H) : ∃ mL, DataW.whole enc Tryz.prog ((World.doorLaid Tryz.prog 77 os).forCall (fun _ _ => 0) ⟨#[], #[.agg zM], []⟩).memory Tryz.f4.params.toList Rows.fnWriteSpec.vars false #[Value.agg zM].toList 8 = some ([.agg [.lit (.int .u32 0), .lit (.bool false), .lit (.int .u32 0), .nil, .nil, .nil, .nil, .nil, .nil, .nil, .nil, .nil, .nil, .nil, .lit (.string []), .nil, .nil]], [], mL) := ⟨[], by kernel_rfl⟩
theorem lifted (os : Os) (eC : os.Started) (H : Type) (enc : TypeId × Value → H) (F : Stop.Interp) :
 ReturnsInHanded {} Tryz.checked os 4 .any ((Rows.OpenSpec.upto Rows.fnWriteSpec).preRow enc Tryz.prog Tryz.f4 Rows.fnWriteUptoRow.domain false Rows.fnWriteUptoRow.laid) (((Rows.OpenSpec.upto Rows.fnWriteSpec).at F).post enc Tryz.prog Tryz.f4 false true false false) := by
 obtain ⟨mL, hx⟩ := reads os enc
 refine returnsInHanded_of_row (C := Tryz.checked) (s := Rows.OpenSpec.upto Rows.fnWriteSpec) own eC (by kernel_rfl) Tryz.func4
  (witness_row_atRef (enc := enc) (C := Tryz.checked) false (World.doorLaid Tryz.prog 77 os) #[.agg zM] rfl (by kernel_rfl) (by kernel_rfl) (by kernel_rfl)
   (OpenSpec.preRow_of_cond 8 hx (by kernel_rfl) (fun k hk => by cases hk; kernel_rfl) (by kernel_rfl) (door_met os _))) ?_
 intro W base args ds gs kw tr hW _ eJ _ hL _ _
 have th : ∀ (j : Nat) t v, Tryz.f4.params[j]? = some t → args[j]? = some v → Value.okWide Tryz.prog W .any base t v := tr
 have hk : Rows.uptoSmall H (ds ++ gs) = true := eJ _ rfl
 have uK : DataW.Whole enc Tryz.prog Tryz.f4.params.toList Rows.fnWriteSpec.vars false W args.toList ds gs kw := hW
 obtain ⟨p, q, Ds, hV, rfl, BH, Er⟩ := hW
 have hA : DataW.TrodAll enc Tryz.prog W 0 (fun _ => true) true Tryz.f4.params.toList args.toList ds p := Ds
 rw [Tryz.params4] at hA th
 obtain ⟨v0, EP, d0, EJ, p0, q0, aY, rfl, rfl, h0, r0⟩ := trodAll_cons hA
 obtain ⟨rfl, rfl, rfl⟩ := trodAll_nil r0
 obtain rfl : args = #[v0] := by cases args; simp_all
 obtain ⟨rfl, rfl⟩ := trodVars_none hV
 obtain ⟨c0, rfl, -⟩ := okWide_struct Tryz.underlying37 (th 0 _ v0 rfl rfl)
 have hb : Rows.uptoBulkAll ([d0] ++ []) ≤ 1048576 := of_decide_eq_true hk
 simp only [List.append_nil, Rows.uptoBulkAll] at hb
 obtain ⟨f0, k0⟩ := h0
 obtain ⟨x, hx, hw⟩ := (oMod (Rows.uptoBulk d0 + 1)).2 (by show Rows.uptoBulk d0 < _; omega) k0
 have CU : hMod x ≤ Rows.uptoBulk d0 := hw
 obtain ⟨v, e0, hM⟩ := zjQ hx
 obtain rfl : c0 = _ := Array.toList_inj.1 e0
 refine (zde hM (by have := key_w x; omega)).mono fun e W' ⟨he, hg⟩ => ?_
 subst he
 exact ⟨_, rfl, zgh (by kernel_rfl) Am rfl rfl _ rfl Tryz.underlying4 uK hg⟩
theorem over1 : joinedFacts Tryz.pinned.checked.prog 4 Tryz.f4 (Rows.OpenSpec.upto Rows.fnWriteSpec).bare Rows.fnWriteUptoRow = true := by kernel_rfl
theorem over2 : Tryz.f4.isWrapper Tryz.pinned.checked.prog Rows.fnWriteUptoRow.wrapper Rows.fnWriteUptoRow.mainSum := by unfold Func.isWrapper; first | (rw [if_pos (by decide +kernel)]; kernel_rfl) | (rw [if_neg (by decide +kernel)]; exact ⟨rfl, rfl⟩)
theorem over3 (os : Os) (eC : os.Started) (H : Type) (enc : TypeId × Value → H) (F : Stop.Interp) :
 ReturnsInHanded Rows.fnWriteUptoRow.assume Tryz.pinned.checked os 4 .any (Rows.fnWriteUptoRow.pre enc Tryz.pinned.checked.prog Tryz.f4 (Rows.OpenSpec.upto Rows.fnWriteSpec)) (((Rows.OpenSpec.upto Rows.fnWriteSpec).at F).post enc Tryz.pinned.checked.prog Tryz.f4 Rows.fnWriteUptoRow.apart Rows.fnWriteUptoRow.fresh Rows.fnWriteUptoRow.handsOn Rows.fnWriteUptoRow.again) := by
 rw [OpenClaim.pre_eq_preRow]; exact lifted os eC H enc F
theorem over4 : Tryz.pinned.checked.prog.funcNamed Rows.fnWriteUptoRow.func = some 4 := by kernel_rfl
theorem over5 : Tryz.f4.isInstance Tryz.pinned.checked.prog Rows.fnWriteUptoRow.origin Rows.fnWriteUptoRow.targs := of_decide_eq_true (by kernel_rfl)
theorem over : Rows.fnWriteUptoRow.holds Tryz.pinned (Rows.OpenSpec.upto Rows.fnWriteSpec) :=
 OpenClaim.holds_of_cond 4 Tryz.f4 rfl rfl rfl rfl rfl rfl rfl ⟨rfl, rfl, rfl, rfl, rfl⟩ rfl rfl rfl rfl rfl over4 Tryz.func4 over1 over5 over2
  (fun os eC H enc _ F => over3 os eC H enc F)
theorem proved : Rows.FnWriteUptoCardSaid :=
 Claim7.holds_tied_plain_at .later [] _ _ _ _
  over (fun _ h => by cases h) (by kernel_rfl) (fun _ h => by cases h) fnWriteUpto_row_tie rfl ⟨rfl, rfl⟩ (by kernel_rfl) rfl
  (fun f fn hf pm => by
   obtain rfl : f = 4 := Option.some.inj ((show Tryz.prog.funcNamed "pub-wasmbinaries/laws.FnWrite" = some 4 by kernel_rfl).symm.trans hf) |>.symm
   obtain rfl : fn = Tryz.f4 := (Option.some.inj (Tryz.func4.symm.trans pm)).symm
   exact ⟨by kernel_rfl, fun j t ht => by
    rw [Tryz.params4] at ht
    have hm : t ∈ [37] := by simpa using Array.mem_of_getElem? ht
    have cr : ([37].all fun u => !Tryz.prog.wantsStandIn u) = true := by kernel_rfl
    exact (show Tryz.prog.wantsStandIn t = false by simpa using List.all_eq_true.1 cr t hm)⟩)
  (by kernel_rfl)
#print axioms proved
end Go.Proofs.YtejgninpjhcgnaaGreatDoor.fnWrite
