/-
  FnRead: whatever bytes are handed out in whatever pieces (longer than 65536 bytes: let pass), where the reference calls them a module (without an imported variable and without a fraction as a constant), the thin package's Read reads the same one; where the reference calls them none, Read reports an error (and two fixed modules are read); the call returns true and changes nothing. Condition: the package variables io.ErrShortBuffer, io.EOF and io.ErrUnexpectedEOF hold what the program's text lays in them (the card ties that).
-/
import Derived.Test.YtejgninpjhcgnaaGreatDoorPart26
import Derived.LaidMore
import Derived.SevenTiedAt
import Derived.Stop.LaidErr
import Derived.Test.YtejgninpjhcgnaaGreatDoorCards
import Derived.Test.YtejgninpjhcgnaaGreatDoorTie
namespace Go.Proofs.YtejgninpjhcgnaaGreatDoor.fnRead
set_option maxRecDepth 100000
open Go.ChangeShapes Go.WideShapes Go.ChangeAt Go.RowKit
theorem own : ownKnob Tryz.prog.godebug = none := by kernel_rfl
theorem opensB : Yf Tryz.prog 22 Lay.u8.slice := zbh Tryz.underlying22 (by kernel_rfl) (zhL Tryz.underlying5 (by kernel_rfl)) (by decide)
theorem opensI : Yf Tryz.prog 23 Lay.int.slice := zbh Tryz.underlying23 (by kernel_rfl) (zgY Tryz.underlying3 (by kernel_rfl)) (by decide)
def laid3 : List (String × DataW Unit) := [("io.ErrShortBuffer", Rows.laid_io_ErrShortBuffer), ("io.EOF", Rows.laid_io_EOF), ("io.ErrUnexpectedEOF", Rows.laid_io_ErrUnexpectedEOF)]
theorem gEOF : Tryz.prog.globalNamed "io.EOF" = some 0 := by kernel_rfl
theorem tEOF : (Tryz.prog.globals[0]?).map (·.type) = some 79 := by kernel_rfl
theorem gUnx : Tryz.prog.globalNamed "io.ErrUnexpectedEOF" = some 4 := by kernel_rfl
theorem tUnx : (Tryz.prog.globals[4]?).map (·.type) = some 79 := by kernel_rfl
theorem star : "*" ++ "errors.errorString" = "*errors.errorString" := by decide
theorem rowES (u : TypeId) (h : Tryz.prog.typeName? 3 u = some "*errors.errorString") : u = 380 :=
 typeName_ptr_named (nm := "errors.errorString") (zdp _ _ _ _ _ (by rw [star]; kernel_rfl)) (zdp _ _ _ _ _ (by kernel_rfl)) (by decide) u (by rw [star]; exact h)
theorem door_met (os : Os) (args : Array Value) : laidMetH Tryz.prog laid3 ((World.doorLaid Tryz.prog 77 os).forCall (fun _ _ => 0) ⟨#[], args, []⟩).memory :=
 laidMetH_of_parts3 (fuel := 8) (laidMet_of_run' 8 (by kernel_rfl) (by kernel_rfl)) (by kernel_rfl) (by kernel_rfl)
theorem spec_of_laid {W : World} (h : laidMetH Tryz.prog laid3 W) : ∃ pe pu, Spec pe pu W.heap.size W := by
 rw [MakeChecks.laidMetH_plain _ _ _ (by kernel_rfl)] at h
 obtain ⟨ps, ⟨g0, t0, Cv, f0, p0, q0, uz, iB, iP, Da, ⟨g1, t1, CG, f1, p1, q1, u5, kC, A6, Cb, cV, e1⟩, e0⟩, AG, kD⟩ := h.tail
 obtain rfl := Option.some.inj (gEOF.symm.trans uz)
 obtain rfl := Option.some.inj (gUnx.symm.trans u5)
 obtain rfl := Option.some.inj (tEOF.symm.trans iB)
 obtain rfl := Option.some.inj (tUnx.symm.trans kC)
 have vR : q1 = [] := cV
 subst vR
 subst e1
 subst e0
 obtain ⟨l0⟩ := Cv
 obtain ⟨l1⟩ := CG
 have C7 : ∀ u v, l0 = [.iface u v] → Value.okWide Tryz.prog W .any 0 u v := fun u v e => by
  subst e
  exact (kD 0 0 (by simp [MemPlace.row])).2 u v (by simpa using World.var?_cell uz iP 0)
 have CK : ∀ u v, l1 = [.iface u v] → Value.okWide Tryz.prog W .any 0 u v := fun u v e => by
  subst e
  exact (kD 4 0 (by simp [MemPlace.row])).2 u v (by simpa using World.var?_cell u5 A6 0)
 obtain ⟨a0, s0, rfl, dr, Aa, gf, rfl⟩ := errorString_of_trod Tryz.underlying79 rowES Tryz.underlying380 Tryz.underlying382 rfl rfl Tryz.underlying9 (by kernel_rfl) (by kernel_rfl) Da C7
 obtain ⟨a1, s1, rfl, cw, ed, dt, rfl⟩ := errorString_of_trod Tryz.underlying79 rowES Tryz.underlying380 Tryz.underlying382 rfl rfl Tryz.underlying9 (by kernel_rfl) (by kernel_rfl) Cb CK
 obtain ⟨c0, t0, dS⟩ := (kD a0.block a0.off (by simp [MemPlace.row])).1
 obtain ⟨c1, t1, de⟩ := (kD a1.block a1.off (by simp [MemPlace.row])).1
 have he : W.cell? js = some (eofV a0) := by simpa using World.var?_cell uz iP 0
 have hu : W.cell? zio = some (eofV a1) := by simpa using World.var?_cell u5 A6 0
 refine ⟨a0, a1, he, hu, ?_, ⟨c0, t0, dS⟩, ⟨c1, t1, de⟩, zav he, zav hu, Blk.lt dS, Blk.lt de, Nat.le_refl _⟩
 rintro rfl
 have e := dr.symm.trans cw
 simp only [Option.some.injEq, Value.string.injEq] at e
 subst e
 have := Aa.symm.trans ed
 revert this
 decide
theorem wN : ∀ t ∈ Tryz.f3.params.toList, Tryz.prog.readableRec t = true ∧ t < Tryz.prog.types.size := by
 rw [Tryz.params3]
 intro t ht
 simp only [List.mem_cons, List.not_mem_nil, or_false] at ht
 rcases ht with rfl | rfl <;> exact ⟨by kernel_rfl, of_decide_eq_true (by kernel_rfl)⟩
theorem lifted (os : Os) (ix : os.Started) (H : Type) (enc : TypeId × Value → H) :
 ReturnsInHanded {} Tryz.checked os 3 .any (fun w args => (Rows.fnReadSpec.pre enc Tryz.prog Tryz.f3 [] false w args ∧ laidMetH Tryz.prog laid3 w) ∧ sizedMet enc Tryz.prog Tryz.f3 (OpenSpec.ofChange Rows.fnReadSpec) false w args)
  (Rows.fnReadSpec.post enc Tryz.prog Tryz.f3 false true false false) := by
 refine returnsInHanded_of_change_and (C := Tryz.checked) (X := fun w _ => laidMetH Tryz.prog laid3 w) (fun _ _ _ hh h => h.of_heap hh) own ix (by kernel_rfl) Tryz.func3
  (ChangeSpec.witness_shaped (enc := enc) (C := Tryz.checked) (os := os) (X := fun w _ => laidMetH Tryz.prog laid3 w) false (World.doorLaid Tryz.prog 77 os) #[.slice none 0 0, .slice none 0 0] 8 rfl (World.shaped_of_RefB (by kernel_rfl) (by kernel_rfl)) (by kernel_rfl) (by kernel_rfl) (by kernel_rfl) (door_met os _)) ?_
 intro W base args ds gs lP sW hW _ _ hL _
 have qB : ∀ (j : Nat) t v, Tryz.f3.params[j]? = some t → args[j]? = some v → Value.okWide Tryz.prog W .any base t v := sW
 have uq := hW
 obtain ⟨p, q, BB, hV, rfl, AH, AG⟩ := hW
 have hA : DataW.TrodAll enc Tryz.prog W 0 (fun _ => true) true Tryz.f3.params.toList args.toList ds p := BB
 rw [Tryz.params3] at hA qB
 obtain ⟨v0, Dz, d0, Dr, p0, q0, ck, rfl, rfl, h0, r0⟩ := trodAll_cons hA
 obtain ⟨v1, DJ, d1, DQ, p1, q1, rfl, rfl, rfl, h1, r1⟩ := trodAll_cons r0
 obtain ⟨rfl, rfl, rfl⟩ := trodAll_nil r1
 obtain rfl : args = #[v0, v1] := by cases args; simp_all
 obtain ⟨rfl, rfl⟩ := trodVars_none hV
 obtain ⟨aa, m, cap, rfl⟩ := okWide_slice Tryz.underlying22 (qB 0 _ v0 rfl rfl)
 obtain ⟨pp, pn, pc, rfl⟩ := okWide_slice Tryz.underlying23 (qB 1 _ v1 rfl rfl)
 obtain ⟨f0, k0⟩ := h0
 obtain ⟨x, hx⟩ := opensB.2 k0
 obtain ⟨f1, k1⟩ := h1
 obtain ⟨y, hy⟩ := opensI.2 k1
 obtain ⟨pe, pu, hS⟩ := spec_of_laid hL
 refine (zdo aa m cap x pp pn pc y pe pu W hx hy hS).mono fun e W' ⟨he, hg⟩ => ?_
 subst he
 exact ⟨_, rfl, zfo (by kernel_rfl) wN rfl rfl _ rfl Tryz.underlying4 uq hg⟩
theorem over : Rows.fnReadRow.holds Tryz.pinned (OpenSpec.ofChange Rows.fnReadSpec) :=
 OpenClaim.holds_of_wide 3 Tryz.f3 rfl rfl rfl rfl rfl rfl rfl ⟨rfl, rfl, rfl, rfl, rfl⟩ rfl rfl rfl rfl rfl (by kernel_rfl) Tryz.func3 (by kernel_rfl)
  (of_decide_eq_true (by kernel_rfl)) (by unfold Func.isWrapper; first | (rw [if_pos (by decide +kernel)]; kernel_rfl) | (rw [if_neg (by decide +kernel)]; exact ⟨rfl, rfl⟩))
  (fun os ix H enc _ => lifted os ix H enc)
theorem proved : Rows.FnReadCardSaid :=
 Claim7.holds_tied_plain_at .later [] [.sentinel, .sentinel, .sentinel] true (true, "c150617c4088e7d3655567b67d426ccda567b0d267cc74b58acd312fe1fa819a") true
  over (fun _ h => by cases h) (by kernel_rfl) (fun _ h => by cases h) fnRead_row_tie rfl ⟨rfl, rfl⟩ (by kernel_rfl) rfl
  (fun f fn hf qH => by
   obtain rfl : f = 3 := Option.some.inj ((show Tryz.prog.funcNamed "pub-wasmbinaries/laws.FnRead" = some 3 by kernel_rfl).symm.trans hf) |>.symm
   obtain rfl : fn = Tryz.f3 := (Option.some.inj (Tryz.func3.symm.trans qH)).symm
   exact ⟨by kernel_rfl, fun j t ht => by
    rw [Tryz.params3] at ht
    have hm : t ∈ [22, 23] := by simpa using Array.mem_of_getElem? ht
    have cO : ([22, 23].all fun u => !Tryz.prog.wantsStandIn u) = true := by kernel_rfl
    exact (show Tryz.prog.wantsStandIn t = false by simpa using List.all_eq_true.1 cO t hm)⟩)
  (by kernel_rfl)
#print axioms proved
end Go.Proofs.YtejgninpjhcgnaaGreatDoor.fnRead
