/- Texts of this proof, one behind the other. -/
import Derived.Test.YtejgninpjhcgnaaGreatDoorPart21
import Derived.Deep.LoopGhost
import Derived.Deep.CutBlock
import Derived.Lib.SlBytesConst
namespace Go.Proofs.YtejgninpjhcgnaaGreatDoor
open Go.RowKit
set_option linter.unusedSimpArgs false
set_option linter.unusedVariables false
set_option maxRecDepth 100000
set_option maxHeartbeats 32000000
section
variable {P : Program} {aw : Array Oper} {o : Oper} {a : Act} {Q : Exit → Act → World → Prop} {K : Act → World → Prop}
theorem Blk.wp_load {w : World} {g : Nat} {cs : Array Value} {T : TypeId} (hB : Blk w g cs T) (ty : TypeId) (x : Operand) (ho : o.op = .load ty x) (hx : a.eval x = .pointer (some ⟨g, 0, none⟩)) (d : TypeDesc)
 (hu : P.underlying ty = some d) (hd : d.isRow = true) (hi : (P.info? ty).map (·.size) = some cs.size) (h : K (a.put o.dst (.agg cs)) w) : o.wp P a w K Q := by
 unfold Oper.wp execOp
 simp only [ho, hx, Sem.run_bind, Sem.run_pure, Result.andThen_ok, hB.loadAt d hu hd hi]
 exact h
theorem Blk.wp_store {w : World} {g : Nat} {cs fb : Array Value} {T : TypeId} (hB : Blk w g cs T) (ty : TypeId) (x y : Operand) (ho : o.op = .store ty x y) (hx : a.eval x = .pointer (some ⟨g, 0, none⟩)) (hy : a.eval y = .agg fb)
 (hi : (P.info? ty).map (·.size) = some fb.size) (hs : cs.size = fb.size) (h1 : fb.toList.all (·.oneCell') = true) (h : K (a.put o.dst undef) (w.setRow g fb)) : o.wp P a w K Q := by
 unfold Oper.wp execOp
 simp only [ho, hx, hy, Instr.storeAt, Instr.sureAddr, Sem.run_bind, Sem.run_pure, Result.andThen_ok, run_storeVar_row (P := P) w g T ty cs fb hB hi hs (by rw [← Array.all_toList]; exact h1)]
 exact h
end
variable {w : World}
theorem j8 {P : Program} {fn : Func} {a ty t : Nat} (h : fn.results = #[.cell a ty, .tmp t]) (tmps : Array Value) {g : Nat} (hp : tmps.getD a undef = .pointer (some ⟨g, 0, none⟩)) {cs : Array Value} {T : TypeId} (hB : Blk w g cs T) (d : TypeDesc)
 (hu : P.underlying ty = some d) (hd : d.isRow = true) (hi : (P.info? ty).map (·.size) = some cs.size) : (results fn tmps).run P w = .ok (.tuple #[.agg cs, tmps.getD t undef]) w := by
 have rF : tmps[a]?.getD undef = .pointer (some ⟨g, 0, none⟩) := by simpa using hp
 simp [results, h, rF, asAddr, hB.loadVar d hu hd hi]
theorem zdi (N : Nat) (lo : Bool) (D : Nat → Prop) (b : List UInt8) (aa : Option Addr) (mm cap : Nat) (w : World) (hr : Lay.u8.slice.rd D w [.slice aa mm cap] b) (hD : ∀ k, D k → k < w.heap.size) (hl : b.length ≤ 1048576) :
 Calls Tryz.prog 17 #[.slice aa mm cap, .bool lo] w fun e w' => ∃ v, e = .returned (.tuple #[.agg (zt (zV lo b).1 v), .int .i64 ((zV lo b).2 : Int)]) ∧ ModAt (N + 1) (fun k => (D k ∨ w.heap.size ≤ k) ∧ k < w'.heap.size) w' (zV lo b).1 v ∧ Ext w w' := by
 obtain ⟨aq, cq, e, c6, cn⟩ := Lay.slice_form hr
 simp only [Value.slice.injEq] at e
 obtain ⟨rfl, rfl, rfl⟩ := e
 have kQ : b.length ≤ cap := by omega
 have H := qh (anQ hr (anQ hD (anQ hl (anQ c6 cn))))
 have DU : (b.length : Int) ≤ (cap : Int) := by omega
 have dD := qh (zgO lo b)
 have iS := qh (zl w zM 37)
 clear hr hD hl c6 cn
 go_enter Tryz.func17, Tryz.ntmps17
 go_upto_region 1 with fail
 obtain ⟨gm, ir⟩ := exQ (w.heap.size)
 obtain ⟨W0, fQ⟩ := exQ (w.alloc (.cells zM 37))
 have ka : Hq (Ext w W0 ∧ w.heap.size = gm ∧ gm < W0.heap.size) := by subst fQ; exact ⟨za _ _, ir, by rw [← ir]; simp⟩
 rw [fQ, ir] at iS
 rw [fQ, ir]
 clear fQ ir
 by_cases h8 : b.length < 8
 ·have d8 : decide ((b.length : Int) < 8) = true := decide_eq_true (by omega)
  have cZ := qh (show zV lo b = (Mod.none, 1) from dD.o.trans (if_pos (fun e => by have := congrArg List.length e; rw [ltQ, show Z2.length = 8 from rfl] at this; omega)))
  have dr := iS.o.cell
  go_upto_region 2 with fail
  clear dr
  refine wp_region_lit ?_
  refine iS.o.wpList_load rfl 37 (.tmp 4) rfl rfl _ Tryz.underlying37 rfl (by kernel_rfl) ?_
  refine iS.o.wpList_store rfl 37 (.tmp 4) (.tmp 21) rfl rfl rfl (by kernel_rfl) rfl rfl ?_
  go_wp2_with fail
  (try simp only [Exit.inBlock, Exit.then])
  have hs := z9 W0 gm (zM)
  have c8 := iS.o.setRow (zM)
  refine bodyPost_ret (j8 Tryz.results17 _ rfl c8 _ Tryz.underlying37 rfl (by kernel_rfl)) rfl ⟨.zero, ?_, ?_, ?_⟩
  ·have e1 : zV lo b = (Mod.none, 1) := cZ.o
   rw [e1]; rfl
  ·have e1 : zV lo b = (Mod.none, 1) := cZ.o
   rw [e1]; exact YJ _ _ _ Mod.none (by decide)
  ·exact Fr.new (Ext.fr ka.o.1 hs) (fun k e => by have e' : k = gm := e; have := ka.o.2.1; omega)
 ·have d8 : decide ((b.length : Int) < 8) = false := decide_eq_false (by omega)
  obtain ⟨b0, o0, rfl, _⟩ := zeA H.o.1 0 (by omega)
  have DD : (8 : Int) ≤ (b.length : Int) := by omega
  have DE : (8 : Int) ≤ (cap : Int) := by omega
  have A7 := Lay.rd_take H.o.1 (n := 8) (c := cap) (by omega) (by omega) H.o.2.2.2.2
  have gI := Jt A7 (fun k hk => H.o.2.1 k hk) 22 9 5 Tryz.underlying22 Tryz.underlying5 Tryz.underlying9 W0 ka.o.1
  clear A7
  by_cases mG : b.take 8 = Z2
  ·have mC := qh (dD.o.trans (if_neg (fun h => h mG)))
   have nS : (zd (b.take 8)).toList = [0, 97, 115, 109, 1, 0, 0, 0] := by rw [jm, mG]; rfl
   clear mG
   generalize b.take 8 = t8 at nS gI
   have dr := iS.o.cell
   have eV := iS.o.frz
   go_upto_region 4 with fail
   have cz := iS.o.set 0 (.int .u32 1)
   have cz := qh (show Blk (W0.setCell ⟨gm, 0, none⟩ (.int .u32 1)) gm (#[.int .u32 1, .bool false, .int .u32 0, .slice none 0 0, .slice none 0 0, .slice none 0 0, .slice none 0 0, .slice none 0 0, .slice none 0 0, .slice none 0 0, .slice none 0 0, .slice none 0 0, .slice none 0 0, .slice none 0 0, .string ⟨#[]⟩, .slice none 0 0, .slice none 0 0] : Array Value) 37 from by simpa using cz)
   have kP : Hq (Ext w (W0.setCell ⟨gm, 0, none⟩ (.int .u32 1)) ∧ w.heap.size = gm ∧ gm < (W0.setCell ⟨gm, 0, none⟩ (.int .u32 1)).heap.size) := ⟨Fr.new (Ext.fr ka.o.1 (zf W0 ⟨gm, 0, none⟩ _)) (fun k e => by have e' : k = gm := e; have := ka.o.2.1; omega), ka.o.2.1, by have := ka.o.2.2; simpa using this⟩
   clear dr eV gI nS iS ka
   generalize W0.setCell ⟨gm, 0, none⟩ (.int .u32 1) = W1 at *
   have vY := qh (show ∀ k, D k → k < W1.heap.size from fun k hk => nqQ (H.o.2.1 k hk) kP.o.1.size)
   have qO := qh (Lay.fr H.o.1 kP.o.1 (fun k hk => ⟨H.o.2.1 k hk, fun q => q⟩))
   go_cut [6] from 22 to 171 (fun s6 w' => ∃ gr, s6 = .pointer (some ⟨gr, 0, none⟩) ∧ Hq (SpR D gr false ⟨b.drop 8, 0⟩ w' ∧ Ext W1 w' ∧ W1.heap.size ≤ gr ∧ gr < w'.heap.size))
   case first =>
    as_aux_lemma =>
     have p7 := qh (fun (e8 : cap = 8) => SpR.newD (lo := false) (b := b.drop 8) (a := some ⟨b0, o0, none⟩) (m := b.length - 8) (c := 0) vY.o (by rw [List.drop_eq_nil_of_le (by omega), show b.length - 8 = 0 from by omega]; exact zbx (by decide)))
     have B6 := qh (SpR.newD (lo := false) (b := b.drop 8) (a := some ⟨b0, o0 + 8, none⟩) (m := b.length - 8) (c := cap - 8) vY.o (by
      have := zbT qO.o (by omega : 8 ≤ b.length)
      rw [Option.map_some, yY, ldQ] at this
      exact this))
     go_wp2_with fail
     ·rename_i h
      subst h
      go_meet
      case rel => exact ⟨_, rfl, p7.o rfl, za _ _, Nat.le_refl _, by simp⟩
     ·go_meet
      case rel => exact ⟨_, rfl, B6.o, za _ _, Nat.le_refl _, by simp⟩
   case rest =>
    obtain ⟨gr, rfl, hC⟩ := hcut
    go_upto_block 0 with fail
    obtain ⟨gn, dh⟩ := exQ (wc.heap.size)
    obtain ⟨W5, sE⟩ := exQ (wc.alloc (.cells #[.bool false] 4))
    obtain ⟨L0, t7⟩ := exQ (W5.heap.size)
    have kF : Ext wc W5 := by subst sE; exact za _ _
    have wQ : W5.heap.size = wc.heap.size + 1 := by subst sE; simp
    have Ax : Blk W5 gn #[.bool false] 4 := by subst sE; rw [← dh]; exact zl _ _ _
    have HG : Hq (MG D w gm gr gn L0) := by
     have h1 := kP.o.2.1
     have h2 := kP.o.2.2
     have h3 := hC.o.2.2.1
     have h4 := hC.o.2.2.2
     have h5 := hC.o.2.1.size
     have h6 := kP.o.1.size
     exact ⟨by omega, by omega, by omega, by omega, by omega, by omega, by omega, by omega, by omega, H.o.2.1⟩
    have HJ : Hq (MJ N D w gm gr gn L0 W5 ⟨{ Mod.none with version := 1 }, 0, false, ⟨b.drop 8, 0⟩⟩ .zero) :=
     ⟨cz.o.ext (Ext.trans hC.o.2.1 kF), Ax, hC.o.1.ext kF, YJ _ _ _ ({ Mod.none with version := 1 } : Mod) (by decide), zv _ _ _ _ _, ⟨fun _ => rfl, fun _ => rfl, fun _ => rfl, fun _ => rfl, fun _ => rfl, fun _ => rfl, fun _ => rfl⟩, Ext.trans kP.o.1 (Ext.trans hC.o.2.1 kF), Nat.le_of_eq t7.symm, by show 0 + (b.drop 8).length ≤ _; rw [ldQ]; have := H.o.2.2.1; omega⟩
    rw [sE, dh]
    clear sE dh t7 kF wQ Ax cz kP vY qO hC
    obtain ⟨R, rE⟩ : ∃ R, jR lo b.length ⟨{ Mod.none with version := 1 }, 0, false, ⟨b.drop 8, 0⟩⟩ = R := ⟨_, rfl⟩
    have mC := qh (show zV lo b = mFin R from by rw [← rE]; exact mC.o)
    have rE := qh rE
    have nC := qh (show (b.drop 8).length ≤ b.length from by rw [ldQ]; omega)
    go_cut [7, 9, 10, 11] from 27 to 145 (fun s7 s9 tl od w' => ∃ v, Hq (MJ N D w gm gr gn L0 w' R v))
    case rest =>
     obtain ⟨v, HE⟩ := hcut
     obtain ⟨WE, rfl⟩ : ∃ WE, WE = wc := ⟨_, rfl⟩
     clear HJ rE nC
     obtain ⟨aE, cE, gU, o5, oV⟩ := HE.o.r
     have sL := gU.cell
     have xD := gU.frz
     have gU := qh (anQ gU (anQ o5 oV))
     clear o5 oV
     go_upto_if 150 with fail
     go_cut [5] from 146 to 171 (fun s5 w' => s5 = .int .i64 0 ∧ Hq (MJ N D w gm gr gn L0 w' { R with s := zde R.s } v))
     case first =>
      as_aux_lemma =>
       by_cases h3 : R.s.v = 3
       ·have d3 : ((R.s.v : Int) == 3) = true := by rw [beq_iff_eq]; omega
        have he := qh (show zde R.s = ⟨R.s.b, 1⟩ from by unfold zde; rw [if_pos h3])
        have fX := zf WE ⟨gr, 1, none⟩ (.int .i64 1)
        have rj : SpR D gr false ⟨R.s.b, 1⟩ (WE.setCell ⟨gr, 1, none⟩ (.int .i64 1)) := by
         refine SpR.mk (aa := aE) (cap := cE) ?_ gU.o.2.1 gU.o.2.2 fX
         have := gU.o.1.set 1 (.int .i64 1)
         simpa using this
        have HM := qh (HE.o.reader HG.o fX rj (Nat.le_refl _))
        clear fX rj HE gU h3
        go_wp2
        go_meet
        case rel => exact ⟨rfl, by rw [he.o]; exact HM.o⟩
       ·have d3 := bfQ (a := (R.s.v : Int)) (b := 3) (by omega)
        have he := qh (show zde R.s = R.s from by unfold zde; rw [if_neg h3])
        clear gU h3
        go_wp2
        go_meet
        case rel => exact ⟨rfl, by rw [he.o]; exact HE.o⟩
     case rest =>
      obtain ⟨rfl, HM⟩ := hcut
      clear HE gU sL xD
      obtain ⟨af, cf, ef, -, -⟩ := Lay.slice_form2 (HM.o.all HG.o).functions
      obtain ⟨ac, cc, ec, -, -⟩ := Lay.slice_form2 (HM.o.all HG.o).codes
      have ef : v.functions = .slice af R.m.functions.length cf := by injection ef
      have ec : v.codes = .slice ac R.m.codes.length cc := by injection ec
      have e5 : wc.cell? ⟨gm, 5, none⟩ = some (.slice af R.m.functions.length cf) := by rw [HM.o.m.cell 5, ← ef]; rfl
      have uJ : wc.cell? ⟨gm, 11, none⟩ = some (.slice ac R.m.codes.length cc) := by rw [HM.o.m.cell 11, ← ec]; rfl
      clear ef ec
      have aV := qh (show zV lo b = (R.m, (zdf R.m (zde R.s)).v) from mC.o)
      generalize zde R.s = sf at *
      go_upto_region 31 with fail
      go_cut [164] from 146 to 171 (fun vj w' => vj = .bool (decide (sf.v = 0 ∧ R.m.functions.length ≠ R.m.codes.length)) ∧ w' = wc)
      case first =>
       as_aux_lemma =>
        go_wp2_with fail
        refine (z8 HM.o.r).mono ?_
        rintro e w6 ⟨rfl, rfl⟩
        by_cases rk : sf.v = 0
        ·rw [decide_eq_true rk]
         have rk := qh rk
         by_cases hq : R.m.functions.length = R.m.codes.length
         ·have dq : ((R.m.functions.length : Int) != (R.m.codes.length : Int)) = false := by rw [bne_eq_false_iff_eq]; omega
          have hq := qh hq
          go_wp2
          go_meet
          case rel => exact ⟨congrArg Value.bool (decide_eq_false (fun q => q.2 hq.o)).symm, rfl⟩
         ·have dq : ((R.m.functions.length : Int) != (R.m.codes.length : Int)) = true := by rw [bne_iff_ne]; omega
          go_wp2
          go_meet
          case rel => exact ⟨congrArg Value.bool (decide_eq_true (anQ rk.o hq)).symm, rfl⟩
        ·rw [decide_eq_false rk]
         go_wp2
         go_meet
         case rel => exact ⟨congrArg Value.bool (decide_eq_false (fun q => rk q.1)).symm, rfl⟩
      case rest =>
       obtain ⟨rfl, rfl⟩ := hcut
       clear e5 uJ
       go_upto_if 164 with fail
       go_cut [5] from 146 to 171 (fun s5 w' => s5 = .int .i64 0 ∧ Hq (MJ N D w gm gr gn L0 w' { R with s := zdf R.m sf } v))
       case first =>
        as_aux_lemma =>
         by_cases hq : sf.v = 0 ∧ R.m.functions.length ≠ R.m.codes.length
         ·rw [decide_eq_true hq]
          have he := qh (show zdf R.m sf = sf.fail 2 from by unfold zdf; rw [if_pos hq])
          clear hq
          go_wp2_with fail
          refine (zp D gr false _ 2 _ HM.o.r).mono ?_
          rintro e WF ⟨rfl, k1, k2⟩
          have HM := qh (HM.o.reader HG.o k2 k1 (nzQ _))
          clear k1 k2
          go_wp2
          go_meet
          case rel => exact ⟨rfl, by rw [he.o]; exact HM.o⟩
         ·rw [decide_eq_false hq]
          have he := qh (show zdf R.m sf = sf from by unfold zdf; rw [if_neg hq])
          clear hq
          go_wp2
          go_meet
          case rel => exact ⟨rfl, by rw [he.o]; exact HM.o⟩
       case rest =>
        obtain ⟨rfl, HM⟩ := hcut
        generalize zdf R.m sf = sg at *
        go_upto_region 33 with fail
        refine zj (yX (fun k => k = gm)) [(1, .take), (2, .take), (3, .take), (4, .take), (0, .run), (5, .run), (6, .take)] (by kernel_rfl) (by kernel_rfl) ?_
        simp only [zx, gzQ, gsQ]
        have nB := qh (show ∃ a9 c9, Blk wc.drew gr #[.slice a9 sg.b.length c9, .int .i64 (sg.v : Int), .bool false] 142 from by obtain ⟨a9, c9, q, _⟩ := HM.o.r.ext (zb wc); exact ⟨a9, c9, q⟩)
        have qf := qh (HM.o.new (zb wc))
        clear HM
        generalize wc.drew = tn at *
        obtain ⟨a9, c9, nB⟩ := nB.o
        have HC := qh (fun W' (h : Fr (fun k => k = gm) tn W') => (nB.fr h (fun e => HG.o.mr e.symm)).cell)
        clear nB
        repeat (apply item_take; rfl; rfl; rfl; rfl; exact fun _ _ _ _ h => h; (intro W e _ k; have q := HC.o W e; go_simp; exact k))
        apply zg; rfl; intro K hK
        refine qf.o.m.wp_load 37 (.tmp 4) rfl rfl _ Tryz.underlying37 rfl (by kernel_rfl) ?_
        refine hK _ _ (Fr.refl _ _) ?_
        clear hK K
        apply zg; rfl; intro K hK
        refine qf.o.m.wp_store 37 (.tmp 4) (.tmp 167) rfl rfl rfl (by kernel_rfl) rfl (qf.o.one HG.o) ?_
        refine hK _ _ (z9 _ _ _) ?_
        clear hK K HC
        have vZ := z9 tn gm (zt R.m v)
        have c8 := qf.o.m.setRow (zt R.m v)
        have rL := qh (show ModAt (N + 1) (fun k => (D k ∨ w.heap.size ≤ k) ∧ k < (tn.setRow gm (zt R.m v)).heap.size) (tn.setRow gm (zt R.m v)) R.m v ∧ Ext w (tn.setRow gm (zt R.m v)) from ⟨qf.o.endAt HG.o vZ, Fr.new (Ext.fr qf.o.ext vZ) (fun k e => by have e' : k = gm := e; have := HG.o.wm; omega)⟩)
        clear vZ qf
        have c8 := qh c8
        repeat (apply item_take; rfl; rfl; rfl; rfl; exact fun _ _ _ _ h => h; (intro _ _ _ k; go_simp; exact k))
        apply zm
        go_wp2_with fail
        (try simp only [Exit.inBlock, Exit.then])
        refine bodyPost_ret (j8 Tryz.results17 _ rfl c8.o _ Tryz.underlying37 rfl (by kernel_rfl)) rfl ⟨v, ?_, ?_⟩
        ·have e1 : zV lo b = (R.m, sg.v) := aV.o
         rw [e1]; rfl
        ·have e1 : zV lo b = (R.m, sg.v) := aV.o
         rw [e1]; exact rL.o
    go_wp2_with fail
    go_loopg [7] b.length (fun f s7 w' => ∃ (p : ModSt) (v : ModV), s7 = .int .i64 (p.last : Int) ∧ Hq (p.s.b.length ≤ f ∧ jR lo f p = R ∧ MJ N D w gm gr gn L0 w' p v))
    case atStart => exact ⟨_, _, rfl, nC.o, rE.o, HJ.o⟩
    case round =>
     obtain ⟨p, v, rfl, hV⟩ := hrel
     obtain ⟨aP, cP, tN, sn, sw⟩ := hV.o.2.2.r
     have CZ := tN.cell
     clear tN sn sw HJ
     go_wp2_with fail
     refine (z8 hV.o.2.2.r).mono ?_
     rintro e w2 ⟨rfl, rfl⟩
     by_cases hv : p.s.v = 0
     ·rw [decide_eq_true hv]
      by_cases hb : 0 < p.s.b.length
      ·have dl : decide ((0 : Int) < (p.s.b.length : Int)) = true := decide_eq_true (by omega)
       have uQ : decide (0 < p.s.b.length) = true := decide_eq_true hb
       obtain ⟨f, rfl⟩ : ∃ f, gk = f + 1 := ⟨gk - 1, by have := hV.o.1; omega⟩
       have nj := qh (show (if (j6 lo p).2 then jR lo f (j6 lo p).1 else (j6 lo p).1) = R from by rw [← hV.o.2.1, show jR lo (f + 1) p = if p.s.v = 0 ∧ p.s.b ≠ [] then (if (j6 lo p).2 then jR lo f (j6 lo p).1 else (j6 lo p).1) else p from rfl, if_pos (show p.s.v = 0 ∧ p.s.b ≠ [] from ⟨hv, List.length_pos_iff.1 hb⟩)])
       have gu := qh (zhE lo p)
       have c8 := qh (show p.s.b.length ≤ 1048576 from by have := hV.o.2.2.len; omega)
       have vW := qh (show p.s.b.length ≤ f + 1 from hV.o.1)
       have aT := qh (show p.m.customs.length + p.s.b.length ≤ 1048576 from hV.o.2.2.len)
       have xK := qh (show (zi p.s).2.b.length + 1 ≤ p.s.b.length from by
        unfold zi
        split
        ·rename_i h; rw [h] at hb; simp at hb
        ·rename_i c r h; rw [h]; simp)
       go_wp2_with fail
       clear CZ
       refine (yh hV.o.2.2.r).mono ?_
       rintro e w3 ⟨rfl, k1, k2⟩
       have fM := y4 p.s
       generalize (zi p.s).1 = c at *
       generalize (zi p.s).2 = t0 at *
       have rC : Hq (SpR D gr false t0 w3 ∧ Fr (fun k => k = gr) w2 w3) := ⟨k1, k2⟩
       obtain ⟨aQ, cQ, fw, g7, g9⟩ := rC.o.1
       have sl := fw.cell
       clear fw g7 g9 k1 k2
       go_upto_if 44 with fail
       clear sl
       go_cut [9] from 27 to 145 (fun s9 w' => s9 = .int .i64 (c : Int) ∧ Hq (SpR D gr false (mS1 t0) w' ∧ Fr (fun k => k = gr) w2 w'))
       case first =>
        as_aux_lemma =>
         by_cases hz : t0.b = []
         ·have dz : ((t0.b.length : Int) == 0) = true := by rw [hz]; rfl
          have wt : (t0.b.length == 0) = true := by rw [hz]; rfl
          have he := qh (show mS1 t0 = t0.fail 2 from by unfold mS1; rw [if_pos hz])
          clear hz
          go_wp2_with fail
          refine (zp D gr false t0 2 w3 rC.o.1).mono ?_
          rintro e w4 ⟨rfl, k1, k2⟩
          have HQ := qh (anQ k1 (Fr.trans rC.o.2 k2 (U := fun k => k = gr) (fun _ _ h => h) (fun _ _ h => h)))
          clear k1 k2
          go_wp2
          go_meet
          case rel => exact ⟨rfl, by rw [he.o]; exact HQ.o⟩
         ·have DH : 0 < t0.b.length := List.length_pos_iff.2 hz
          have dz := bfQ (a := (t0.b.length : Int)) (b := 0) (by omega)
          have wt := bfQ (a := t0.b.length) (b := 0) (by omega)
          have he := qh (show mS1 t0 = t0 from by unfold mS1; rw [if_neg hz])
          clear hz
          go_wp2
          go_meet
          case rel => exact ⟨rfl, by rw [he.o]; exact rC.o⟩
       case rest =>
        obtain ⟨rfl, wD⟩ := hcut
        have iX := qh (show (mS1 t0).b.length + 1 ≤ p.s.b.length from by have := ziX t0; have := xK.o; omega)
        generalize mS1 t0 = s1 at *
        go_wp2_with fail
        refine (zK D gr false s1 wc wD.o.1 (by have := iX.o; have := c8.o; omega)).mono ?_
        rintro e w5 ⟨rfl, k1, k2⟩
        have dH := zL s1
        have gJ := qh (show (zc s1).2.b.length + 1 ≤ p.s.b.length from by have := zF s1; have := iX.o; omega)
        generalize (zc s1).1 = x at *
        generalize (zc s1).2 = t1 at *
        have tW : Hq (SpR D gr false t1 w5 ∧ Fr (fun k => k = gr) w2 w5) := ⟨k1, Fr.trans wD.o.2 k2 (fun _ _ h => h) (fun _ _ h => h)⟩
        obtain ⟨aQ, cQ, fw, g7, g9⟩ := tW.o.1
        have sl := fw.cell
        have CR := fw.frz
        have fw := qh (anQ fw (anQ g7 g9))
        clear g7 g9 k1 k2 rC wD
        go_upto_if 53 with fail
        go_cut [10] from 27 to 145 (fun tl w' => tl = .int .u32 (x : Int) ∧ Hq (SpR D gr false (ye t1) w' ∧ Fr (fun k => k = gr) w2 w'))
        case first =>
         as_aux_lemma =>
          by_cases h3 : t1.v = 3
          ·have d3 : ((t1.v : Int) == 3) = true := by rw [beq_iff_eq]; omega
           have he := qh (show ye t1 = ⟨t1.b, 2⟩ from by unfold ye; rw [if_pos h3])
           go_wp2
           go_meet
           case rel =>
            have hs := zf w5 ⟨gr, 1, none⟩ (.int .i64 2)
            refine ⟨rfl, ?_, Fr.trans tW.o.2 hs (fun _ _ h => h) (fun _ _ h => h)⟩
            rw [he.o]
            refine SpR.mk (aa := aQ) (cap := cQ) ?_ fw.o.2.1 fw.o.2.2 hs
            have := fw.o.1.set 1 (.int .i64 2)
            simpa using this
          ·have d3 := bfQ (a := (t1.v : Int)) (b := 3) (by omega)
           have he := qh (show ye t1 = t1 from by unfold ye; rw [if_neg h3])
           go_wp2
           go_meet
           case rel => exact ⟨rfl, by rw [he.o]; exact tW.o⟩
        case rest =>
         obtain ⟨rfl, rh⟩ := hcut
         have AK := qh (show (ye t1).b.length + 1 ≤ p.s.b.length from by have := zgP t1; have := gJ.o; omega)
         clear sl CR fw tW
         generalize ye t1 = s2 at *
         obtain ⟨aQ, cQ, fw, g7, g9⟩ := rh.o.1
         have sl := fw.cell
         clear fw g7 g9
         go_upto_region 13 with fail
         go_cut [85] from 27 to 145 (fun Cy w' => Cy = .bool (decide (s2.v = 0 ∧ (x = 0 ∨ s2.b = [] ∨ (c = 0 ∧ s2.b.length < x)))) ∧ w' = wc)
         case first =>
          as_aux_lemma =>
           have lR : IntKind.u64.wrap (s2.b.length : Int) = (s2.b.length : Int) := by rw [IntKind.wrap_u64]; have := AK.o; have := c8.o; omega
           have eW : IntKind.u64.wrap (x : Int) = (x : Int) := by rw [IntKind.wrap_u64]; omega
           go_wp2_with fail
           refine (z8 rh.o.1).mono ?_
           rintro e w6 ⟨rfl, rfl⟩
           by_cases gY : s2.v = 0
           ·rw [decide_eq_true gY]
            by_cases df : x = 0
            ·have dx : ((x : Int) == 0) = true := by rw [beq_iff_eq]; omega
             have B5 : (x == 0) = true := by rw [beq_iff_eq]; omega
             have wx := qh df
             clear df
             go_wp2
             go_meet
             case rel => exact ⟨congrArg Value.bool ((decide_eq_true (show (s2.v = 0 ∧ (x = 0 ∨ s2.b = [] ∨ (c = 0 ∧ s2.b.length < x))) from ⟨gY, .inl wx.o⟩))).symm, rfl⟩
            ·have dx := bfQ (a := (x : Int)) (b := 0) (by omega)
             have B5 := bfQ (a := x) (b := 0) (by omega)
             by_cases hz : s2.b.length = 0
             ·have dz : ((s2.b.length : Int) == 0) = true := by rw [beq_iff_eq]; omega
              have wt : (s2.b.length == 0) = true := by rw [beq_iff_eq]; omega
              have qL := qh hz
              clear hz
              go_wp2
              go_meet
              case rel => exact ⟨congrArg Value.bool ((decide_eq_true (show (s2.v = 0 ∧ (x = 0 ∨ s2.b = [] ∨ (c = 0 ∧ s2.b.length < x))) from ⟨gY, .inr (.inl (List.eq_nil_of_length_eq_zero qL.o))⟩))).symm, rfl⟩
             ·have dz := bfQ (a := (s2.b.length : Int)) (b := 0) (by omega)
              have wt := bfQ (a := s2.b.length) (b := 0) (by omega)
              have qL : ¬ s2.b = [] := fun q => hz (by rw [q]; rfl)
              by_cases dr : c = 0
              ·have dc : ((c : Int) == 0) = true := by rw [beq_iff_eq]; omega
               have vz : (c == 0) = true := by rw [beq_iff_eq]; omega
               have uX := qh dr
               clear dr
               by_cases i3 : s2.b.length < x
               ·have dg : decide ((s2.b.length : Int) < (x : Int)) = true := decide_eq_true (by omega)
                have CY : decide (s2.b.length < x) = true := decide_eq_true i3
                go_wp2
                go_meet
                case rel => exact ⟨congrArg Value.bool ((decide_eq_true (show (s2.v = 0 ∧ (x = 0 ∨ s2.b = [] ∨ (c = 0 ∧ s2.b.length < x))) from ⟨gY, .inr (.inr ⟨uX.o, i3⟩)⟩))).symm, rfl⟩
               ·have dg : decide ((s2.b.length : Int) < (x : Int)) = false := decide_eq_false (by omega)
                have CY : decide (s2.b.length < x) = false := decide_eq_false i3
                go_wp2
                go_meet
                case rel => exact ⟨congrArg Value.bool ((decide_eq_false (show ¬ (s2.v = 0 ∧ (x = 0 ∨ s2.b = [] ∨ (c = 0 ∧ s2.b.length < x))) from fun q => q.2.elim df (fun q => q.elim qL (fun q => i3 q.2))))).symm, rfl⟩
              ·have dc := bfQ (a := (c : Int)) (b := 0) (by omega)
               have vz := bfQ (a := c) (b := 0) (by omega)
               go_wp2
               go_meet
               case rel => exact ⟨congrArg Value.bool ((decide_eq_false (show ¬ (s2.v = 0 ∧ (x = 0 ∨ s2.b = [] ∨ (c = 0 ∧ s2.b.length < x))) from fun q => q.2.elim df (fun q => q.elim qL (fun q => dr q.1))))).symm, rfl⟩
           ·rw [decide_eq_false gY]
            go_wp2
            go_meet
            case rel => exact ⟨congrArg Value.bool ((decide_eq_false (show ¬ (s2.v = 0 ∧ (x = 0 ∨ s2.b = [] ∨ (c = 0 ∧ s2.b.length < x))) from fun q => gY q.1))).symm, rfl⟩
         case rest =>
          obtain ⟨rfl, rfl⟩ := hcut
          go_upto_if 85 with fail
          go_cut [10] from 27 to 145 (fun tl w' => tl = .int .u32 (x : Int) ∧ Hq (SpR D gr false (mS3 c x s2) w' ∧ Fr (fun k => k = gr) w2 w'))
          case first =>
           as_aux_lemma =>
            by_cases n4 : (s2.v = 0 ∧ (x = 0 ∨ s2.b = [] ∨ (c = 0 ∧ s2.b.length < x)))
            ·rw [decide_eq_true n4]
             have he := qh (show mS3 c x s2 = s2.fail 2 from by unfold mS3; rw [if_pos n4])
             clear n4
             go_wp2_with fail
             refine (zp D gr false s2 2 _ rh.o.1).mono ?_
             rintro e w7 ⟨rfl, k1, k2⟩
             have HQ := qh (anQ k1 (Fr.trans rh.o.2 k2 (U := fun k => k = gr) (fun _ _ h => h) (fun _ _ h => h)))
             clear k1 k2
             go_wp2
             go_meet
             case rel => exact ⟨rfl, by rw [he.o]; exact HQ.o⟩
            ·rw [decide_eq_false n4]
             have he := qh (show mS3 c x s2 = s2 from by unfold mS3; rw [if_neg n4])
             clear n4
             go_wp2
             go_meet
             case rel => exact ⟨rfl, by rw [he.o]; exact rh.o⟩
          case rest =>
           obtain ⟨rfl, pz⟩ := hcut
           have xL := qh (show (mS3 c x s2).b.length + 1 ≤ p.s.b.length from by have := ziY c x s2; have := AK.o; omega)
           clear rh sl
           generalize mS3 c x s2 = s3 at *
           go_wp2_with fail
           refine (j9 x dH D gr false s3 wc pz.o.1 (by have := xL.o; have := c8.o; omega)).mono ?_
           rintro e W2 ⟨ta, tm, tc, rfl, k0, k1, k2⟩
           have tM := qh (show (zy x s3).2.b.length + 1 ≤ p.s.b.length from by have := yR x s3; have := xL.o; omega)
           have bz := qh (show (zy x s3).1.length ≤ 1048576 from by have := zbC x s3; have := xL.o; have := c8.o; omega)
           have gu := qh (show j6 lo p = mEnd lo p c ((zy x s3).1, (zy x s3).2) from gu.o)
           generalize (zy x s3).1 = bs at *
           generalize (zy x s3).2 = t2 at *
           have gE := qh (hV.o.2.2.reader HG.o (Fr.trans pz.o.2 k2 (U := fun k => k = gr) (fun _ _ h => h) (fun _ _ h => h)) k1 (by have := tM.o; omega))
           have nl := qh k0
           clear k0 k1 k2 pz
           go_wp2_with fail
           have HS : Hq (SpR D W2.heap.size lo ⟨bs, 0⟩ (W2.alloc (.cells #[.slice ta tm tc, .int .i64 0, .bool lo] 142)) ∧ Ext W2 (W2.alloc (.cells #[.slice ta tm tc, .int .i64 0, .bool lo] 142)) ∧ W2.heap.size < (W2.alloc (.cells #[.slice ta tm tc, .int .i64 0, .bool lo] 142)).heap.size) := ⟨gE.o.r.new nl.o, za _ _, by simp⟩
           obtain ⟨gs, fe⟩ := exQ (W2.heap.size)
           have iy := qh fe
           obtain ⟨W4, da⟩ := exQ (W2.alloc (.cells #[.slice ta tm tc, .int .i64 0, .bool lo] 142))
           rw [da, fe] at HS
           rw [da, fe]
           clear nl da fe
           refine (z8 (gE.o.r.ext HS.o.2.1)).mono ?_
           rintro e W5 ⟨rfl, rfl⟩
           by_cases gY : t2.v = 0
           ·rw [decide_eq_true gY]
            have nj := qh (show jR lo f { secQ lo c p bs with s := zbu t2 (secQ lo c p bs).s } = R from by
             have := nj.o
             rw [gu.o, show mEnd lo p c (bs, t2) = ({ secQ lo c p bs with s := zbu t2 (secQ lo c p bs).s }, true) from if_neg (fun q => q gY)] at this
             simp only [if_true] at this
             exact this)
            have nc := nj
            obtain ⟨q, mc⟩ := exQ (secQ lo c p bs)
            have nc := qh (show jR lo f { q with s := zbu t2 q.s } = R from by rw [← mc]; exact nj.o)
            have nK := qh (show q.m.customs.length ≤ p.m.customs.length + 1 from by rw [← mc]; exact zdh lo c p bs)
            have mc := qh mc
            have bo := qh (show ¬ gm = gs ∧ ¬ gn = gs ∧ (∀ k, D k → ¬ k = gm ∧ ¬ k = gn ∧ k < L0) ∧ L0 ≤ W5.heap.size ∧ (∀ k, v.customs.ownBlock = some k → ¬ k = gs ∧ ¬ k = gm ∧ ¬ k = gn) from by
             have h1 := HG.o.lm
             have h2 := HG.o.ln
             have h3 := gE.o.lo
             have h4 := iy.o
             have h5 := HG.o.wm
             have h6 := HG.o.wn
             refine ⟨by omega, by omega, fun k hk => ?_, nlQ h3 HS.o.2.1.size, fun k hk => ?_⟩
             ·have := HG.o.D k hk
              exact ⟨by omega, by omega, by omega⟩
             ·have := gE.o.cus.lt k hk
              exact ⟨by omega, by omega, by omega⟩)
            have qv := qh (show ∀ k, aM D L0 W2 v.customs k → k < W5.heap.size ∧ ¬ k = gs ∧ ¬ k = gm ∧ ¬ k = gn ∧ some k ≠ v.customs.ownBlock from fun k hk => by
             have h1 := HG.o.lm
             have h2 := HG.o.ln
             have h4 := iy.o
             have h7 := HS.o.2.2
             have h8 := hk.2.1
             refine ⟨by omega, by omega, ?_, ?_, hk.2.2⟩
             ·rcases hk.1 with q | q
              ·exact (bo.o.2.2.1 k q).1
              ·omega
             ·rcases hk.1 with q | q
              ·exact (bo.o.2.2.1 k q).2.1
              ·omega)
            have l9 := qh (show ModAt (N + 1) (aM D L0 W2 v.customs) W5 (zdd p.m) (zae v) from gE.o.at'.fr HS.o.2.1 (fun k hk => ⟨hk.2.1, fun e => e⟩))
            have mX := (gE.o.n.ext HS.o.2.1).cell
            clear nj gu hV
            go_upto_if 98 with fail
            go_cut [7] from 27 to 145 (fun s7 w' => ∃ (v' : ModV), s7 = .int .i64 (q.last : Int) ∧ Hq (SpR D gs lo q.s w' ∧ ∀ f9, Fr (fun k => k = gs) w' f9 → MJ N D w gm gr gn L0 f9 { q with s := t2 } v'))
            case first =>
             as_aux_lemma =>
              by_cases dr : c = 0
              ·have dc : ((c : Int) == 0) = true := by rw [beq_iff_eq]; omega
               have vz : (c == 0) = true := by rw [beq_iff_eq]; omega
               have gT := qh (show q = ⟨(zs lo p.m p.names ⟨bs, 0⟩).1, p.last, (zs lo p.m p.names ⟨bs, 0⟩).2.1, (zs lo p.m p.names ⟨bs, 0⟩).2.2⟩ from by rw [← mc.o]; unfold secQ; rw [if_pos dr])
               clear dr
               go_wp2_with fail
               clear mX
               refine (zcM lo D (aM D L0 W2 v.customs) gs gm gn L0 ⟨bs, 0⟩ p.m p.names W5 (.int .u32 (p.m.version.toNat : Int)) (.bool p.m.hasStart) (.int .u32 (p.m.start.toNat : Int)) v.types v.imports v.functions v.tables v.memories v.elements v.globals v.exports v.codes v.datas v.customs v.funcs v.locals HS.o.1 (gE.o.m.ext HS.o.2.1) (gE.o.n.ext HS.o.2.1) ⟨bo.o.1, bo.o.2.1, HG.o.mn⟩ bo.o.2.2.1 bz.o qv.o l9.o.funcs l9.o.locals l9.o.named (gE.o.cus.ext HS.o.2.1) bo.o.2.2.2.2 bo.o.2.2.2.1 HG.o.lm (by have := aT.o; omega)).mono ?_
               rintro e W6 ⟨rfl, dN, dX, dY, ⟨k1, k2, k3, k4, k5, k6, k7, k8⟩, k9⟩
               have ri := Zg lo p.m p.names ⟨bs, 0⟩
               have aU := zdg lo p.m p.names ⟨bs, 0⟩
               have p6 : (zs lo p.m p.names ⟨bs, 0⟩).1.customs.length ≤ p.m.customs.length + 1 := by have := nK.o; rw [gT.o] at this; exact this
               have HX : Hq (SpR D gs lo (zs lo p.m p.names ⟨bs, 0⟩).2.2 W6 ∧ ∀ f9, Fr (fun k => k = gs) W6 f9 → MJ N D w gm gr gn L0 f9 ⟨(zs lo p.m p.names ⟨bs, 0⟩).1, p.last, (zs lo p.m p.names ⟨bs, 0⟩).2.1, t2⟩ { v with customs := dN, funcs := dX, locals := dY }) :=
                ⟨k7, fun f9 hf => gE.o.customF HG.o iy.o HS.o.2.2 HS.o.2.1 k8 ri aU (by rw [zcn ri aU]; exact k1) k6 k2 k3 k4 k5 k9 (by have := gE.o.len; have h5 := tM.o; have h6 := c8.o; show _ + t2.b.length ≤ _; have h7 : p.m.customs.length + t2.b.length ≤ 1048576 := this; have h8 := aT.o; omega) hf⟩
               clear k1 k2 k3 k4 k5 k6 k7 k8 k9 ri aU p6
               go_wp2
               go_meet
               case rel => exact ⟨_, by rw [gT.o], by rw [gT.o]; exact HX.o⟩
              ·have dc := bfQ (a := (c : Int)) (b := 0) (by omega)
               have vz := bfQ (a := c) (b := 0) (by omega)
               by_cases de : 11 < c
               ·have d1 : decide ((11 : Int) < (c : Int)) = true := decide_eq_true (by omega)
                go_wp2_with fail
                refine (zp D gs lo ⟨bs, 0⟩ 2 W5 HS.o.1).mono ?_
                rintro e W6 ⟨rfl, k1, k2⟩
                have gT := qh (show q = ⟨p.m, p.last, p.names, St.fail ⟨bs, 0⟩ 2⟩ from by rw [← mc.o]; unfold secQ; rw [if_neg dr, if_pos (.inl de)])
                have HX := qh (anQ k1 (fun f9 (hf : Fr (fun k => k = gs) W6 f9) => gE.o.newF HS.o.2.1 (Nat.le_of_eq iy.o) (Fr.trans k2 hf (U := fun k => k = gs) (fun _ _ h => h) (fun _ _ h => h))))
                clear k1 k2
                go_wp2
                go_meet
                case rel => exact ⟨v, by rw [gT.o], by rw [gT.o]; exact HX.o⟩
               ·have d1 : decide ((11 : Int) < (c : Int)) = false := decide_eq_false (by omega)
                by_cases ct : c ≤ p.last
                ·have d2 : decide ((c : Int) ≤ (p.last : Int)) = true := decide_eq_true (by omega)
                 have Bp : decide (c ≤ p.last) = true := decide_eq_true ct
                 go_wp2_with fail
                 refine (zp D gs lo ⟨bs, 0⟩ 2 W5 HS.o.1).mono ?_
                 rintro e W6 ⟨rfl, k1, k2⟩
                 have gT := qh (show q = ⟨p.m, p.last, p.names, St.fail ⟨bs, 0⟩ 2⟩ from by rw [← mc.o]; unfold secQ; rw [if_neg dr, if_pos (.inr (.inl ct))])
                 have HX := qh (anQ k1 (fun f9 (hf : Fr (fun k => k = gs) W6 f9) => gE.o.newF HS.o.2.1 (Nat.le_of_eq iy.o) (Fr.trans k2 hf (U := fun k => k = gs) (fun _ _ h => h) (fun _ _ h => h))))
                 clear k1 k2
                 go_wp2
                 go_meet
                 case rel => exact ⟨v, by rw [gT.o], by rw [gT.o]; exact HX.o⟩
                ·have d2 : decide ((c : Int) ≤ (p.last : Int)) = false := decide_eq_false (by omega)
                 have Bp : decide (c ≤ p.last) = false := decide_eq_false ct
                 by_cases iY : p.names = true
                 ·have nN := qh iY
                  rw [iY] at mX
                  clear iY
                  go_wp2_with fail
                  refine (zp D gs lo ⟨bs, 0⟩ 2 W5 HS.o.1).mono ?_
                  rintro e W6 ⟨rfl, k1, k2⟩
                  have gT := qh (show q = ⟨p.m, p.last, p.names, St.fail ⟨bs, 0⟩ 2⟩ from by rw [← mc.o]; unfold secQ; rw [if_neg dr, if_pos (.inr (.inr nN.o))])
                  have HX := qh (anQ k1 (fun f9 (hf : Fr (fun k => k = gs) W6 f9) => gE.o.newF HS.o.2.1 (Nat.le_of_eq iy.o) (Fr.trans k2 hf (U := fun k => k = gs) (fun _ _ h => h) (fun _ _ h => h))))
                  clear k1 k2
                  go_wp2
                  go_meet
                  case rel => exact ⟨v, by rw [gT.o], by rw [gT.o]; exact HX.o⟩
                 ·have nN : p.names = false := by cases h : p.names; rfl; exact absurd h iY
                  have cZ : ¬ (11 < c ∨ c ≤ p.last ∨ p.names = true) := fun h => h.elim de (fun h => h.elim ct iY)
                  rw [nN] at mX
                  clear iY nN
                  go_wp2_with fail
                  clear mX
                  refine (zcm (by omega) (by omega) D (aM D L0 W2 v.customs) gs gm lo ⟨bs, 0⟩ p.m v W5 HS.o.1 (gE.o.m.ext HS.o.2.1) bo.o.1 (fun k hk => (bo.o.2.2.1 k hk).1) bz.o l9.o (fun k hk => ⟨(qv.o k hk).1, fun e => e.elim (qv.o k hk).2.1 (qv.o k hk).2.2.1⟩) (gE.o.fresh.mono (show p.last ≤ c - 1 by omega))).mono ?_
                  rintro e W6 ⟨rfl, v', k1, k2, k3, k4, k5, k6, k7⟩
                  obtain ⟨se, qS⟩ := exQ (zE c p.m ⟨bs, 0⟩)
                  rw [qS] at k1 k2 k5 k6
                  have qS := qh qS
                  obtain ⟨M', q2⟩ := se
                  dsimp only at k1 k2 k5 k6
                  have HK := qh (anQ k1 (anQ k2 (anQ k3 (anQ k4 (anQ k5 (anQ k6 k7))))))
                  obtain ⟨aS, cS, mS, n7, np⟩ := k6
                  have lq := mS.cell
                  clear k1 k2 k3 k4 k5 k7 mS n7 np
                  go_wp2_with fail
                  refine (z8 HK.o.2.2.2.2.2.1).mono ?_
                  rintro e W7 ⟨rfl, rfl⟩
                  by_cases ev : q2.v = 0
                  ·rw [decide_eq_true ev]
                   by_cases hqb : 0 < q2.b.length
                   ·have d5 : decide ((0 : Int) < (q2.b.length : Int)) = true := decide_eq_true (by omega)
                    have C8 : decide (0 < q2.b.length) = true := decide_eq_true hqb
                    go_wp2_with fail
                    refine (zp D gs lo q2 2 W7 HK.o.2.2.2.2.2.1).mono ?_
                    rintro e W8 ⟨rfl, k1, k2⟩
                    have gT := qh (show q = ⟨M', c, p.names, q2.fail 2⟩ from by rw [← mc.o]; unfold secQ; rw [if_neg dr, if_neg cZ, qS.o]; dsimp only; rw [if_pos (show _ ∧ _ from ⟨ev, List.length_pos_iff.1 hqb⟩)])
                    have HX : Hq (SpR D gs lo (q2.fail 2) W8 ∧ ∀ f9, Fr (fun k => k = gs) W8 f9 → MJ N D w gm gr gn L0 f9 ⟨M', c, p.names, t2⟩ v') := ⟨k1, fun f9 hf => gE.o.sectionF HG.o (id := c) (show p.last < c by omega) iy.o HS.o.2.2 HS.o.2.1 HK.o.2.2.2.2.2.2 HK.o.1 HK.o.2.1 HK.o.2.2.1 HK.o.2.2.2.1 HK.o.2.2.2.2.1 (Fr.trans k2 hf (U := fun k => k = gs) (fun _ _ h => h) (fun _ _ h => h))⟩
                    go_wp2
                    go_meet
                    case rel => exact ⟨v', by rw [gT.o], by rw [gT.o]; exact HX.o⟩
                   ·have d5 : decide ((0 : Int) < (q2.b.length : Int)) = false := decide_eq_false (by omega)
                    have C8 : decide (0 < q2.b.length) = false := decide_eq_false hqb
                    have gT := qh (show q = ⟨M', c, p.names, q2⟩ from by rw [← mc.o]; unfold secQ; rw [if_neg dr, if_neg cZ, qS.o]; dsimp only; rw [if_neg (fun h => hqb (List.length_pos_iff.2 h.2))])
                    have HX : Hq (SpR D gs lo (q2) W7 ∧ ∀ f9, Fr (fun k => k = gs) W7 f9 → MJ N D w gm gr gn L0 f9 ⟨M', c, p.names, t2⟩ v') := ⟨HK.o.2.2.2.2.2.1, fun f9 hf => gE.o.sectionF HG.o (id := c) (show p.last < c by omega) iy.o HS.o.2.2 HS.o.2.1 HK.o.2.2.2.2.2.2 HK.o.1 HK.o.2.1 HK.o.2.2.1 HK.o.2.2.2.1 HK.o.2.2.2.2.1 (hf)⟩
                    go_wp2
                    go_meet
                    case rel => exact ⟨v', by rw [gT.o], by rw [gT.o]; exact HX.o⟩
                  ·rw [decide_eq_false ev]
                   have gT := qh (show q = ⟨M', c, p.names, q2⟩ from by rw [← mc.o]; unfold secQ; rw [if_neg dr, if_neg cZ, qS.o]; dsimp only; rw [if_neg (fun h => ev h.1)])
                   have HX : Hq (SpR D gs lo (q2) W7 ∧ ∀ f9, Fr (fun k => k = gs) W7 f9 → MJ N D w gm gr gn L0 f9 ⟨M', c, p.names, t2⟩ v') := ⟨HK.o.2.2.2.2.2.1, fun f9 hf => gE.o.sectionF HG.o (id := c) (show p.last < c by omega) iy.o HS.o.2.2 HS.o.2.1 HK.o.2.2.2.2.2.2 HK.o.1 HK.o.2.1 HK.o.2.2.1 HK.o.2.2.2.1 HK.o.2.2.2.2.1 (hf)⟩
                   go_wp2
                   go_meet
                   case rel => exact ⟨v', by rw [gT.o], by rw [gT.o]; exact HX.o⟩
            case rest =>
             obtain ⟨v', rfl, HQ⟩ := hcut
             clear mX l9 qv gE HS
             obtain ⟨aS, cS, mS, n7, np⟩ := HQ.o.1
             have lq := mS.cell
             have uU := mS.frz
             have mS := qh (anQ mS (anQ n7 np))
             clear n7 np
             by_cases h3 : q.s.v = 3
             ·have d3 : ((q.s.v : Int) == 3) = true := by rw [beq_iff_eq]; omega
              have fX := zf wc ⟨gs, 1, none⟩ (.int .i64 2)
              have uB : Blk (wc.setCell ⟨gs, 1, none⟩ (.int .i64 2)) gs #[.slice aS q.s.b.length cS, .int .i64 2, .bool lo] 142 := by
               have := mS.o.1.set 1 (.int .i64 2)
               simpa using this
              have rj : SpR D gs lo ⟨q.s.b, 2⟩ (wc.setCell ⟨gs, 1, none⟩ (.int .i64 2)) := SpR.mk (aa := aS) (cap := cS) uB mS.o.2.1 mS.o.2.2 fX
              have qX := qh (HQ.o.2 _ fX)
              have rj := qh rj
              have uB := qh uB
              have ey := qh (show zbu t2 q.s = t2.fail 2 from by unfold zbu ye; rw [if_pos h3]; rfl)
              clear fX h3
              go_wp2_with fail
              clear lq uU
              have lq := uB.o.cell
              generalize wc.setCell ⟨gs, 1, none⟩ (.int .i64 2) = W7 at *
              refine (z8 rj.o).mono ?_
              rintro e W8 ⟨rfl, rfl⟩
              rw [show decide ((⟨q.s.b, 2⟩ : St).v = 0) = false from rfl]
              go_wp2_with fail
              refine (zp D gr false t2 2 W8 qX.o.r).mono ?_
              rintro e W9 ⟨rfl, k1, k2⟩
              have rN := qh (qX.o.reader HG.o k2 k1 (nzQ _))
              clear k1 k2 lq
              have gB := qh (show (t2.fail 2).b.length ≤ f from by have := tM.o; have := vW.o; exact nzQ _)
              go_wp2
              go_roundg f
              case measure => omega
              case rel => exact ⟨{ q with s := t2.fail 2 }, v', rfl, gB.o, by have := nc.o; rw [ey.o] at this; exact this, rN.o⟩
             ·have d3 := bfQ (a := (q.s.v : Int)) (b := 3) (by omega)
              have he := qh (show ye q.s = q.s from by unfold ye; rw [if_neg h3])
              have qX := qh (HQ.o.2 wc (Fr.refl _ _))
              go_wp2_with fail
              refine (z8 HQ.o.1).mono ?_
              rintro e W8 ⟨rfl, rfl⟩
              by_cases hqv : q.s.v = 0
              ·rw [decide_eq_true hqv]
               have ey := qh (show zbu t2 q.s = t2 from by unfold zbu; rw [he.o, if_neg (fun h => h hqv)])
               have rN := qX
               clear lq uU hqv
               have gB := qh (show (t2).b.length ≤ f from by have := tM.o; have := vW.o; omega)
               go_wp2
               go_roundg f
               case measure => omega
               case rel => exact ⟨{ q with s := t2 }, v', rfl, gB.o, by have := nc.o; rw [ey.o] at this; exact this, rN.o⟩
              ·rw [decide_eq_false hqv]
               have ey := qh (show zbu t2 q.s = t2.fail q.s.v from by unfold zbu; rw [he.o, if_pos hqv])
               go_wp2_with fail
               refine (zp D gr false t2 q.s.v W8 qX.o.r).mono ?_
               rintro e W9 ⟨rfl, k1, k2⟩
               have rN := qh (qX.o.reader HG.o k2 k1 (nzQ _))
               clear k1 k2 lq uU
               have gB := qh (show (t2.fail q.s.v).b.length ≤ f from by have := tM.o; have := vW.o; exact nzQ _)
               go_wp2
               go_roundg f
               case measure => omega
               case rel => exact ⟨{ q with s := t2.fail q.s.v }, v', rfl, gB.o, by have := nc.o; rw [ey.o] at this; exact this, rN.o⟩
           ·rw [decide_eq_false gY]
            have hR := qh (show R = { p with s := t2 } from by
             have := nj.o
             rw [gu.o, show mEnd lo p c (bs, t2) = ({ p with s := t2 }, false) from if_pos gY] at this
             simp only [Bool.false_eq_true, if_false] at this
             exact this.symm)
            have HE := qh (show ∃ v, Hq (MJ N D w gm gr gn L0 W5 R v) from ⟨v, by rw [hR.o]; exact gE.o.new HS.o.2.1⟩)
            clear hV gE HS nj gu
            go_wp2_with fail
            go_meet
            case rel => exact HE.o
      ·have dl : decide ((0 : Int) < (p.s.b.length : Int)) = false := decide_eq_false (by omega)
       have uQ : decide (0 < p.s.b.length) = false := decide_eq_false hb
       have hR := qh (show R = p from by rw [← hV.o.2.1]; exact ZU lo gk (.inr (List.eq_nil_of_length_eq_zero (by omega))))
       have HE := qh (show ∃ v, Hq (MJ N D w gm gr gn L0 w2 R v) from ⟨v, by rw [hR.o]; exact hV.o.2.2⟩)
       clear hV
       go_wp2_with fail
       go_meet
       case rel => exact HE.o
     ·rw [decide_eq_false hv]
      have hR := qh (show R = p from by rw [← hV.o.2.1]; exact ZU lo gk (.inl hv))
      have HE := qh (show ∃ v, Hq (MJ N D w gm gr gn L0 w2 R v) from ⟨v, by rw [hR.o]; exact hV.o.2.2⟩)
      clear hV
      go_wp2_with fail
      go_meet
      case rel => exact HE.o
  ·have cZ := qh (show zV lo b = (Mod.none, 1) from dD.o.trans (if_pos mG))
   have nS : ((zd (b.take 8)).toList == [0, 97, 115, 109, 1, 0, 0, 0]) = false := by rw [jm]; exact beq_eq_false_iff_ne.2 mG
   clear mG
   generalize b.take 8 = t8 at nS gI
   have dr := iS.o.cell
   go_upto_region 2 with fail
   clear dr gI
   refine wp_region_lit ?_
   refine iS.o.wpList_load rfl 37 (.tmp 4) rfl rfl _ Tryz.underlying37 rfl (by kernel_rfl) ?_
   refine iS.o.wpList_store rfl 37 (.tmp 4) (.tmp 21) rfl rfl rfl (by kernel_rfl) rfl rfl ?_
   go_wp2_with fail
   (try simp only [Exit.inBlock, Exit.then])
   have hs := z9 W0 gm (zM)
   have c8 := iS.o.setRow (zM)
   refine bodyPost_ret (j8 Tryz.results17 _ rfl c8 _ Tryz.underlying37 rfl (by kernel_rfl)) rfl ⟨.zero, ?_, ?_, ?_⟩
   ·have e1 : zV lo b = (Mod.none, 1) := cZ.o
    rw [e1]; rfl
   ·have e1 : zV lo b = (Mod.none, 1) := cZ.o
    rw [e1]; exact YJ _ _ _ Mod.none (by decide)
   ·exact Fr.new (Ext.fr ka.o.1 hs) (fun k e => by have e' : k = gm := e; have := ka.o.2.1; omega)
variable {n : Nat} {A : Nat → Prop} {m : Mod} {v : ModV}
theorem zdj (HM : ModAt n A w m v) : (zt m v).toList.all (·.oneCell') = true := by
 have oA := Lay.slice_one HM.types
 have oB := Lay.slice_one HM.imports
 have oC := Lay.slice_one HM.functions
 have oD := Lay.slice_one HM.tables
 have oE := Lay.slice_one HM.memories
 have oF := Lay.slice_one HM.elements
 have oG := Lay.slice_one HM.globals
 have oH := Lay.slice_one HM.exports
 have oI := Lay.slice_one HM.codes
 have oJ := Lay.slice_one HM.datas
 have oK := Lay.slice_one HM.customs
 have oL := Lay.slice_one HM.funcs
 have oM := Lay.slice_one HM.locals
 show List.all [.int .u32 (m.version.toNat : Int), .bool m.hasStart, .int .u32 (m.start.toNat : Int), v.types, v.imports, v.functions, v.tables, v.memories, v.elements, v.globals, v.exports, v.codes, v.datas, v.customs, .string (zd m.named), v.funcs, v.locals] (·.oneCell') = true
 simp only [List.all_cons, List.all_nil, oA, oB, oC, oD, oE, oF, oG, oH, oI, oJ, oK, oL, oM]
 rfl
theorem ZX (hM : ModAt n A w m v) : ∃ aA cA aB cB aC cC aD cD aE cE aF cF aG cG aH cH aI cI aJ cJ aK cK aL cL aM cM, v = ⟨.slice aA m.types.length cA, .slice aB m.imports.length cB, .slice aC m.functions.length cC, .slice aD m.tables.length cD, .slice aE m.memories.length cE, .slice aF m.elements.length cF, .slice aG m.globals.length cG, .slice aH m.exports.length cH, .slice aI m.codes.length cI, .slice aJ m.datas.length cJ, .slice aK m.customs.length cK, .slice aL m.funcs.length cL, .slice aM m.locals.length cM⟩ := by
 obtain ⟨vA, vB, vC, vD, vE, vF, vG, vH, vI, vJ, vK, vL, vM⟩ := v
 obtain ⟨aA, cA, e, -, -⟩ := Lay.slice_form2 hM.types
 obtain rfl : vA = .slice aA m.types.length cA := by simpa using e
 clear e
 obtain ⟨aB, cB, e, -, -⟩ := Lay.slice_form2 hM.imports
 obtain rfl : vB = .slice aB m.imports.length cB := by simpa using e
 clear e
 obtain ⟨aC, cC, e, -, -⟩ := Lay.slice_form2 hM.functions
 obtain rfl : vC = .slice aC m.functions.length cC := by simpa using e
 clear e
 obtain ⟨aD, cD, e, -, -⟩ := Lay.slice_form2 hM.tables
 obtain rfl : vD = .slice aD m.tables.length cD := by simpa using e
 clear e
 obtain ⟨aE, cE, e, -, -⟩ := Lay.slice_form2 hM.memories
 obtain rfl : vE = .slice aE m.memories.length cE := by simpa using e
 clear e
 obtain ⟨aF, cF, e, -, -⟩ := Lay.slice_form2 hM.elements
 obtain rfl : vF = .slice aF m.elements.length cF := by simpa using e
 clear e
 obtain ⟨aG, cG, e, -, -⟩ := Lay.slice_form2 hM.globals
 obtain rfl : vG = .slice aG m.globals.length cG := by simpa using e
 clear e
 obtain ⟨aH, cH, e, -, -⟩ := Lay.slice_form2 hM.exports
 obtain rfl : vH = .slice aH m.exports.length cH := by simpa using e
 clear e
 obtain ⟨aI, cI, e, -, -⟩ := Lay.slice_form2 hM.codes
 obtain rfl : vI = .slice aI m.codes.length cI := by simpa using e
 clear e
 obtain ⟨aJ, cJ, e, -, -⟩ := Lay.slice_form2 hM.datas
 obtain rfl : vJ = .slice aJ m.datas.length cJ := by simpa using e
 clear e
 obtain ⟨aK, cK, e, -, -⟩ := Lay.slice_form2 hM.customs
 obtain rfl : vK = .slice aK m.customs.length cK := by simpa using e
 clear e
 obtain ⟨aL, cL, e, -, -⟩ := Lay.slice_form2 hM.funcs
 obtain rfl : vL = .slice aL m.funcs.length cL := by simpa using e
 clear e
 obtain ⟨aM, cM, e, -, -⟩ := Lay.slice_form2 hM.locals
 obtain rfl : vM = .slice aM m.locals.length cM := by simpa using e
 clear e
 exact ⟨aA, cA, aB, cB, aC, cC, aD, cD, aE, cE, aF, cF, aG, cG, aH, cH, aI, cI, aJ, cJ, aK, cK, aL, cL, aM, cM, rfl⟩
theorem za9 (N : Nat) (D : Nat → Prop) (b : List UInt8) (aa : Option Addr) (mm cap : Nat) (w : World) (hr : Lay.u8.slice.rd D w [.slice aa mm cap] b) (hD : ∀ k, D k → k < w.heap.size) (hl : b.length ≤ 1048576) :
 Calls Tryz.prog 5 #[.slice aa mm cap] w fun e w' => ∃ v, e = .returned (.tuple #[.agg (zt (zV false b).1 v), .int .i64 ((zV false b).2 : Int)]) ∧ ModAt (N + 1) (fun k => k < w'.heap.size) w' (zV false b).1 v ∧ Ext w w' := by
 obtain ⟨g, hg⟩ := exQ (w.heap.size)
 have hx := za w (.cells zM 37)
 have hn : (w.alloc (.cells zM 37)).heap.size = g + 1 := by simp [hg]
 have HC := qh (zdi N false D b aa mm cap _ (Lay.fr hr hx (fun k hk => ⟨hD k hk, fun h => h⟩)) (fun k hk => nqQ (hD k hk) hx.size) hl)
 have HB := qh (show Blk (w.alloc (.cells zM 37)) g zM 37 from hg ▸ zl w _ _)
 have H := qh (show Ext w (w.alloc (.cells zM 37)) ∧ w.heap.size = g ∧ (w.alloc (.cells zM 37)).heap.size = g + 1 ∧ ∀ k, D k → k < g from ⟨hx, hg, hn, fun k hk => hg ▸ hD k hk⟩)
 clear hr hD hl hx hn
 go_enter Tryz.func5, Tryz.ntmps5
 go_wp2_with fail
 (try rw [hg])
 clear hg
 generalize w.alloc (.cells zM 37) = w1 at *
 obtain ⟨m, hm⟩ := exQ ((zV false b).1)
 obtain ⟨vd, qM⟩ := exQ ((zV false b).2)
 rw [hm, qM] at HC
 have xH := qh (anQ hm qM)
 clear hm qM
 refine HC.o.mono ?_
 rintro e w2 ⟨v, rfl, hM, x2⟩
 have mA := qh (zdj hM)
 have H2 := qh (anQ hM (anQ (HB.o.ext x2) x2))
 clear hM x2 HC HB
 go_wp2_with (first | with_reducible refine jl 37 ?_ | fail)
 refine qh ?_
 refine H2.o.2.1.wpList_store rfl 37 (.tmp 2) (.tmp 6) rfl rfl rfl (by kernel_rfl) rfl mA.o ?_
 clear mA
 go_wp2_with fail
 (try simp only [Exit.inBlock, Exit.then])
 have hs := z9 w2 g (zt m v)
 have c8 := H2.o.2.1.setRow (zt m v)
 have hX := Fr.new (Fr.trans (Ext.trans H.o.1 H2.o.2.2) hs (fun _ _ e => e.elim) (fun k _ e => e)) (fun k e => by have e' : k = g := e; have := H.o.2.1; omega)
 refine bodyPost_ret (j8 Tryz.results5 _ rfl c8 _ Tryz.underlying37 rfl (by kernel_rfl)) rfl ⟨v, by rw [xH.o.1, xH.o.2]; rfl, ?_, hX⟩
 rw [xH.o.1]
 have h4 := H.o.2.2.2
 have h5 := H.o.2.2.1
 exact (H2.o.1.fr hs (fun k hk => ⟨hk.2, fun e => by have e' : k = g := e; rcases hk.1 with q | q; have := h4 k q; omega; omega⟩)).mono (fun k hk => nqQ hk.2 hs.size)
variable {pe pu : Addr} {W : World}
theorem Spec.up {L : Nat} (h : Spec pe pu L w) (hx : Ext w W) : Spec pe pu W.heap.size W := by
 have h1 := h.ext hx
 have h2 := h1.lw
 exact ⟨h1.eof, h1.unx, h1.ne, h1.be, h1.bu, nqQ h1.l1 h2, nqQ h1.l2 h2, nqQ h1.l3 h2, nqQ h1.l4 h2, Nat.le_refl _⟩
theorem zdk (W : World) (l : List UInt8) (T : TypeId) (fz : Nat × Nat) (hl : l.length ≤ maxLen) : Lay.u8.slice.rd (fun k => k = W.heap.size) (W.alloc (.cells (zC l).toArray T fz)) [.slice (some ⟨W.heap.size, 0, none⟩) l.length l.length] l :=
 ⟨_, l.length, rfl, Nat.le_refl _, hl, fun _ => ⟨W.heap.size, 0, (zC l).toArray, T, fz, zC l, rfl, rfl, (by show (W.heap.push (.cells (zC l).toArray T fz))[W.heap.size]? = _; simp), zb3 _ _ l, fun j hj => by simp⟩⟩
theorem zba : yA [0, 97, 115, 109, 1, 0, 0, 0] = .ok (⟨0, false, 0, [], [], [], [], [], [], [], [], [], [], [], [], [], []⟩ : Mod) [] := by rfl
theorem zbv (hx : Ext w W) (hS : Spec pe pu w.heap.size w) :
 Calls Tryz.prog 7 #[.slice (some ⟨W.heap.size, 0, none⟩) 8 8, .slice none 0 0] (W.alloc (.cells #[.int .u8 0, .int .u8 97, .int .u8 115, .int .u8 109, .int .u8 1, .int .u8 0, .int .u8 0, .int .u8 0] 5 (8, 8 + 1))) fun e w' => ∃ aA cA aB cB aC cC aD cD aE cE aF cF aG cG aH cH aI cI aJ cJ aK cK aL cL aM cM, e = .returned (.tuple #[.agg #[.int .u32 0, .bool false, .int .u32 0, .slice aA 0 cA, .slice aB 0 cB, .slice aC 0 cC, .slice aD 0 cD, .slice aE 0 cE, .slice aF 0 cF, .slice aG 0 cG, .slice aH 0 cH, .slice aI 0 cI, .slice aJ 0 cJ, .slice aK 0 cK, .string ⟨#[]⟩, .slice aL 0 cL, .slice aM 0 cM], .bool true]) ∧ Ext w w' := by
 have hX := Ext.trans hx (za W (.cells #[.int .u8 0, .int .u8 97, .int .u8 115, .int .u8 109, .int .u8 1, .int .u8 0, .int .u8 0, .int .u8 0] 5 (8, 8 + 1)))
 have aj : W.heap.size < (W.alloc (.cells #[.int .u8 0, .int .u8 97, .int .u8 115, .int .u8 109, .int .u8 1, .int .u8 0, .int .u8 0, .int .u8 0] 5 (8, 8 + 1))).heap.size := by simp
 have h1 := zdk W [0, 97, 115, 109, 1, 0, 0, 0] 5 (8, 8 + 1) (by decide)
 have h := Jq 0 (fun k => k = W.heap.size) (some ⟨W.heap.size, 0, none⟩) none 8 0 0 [0, 97, 115, 109, 1, 0, 0, 0] [] pe pu _ h1 (zH _ _ _) (fun k e => by have e' : k = W.heap.size := e; simp; omega) (hS.up hX) (by decide) (by rw [zba]; exact fun e => nomatch e)
 refine Calls.mono h ?_
 rintro e w' (⟨m, v, hp, rfl, hM, x⟩ | ⟨hp, -⟩)
 ·rw [zba] at hp
  obtain ⟨rfl, -⟩ := zP hp
  obtain ⟨aA, cA, aB, cB, aC, cC, aD, cD, aE, cE, aF, cF, aG, cG, aH, cH, aI, cI, aJ, cJ, aK, cK, aL, cL, aM, cM, rfl⟩ := ZX hM
  exact ⟨aA, cA, aB, cB, aC, cC, aD, cD, aE, cE, aF, cF, aG, cG, aH, cH, aI, cI, aJ, cJ, aK, cK, aL, cL, aM, cM, rfl, Ext.trans hX x⟩
 ·rw [zba] at hp; cases hp
theorem YV : yA [0, 97, 115, 109, 1, 0, 0, 0, 8, 1, 2] = .ok (⟨0, true, 2, [], [], [], [], [], [], [], [], [], [], [], [], [], []⟩ : Mod) [] := by rfl
theorem zbb (hx : Ext w W) (hS : Spec pe pu w.heap.size w) :
 Calls Tryz.prog 7 #[.slice (some ⟨W.heap.size, 0, none⟩) 11 11, .slice none 0 0] (W.alloc (.cells #[.int .u8 0, .int .u8 97, .int .u8 115, .int .u8 109, .int .u8 1, .int .u8 0, .int .u8 0, .int .u8 0, .int .u8 8, .int .u8 1, .int .u8 2] 5 (11, 11 + 1))) fun e w' => ∃ aA cA aB cB aC cC aD cD aE cE aF cF aG cG aH cH aI cI aJ cJ aK cK aL cL aM cM, e = .returned (.tuple #[.agg #[.int .u32 0, .bool true, .int .u32 2, .slice aA 0 cA, .slice aB 0 cB, .slice aC 0 cC, .slice aD 0 cD, .slice aE 0 cE, .slice aF 0 cF, .slice aG 0 cG, .slice aH 0 cH, .slice aI 0 cI, .slice aJ 0 cJ, .slice aK 0 cK, .string ⟨#[]⟩, .slice aL 0 cL, .slice aM 0 cM], .bool true]) ∧ Ext w w' := by
 have hX := Ext.trans hx (za W (.cells #[.int .u8 0, .int .u8 97, .int .u8 115, .int .u8 109, .int .u8 1, .int .u8 0, .int .u8 0, .int .u8 0, .int .u8 8, .int .u8 1, .int .u8 2] 5 (11, 11 + 1)))
 have aj : W.heap.size < (W.alloc (.cells #[.int .u8 0, .int .u8 97, .int .u8 115, .int .u8 109, .int .u8 1, .int .u8 0, .int .u8 0, .int .u8 0, .int .u8 8, .int .u8 1, .int .u8 2] 5 (11, 11 + 1))).heap.size := by simp
 have h1 := zdk W [0, 97, 115, 109, 1, 0, 0, 0, 8, 1, 2] 5 (11, 11 + 1) (by decide)
 have h := Jq 0 (fun k => k = W.heap.size) (some ⟨W.heap.size, 0, none⟩) none 11 0 0 [0, 97, 115, 109, 1, 0, 0, 0, 8, 1, 2] [] pe pu _ h1 (zH _ _ _) (fun k e => by have e' : k = W.heap.size := e; simp; omega) (hS.up hX) (by decide) (by rw [YV]; exact fun e => nomatch e)
 refine Calls.mono h ?_
 rintro e w' (⟨m, v, hp, rfl, hM, x⟩ | ⟨hp, -⟩)
 ·rw [YV] at hp
  obtain ⟨rfl, -⟩ := zP hp
  obtain ⟨aA, cA, aB, cB, aC, cC, aD, cD, aE, cE, aF, cF, aG, cG, aH, cH, aI, cI, aJ, cJ, aK, cK, aL, cL, aM, cM, rfl⟩ := ZX hM
  exact ⟨aA, cA, aB, cB, aC, cC, aD, cD, aE, cE, aF, cF, aG, cG, aH, cH, aI, cI, aJ, cJ, aK, cK, aL, cL, aM, cM, rfl, Ext.trans hX x⟩
 ·rw [YV] at hp; cases hp
theorem zfh (hx : Ext w W) (hS : Spec pe pu w.heap.size w) :
 Calls Tryz.prog 20 #[] W fun e w' => e = .returned (.bool true) ∧ Ext w w' := by
 have HT := qh (zbb hx hS)
 clear hS hx
 have kc := fun (w : World) (C : Array Value) (n c : Nat) => Lib.run_convert_bytes_const (P := Tryz.prog) w 22 5 C n c Tryz.underlying22 Tryz.underlying5
 go_enter Tryz.func20, Tryz.ntmps20
 go_wp2_with fail
 refine HT.o.mono ?_
 rintro e w2 ⟨aA, cA, aB, cB, aC, cC, aD, cD, aE, cE, aF, cF, aG, cG, aH, cH, aI, cI, aJ, cJ, aK, cK, aL, cL, aM, cM, rfl, x⟩
 have x := qh x
 clear HT
 go_wp2
 go_ret
 exact ⟨rfl, Ext.trans x.o (za _ _)⟩
theorem zd2 (hx : Ext w W) (hS : Spec pe pu w.heap.size w) :
 Calls Tryz.prog 8 #[] W fun e w' => e = .returned (.bool true) ∧ Ext w w' := by
 have HT := qh (zbv hx hS)
 have HG := qh (fun W' (h : Ext w W') => zfh h hS)
 clear hS hx
 have kc := fun (w : World) (C : Array Value) (n c : Nat) => Lib.run_convert_bytes_const (P := Tryz.prog) w 22 5 C n c Tryz.underlying22 Tryz.underlying5
 go_enter Tryz.func8, Tryz.ntmps8
 go_wp2_with fail
 refine HT.o.mono ?_
 rintro e w2 ⟨aA, cA, aB, cB, aC, cC, aD, cD, aE, cE, aF, cF, aG, cG, aH, cH, aI, cI, aJ, cJ, aK, cK, aL, cL, aM, cM, rfl, x⟩
 have x := qh x
 clear HT
 go_wp2_with fail
 refine (HG.o _ (Ext.trans x.o (za _ _))).mono ?_
 rintro e w3 ⟨rfl, x3⟩
 have x3 := qh x3
 clear HG
 go_wp2
 go_ret
 exact ⟨rfl, x3.o⟩
end Go.Proofs.YtejgninpjhcgnaaGreatDoor
