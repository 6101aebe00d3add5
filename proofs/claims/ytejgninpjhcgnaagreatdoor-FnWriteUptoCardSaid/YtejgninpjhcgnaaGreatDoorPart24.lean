/- Texts of this proof, one behind the other. -/
import Derived.Test.YtejgninpjhcgnaaGreatDoorPart23
import Derived.Deep.LoopGhost
import Derived.Deep.CutBlock
namespace Go.Proofs.YtejgninpjhcgnaaGreatDoor
open Go.RowKit
set_option linter.unusedSimpArgs false
set_option linter.unusedVariables false
set_option maxRecDepth 100000
set_option maxHeartbeats 32000000
section
variable {P : Program} {ar : Array Oper} {o : Oper} {a : Act} {Q : Exit → Act → World → Prop} {K : Act → World → Prop}
theorem Blk.wp_load {w : World} {g : Nat} {cs : Array Value} {T : TypeId} (hB : Blk w g cs T) (ty : TypeId) (x : Operand) (ho : o.op = .load ty x) (hx : a.eval x = .pointer (some ⟨g, 0, none⟩)) (d : TypeDesc)
 (hu : P.underlying ty = some d) (hd : d.isRow = true) (hi : (P.info? ty).map (·.size) = some cs.size) (h : K (a.put o.dst (.agg cs)) w) : o.wp P a w K Q := by
 unfold Oper.wp execOp
 simp only [ho, hx, Sem.run_bind, Sem.run_pure, Result.andThen_ok, hB.loadAt d hu hd hi]
 exact h
theorem Blk.wp_store {w : World} {g : Nat} {cs gV : Array Value} {T : TypeId} (hB : Blk w g cs T) (ty : TypeId) (x y : Operand) (ho : o.op = .store ty x y) (hx : a.eval x = .pointer (some ⟨g, 0, none⟩)) (hy : a.eval y = .agg gV)
 (hi : (P.info? ty).map (·.size) = some gV.size) (hs : cs.size = gV.size) (h1 : gV.toList.all (·.oneCell') = true) (h : K (a.put o.dst undef) (w.setRow g gV)) : o.wp P a w K Q := by
 unfold Oper.wp execOp
 simp only [ho, hx, hy, Instr.storeAt, Instr.sureAddr, Sem.run_bind, Sem.run_pure, Result.andThen_ok, run_storeVar_row (P := P) w g T ty cs gV hB hi hs (by rw [← Array.all_toList]; exact h1)]
 exact h
end
variable {w : World}
theorem jZ {P : Program} {fn : Func} {a ty t : Nat} (h : fn.results = #[.cell a ty, .tmp t]) (tmps : Array Value) {g : Nat} (hp : tmps.getD a undef = .pointer (some ⟨g, 0, none⟩)) {cs : Array Value} {T : TypeId} (hB : Blk w g cs T) (d : TypeDesc)
 (hu : P.underlying ty = some d) (hd : d.isRow = true) (hi : (P.info? ty).map (·.size) = some cs.size) : (results fn tmps).run P w = .ok (.tuple #[.agg cs, tmps.getD t undef]) w := by
 have xO : tmps[a]?.getD undef = .pointer (some ⟨g, 0, none⟩) := by simpa using hp
 simp [results, h, xO, asAddr, hB.loadVar d hu hd hi]
theorem zaR (N : Nat) (lo : Bool) (D : Nat → Prop) (b : List UInt8) (aa : Option Addr) (mm cap : Nat) (w : World) (hr : Lay.u8.slice.rd D w [.slice aa mm cap] b) (hD : ∀ k, D k → k < w.heap.size) (hl : b.length ≤ 1048576) :
 Calls Tryz.prog 17 #[.slice aa mm cap, .bool lo] w fun e w' => ∃ v, e = .returned (.tuple #[.agg (zs (yl lo b).1 v), .int .i64 ((yl lo b).2 : Int)]) ∧ ModAt (N + 1) (fun k => (D k ∨ w.heap.size ≤ k) ∧ k < w'.heap.size) w' (yl lo b).1 v ∧ Ext w w' := by
 obtain ⟨aq, cq, e, dh, bh⟩ := Lay.slice_form hr
 simp only [Value.slice.injEq] at e
 obtain ⟨rfl, rfl, rfl⟩ := e
 have fA : b.length ≤ cap := by omega
 have H := qh (anQ hr (anQ hD (anQ hl (anQ dh bh))))
 have Ev : (b.length : Int) ≤ (cap : Int) := by omega
 have ck := qh (zhA lo b)
 have iF := qh (zk w zM 37)
 clear hr hD hl dh bh
 go_enter Tryz.func17, Tryz.ntmps17
 go_upto_region 1 with fail
 obtain ⟨gm, eA⟩ := exQ (w.heap.size)
 obtain ⟨W0, iH⟩ := exQ (w.alloc (.cells zM 37))
 have nh : Hd (Ext w W0 ∧ w.heap.size = gm ∧ gm < W0.heap.size) := by subst iH; exact ⟨za _ _, eA, by rw [← eA]; simp⟩
 rw [iH, eA] at iF
 rw [iH, eA]
 clear iH eA
 by_cases h8 : b.length < 8
 ·have d8 : decide ((b.length : Int) < 8) = true := decide_eq_true (by omega)
  have fE := qh (show yl lo b = (Mod.none, 1) from ck.o.trans (if_pos (fun e => by have := congrArg List.length e; rw [ltQ, show YK.length = 8 from rfl] at this; omega)))
  have en := iF.o.cell
  go_upto_region 2 with fail
  clear en
  refine wp_region_lit ?_
  refine iF.o.wpList_load rfl 37 (.tmp 4) rfl rfl _ Tryz.underlying37 rfl (by kernel_rfl) ?_
  refine iF.o.wpList_store rfl 37 (.tmp 4) (.tmp 21) rfl rfl rfl (by kernel_rfl) rfl rfl ?_
  go_wp2_with fail
  (try simp only [Exit.inBlock, Exit.then])
  have hs := yE W0 gm (zM)
  have dG := iF.o.setRow (zM)
  refine bodyPost_ret (jZ Tryz.results17 _ rfl dG _ Tryz.underlying37 rfl (by kernel_rfl)) rfl ⟨.zero, ?_, ?_, ?_⟩
  ·have e1 : yl lo b = (Mod.none, 1) := fE.o
   rw [e1]; rfl
  ·have e1 : yl lo b = (Mod.none, 1) := fE.o
   rw [e1]; exact Y2 _ _ _ Mod.none (by decide)
  ·exact Fr.new (Ext.fr nh.o.1 hs) (fun k e => by have e' : k = gm := e; have := nh.o.2.1; omega)
 ·have d8 : decide ((b.length : Int) < 8) = false := decide_eq_false (by omega)
  obtain ⟨b0, o0, rfl, _⟩ := zfv H.o.1 0 (by omega)
  have EX : (8 : Int) ≤ (b.length : Int) := by omega
  have EB : (8 : Int) ≤ (cap : Int) := by omega
  have A8 := Lay.rd_take H.o.1 (n := 8) (c := cap) (by omega) (by omega) H.o.2.2.2.2
  have eN := Zx A8 (fun k hk => H.o.2.1 k hk) 22 9 5 Tryz.underlying22 Tryz.underlying5 Tryz.underlying9 W0 nh.o.1
  clear A8
  by_cases lY : b.take 8 = YK
  ·have mB := qh (ck.o.trans (if_neg (fun h => h lY)))
   have nO : (zc (b.take 8)).toList = [0, 97, 115, 109, 1, 0, 0, 0] := by rw [JY, lY]; rfl
   clear lY
   generalize b.take 8 = t8 at nO eN
   have en := iF.o.cell
   have lU := iF.o.frz
   go_upto_region 4 with fail
   have cY := iF.o.set 0 (.int .u32 1)
   have cY := qh (show Blk (W0.setCell ⟨gm, 0, none⟩ (.int .u32 1)) gm (#[.int .u32 1, .bool false, .int .u32 0, .slice none 0 0, .slice none 0 0, .slice none 0 0, .slice none 0 0, .slice none 0 0, .slice none 0 0, .slice none 0 0, .slice none 0 0, .slice none 0 0, .slice none 0 0, .slice none 0 0, .string ⟨#[]⟩, .slice none 0 0, .slice none 0 0] : Array Value) 37 from by simpa using cY)
   have iE : Hd (Ext w (W0.setCell ⟨gm, 0, none⟩ (.int .u32 1)) ∧ w.heap.size = gm ∧ gm < (W0.setCell ⟨gm, 0, none⟩ (.int .u32 1)).heap.size) := ⟨Fr.new (Ext.fr nh.o.1 (zh W0 ⟨gm, 0, none⟩ _)) (fun k e => by have e' : k = gm := e; have := nh.o.2.1; omega), nh.o.2.1, by have := nh.o.2.2; simpa using this⟩
   clear en lU eN nO iF nh
   generalize W0.setCell ⟨gm, 0, none⟩ (.int .u32 1) = W1 at *
   have Ao := qh (show ∀ k, D k → k < W1.heap.size from fun k hk => nqQ (H.o.2.1 k hk) iE.o.1.size)
   have AQ := qh (Lay.fr H.o.1 iE.o.1 (fun k hk => ⟨H.o.2.1 k hk, fun q => q⟩))
   go_cut [6] from 22 to 171 (fun s6 w' => ∃ gr, s6 = .pointer (some ⟨gr, 0, none⟩) ∧ Hd (SpR D gr false ⟨b.drop 8, 0⟩ w' ∧ Ext W1 w' ∧ W1.heap.size ≤ gr ∧ gr < w'.heap.size))
   case first =>
    as_aux_lemma =>
     have ig := qh (fun (e8 : cap = 8) => SpR.newD (lo := false) (b := b.drop 8) (a := some ⟨b0, o0, none⟩) (m := b.length - 8) (c := 0) Ao.o (by rw [List.drop_eq_nil_of_le (by omega), show b.length - 8 = 0 from by omega]; exact zbY (by decide)))
     have Eb := qh (SpR.newD (lo := false) (b := b.drop 8) (a := some ⟨b0, o0 + 8, none⟩) (m := b.length - 8) (c := cap - 8) Ao.o (by
      have := zgp AQ.o (by omega : 8 ≤ b.length)
      rw [Option.map_some, jL, ldQ] at this
      exact this))
     go_wp2_with fail
     ·rename_i h
      subst h
      go_meet
      case rel => exact ⟨_, rfl, ig.o rfl, za _ _, Nat.le_refl _, by simp⟩
     ·go_meet
      case rel => exact ⟨_, rfl, Eb.o, za _ _, Nat.le_refl _, by simp⟩
   case rest =>
    obtain ⟨gr, rfl, hC⟩ := hcut
    go_upto_block 0 with fail
    obtain ⟨gn, wD⟩ := exQ (wc.heap.size)
    obtain ⟨W5, sU⟩ := exQ (wc.alloc (.cells #[.bool false] 4))
    obtain ⟨L0, BG⟩ := exQ (W5.heap.size)
    have nu : Ext wc W5 := by subst sU; exact za _ _
    have Ak : W5.heap.size = wc.heap.size + 1 := by subst sU; simp
    have BP : Blk W5 gn #[.bool false] 4 := by subst sU; rw [← wD]; exact zk _ _ _
    have HG : Hd (MG D w gm gr gn L0) := by
     have h1 := iE.o.2.1
     have h2 := iE.o.2.2
     have h3 := hC.o.2.2.1
     have h4 := hC.o.2.2.2
     have h5 := hC.o.2.1.size
     have h6 := iE.o.1.size
     exact ⟨by omega, by omega, by omega, by omega, by omega, by omega, by omega, by omega, by omega, H.o.2.1⟩
    have HJ : Hd (MJ N D w gm gr gn L0 W5 ⟨{ Mod.none with version := 1 }, 0, false, ⟨b.drop 8, 0⟩⟩ .zero) :=
     ⟨cY.o.ext (Ext.trans hC.o.2.1 nu), BP, hC.o.1.ext nu, Y2 _ _ _ ({ Mod.none with version := 1 } : Mod) (by decide), zK _ _ _ _ _, ⟨fun _ => rfl, fun _ => rfl, fun _ => rfl, fun _ => rfl, fun _ => rfl, fun _ => rfl, fun _ => rfl⟩, Ext.trans iE.o.1 (Ext.trans hC.o.2.1 nu), Nat.le_of_eq BG.symm, by show 0 + (b.drop 8).length ≤ _; rw [ldQ]; have := H.o.2.2.1; omega⟩
    rw [sU, wD]
    clear sU wD BG nu Ak BP cY iE Ao AQ hC
    obtain ⟨R, tk⟩ : ∃ R, Yg lo b.length ⟨{ Mod.none with version := 1 }, 0, false, ⟨b.drop 8, 0⟩⟩ = R := ⟨_, rfl⟩
    have mB := qh (show yl lo b = mFin R from by rw [← tk]; exact mB.o)
    have tk := qh tk
    have oh := qh (show (b.drop 8).length ≤ b.length from by rw [ldQ]; omega)
    go_cut [7, 9, 10, 11] from 27 to 145 (fun s7 s9 ey nN w' => ∃ v, Hd (MJ N D w gm gr gn L0 w' R v))
    case rest =>
     obtain ⟨v, HE⟩ := hcut
     obtain ⟨WE, rfl⟩ : ∃ WE, WE = wc := ⟨_, rfl⟩
     clear HJ tk oh
     obtain ⟨aE, cE, gD, pF, pI⟩ := HE.o.r
     have tZ := gD.cell
     have wI := gD.frz
     have gD := qh (anQ gD (anQ pF pI))
     clear pF pI
     go_upto_if 150 with fail
     go_cut [5] from 146 to 171 (fun s5 w' => s5 = .int .i64 0 ∧ Hd (MJ N D w gm gr gn L0 w' { R with s := zdZ R.s } v))
     case first =>
      as_aux_lemma =>
       by_cases h3 : R.s.v = 3
       ·have d3 : ((R.s.v : Int) == 3) = true := by rw [beq_iff_eq]; omega
        have he := qh (show zdZ R.s = ⟨R.s.b, 1⟩ from by unfold zdZ; rw [if_pos h3])
        have eP := zh WE ⟨gr, 1, none⟩ (.int .i64 1)
        have rP : SpR D gr false ⟨R.s.b, 1⟩ (WE.setCell ⟨gr, 1, none⟩ (.int .i64 1)) := by
         refine SpR.mk (aa := aE) (cap := cE) ?_ gD.o.2.1 gD.o.2.2 eP
         have := gD.o.1.set 1 (.int .i64 1)
         simpa using this
        have HM := qh (HE.o.reader HG.o eP rP (Nat.le_refl _))
        clear eP rP HE gD h3
        go_wp2
        go_meet
        case rel => exact ⟨rfl, by rw [he.o]; exact HM.o⟩
       ·have d3 := bfQ (a := (R.s.v : Int)) (b := 3) (by omega)
        have he := qh (show zdZ R.s = R.s from by unfold zdZ; rw [if_neg h3])
        clear gD h3
        go_wp2
        go_meet
        case rel => exact ⟨rfl, by rw [he.o]; exact HE.o⟩
     case rest =>
      obtain ⟨rfl, HM⟩ := hcut
      clear HE gD tZ wI
      obtain ⟨af, cf, ef, -, -⟩ := Lay.slice_form2 (HM.o.all HG.o).functions
      obtain ⟨ac, cc, ec, -, -⟩ := Lay.slice_form2 (HM.o.all HG.o).codes
      have ef : v.functions = .slice af R.m.functions.length cf := by injection ef
      have ec : v.codes = .slice ac R.m.codes.length cc := by injection ec
      have e5 : wc.cell? ⟨gm, 5, none⟩ = some (.slice af R.m.functions.length cf) := by rw [HM.o.m.cell 5, ← ef]; rfl
      have rK : wc.cell? ⟨gm, 11, none⟩ = some (.slice ac R.m.codes.length cc) := by rw [HM.o.m.cell 11, ← ec]; rfl
      clear ef ec
      have ai := qh (show yl lo b = (R.m, (zd0 R.m (zdZ R.s)).v) from mB.o)
      generalize zdZ R.s = sf at *
      go_upto_region 31 with fail
      go_cut [164] from 146 to 171 (fun xc w' => xc = .bool (decide (sf.v = 0 ∧ R.m.functions.length ≠ R.m.codes.length)) ∧ w' = wc)
      case first =>
       as_aux_lemma =>
        go_wp2_with fail
        refine (yh HM.o.r).mono ?_
        rintro e w6 ⟨rfl, rfl⟩
        by_cases ss : sf.v = 0
        ·rw [decide_eq_true ss]
         have ss := qh ss
         by_cases hq : R.m.functions.length = R.m.codes.length
         ·have dq : ((R.m.functions.length : Int) != (R.m.codes.length : Int)) = false := by rw [bne_eq_false_iff_eq]; omega
          have hq := qh hq
          go_wp2
          go_meet
          case rel => exact ⟨congrArg Value.bool (decide_eq_false (fun q => q.2 hq.o)).symm, rfl⟩
         ·have dq : ((R.m.functions.length : Int) != (R.m.codes.length : Int)) = true := by rw [bne_iff_ne]; omega
          go_wp2
          go_meet
          case rel => exact ⟨congrArg Value.bool (decide_eq_true (anQ ss.o hq)).symm, rfl⟩
        ·rw [decide_eq_false ss]
         go_wp2
         go_meet
         case rel => exact ⟨congrArg Value.bool (decide_eq_false (fun q => ss q.1)).symm, rfl⟩
      case rest =>
       obtain ⟨rfl, rfl⟩ := hcut
       clear e5 rK
       go_upto_if 164 with fail
       go_cut [5] from 146 to 171 (fun s5 w' => s5 = .int .i64 0 ∧ Hd (MJ N D w gm gr gn L0 w' { R with s := zd0 R.m sf } v))
       case first =>
        as_aux_lemma =>
         by_cases hq : sf.v = 0 ∧ R.m.functions.length ≠ R.m.codes.length
         ·rw [decide_eq_true hq]
          have he := qh (show zd0 R.m sf = sf.fail 2 from by unfold zd0; rw [if_pos hq])
          clear hq
          go_wp2_with fail
          refine (zr D gr false _ 2 _ HM.o.r).mono ?_
          rintro e WF ⟨rfl, k1, k2⟩
          have HM := qh (HM.o.reader HG.o k2 k1 (nzQ _))
          clear k1 k2
          go_wp2
          go_meet
          case rel => exact ⟨rfl, by rw [he.o]; exact HM.o⟩
         ·rw [decide_eq_false hq]
          have he := qh (show zd0 R.m sf = sf from by unfold zd0; rw [if_neg hq])
          clear hq
          go_wp2
          go_meet
          case rel => exact ⟨rfl, by rw [he.o]; exact HM.o⟩
       case rest =>
        obtain ⟨rfl, HM⟩ := hcut
        generalize zd0 R.m sf = sg at *
        go_upto_region 33 with fail
        refine zi (y4 (fun k => k = gm)) [(1, .take), (2, .take), (3, .take), (4, .take), (0, .run), (5, .run), (6, .take)] (by kernel_rfl) (by kernel_rfl) ?_
        simp only [zy, gzQ, gsQ]
        have oq := qh (show ∃ a9 c9, Blk wc.drew gr #[.slice a9 sg.b.length c9, .int .i64 (sg.v : Int), .bool false] 142 from by obtain ⟨a9, c9, q, _⟩ := HM.o.r.ext (zb wc); exact ⟨a9, c9, q⟩)
        have qV := qh (HM.o.new (zb wc))
        clear HM
        generalize wc.drew = sT at *
        obtain ⟨a9, c9, oq⟩ := oq.o
        have HC := qh (fun W' (h : Fr (fun k => k = gm) sT W') => (oq.fr h (fun e => HG.o.mr e.symm)).cell)
        clear oq
        repeat (apply item_take; rfl; rfl; rfl; rfl; exact fun _ _ _ _ h => h; (intro W e _ k; have q := HC.o W e; go_simp; exact k))
        apply ze; rfl; intro K hK
        refine qV.o.m.wp_load 37 (.tmp 4) rfl rfl _ Tryz.underlying37 rfl (by kernel_rfl) ?_
        refine hK _ _ (Fr.refl _ _) ?_
        clear hK K
        apply ze; rfl; intro K hK
        refine qV.o.m.wp_store 37 (.tmp 4) (.tmp 167) rfl rfl rfl (by kernel_rfl) rfl (qV.o.one HG.o) ?_
        refine hK _ _ (yE _ _ _) ?_
        clear hK K HC
        have vw := yE sT gm (zs R.m v)
        have dG := qV.o.m.setRow (zs R.m v)
        have sB := qh (show ModAt (N + 1) (fun k => (D k ∨ w.heap.size ≤ k) ∧ k < (sT.setRow gm (zs R.m v)).heap.size) (sT.setRow gm (zs R.m v)) R.m v ∧ Ext w (sT.setRow gm (zs R.m v)) from ⟨qV.o.endAt HG.o vw, Fr.new (Ext.fr qV.o.ext vw) (fun k e => by have e' : k = gm := e; have := HG.o.wm; omega)⟩)
        clear vw qV
        have dG := qh dG
        repeat (apply item_take; rfl; rfl; rfl; rfl; exact fun _ _ _ _ h => h; (intro _ _ _ k; go_simp; exact k))
        apply zl
        go_wp2_with fail
        (try simp only [Exit.inBlock, Exit.then])
        refine bodyPost_ret (jZ Tryz.results17 _ rfl dG.o _ Tryz.underlying37 rfl (by kernel_rfl)) rfl ⟨v, ?_, ?_⟩
        ·have e1 : yl lo b = (R.m, sg.v) := ai.o
         rw [e1]; rfl
        ·have e1 : yl lo b = (R.m, sg.v) := ai.o
         rw [e1]; exact sB.o
    go_wp2_with fail
    go_loopg [7] b.length (fun f s7 w' => ∃ (p : ModSt) (v : ModV), s7 = .int .i64 (p.last : Int) ∧ Hd (p.s.b.length ≤ f ∧ Yg lo f p = R ∧ MJ N D w gm gr gn L0 w' p v))
    case atStart => exact ⟨_, _, rfl, oh.o, tk.o, HJ.o⟩
    case round =>
     obtain ⟨p, v, rfl, hV⟩ := hrel
     obtain ⟨aP, cP, us, up, tU⟩ := hV.o.2.2.r
     have Dq := us.cell
     clear us up tU HJ
     go_wp2_with fail
     refine (yh hV.o.2.2.r).mono ?_
     rintro e w2 ⟨rfl, rfl⟩
     by_cases hv : p.s.v = 0
     ·rw [decide_eq_true hv]
      by_cases hb : 0 < p.s.b.length
      ·have dl : decide ((0 : Int) < (p.s.b.length : Int)) = true := decide_eq_true (by omega)
       have AE : decide (0 < p.s.b.length) = true := decide_eq_true hb
       obtain ⟨f, rfl⟩ : ∃ f, gk = f + 1 := ⟨gk - 1, by have := hV.o.1; omega⟩
       have oT := qh (show (if (YJ lo p).2 then Yg lo f (YJ lo p).1 else (YJ lo p).1) = R from by rw [← hV.o.2.1, show Yg lo (f + 1) p = if p.s.v = 0 ∧ p.s.b ≠ [] then (if (YJ lo p).2 then Yg lo f (YJ lo p).1 else (YJ lo p).1) else p from rfl, if_pos (show p.s.v = 0 ∧ p.s.b ≠ [] from ⟨hv, List.length_pos_iff.1 hb⟩)])
       have eu := qh (ziB lo p)
       have dG := qh (show p.s.b.length ≤ 1048576 from by have := hV.o.2.2.len; omega)
       have sy := qh (show p.s.b.length ≤ f + 1 from hV.o.1)
       have ao := qh (show p.m.customs.length + p.s.b.length ≤ 1048576 from hV.o.2.2.len)
       have wi := qh (show (zn p.s).2.b.length + 1 ≤ p.s.b.length from by
        unfold zn
        split
        ·rename_i h; rw [h] at hb; simp at hb
        ·rename_i c r h; rw [h]; simp)
       go_wp2_with fail
       clear Dq
       refine (yo hV.o.2.2.r).mono ?_
       rintro e w3 ⟨rfl, k1, k2⟩
       have sm := jr p.s
       generalize (zn p.s).1 = c at *
       generalize (zn p.s).2 = t0 at *
       have uo : Hd (SpR D gr false t0 w3 ∧ Fr (fun k => k = gr) w2 w3) := ⟨k1, k2⟩
       obtain ⟨aQ, cQ, eB, gR, gX⟩ := uo.o.1
       have tg := eB.cell
       clear eB gR gX k1 k2
       go_upto_if 44 with fail
       clear tg
       go_cut [9] from 27 to 145 (fun s9 w' => s9 = .int .i64 (c : Int) ∧ Hd (SpR D gr false (mS1 t0) w' ∧ Fr (fun k => k = gr) w2 w'))
       case first =>
        as_aux_lemma =>
         by_cases hz : t0.b = []
         ·have dz : ((t0.b.length : Int) == 0) = true := by rw [hz]; rfl
          have xC : (t0.b.length == 0) = true := by rw [hz]; rfl
          have he := qh (show mS1 t0 = t0.fail 2 from by unfold mS1; rw [if_pos hz])
          clear hz
          go_wp2_with fail
          refine (zr D gr false t0 2 w3 uo.o.1).mono ?_
          rintro e w4 ⟨rfl, k1, k2⟩
          have HQ := qh (anQ k1 (Fr.trans uo.o.2 k2 (U := fun k => k = gr) (fun _ _ h => h) (fun _ _ h => h)))
          clear k1 k2
          go_wp2
          go_meet
          case rel => exact ⟨rfl, by rw [he.o]; exact HQ.o⟩
         ·have EV : 0 < t0.b.length := List.length_pos_iff.2 hz
          have dz := bfQ (a := (t0.b.length : Int)) (b := 0) (by omega)
          have xC := bfQ (a := t0.b.length) (b := 0) (by omega)
          have he := qh (show mS1 t0 = t0 from by unfold mS1; rw [if_neg hz])
          clear hz
          go_wp2
          go_meet
          case rel => exact ⟨rfl, by rw [he.o]; exact uo.o⟩
       case rest =>
        obtain ⟨rfl, xd⟩ := hcut
        have iU := qh (show (mS1 t0).b.length + 1 ≤ p.s.b.length from by have := zjG t0; have := wi.o; omega)
        generalize mS1 t0 = s1 at *
        go_wp2_with fail
        refine (zN D gr false s1 wc xd.o.1 (by have := iU.o; have := dG.o; omega)).mono ?_
        rintro e w5 ⟨rfl, k1, k2⟩
        have fd := zX s1
        have fp := qh (show (zd s1).2.b.length + 1 ≤ p.s.b.length from by have := zJ s1; have := iU.o; omega)
        generalize (zd s1).1 = x at *
        generalize (zd s1).2 = t1 at *
        have u6 : Hd (SpR D gr false t1 w5 ∧ Fr (fun k => k = gr) w2 w5) := ⟨k1, Fr.trans xd.o.2 k2 (fun _ _ h => h) (fun _ _ h => h)⟩
        obtain ⟨aQ, cQ, eB, gR, gX⟩ := u6.o.1
        have tg := eB.cell
        have DN := eB.frz
        have eB := qh (anQ eB (anQ gR gX))
        clear gR gX k1 k2 uo xd
        go_upto_if 53 with fail
        go_cut [10] from 27 to 145 (fun ey w' => ey = .int .u32 (x : Int) ∧ Hd (SpR D gr false (Zg t1) w' ∧ Fr (fun k => k = gr) w2 w'))
        case first =>
         as_aux_lemma =>
          by_cases h3 : t1.v = 3
          ·have d3 : ((t1.v : Int) == 3) = true := by rw [beq_iff_eq]; omega
           have he := qh (show Zg t1 = ⟨t1.b, 2⟩ from by unfold Zg; rw [if_pos h3])
           go_wp2
           go_meet
           case rel =>
            have hs := zh w5 ⟨gr, 1, none⟩ (.int .i64 2)
            refine ⟨rfl, ?_, Fr.trans u6.o.2 hs (fun _ _ h => h) (fun _ _ h => h)⟩
            rw [he.o]
            refine SpR.mk (aa := aQ) (cap := cQ) ?_ eB.o.2.1 eB.o.2.2 hs
            have := eB.o.1.set 1 (.int .i64 2)
            simpa using this
          ·have d3 := bfQ (a := (t1.v : Int)) (b := 3) (by omega)
           have he := qh (show Zg t1 = t1 from by unfold Zg; rw [if_neg h3])
           go_wp2
           go_meet
           case rel => exact ⟨rfl, by rw [he.o]; exact u6.o⟩
        case rest =>
         obtain ⟨rfl, rX⟩ := hcut
         have AS := qh (show (Zg t1).b.length + 1 ≤ p.s.b.length from by have := zhB t1; have := fp.o; omega)
         clear tg DN eB u6
         generalize Zg t1 = s2 at *
         obtain ⟨aQ, cQ, eB, gR, gX⟩ := rX.o.1
         have tg := eB.cell
         clear eB gR gX
         go_upto_region 13 with fail
         go_cut [85] from 27 to 145 (fun DL w' => DL = .bool (decide (s2.v = 0 ∧ (x = 0 ∨ s2.b = [] ∨ (c = 0 ∧ s2.b.length < x)))) ∧ w' = wc)
         case first =>
          as_aux_lemma =>
           have dN : IntKind.u64.wrap (s2.b.length : Int) = (s2.b.length : Int) := by rw [IntKind.wrap_u64]; have := AS.o; have := dG.o; omega
           have dQ : IntKind.u64.wrap (x : Int) = (x : Int) := by rw [IntKind.wrap_u64]; omega
           go_wp2_with fail
           refine (yh rX.o.1).mono ?_
           rintro e w6 ⟨rfl, rfl⟩
           by_cases gq : s2.v = 0
           ·rw [decide_eq_true gq]
            by_cases cU : x = 0
            ·have dx : ((x : Int) == 0) = true := by rw [beq_iff_eq]; omega
             have DH : (x == 0) = true := by rw [beq_iff_eq]; omega
             have x8 := qh cU
             clear cU
             go_wp2
             go_meet
             case rel => exact ⟨congrArg Value.bool ((decide_eq_true (show (s2.v = 0 ∧ (x = 0 ∨ s2.b = [] ∨ (c = 0 ∧ s2.b.length < x))) from ⟨gq, .inl x8.o⟩))).symm, rfl⟩
            ·have dx := bfQ (a := (x : Int)) (b := 0) (by omega)
             have DH := bfQ (a := x) (b := 0) (by omega)
             by_cases hz : s2.b.length = 0
             ·have dz : ((s2.b.length : Int) == 0) = true := by rw [beq_iff_eq]; omega
              have xC : (s2.b.length == 0) = true := by rw [beq_iff_eq]; omega
              have rT := qh hz
              clear hz
              go_wp2
              go_meet
              case rel => exact ⟨congrArg Value.bool ((decide_eq_true (show (s2.v = 0 ∧ (x = 0 ∨ s2.b = [] ∨ (c = 0 ∧ s2.b.length < x))) from ⟨gq, .inr (.inl (List.eq_nil_of_length_eq_zero rT.o))⟩))).symm, rfl⟩
             ·have dz := bfQ (a := (s2.b.length : Int)) (b := 0) (by omega)
              have xC := bfQ (a := s2.b.length) (b := 0) (by omega)
              have rT : ¬ s2.b = [] := fun q => hz (by rw [q]; rfl)
              by_cases en : c = 0
              ·have dc : ((c : Int) == 0) = true := by rw [beq_iff_eq]; omega
               have vU : (c == 0) = true := by rw [beq_iff_eq]; omega
               have wO := qh en
               clear en
               by_cases kD : s2.b.length < x
               ·have dg : decide ((s2.b.length : Int) < (x : Int)) = true := decide_eq_true (by omega)
                have Cx : decide (s2.b.length < x) = true := decide_eq_true kD
                go_wp2
                go_meet
                case rel => exact ⟨congrArg Value.bool ((decide_eq_true (show (s2.v = 0 ∧ (x = 0 ∨ s2.b = [] ∨ (c = 0 ∧ s2.b.length < x))) from ⟨gq, .inr (.inr ⟨wO.o, kD⟩)⟩))).symm, rfl⟩
               ·have dg : decide ((s2.b.length : Int) < (x : Int)) = false := decide_eq_false (by omega)
                have Cx : decide (s2.b.length < x) = false := decide_eq_false kD
                go_wp2
                go_meet
                case rel => exact ⟨congrArg Value.bool ((decide_eq_false (show ¬ (s2.v = 0 ∧ (x = 0 ∨ s2.b = [] ∨ (c = 0 ∧ s2.b.length < x))) from fun q => q.2.elim cU (fun q => q.elim rT (fun q => kD q.2))))).symm, rfl⟩
              ·have dc := bfQ (a := (c : Int)) (b := 0) (by omega)
               have vU := bfQ (a := c) (b := 0) (by omega)
               go_wp2
               go_meet
               case rel => exact ⟨congrArg Value.bool ((decide_eq_false (show ¬ (s2.v = 0 ∧ (x = 0 ∨ s2.b = [] ∨ (c = 0 ∧ s2.b.length < x))) from fun q => q.2.elim cU (fun q => q.elim rT (fun q => en q.1))))).symm, rfl⟩
           ·rw [decide_eq_false gq]
            go_wp2
            go_meet
            case rel => exact ⟨congrArg Value.bool ((decide_eq_false (show ¬ (s2.v = 0 ∧ (x = 0 ∨ s2.b = [] ∨ (c = 0 ∧ s2.b.length < x))) from fun q => gq q.1))).symm, rfl⟩
         case rest =>
          obtain ⟨rfl, rfl⟩ := hcut
          go_upto_if 85 with fail
          go_cut [10] from 27 to 145 (fun ey w' => ey = .int .u32 (x : Int) ∧ Hd (SpR D gr false (mS3 c x s2) w' ∧ Fr (fun k => k = gr) w2 w'))
          case first =>
           as_aux_lemma =>
            by_cases hcd : (s2.v = 0 ∧ (x = 0 ∨ s2.b = [] ∨ (c = 0 ∧ s2.b.length < x)))
            ·rw [decide_eq_true hcd]
             have he := qh (show mS3 c x s2 = s2.fail 2 from by unfold mS3; rw [if_pos hcd])
             clear hcd
             go_wp2_with fail
             refine (zr D gr false s2 2 _ rX.o.1).mono ?_
             rintro e w7 ⟨rfl, k1, k2⟩
             have HQ := qh (anQ k1 (Fr.trans rX.o.2 k2 (U := fun k => k = gr) (fun _ _ h => h) (fun _ _ h => h)))
             clear k1 k2
             go_wp2
             go_meet
             case rel => exact ⟨rfl, by rw [he.o]; exact HQ.o⟩
            ·rw [decide_eq_false hcd]
             have he := qh (show mS3 c x s2 = s2 from by unfold mS3; rw [if_neg hcd])
             clear hcd
             go_wp2
             go_meet
             case rel => exact ⟨rfl, by rw [he.o]; exact rX.o⟩
          case rest =>
           obtain ⟨rfl, ql⟩ := hcut
           have AF := qh (show (mS3 c x s2).b.length + 1 ≤ p.s.b.length from by have := zjH c x s2; have := AS.o; omega)
           clear rX tg
           generalize mS3 c x s2 = s3 at *
           go_wp2_with fail
           refine (Jy x fd D gr false s3 wc ql.o.1 (by have := AF.o; have := dG.o; omega)).mono ?_
           rintro e W2 ⟨ta, tm, tc, rfl, k0, k1, k2⟩
           have sW := qh (show (zW x s3).2.b.length + 1 ≤ p.s.b.length from by have := jQ x s3; have := AF.o; omega)
           have ch := qh (show (zW x s3).1.length ≤ 1048576 from by have := zcm x s3; have := AF.o; have := dG.o; omega)
           have eu := qh (show YJ lo p = mEnd lo p c ((zW x s3).1, (zW x s3).2) from eu.o)
           generalize (zW x s3).1 = bs at *
           generalize (zW x s3).2 = t2 at *
           have gg := qh (hV.o.2.2.reader HG.o (Fr.trans ql.o.2 k2 (U := fun k => k = gr) (fun _ _ h => h) (fun _ _ h => h)) k1 (by have := sW.o; omega))
           have nE := qh k0
           clear k0 k1 k2 ql
           go_wp2_with fail
           have HS : Hd (SpR D W2.heap.size lo ⟨bs, 0⟩ (W2.alloc (.cells #[.slice ta tm tc, .int .i64 0, .bool lo] 142)) ∧ Ext W2 (W2.alloc (.cells #[.slice ta tm tc, .int .i64 0, .bool lo] 142)) ∧ W2.heap.size < (W2.alloc (.cells #[.slice ta tm tc, .int .i64 0, .bool lo] 142)).heap.size) := ⟨gg.o.r.new nE.o, za _ _, by simp⟩
           obtain ⟨gs, ie⟩ := exQ (W2.heap.size)
           have hZ := qh ie
           obtain ⟨W4, cT⟩ := exQ (W2.alloc (.cells #[.slice ta tm tc, .int .i64 0, .bool lo] 142))
           rw [cT, ie] at HS
           rw [cT, ie]
           clear nE cT ie
           refine (yh (gg.o.r.ext HS.o.2.1)).mono ?_
           rintro e W5 ⟨rfl, rfl⟩
           by_cases gq : t2.v = 0
           ·rw [decide_eq_true gq]
            have oT := qh (show Yg lo f { secQ lo c p bs with s := zbV t2 (secQ lo c p bs).s } = R from by
             have := oT.o
             rw [eu.o, show mEnd lo p c (bs, t2) = ({ secQ lo c p bs with s := zbV t2 (secQ lo c p bs).s }, true) from if_neg (fun q => q gq)] at this
             simp only [if_true] at this
             exact this)
            have oa := oT
            obtain ⟨q, mR⟩ := exQ (secQ lo c p bs)
            have oa := qh (show Yg lo f { q with s := zbV t2 q.s } = R from by rw [← mR]; exact oT.o)
            have Ee := qh (show q.m.customs.length ≤ p.m.customs.length + 1 from by rw [← mR]; exact zd2 lo c p bs)
            have mR := qh mR
            have cj := qh (show ¬ gm = gs ∧ ¬ gn = gs ∧ (∀ k, D k → ¬ k = gm ∧ ¬ k = gn ∧ k < L0) ∧ L0 ≤ W5.heap.size ∧ (∀ k, v.customs.ownBlock = some k → ¬ k = gs ∧ ¬ k = gm ∧ ¬ k = gn) from by
             have h1 := HG.o.lm
             have h2 := HG.o.ln
             have h3 := gg.o.lo
             have h4 := hZ.o
             have h5 := HG.o.wm
             have h6 := HG.o.wn
             refine ⟨by omega, by omega, fun k hk => ?_, nlQ h3 HS.o.2.1.size, fun k hk => ?_⟩
             ·have := HG.o.D k hk
              exact ⟨by omega, by omega, by omega⟩
             ·have := gg.o.cus.lt k hk
              exact ⟨by omega, by omega, by omega⟩)
            have qw := qh (show ∀ k, aM D L0 W2 v.customs k → k < W5.heap.size ∧ ¬ k = gs ∧ ¬ k = gm ∧ ¬ k = gn ∧ some k ≠ v.customs.ownBlock from fun k hk => by
             have h1 := HG.o.lm
             have h2 := HG.o.ln
             have h4 := hZ.o
             have h7 := HS.o.2.2
             have h8 := hk.2.1
             refine ⟨by omega, by omega, ?_, ?_, hk.2.2⟩
             ·rcases hk.1 with q | q
              ·exact (cj.o.2.2.1 k q).1
              ·omega
             ·rcases hk.1 with q | q
              ·exact (cj.o.2.2.1 k q).2.1
              ·omega)
            have mH := qh (show ModAt (N + 1) (aM D L0 W2 v.customs) W5 (zdY p.m) (zaQ v) from gg.o.at'.fr HS.o.2.1 (fun k hk => ⟨hk.2.1, fun e => e⟩))
            have nt := (gg.o.n.ext HS.o.2.1).cell
            clear oT eu hV
            go_upto_if 98 with fail
            go_cut [7] from 27 to 145 (fun s7 w' => ∃ (v' : ModV), s7 = .int .i64 (q.last : Int) ∧ Hd (SpR D gs lo q.s w' ∧ ∀ fJ, Fr (fun k => k = gs) w' fJ → MJ N D w gm gr gn L0 fJ { q with s := t2 } v'))
            case first =>
             as_aux_lemma =>
              by_cases en : c = 0
              ·have dc : ((c : Int) == 0) = true := by rw [beq_iff_eq]; omega
               have vU : (c == 0) = true := by rw [beq_iff_eq]; omega
               have gE := qh (show q = ⟨(zz lo p.m p.names ⟨bs, 0⟩).1, p.last, (zz lo p.m p.names ⟨bs, 0⟩).2.1, (zz lo p.m p.names ⟨bs, 0⟩).2.2⟩ from by rw [← mR.o]; unfold secQ; rw [if_pos en])
               clear en
               go_wp2_with fail
               clear nt
               refine (zd5 lo D (aM D L0 W2 v.customs) gs gm gn L0 ⟨bs, 0⟩ p.m p.names W5 (.int .u32 (p.m.version.toNat : Int)) (.bool p.m.hasStart) (.int .u32 (p.m.start.toNat : Int)) v.types v.imports v.functions v.tables v.memories v.elements v.globals v.exports v.codes v.datas v.customs v.funcs v.locals HS.o.1 (gg.o.m.ext HS.o.2.1) (gg.o.n.ext HS.o.2.1) ⟨cj.o.1, cj.o.2.1, HG.o.mn⟩ cj.o.2.2.1 ch.o qw.o mH.o.funcs mH.o.locals mH.o.named (gg.o.cus.ext HS.o.2.1) cj.o.2.2.2.2 cj.o.2.2.2.1 HG.o.lm (by have := ao.o; omega)).mono ?_
               rintro e W6 ⟨rfl, dd, dk, dm, ⟨k1, k2, k3, k4, k5, k6, k7, k8⟩, k9⟩
               have sx := zeR lo p.m p.names ⟨bs, 0⟩
               have hst := zd1 lo p.m p.names ⟨bs, 0⟩
               have rm : (zz lo p.m p.names ⟨bs, 0⟩).1.customs.length ≤ p.m.customs.length + 1 := by have := Ee.o; rw [gE.o] at this; exact this
               have HX : Hd (SpR D gs lo (zz lo p.m p.names ⟨bs, 0⟩).2.2 W6 ∧ ∀ fJ, Fr (fun k => k = gs) W6 fJ → MJ N D w gm gr gn L0 fJ ⟨(zz lo p.m p.names ⟨bs, 0⟩).1, p.last, (zz lo p.m p.names ⟨bs, 0⟩).2.1, t2⟩ { v with customs := dd, funcs := dk, locals := dm }) :=
                ⟨k7, fun fJ hf => gg.o.customF HG.o hZ.o HS.o.2.2 HS.o.2.1 k8 sx hst (by rw [zdb sx hst]; exact k1) k6 k2 k3 k4 k5 k9 (by have := gg.o.len; have h5 := sW.o; have h6 := dG.o; show _ + t2.b.length ≤ _; have h7 : p.m.customs.length + t2.b.length ≤ 1048576 := this; have h8 := ao.o; omega) hf⟩
               clear k1 k2 k3 k4 k5 k6 k7 k8 k9 sx hst rm
               go_wp2
               go_meet
               case rel => exact ⟨_, by rw [gE.o], by rw [gE.o]; exact HX.o⟩
              ·have dc := bfQ (a := (c : Int)) (b := 0) (by omega)
               have vU := bfQ (a := c) (b := 0) (by omega)
               by_cases dw : 11 < c
               ·have d1 : decide ((11 : Int) < (c : Int)) = true := decide_eq_true (by omega)
                go_wp2_with fail
                refine (zr D gs lo ⟨bs, 0⟩ 2 W5 HS.o.1).mono ?_
                rintro e W6 ⟨rfl, k1, k2⟩
                have gE := qh (show q = ⟨p.m, p.last, p.names, St.fail ⟨bs, 0⟩ 2⟩ from by rw [← mR.o]; unfold secQ; rw [if_neg en, if_pos (.inl dw)])
                have HX := qh (anQ k1 (fun fJ (hf : Fr (fun k => k = gs) W6 fJ) => gg.o.newF HS.o.2.1 (Nat.le_of_eq hZ.o) (Fr.trans k2 hf (U := fun k => k = gs) (fun _ _ h => h) (fun _ _ h => h))))
                clear k1 k2
                go_wp2
                go_meet
                case rel => exact ⟨v, by rw [gE.o], by rw [gE.o]; exact HX.o⟩
               ·have d1 : decide ((11 : Int) < (c : Int)) = false := decide_eq_false (by omega)
                by_cases cV : c ≤ p.last
                ·have d2 : decide ((c : Int) ≤ (p.last : Int)) = true := decide_eq_true (by omega)
                 have DF : decide (c ≤ p.last) = true := decide_eq_true cV
                 go_wp2_with fail
                 refine (zr D gs lo ⟨bs, 0⟩ 2 W5 HS.o.1).mono ?_
                 rintro e W6 ⟨rfl, k1, k2⟩
                 have gE := qh (show q = ⟨p.m, p.last, p.names, St.fail ⟨bs, 0⟩ 2⟩ from by rw [← mR.o]; unfold secQ; rw [if_neg en, if_pos (.inr (.inl cV))])
                 have HX := qh (anQ k1 (fun fJ (hf : Fr (fun k => k = gs) W6 fJ) => gg.o.newF HS.o.2.1 (Nat.le_of_eq hZ.o) (Fr.trans k2 hf (U := fun k => k = gs) (fun _ _ h => h) (fun _ _ h => h))))
                 clear k1 k2
                 go_wp2
                 go_meet
                 case rel => exact ⟨v, by rw [gE.o], by rw [gE.o]; exact HX.o⟩
                ·have d2 : decide ((c : Int) ≤ (p.last : Int)) = false := decide_eq_false (by omega)
                 have DF : decide (c ≤ p.last) = false := decide_eq_false cV
                 by_cases f9 : p.names = true
                 ·have ot := qh f9
                  rw [f9] at nt
                  clear f9
                  go_wp2_with fail
                  refine (zr D gs lo ⟨bs, 0⟩ 2 W5 HS.o.1).mono ?_
                  rintro e W6 ⟨rfl, k1, k2⟩
                  have gE := qh (show q = ⟨p.m, p.last, p.names, St.fail ⟨bs, 0⟩ 2⟩ from by rw [← mR.o]; unfold secQ; rw [if_neg en, if_pos (.inr (.inr ot.o))])
                  have HX := qh (anQ k1 (fun fJ (hf : Fr (fun k => k = gs) W6 fJ) => gg.o.newF HS.o.2.1 (Nat.le_of_eq hZ.o) (Fr.trans k2 hf (U := fun k => k = gs) (fun _ _ h => h) (fun _ _ h => h))))
                  clear k1 k2
                  go_wp2
                  go_meet
                  case rel => exact ⟨v, by rw [gE.o], by rw [gE.o]; exact HX.o⟩
                 ·have ot : p.names = false := by cases h : p.names; rfl; exact absurd h f9
                  have fE : ¬ (11 < c ∨ c ≤ p.last ∨ p.names = true) := fun h => h.elim dw (fun h => h.elim cV f9)
                  rw [ot] at nt
                  clear f9 ot
                  go_wp2_with fail
                  clear nt
                  refine (zda (by omega) (by omega) D (aM D L0 W2 v.customs) gs gm lo ⟨bs, 0⟩ p.m v W5 HS.o.1 (gg.o.m.ext HS.o.2.1) cj.o.1 (fun k hk => (cj.o.2.2.1 k hk).1) ch.o mH.o (fun k hk => ⟨(qw.o k hk).1, fun e => e.elim (qw.o k hk).2.1 (qw.o k hk).2.2.1⟩) (gg.o.fresh.mono (show p.last ≤ c - 1 by omega))).mono ?_
                  rintro e W6 ⟨rfl, v', k1, k2, k3, k4, k5, k6, k7⟩
                  obtain ⟨se, rY⟩ := exQ (zO c p.m ⟨bs, 0⟩)
                  rw [rY] at k1 k2 k5 k6
                  have rY := qh rY
                  obtain ⟨M', q2⟩ := se
                  dsimp only at k1 k2 k5 k6
                  have HK := qh (anQ k1 (anQ k2 (anQ k3 (anQ k4 (anQ k5 (anQ k6 k7))))))
                  obtain ⟨aS, cS, nk, nJ, ol⟩ := k6
                  have oZ := nk.cell
                  clear k1 k2 k3 k4 k5 k7 nk nJ ol
                  go_wp2_with fail
                  refine (yh HK.o.2.2.2.2.2.1).mono ?_
                  rintro e W7 ⟨rfl, rfl⟩
                  by_cases lT : q2.v = 0
                  ·rw [decide_eq_true lT]
                   by_cases hqb : 0 < q2.b.length
                   ·have d5 : decide ((0 : Int) < (q2.b.length : Int)) = true := decide_eq_true (by omega)
                    have Di : decide (0 < q2.b.length) = true := decide_eq_true hqb
                    go_wp2_with fail
                    refine (zr D gs lo q2 2 W7 HK.o.2.2.2.2.2.1).mono ?_
                    rintro e W8 ⟨rfl, k1, k2⟩
                    have gE := qh (show q = ⟨M', c, p.names, q2.fail 2⟩ from by rw [← mR.o]; unfold secQ; rw [if_neg en, if_neg fE, rY.o]; dsimp only; rw [if_pos (show _ ∧ _ from ⟨lT, List.length_pos_iff.1 hqb⟩)])
                    have HX : Hd (SpR D gs lo (q2.fail 2) W8 ∧ ∀ fJ, Fr (fun k => k = gs) W8 fJ → MJ N D w gm gr gn L0 fJ ⟨M', c, p.names, t2⟩ v') := ⟨k1, fun fJ hf => gg.o.sectionF HG.o (id := c) (show p.last < c by omega) hZ.o HS.o.2.2 HS.o.2.1 HK.o.2.2.2.2.2.2 HK.o.1 HK.o.2.1 HK.o.2.2.1 HK.o.2.2.2.1 HK.o.2.2.2.2.1 (Fr.trans k2 hf (U := fun k => k = gs) (fun _ _ h => h) (fun _ _ h => h))⟩
                    go_wp2
                    go_meet
                    case rel => exact ⟨v', by rw [gE.o], by rw [gE.o]; exact HX.o⟩
                   ·have d5 : decide ((0 : Int) < (q2.b.length : Int)) = false := decide_eq_false (by omega)
                    have Di : decide (0 < q2.b.length) = false := decide_eq_false hqb
                    have gE := qh (show q = ⟨M', c, p.names, q2⟩ from by rw [← mR.o]; unfold secQ; rw [if_neg en, if_neg fE, rY.o]; dsimp only; rw [if_neg (fun h => hqb (List.length_pos_iff.2 h.2))])
                    have HX : Hd (SpR D gs lo (q2) W7 ∧ ∀ fJ, Fr (fun k => k = gs) W7 fJ → MJ N D w gm gr gn L0 fJ ⟨M', c, p.names, t2⟩ v') := ⟨HK.o.2.2.2.2.2.1, fun fJ hf => gg.o.sectionF HG.o (id := c) (show p.last < c by omega) hZ.o HS.o.2.2 HS.o.2.1 HK.o.2.2.2.2.2.2 HK.o.1 HK.o.2.1 HK.o.2.2.1 HK.o.2.2.2.1 HK.o.2.2.2.2.1 (hf)⟩
                    go_wp2
                    go_meet
                    case rel => exact ⟨v', by rw [gE.o], by rw [gE.o]; exact HX.o⟩
                  ·rw [decide_eq_false lT]
                   have gE := qh (show q = ⟨M', c, p.names, q2⟩ from by rw [← mR.o]; unfold secQ; rw [if_neg en, if_neg fE, rY.o]; dsimp only; rw [if_neg (fun h => lT h.1)])
                   have HX : Hd (SpR D gs lo (q2) W7 ∧ ∀ fJ, Fr (fun k => k = gs) W7 fJ → MJ N D w gm gr gn L0 fJ ⟨M', c, p.names, t2⟩ v') := ⟨HK.o.2.2.2.2.2.1, fun fJ hf => gg.o.sectionF HG.o (id := c) (show p.last < c by omega) hZ.o HS.o.2.2 HS.o.2.1 HK.o.2.2.2.2.2.2 HK.o.1 HK.o.2.1 HK.o.2.2.1 HK.o.2.2.2.1 HK.o.2.2.2.2.1 (hf)⟩
                   go_wp2
                   go_meet
                   case rel => exact ⟨v', by rw [gE.o], by rw [gE.o]; exact HX.o⟩
            case rest =>
             obtain ⟨v', rfl, HQ⟩ := hcut
             clear nt mH qw gg HS
             obtain ⟨aS, cS, nk, nJ, ol⟩ := HQ.o.1
             have oZ := nk.cell
             have Aa := nk.frz
             have nk := qh (anQ nk (anQ nJ ol))
             clear nJ ol
             by_cases h3 : q.s.v = 3
             ·have d3 : ((q.s.v : Int) == 3) = true := by rw [beq_iff_eq]; omega
              have eP := zh wc ⟨gs, 1, none⟩ (.int .i64 2)
              have uS : Blk (wc.setCell ⟨gs, 1, none⟩ (.int .i64 2)) gs #[.slice aS q.s.b.length cS, .int .i64 2, .bool lo] 142 := by
               have := nk.o.1.set 1 (.int .i64 2)
               simpa using this
              have rP : SpR D gs lo ⟨q.s.b, 2⟩ (wc.setCell ⟨gs, 1, none⟩ (.int .i64 2)) := SpR.mk (aa := aS) (cap := cS) uS nk.o.2.1 nk.o.2.2 eP
              have sd := qh (HQ.o.2 _ eP)
              have rP := qh rP
              have uS := qh uS
              have lV := qh (show zbV t2 q.s = t2.fail 2 from by unfold zbV Zg; rw [if_pos h3]; rfl)
              clear eP h3
              go_wp2_with fail
              clear oZ Aa
              have oZ := uS.o.cell
              generalize wc.setCell ⟨gs, 1, none⟩ (.int .i64 2) = W7 at *
              refine (yh rP.o).mono ?_
              rintro e W8 ⟨rfl, rfl⟩
              rw [show decide ((⟨q.s.b, 2⟩ : St).v = 0) = false from rfl]
              go_wp2_with fail
              refine (zr D gr false t2 2 W8 sd.o.r).mono ?_
              rintro e W9 ⟨rfl, k1, k2⟩
              have un := qh (sd.o.reader HG.o k2 k1 (nzQ _))
              clear k1 k2 oZ
              have eE := qh (show (t2.fail 2).b.length ≤ f from by have := sW.o; have := sy.o; exact nzQ _)
              go_wp2
              go_roundg f
              case measure => omega
              case rel => exact ⟨{ q with s := t2.fail 2 }, v', rfl, eE.o, by have := oa.o; rw [lV.o] at this; exact this, un.o⟩
             ·have d3 := bfQ (a := (q.s.v : Int)) (b := 3) (by omega)
              have he := qh (show Zg q.s = q.s from by unfold Zg; rw [if_neg h3])
              have sd := qh (HQ.o.2 wc (Fr.refl _ _))
              go_wp2_with fail
              refine (yh HQ.o.1).mono ?_
              rintro e W8 ⟨rfl, rfl⟩
              by_cases hqv : q.s.v = 0
              ·rw [decide_eq_true hqv]
               have lV := qh (show zbV t2 q.s = t2 from by unfold zbV; rw [he.o, if_neg (fun h => h hqv)])
               have un := sd
               clear oZ Aa hqv
               have eE := qh (show (t2).b.length ≤ f from by have := sW.o; have := sy.o; omega)
               go_wp2
               go_roundg f
               case measure => omega
               case rel => exact ⟨{ q with s := t2 }, v', rfl, eE.o, by have := oa.o; rw [lV.o] at this; exact this, un.o⟩
              ·rw [decide_eq_false hqv]
               have lV := qh (show zbV t2 q.s = t2.fail q.s.v from by unfold zbV; rw [he.o, if_pos hqv])
               go_wp2_with fail
               refine (zr D gr false t2 q.s.v W8 sd.o.r).mono ?_
               rintro e W9 ⟨rfl, k1, k2⟩
               have un := qh (sd.o.reader HG.o k2 k1 (nzQ _))
               clear k1 k2 oZ Aa
               have eE := qh (show (t2.fail q.s.v).b.length ≤ f from by have := sW.o; have := sy.o; exact nzQ _)
               go_wp2
               go_roundg f
               case measure => omega
               case rel => exact ⟨{ q with s := t2.fail q.s.v }, v', rfl, eE.o, by have := oa.o; rw [lV.o] at this; exact this, un.o⟩
           ·rw [decide_eq_false gq]
            have hR := qh (show R = { p with s := t2 } from by
             have := oT.o
             rw [eu.o, show mEnd lo p c (bs, t2) = ({ p with s := t2 }, false) from if_pos gq] at this
             simp only [Bool.false_eq_true, if_false] at this
             exact this.symm)
            have HE := qh (show ∃ v, Hd (MJ N D w gm gr gn L0 W5 R v) from ⟨v, by rw [hR.o]; exact gg.o.new HS.o.2.1⟩)
            clear hV gg HS oT eu
            go_wp2_with fail
            go_meet
            case rel => exact HE.o
      ·have dl : decide ((0 : Int) < (p.s.b.length : Int)) = false := decide_eq_false (by omega)
       have AE : decide (0 < p.s.b.length) = false := decide_eq_false hb
       have hR := qh (show R = p from by rw [← hV.o.2.1]; exact zck lo gk (.inr (List.eq_nil_of_length_eq_zero (by omega))))
       have HE := qh (show ∃ v, Hd (MJ N D w gm gr gn L0 w2 R v) from ⟨v, by rw [hR.o]; exact hV.o.2.2⟩)
       clear hV
       go_wp2_with fail
       go_meet
       case rel => exact HE.o
     ·rw [decide_eq_false hv]
      have hR := qh (show R = p from by rw [← hV.o.2.1]; exact zck lo gk (.inl hv))
      have HE := qh (show ∃ v, Hd (MJ N D w gm gr gn L0 w2 R v) from ⟨v, by rw [hR.o]; exact hV.o.2.2⟩)
      clear hV
      go_wp2_with fail
      go_meet
      case rel => exact HE.o
  ·have fE := qh (show yl lo b = (Mod.none, 1) from ck.o.trans (if_pos lY))
   have nO : ((zc (b.take 8)).toList == [0, 97, 115, 109, 1, 0, 0, 0]) = false := by rw [JY]; exact beq_eq_false_iff_ne.2 lY
   clear lY
   generalize b.take 8 = t8 at nO eN
   have en := iF.o.cell
   go_upto_region 2 with fail
   clear en eN
   refine wp_region_lit ?_
   refine iF.o.wpList_load rfl 37 (.tmp 4) rfl rfl _ Tryz.underlying37 rfl (by kernel_rfl) ?_
   refine iF.o.wpList_store rfl 37 (.tmp 4) (.tmp 21) rfl rfl rfl (by kernel_rfl) rfl rfl ?_
   go_wp2_with fail
   (try simp only [Exit.inBlock, Exit.then])
   have hs := yE W0 gm (zM)
   have dG := iF.o.setRow (zM)
   refine bodyPost_ret (jZ Tryz.results17 _ rfl dG _ Tryz.underlying37 rfl (by kernel_rfl)) rfl ⟨.zero, ?_, ?_, ?_⟩
   ·have e1 : yl lo b = (Mod.none, 1) := fE.o
    rw [e1]; rfl
   ·have e1 : yl lo b = (Mod.none, 1) := fE.o
    rw [e1]; exact Y2 _ _ _ Mod.none (by decide)
   ·exact Fr.new (Ext.fr nh.o.1 hs) (fun k e => by have e' : k = gm := e; have := nh.o.2.1; omega)
variable {n : Nat} {A : Nat → Prop} {m : Mod} {v : ModV}
theorem zaS (HM : ModAt n A w m v) : (zs m v).toList.all (·.oneCell') = true := by
 have oA := Lay.slice_one HM.types
 have oB := Lay.slice_one HM.imports
 have oC := Lay.slice_one HM.functions
 have oD := Lay.slice_one HM.tables
 have oE := Lay.slice_one HM.memories
 have oF := Lay.slice_one HM.elements
 have oG := Lay.slice_one HM.globals
 have oH := Lay.slice_one HM.exports
 have oI := Lay.slice_one HM.codes
 have oJ := Lay.slice_one HM.datas
 have oK := Lay.slice_one HM.customs
 have oL := Lay.slice_one HM.funcs
 have oM := Lay.slice_one HM.locals
 show List.all [.int .u32 (m.version.toNat : Int), .bool m.hasStart, .int .u32 (m.start.toNat : Int), v.types, v.imports, v.functions, v.tables, v.memories, v.elements, v.globals, v.exports, v.codes, v.datas, v.customs, .string (zc m.named), v.funcs, v.locals] (·.oneCell') = true
 simp only [List.all_cons, List.all_nil, oA, oB, oC, oD, oE, oF, oG, oH, oI, oJ, oK, oL, oM]
 rfl
theorem zcn (hM : ModAt n A w m v) : ∃ aA cA aB cB aC cC aD cD aE cE aF cF aG cG aH cH aI cI aJ cJ aK cK aL cL aM cM, v = ⟨.slice aA m.types.length cA, .slice aB m.imports.length cB, .slice aC m.functions.length cC, .slice aD m.tables.length cD, .slice aE m.memories.length cE, .slice aF m.elements.length cF, .slice aG m.globals.length cG, .slice aH m.exports.length cH, .slice aI m.codes.length cI, .slice aJ m.datas.length cJ, .slice aK m.customs.length cK, .slice aL m.funcs.length cL, .slice aM m.locals.length cM⟩ := by
 obtain ⟨vA, vB, vC, vD, vE, vF, vG, vH, vI, vJ, vK, vL, vM⟩ := v
 obtain ⟨aA, cA, e, -, -⟩ := Lay.slice_form2 hM.types
 obtain rfl : vA = .slice aA m.types.length cA := by simpa using e
 clear e
 obtain ⟨aB, cB, e, -, -⟩ := Lay.slice_form2 hM.imports
 obtain rfl : vB = .slice aB m.imports.length cB := by simpa using e
 clear e
 obtain ⟨aC, cC, e, -, -⟩ := Lay.slice_form2 hM.functions
 obtain rfl : vC = .slice aC m.functions.length cC := by simpa using e
 clear e
 obtain ⟨aD, cD, e, -, -⟩ := Lay.slice_form2 hM.tables
 obtain rfl : vD = .slice aD m.tables.length cD := by simpa using e
 clear e
 obtain ⟨aE, cE, e, -, -⟩ := Lay.slice_form2 hM.memories
 obtain rfl : vE = .slice aE m.memories.length cE := by simpa using e
 clear e
 obtain ⟨aF, cF, e, -, -⟩ := Lay.slice_form2 hM.elements
 obtain rfl : vF = .slice aF m.elements.length cF := by simpa using e
 clear e
 obtain ⟨aG, cG, e, -, -⟩ := Lay.slice_form2 hM.globals
 obtain rfl : vG = .slice aG m.globals.length cG := by simpa using e
 clear e
 obtain ⟨aH, cH, e, -, -⟩ := Lay.slice_form2 hM.exports
 obtain rfl : vH = .slice aH m.exports.length cH := by simpa using e
 clear e
 obtain ⟨aI, cI, e, -, -⟩ := Lay.slice_form2 hM.codes
 obtain rfl : vI = .slice aI m.codes.length cI := by simpa using e
 clear e
 obtain ⟨aJ, cJ, e, -, -⟩ := Lay.slice_form2 hM.datas
 obtain rfl : vJ = .slice aJ m.datas.length cJ := by simpa using e
 clear e
 obtain ⟨aK, cK, e, -, -⟩ := Lay.slice_form2 hM.customs
 obtain rfl : vK = .slice aK m.customs.length cK := by simpa using e
 clear e
 obtain ⟨aL, cL, e, -, -⟩ := Lay.slice_form2 hM.funcs
 obtain rfl : vL = .slice aL m.funcs.length cL := by simpa using e
 clear e
 obtain ⟨aM, cM, e, -, -⟩ := Lay.slice_form2 hM.locals
 obtain rfl : vM = .slice aM m.locals.length cM := by simpa using e
 clear e
 exact ⟨aA, cA, aB, cB, aC, cC, aD, cD, aE, cE, aF, cF, aG, cG, aH, cH, aI, cI, aJ, cJ, aK, cK, aL, cL, aM, cM, rfl⟩
theorem zhF (N : Nat) (D : Nat → Prop) (b : List UInt8) (aa : Option Addr) (mm cap : Nat) (w : World) (hr : Lay.u8.slice.rd D w [.slice aa mm cap] b) (hD : ∀ k, D k → k < w.heap.size) (hl : b.length ≤ 1048576) :
 Calls Tryz.prog 5 #[.slice aa mm cap] w fun e w' => ∃ v, e = .returned (.tuple #[.agg (zs (yl false b).1 v), .int .i64 ((yl false b).2 : Int)]) ∧ ModAt (N + 1) (fun k => k < w'.heap.size) w' (yl false b).1 v ∧ Ext w w' := by
 obtain ⟨g, hg⟩ := exQ (w.heap.size)
 have hx := za w (.cells zM 37)
 have hn : (w.alloc (.cells zM 37)).heap.size = g + 1 := by simp [hg]
 have HC := qh (zaR N false D b aa mm cap _ (Lay.fr hr hx (fun k hk => ⟨hD k hk, fun h => h⟩)) (fun k hk => nqQ (hD k hk) hx.size) hl)
 have HB := qh (show Blk (w.alloc (.cells zM 37)) g zM 37 from hg ▸ zk w _ _)
 have H := qh (show Ext w (w.alloc (.cells zM 37)) ∧ w.heap.size = g ∧ (w.alloc (.cells zM 37)).heap.size = g + 1 ∧ ∀ k, D k → k < g from ⟨hx, hg, hn, fun k hk => hg ▸ hD k hk⟩)
 clear hr hD hl hx hn
 go_enter Tryz.func5, Tryz.ntmps5
 go_wp2_with fail
 (try rw [hg])
 clear hg
 generalize w.alloc (.cells zM 37) = w1 at *
 obtain ⟨m, hm⟩ := exQ ((yl false b).1)
 obtain ⟨vd, qa⟩ := exQ ((yl false b).2)
 rw [hm, qa] at HC
 have qD := qh (anQ hm qa)
 clear hm qa
 refine HC.o.mono ?_
 rintro e w2 ⟨v, rfl, hM, x2⟩
 have mO := qh (zaS hM)
 have H2 := qh (anQ hM (anQ (HB.o.ext x2) x2))
 clear hM x2 HC HB
 go_wp2_with (first | with_reducible refine Jx 37 ?_ | fail)
 refine qh ?_
 refine H2.o.2.1.wpList_store rfl 37 (.tmp 2) (.tmp 6) rfl rfl rfl (by kernel_rfl) rfl mO.o ?_
 clear mO
 go_wp2_with fail
 (try simp only [Exit.inBlock, Exit.then])
 have hs := yE w2 g (zs m v)
 have dG := H2.o.2.1.setRow (zs m v)
 have hX := Fr.new (Fr.trans (Ext.trans H.o.1 H2.o.2.2) hs (fun _ _ e => e.elim) (fun k _ e => e)) (fun k e => by have e' : k = g := e; have := H.o.2.1; omega)
 refine bodyPost_ret (jZ Tryz.results5 _ rfl dG _ Tryz.underlying37 rfl (by kernel_rfl)) rfl ⟨v, by rw [qD.o.1, qD.o.2]; rfl, ?_, hX⟩
 rw [qD.o.1]
 have h4 := H.o.2.2.2
 have h5 := H.o.2.2.1
 exact (H2.o.1.fr hs (fun k hk => ⟨hk.2, fun e => by have e' : k = g := e; rcases hk.1 with q | q; have := h4 k q; omega; omega⟩)).mono (fun k hk => nqQ hk.2 hs.size)
theorem zaZ (N : Nat) (D : Nat → Prop) (b : List UInt8) (aa : Option Addr) (mm cap : Nat) (w : World) (hr : Lay.u8.slice.rd D w [.slice aa mm cap] b) (hD : ∀ k, D k → k < w.heap.size) (hl : b.length ≤ 1048576) :
 Calls Tryz.prog 16 #[.slice aa mm cap] w fun e w' => ∃ v, e = .returned (.tuple #[.agg (zs (yl true b).1 v), .int .i64 ((yl true b).2 : Int)]) ∧ ModAt (N + 1) (fun k => k < w'.heap.size) w' (yl true b).1 v ∧ Ext w w' := by
 obtain ⟨g, hg⟩ := exQ (w.heap.size)
 have hx := za w (.cells zM 37)
 have hn : (w.alloc (.cells zM 37)).heap.size = g + 1 := by simp [hg]
 have HC := qh (zaR N true D b aa mm cap _ (Lay.fr hr hx (fun k hk => ⟨hD k hk, fun h => h⟩)) (fun k hk => nqQ (hD k hk) hx.size) hl)
 have HB := qh (show Blk (w.alloc (.cells zM 37)) g zM 37 from hg ▸ zk w _ _)
 have H := qh (show Ext w (w.alloc (.cells zM 37)) ∧ w.heap.size = g ∧ (w.alloc (.cells zM 37)).heap.size = g + 1 ∧ ∀ k, D k → k < g from ⟨hx, hg, hn, fun k hk => hg ▸ hD k hk⟩)
 clear hr hD hl hx hn
 go_enter Tryz.func16, Tryz.ntmps16
 go_wp2_with fail
 (try rw [hg])
 clear hg
 generalize w.alloc (.cells zM 37) = w1 at *
 obtain ⟨m, hm⟩ := exQ ((yl true b).1)
 obtain ⟨vd, qa⟩ := exQ ((yl true b).2)
 rw [hm, qa] at HC
 have qD := qh (anQ hm qa)
 clear hm qa
 refine HC.o.mono ?_
 rintro e w2 ⟨v, rfl, hM, x2⟩
 have mO := qh (zaS hM)
 have H2 := qh (anQ hM (anQ (HB.o.ext x2) x2))
 clear hM x2 HC HB
 go_wp2_with (first | with_reducible refine Jx 37 ?_ | fail)
 refine qh ?_
 refine H2.o.2.1.wpList_store rfl 37 (.tmp 2) (.tmp 6) rfl rfl rfl (by kernel_rfl) rfl mO.o ?_
 clear mO
 go_wp2_with fail
 (try simp only [Exit.inBlock, Exit.then])
 have hs := yE w2 g (zs m v)
 have dG := H2.o.2.1.setRow (zs m v)
 have hX := Fr.new (Fr.trans (Ext.trans H.o.1 H2.o.2.2) hs (fun _ _ e => e.elim) (fun k _ e => e)) (fun k e => by have e' : k = g := e; have := H.o.2.1; omega)
 refine bodyPost_ret (jZ Tryz.results16 _ rfl dG _ Tryz.underlying37 rfl (by kernel_rfl)) rfl ⟨v, by rw [qD.o.1, qD.o.2]; rfl, ?_, hX⟩
 rw [qD.o.1]
 have h4 := H.o.2.2.2
 have h5 := H.o.2.2.1
 exact (H2.o.1.fr hs (fun k hk => ⟨hk.2, fun e => by have e' : k = g := e; rcases hk.1 with q | q; have := h4 k q; omega; omega⟩)).mono (fun k hk => nqQ hk.2 hs.size)
def ZP (f : UInt32) (l : List Nam) : Prop := (∀ n ∈ l, n.fn = f ∧ z9 n.name = true) ∧ l.Pairwise (fun a b => a.idx.toNat < b.idx.toNat)
variable {f : UInt32}
theorem zhG {bz : List Nam} {n : Nam} (hf : n.fn = f) (ht : z9 n.name = true) (hs : (wNam n).length < 4294967296) (hb : zdx bz n.idx = false) (R : List UInt8) : yb f (bz, ⟨wNam n ++ R, 0⟩) = (bz ++ [n], ⟨R, 0⟩) := by
 obtain ⟨fn, idx, name⟩ := n
 have BW : fn = f := hf
 subst BW
 unfold wNam at hs ⊢
 rw [laQ] at hs
 unfold yb
 simp only [List.append_assoc]
 rw [zbC idx]
 dsimp only
 rw [Yv ht (by omega)]
 dsimp only
 have kW : zdx bz idx = false := hb
 rw [kW, if_neg (by simp)]
theorem ziD (n : Nam) : 1 ≤ (wNam n).length := by
 unfold wNam
 have := zU n.idx.toNat
 rw [laQ]; omega
variable {l : List Nam}
theorem zbJ (h : ZP f l) (hs : (l.flatMap wNam).length < 4294967296) (R : List UInt8) : ∀ k, k ≤ l.length → yN (yb f) k ([], ⟨l.flatMap wNam ++ R, 0⟩) = (l.take k, ⟨(l.drop k).flatMap wNam ++ R, 0⟩)
 | 0, _ => by simp [yN]
 | k + 1, hk => by
  have ah : k < l.length := hk
  rw [yN, zbJ h hs R k (by omega), List.drop_eq_getElem_cons ah, List.flatMap_cons, List.append_assoc]
  have hm := h.1 _ (List.getElem_mem ah)
  have hw := zig (f := wNam) (List.getElem_mem ah)
  rw [zhG hm.1 hm.2 (by omega), tsQ ah]
  unfold zdx
  cases hg : (l.take k).getLast? with
  | none => rfl
  | some x =>
   have hx := List.mem_of_getLast? hg
   obtain ⟨j, hj, rfl⟩ := List.mem_iff_getElem.1 hx
   rw [ltQ] at hj
   have := List.pairwise_iff_getElem.1 h.2 j k (by omega) ah (by omega)
   rw [List.getElem_take]
   exact decide_eq_false (by omega)
theorem zfo (h : ZP f l) (hs : (wVec wNam l).length < 4294967296) : Rd (ya f) (wVec wNam l) l := fun R => by
 unfold wVec at hs ⊢
 rw [laQ] at hs
 have h3 := zfh (f := wNam) (l := l) (fun x _ => ziD x)
 unfold ya
 rw [List.append_assoc, zcW (by omega) (by rw [laQ]; omega)]
 dsimp only
 rw [zbJ h (by omega) R _ (Nat.le_refl _), tlQ, List.drop_length, List.flatMap_nil, List.nil_append]
variable {bP : List Nam}
theorem zjI {seen : List UInt32} {last : UInt32} {g : UInt32 × List Nam} (hn : g.1 ∉ seen) (h : ZP g.1 g.2) (hs : (wGrp g).length < 4294967296) (R : List UInt8) :
 yw true ⟨seen, last, bP, ⟨wGrp g ++ R, 0⟩⟩ = ⟨g.1 :: seen, g.1, bP ++ g.2, ⟨R, 0⟩⟩ := by
 unfold wGrp at hs ⊢
 rw [laQ] at hs
 unfold yw
 simp only [List.append_assoc]
 rw [zbC g.1]
 dsimp only
 rw [if_neg (fun q => q.elim hn (fun q => by cases q.2)), zfo h (by omega)]
theorem ziE (g : UInt32 × List Nam) : 1 ≤ (wGrp g).length := by
 unfold wGrp
 have := zU g.1.toNat
 rw [laQ]; omega
variable {gs : List (UInt32 × List Nam)}
theorem zco (hn : (gs.map (·.1)).Nodup) (h : ∀ g ∈ gs, ZP g.1 g.2) (hs : (gs.flatMap wGrp).length < 4294967296) (R : List UInt8) : ∀ k, k ≤ gs.length →
 ∃ la, yN (yw true) k ⟨[], 0, [], ⟨gs.flatMap wGrp ++ R, 0⟩⟩ = ⟨((gs.take k).map (·.1)).reverse, la, (gs.take k).flatMap (·.2), ⟨(gs.drop k).flatMap wGrp ++ R, 0⟩⟩
 | 0, _ => ⟨0, by simp [yN]⟩
 | k + 1, hk => by
  have ah : k < gs.length := hk
  obtain ⟨la, ih⟩ := zco hn h hs R k (by omega)
  have hw := zig (f := wGrp) (List.getElem_mem ah)
  refine ⟨gs[k].1, ?_⟩
  rw [tsQ ah, List.map_append, List.reverse_append, List.flatMap_append, yN, ih, List.drop_eq_getElem_cons ah, List.flatMap_cons, List.append_assoc, zjI _ (h _ (List.getElem_mem ah)) (by omega)]
  ·simp only [List.map_cons, List.map_nil, List.reverse_cons, List.reverse_nil, List.nil_append, List.cons_append, List.flatMap_cons, List.flatMap_nil, List.append_nil]
  ·intro hm
   rw [List.mem_reverse] at hm
   obtain ⟨j, hj, e⟩ := List.mem_iff_getElem.1 hm
   rw [List.length_map, ltQ] at hj
   rw [List.getElem_map, List.getElem_take] at e
   have := List.pairwise_iff_getElem.1 hn j k (by rw [List.length_map]; omega) (by rw [List.length_map]; exact ah) (by omega)
   rw [List.getElem_map, List.getElem_map] at this
   exact this e
theorem zjJ (hn : (gs.map (·.1)).Nodup) (h : ∀ g ∈ gs, ZP g.1 g.2) (hs : (wVec wGrp gs).length < 4294967296) : Rd (yZ true) (wVec wGrp gs) (gs.flatMap (·.2)) := fun R => by
 unfold wVec at hs ⊢
 rw [laQ] at hs
 have h3 := zfh (f := wGrp) (l := gs) (fun x _ => ziE x)
 obtain ⟨la, e⟩ := zco hn h (by omega) R gs.length (Nat.le_refl _)
 unfold yZ
 rw [List.append_assoc, zcW (by omega) (by rw [laQ]; omega)]
 dsimp only
 rw [e, tlQ, List.drop_length, List.flatMap_nil, List.nil_append]
theorem zd6 {a b c : Nam} (h1 : y5 b a = true) (h2 : y5 c b = true) : y5 c a = true := by
 unfold y5 at *
 simp only [Bool.or_eq_true, Bool.and_eq_true, decide_eq_true_eq] at *
 rcases h1 with h1 | ⟨h1, h1'⟩ <;> rcases h2 with h2 | ⟨h2, EG⟩
 ·left; omega
 ·left; rw [h2]; exact h1
 ·left; rw [← h1]; exact h2
 ·right; exact ⟨h2.trans h1, by omega⟩
theorem xA (h : zet l = true) (i : Nat) (hi : i < l.length) : z9 l[i].name = true ∧ ∀ (h1 : 0 < i), y5 l[i] (l[i - 1]'(by omega)) = true := by
 unfold zet at h
 have := List.all_eq_true.1 h i (List.mem_range.2 hi)
 rw [List.getElem?_eq_getElem hi] at this
 simp only [Bool.and_eq_true, Bool.or_eq_true, decide_eq_true_eq] at this
 refine ⟨this.1, fun h1 => ?_⟩
 have h2 := this.2.resolve_left (by omega)
 rw [List.getElem?_eq_getElem (by omega : i - 1 < l.length)] at h2
 exact h2
theorem zcp (h : zet l = true) : l.Pairwise (fun a b => y5 b a = true) := by
 refine List.pairwise_iff_getElem.2 fun i j hi hj rF => ?_
 have key : ∀ d (hd : i + d + 1 < l.length), y5 (l[i + d + 1]'hd) l[i] = true := by
  intro d
  induction d with
  | zero => intro hd; exact (xA h (i + 0 + 1) hd).2 (by omega)
  | succ d ih =>
   intro hd
   exact zd6 (ih (by omega)) ((xA h (i + (d + 1) + 1) hd).2 (by omega))
 have := key (j - i - 1) (by omega)
 have e : i + (j - i - 1) + 1 = j := by omega
 simpa [e] using this
theorem zhH (ht : ∀ n ∈ l, n.fn = f ∧ z9 n.name = true) (hp : l.Pairwise (fun a b => y5 b a = true)) : ZP f l := by
 refine ⟨ht, List.Pairwise.imp_of_mem (fun {a b} ha hb pv => ?_) hp⟩
 unfold y5 at pv
 simp only [Bool.or_eq_true, Bool.and_eq_true, decide_eq_true_eq] at pv
 rw [(ht a ha).1, (ht b hb).1] at pv
 rcases pv with h | h
 ·omega
 ·exact h.2
theorem zcq (h : zet l = true) : ∀ n ∈ l, z9 n.name = true := fun n hn => by
 obtain ⟨i, hi, rfl⟩ := List.mem_iff_getElem.1 hn
 exact (xA h i hi).1
theorem zhI (h : zet l = true) (hG : jU l gs) : ∀ g ∈ gs, ZP g.1 g.2 := fun g hg => by
 rw [hG.2.2 g hg]
 refine zhH (fun n hn => ?_) ((zcp h).filter _)
 rw [List.mem_filter] at hn
 exact ⟨of_decide_eq_true hn.2, zcq h n hn.1⟩
def SrtN (l : List Nam) : Prop := l.Pairwise (fun a b => a.fn.toNat ≤ b.fn.toNat)
theorem zd7 (bP : List Nam) (f : UInt32) : ∀ k, k ≤ bP.length → JO bP f k ≤ k ∧ (∀ i (hi : i < bP.length), JO bP f k ≤ i → i < k → f.toNat < bP[i].fn.toNat) ∧ (0 < JO bP f k → ∀ (h2 : JO bP f k - 1 < bP.length), (bP[JO bP f k - 1]'h2).fn.toNat ≤ f.toNat)
 | 0, _ => ⟨Nat.le_refl _, fun i _ _ h => absurd h (Nat.not_lt_zero _), fun h => absurd h (Nat.lt_irrefl _)⟩
 | k + 1, hk => by
  have ah : k < bP.length := hk
  have i4 : JO bP f (k + 1) = if f.toNat < bP[k].fn.toNat then JO bP f k else k + 1 := by
   rw [JO, List.getElem?_eq_getElem ah]
  by_cases h : f.toNat < bP[k].fn.toNat
  ·rw [if_pos h] at i4
   obtain ⟨h1, h2, h3⟩ := zd7 bP f k (by omega)
   refine ⟨by omega, fun i hi h4 h5 => ?_, fun h4 h5 => ?_⟩
   ·rcases Nat.lt_or_ge i k with h6 | h6
    ·exact h2 i hi (by omega) h6
    ·obtain rfl : i = k := by omega
     exact h
   ·simp only [i4] at h4 h5 ⊢
    exact h3 h4 h5
  ·rw [if_neg h] at i4
   refine ⟨by omega, fun i hi h4 h5 => by omega, fun h4 h5 => ?_⟩
   simp only [i4, Nat.add_sub_cancel] at h5 ⊢
   omega
theorem zhJ (hs : SrtN bP) (n : Nam) : SrtN (insN bP n) ∧ ∀ k, (insN bP n).filter (fk k) = bP.filter (fk k) ++ [n].filter (fk k) := by
 obtain ⟨h1, h2, h3⟩ := zd7 bP n.fn bP.length (Nat.le_refl _)
 generalize hp : JO bP n.fn bP.length = p at *
 have eR : ∀ x ∈ bP.take p, x.fn.toNat ≤ n.fn.toNat := fun x hx => by
  obtain ⟨j, hj, rfl⟩ := List.mem_iff_getElem.1 hx
  rw [ltQ] at hj
  rw [List.getElem_take]
  have h4 := h3 (by omega) (by omega)
  rcases Nat.lt_or_ge j (p - 1) with h5 | h5
  ·have := List.pairwise_iff_getElem.1 hs j (p - 1) (by omega) (by omega) h5
   omega
  ·have e : j = p - 1 := by omega
   subst e
   exact h4
 have iz : ∀ x ∈ bP.drop p, n.fn.toNat < x.fn.toNat := fun x hx => by
  obtain ⟨j, hj, rfl⟩ := List.mem_iff_getElem.1 hx
  rw [ldQ] at hj
  rw [List.getElem_drop]
  exact h2 (p + j) (by omega) (by omega) (by omega)
 have i4 : insN bP n = bP.take p ++ n :: bP.drop p := by unfold insN; rw [hp]
 have ww : SrtN (bP.take p ++ bP.drop p) := by rw [List.take_append_drop]; exact hs
 obtain ⟨q1, q2, q3⟩ := List.pairwise_append.1 ww
 refine ⟨?_, fun k => ?_⟩
 ·rw [i4]
  refine List.pairwise_append.2 ⟨q1, List.pairwise_cons.2 ⟨fun x hx => by have := iz x hx; omega, q2⟩, fun a ha b hb => ?_⟩
  rcases List.mem_cons.1 hb with rfl | hb
  ·exact eR a ha
  ·exact q3 a ha b hb
 ·rw [i4]
  conv => rhs; rw [← List.take_append_drop p bP]
  rw [List.filter_append, List.filter_append, List.append_assoc]
  congr 1
  by_cases hk : n.fn = k
  ·subst hk
   have hd : (bP.drop p).filter (fk n.fn) = [] := List.filter_eq_nil_iff.2 fun x hx he => by
    have e : x.fn = n.fn := of_decide_eq_true he
    have := iz x hx
    rw [e] at this
    omega
   rw [List.filter_cons_of_pos (by simp [fk]), List.filter_cons_of_pos (by simp [fk]), hd]
   rfl
  ·rw [List.filter_cons_of_neg (by simp [fk, hk]), List.filter_cons_of_neg (by simp [fk, hk])]
   simp
theorem zbK : ∀ (l bP : List Nam), SrtN bP → SrtN (l.foldl insN bP) ∧ ∀ k, (l.foldl insN bP).filter (fk k) = bP.filter (fk k) ++ l.filter (fk k)
 | [], bP, h => ⟨h, fun k => by simp⟩
 | n :: l, bP, h => by
  obtain ⟨h1, h2⟩ := zhJ h n
  obtain ⟨h3, h4⟩ := zbK l (insN bP n) h1
  refine ⟨h3, fun k => ?_⟩
  rw [List.foldl_cons, h4 k, h2 k, List.append_assoc, ← List.filter_append]
  rfl
theorem zhK : ∀ (l m : List Nam), SrtN l → SrtN m → (∀ k, l.filter (fk k) = m.filter (fk k)) → l = m
 | [], [], _, _, _ => rfl
 | [], y :: m, _, _, h => by
  have := h y.fn
  rw [List.filter_cons_of_pos (by simp [fk])] at this
  cases this
 | x :: l, [], _, _, h => by
  have := h x.fn
  rw [List.filter_cons_of_pos (by simp [fk])] at this
  cases this
 | x :: l, y :: m, hl, hm, h => by
  obtain ⟨l1, l2⟩ := List.pairwise_cons.1 hl
  obtain ⟨m1, m2⟩ := List.pairwise_cons.1 hm
  have hx : y.fn.toNat ≤ x.fn.toNat := by
   have : x ∈ (y :: m).filter (fk x.fn) := by rw [← h x.fn]; exact List.mem_filter.2 ⟨List.mem_cons_self .., by simp [fk]⟩
   rcases List.mem_cons.1 (List.mem_filter.1 this).1 with e | e
   ·rw [e]; exact Nat.le_refl _
   ·exact m1 x e
  have hy : x.fn.toNat ≤ y.fn.toNat := by
   have : y ∈ (x :: l).filter (fk y.fn) := by rw [h y.fn]; exact List.mem_filter.2 ⟨List.mem_cons_self .., by simp [fk]⟩
   rcases List.mem_cons.1 (List.mem_filter.1 this).1 with e | e
   ·rw [e]; exact Nat.le_refl _
   ·exact l1 y e
  have he : x.fn = y.fn := UInt32.toNat_inj.1 (by omega)
  have h0 := h x.fn
  rw [List.filter_cons_of_pos (by simp [fk]), List.filter_cons_of_pos (by simp [fk, he])] at h0
  injection h0 with e1 e2
  subst e1
  rw [zhK l m l2 m2 (fun k => ?_)]
  have hk := h k
  by_cases hkk : x.fn = k
  ·rw [List.filter_cons_of_pos (by simp [fk, hkk]), List.filter_cons_of_pos (by simp [fk, hkk])] at hk
   injection hk
  ·rw [List.filter_cons_of_neg (by simp [fk, hkk]), List.filter_cons_of_neg (by simp [fk, hkk])] at hk
   exact hk
theorem YX (k : UInt32) : ∀ {gs : List (UInt32 × List Nam)}, (gs.map (·.1)).Nodup → (∀ g ∈ gs, g.2 = l.filter (fk g.1)) → (gs.flatMap (·.2)).filter (fk k) = if k ∈ gs.map (·.1) then l.filter (fk k) else []
 | [], _, _ => by simp
 | g :: gs, hn, h => by
  rw [List.map_cons, List.nodup_cons] at hn
  have ih := YX k hn.2 (fun g hg => h g (List.mem_cons_of_mem _ hg))
  rw [List.flatMap_cons, List.filter_append, ih, h g (List.mem_cons_self ..), List.filter_filter]
  by_cases hk : g.1 = k
  ·subst hk
   rw [if_neg hn.1, if_pos (by simp), List.append_nil]
   simp
  ·have e : l.filter (fun a => fk k a && fk g.1 a) = [] := List.filter_eq_nil_iff.2 fun x _ he => by
    simp only [Bool.and_eq_true, decide_eq_true_eq] at he
    exact hk (he.2.symm.trans he.1)
   rw [e, List.nil_append]
   by_cases hm : k ∈ gs.map (·.1)
   ·rw [if_pos hm, if_pos (by rw [List.map_cons]; exact List.mem_cons_of_mem _ hm)]
   ·rw [if_neg hm, if_neg (by rw [List.map_cons, List.mem_cons]; rintro (e | e); exact hk e.symm; exact hm e)]
theorem zeV (hG : jU l gs) : Jw (gs.flatMap (·.2)) = Jw l := by
 obtain ⟨h1, h2⟩ := zbK (gs.flatMap (·.2)) [] List.Pairwise.nil
 obtain ⟨h3, h4⟩ := zbK l [] List.Pairwise.nil
 refine zhK _ _ h1 h3 fun k => ?_
 unfold Jw
 rw [h2 k, h4 k, List.filter_nil, List.nil_append, List.nil_append, YX k hG.1 hG.2.2]
 split
 ·rfl
 ·rename_i hk
  exact (List.filter_eq_nil_iff.2 fun x hx he => hk ((hG.2.1 k).2 ⟨x, hx, of_decide_eq_true he⟩)).symm
end Go.Proofs.YtejgninpjhcgnaaGreatDoor
