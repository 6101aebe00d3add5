/- Texts of this proof, one behind the other. -/
import Derived.Test.YtejgninpjhcgnaaGreatDoorPart17
import Derived.Deep.Cut
import Derived.Deep.CutRange
namespace Go.Proofs.YtejgninpjhcgnaaGreatDoor
open Go.RowKit
set_option linter.unusedSimpArgs false
set_option linter.unusedVariables false
set_option maxRecDepth 100000
set_option maxHeartbeats 8000000
theorem zco (n : Nat) : (Tryz.prog.info? 67).map (fun i => (i.zero, i.size, i.bytes)) = some (some (.slice none 0 0), (Lay.ins n).slice.size, 24) := by kernel_rfl
variable {n : Nat} {A : Nat → Prop} {w : World}
theorem ziZ {a : Option Addr} {m cap : Nat} {xs : List (List Ins)} (h : (Lay.ins n).slice.slice.rd A w [.slice a m cap] xs) (i : Nat) (hi : i < xs.length) :
 ∃ b o a1 c1, a = some ⟨b, o, none⟩ ∧ w.cell? ⟨b, o + i, none⟩ = some (.slice a1 xs[i].length c1) ∧ (Lay.ins n).slice.rd A w [.slice a1 xs[i].length c1] xs[i] := by
 have hm : xs.length = m := by obtain ⟨_, _, e, _⟩ := h; simp only [List.cons.injEq, Value.slice.injEq, and_true] at e; exact e.2.1.symm
 obtain ⟨b, o, es, eY, e, hA, _, hr, hc⟩ := Lay.slice_at h i (by omega)
 obtain ⟨a1, c1, rfl, -, -⟩ := Lay.slice_form2 hr
 exact ⟨b, o, a1, c1, e, by rw [show o + i = o + i * 1 from by omega]; exact hc 0 (by show 0 < 1; omega), hr⟩
variable {m : Mod}
theorem zcp {v : ModV} (hM : ModAt n A w m v) (hA : ∀ k, A k → k < w.heap.size) (hl : m.globals.length + m.elements.length + m.datas.length ≤ 4294967296) :
 Calls Tryz.prog 6 #[.agg (zt m v)] w fun e w' => ∃ b, e = .returned (.bool b) ∧ (b = false → Clean m) ∧ Ext w w' := by
 obtain ⟨vA, vB, vC, vD, vE, vF, vG, vH, vI, vJ, vK, vL, vM⟩ := v
 obtain ⟨aB, cB, e, h1, h2⟩ := Lay.slice_form2 hM.imports
 have lB : (m.imports.length : Int) ≤ 9223372036854775807 := by have := nlQ h1 h2; simp only [maxLen] at this; omega
 obtain rfl : vB = .slice aB m.imports.length cB := by simpa using e
 clear e h1 h2
 obtain ⟨aG, cG, e, h1, h2⟩ := Lay.slice_form2 hM.globals
 have lG : (m.globals.length : Int) ≤ 9223372036854775807 := by have := nlQ h1 h2; simp only [maxLen] at this; omega
 obtain rfl : vG = .slice aG m.globals.length cG := by simpa using e
 clear e h1 h2
 obtain ⟨aF, cF, e, h1, h2⟩ := Lay.slice_form2 hM.elements
 have lF : (m.elements.length : Int) ≤ 9223372036854775807 := by have := nlQ h1 h2; simp only [maxLen] at this; omega
 obtain rfl : vF = .slice aF m.elements.length cF := by simpa using e
 clear e h1 h2
 obtain ⟨aJ, cJ, e, h1, h2⟩ := Lay.slice_form2 hM.datas
 have lJ : (m.datas.length : Int) ≤ 9223372036854775807 := by have := nlQ h1 h2; simp only [maxLen] at this; omega
 obtain rfl : vJ = .slice aJ m.datas.length cJ := by simpa using e
 clear e h1 h2
 have H := qh (anQ hM (anQ hA hl))
 obtain ⟨gm, ir⟩ := exQ (w.heap.size)
 have HB := qh (show Blk (w.alloc (.cells #[.int .u32 (m.version.toNat : Int), .bool m.hasStart, .int .u32 (m.start.toNat : Int), vA, .slice aB m.imports.length cB, vC, vD, vE, .slice aF m.elements.length cF, .slice aG m.globals.length cG, vH, vI, .slice aJ m.datas.length cJ, vK, .string (zd m.named), vL, vM] 37)) gm #[.int .u32 (m.version.toNat : Int), .bool m.hasStart, .int .u32 (m.start.toNat : Int), vA, .slice aB m.imports.length cB, vC, vD, vE, .slice aF m.elements.length cF, .slice aG m.globals.length cG, vH, vI, .slice aJ m.datas.length cJ, vK, .string (zd m.named), vL, vM] 37 ∧ Ext w (w.alloc (.cells #[.int .u32 (m.version.toNat : Int), .bool m.hasStart, .int .u32 (m.start.toNat : Int), vA, .slice aB m.imports.length cB, vC, vD, vE, .slice aF m.elements.length cF, .slice aG m.globals.length cG, vH, vI, .slice aJ m.datas.length cJ, vK, .string (zd m.named), vL, vM] 37)) from ⟨ir ▸ zl w _ _, za _ _⟩)
 clear hM hA hl
 unfold zt
 dsimp only
 go_enter Tryz.func6, Tryz.ntmps6
 go_upto_region 1 with fail
 generalize w.alloc (.cells #[.int .u32 (m.version.toNat : Int), .bool m.hasStart, .int .u32 (m.start.toNat : Int), vA, .slice aB m.imports.length cB, vC, vD, vE, .slice aF m.elements.length cF, .slice aG m.globals.length cG, vH, vI, .slice aJ m.datas.length cJ, vK, .string (zd m.named), vL, vM] 37) = W1 at *
 clear ir
 have cw := HB.o.1.cell
 go_wp2_with fail
 clear cw
 go_loopw [4, 17] (fun s4 qI w' => ∃ i, i ≤ m.imports.length ∧ qI = .int .i64 i ∧ Hq (Ext W1 w' ∧ ∀ x ∈ m.imports.take i, CImp x)) (fun _ qI _ => m.imports.length - (intOf qI).toNat)
 case atStart => exact ⟨0, nzQ _, rfl, Fr.refl _ _, fun x hx => nomatch hx⟩
 case round =>
  obtain ⟨i, hi, rfl, hV⟩ := hrel
  by_cases aj : i < m.imports.length
  ·obtain ⟨b, o, rfl, e0, e1, e2, e3, e4, e5, e6, e7, e8, -⟩ := Lay.imp_at2 H.o.1.imports i aj
   have bU := qh (show m.imports.take (i + 1) = m.imports.take i ++ [m.imports[i]] from tsQ aj)
   generalize m.imports[i] = x at *
   replace e0 := (Ext.trans HB.o.2 hV.o.1).cell e0 (fun h => h)
   replace e1 := (Ext.trans HB.o.2 hV.o.1).cell e1 (fun h => h)
   replace e2 := (Ext.trans HB.o.2 hV.o.1).cell e2 (fun h => h)
   replace e3 := (Ext.trans HB.o.2 hV.o.1).cell e3 (fun h => h)
   replace e4 := (Ext.trans HB.o.2 hV.o.1).cell e4 (fun h => h)
   replace e5 := (Ext.trans HB.o.2 hV.o.1).cell e5 (fun h => h)
   replace e6 := (Ext.trans HB.o.2 hV.o.1).cell e6 (fun h => h)
   replace e7 := (Ext.trans HB.o.2 hV.o.1).cell e7 (fun h => h)
   replace e8 := (Ext.trans HB.o.2 hV.o.1).cell e8 (fun h => h)
   by_cases hk : x.kind = 3
   ·have wk : (x.kind == 3) = true := by rw [hk]; rfl
    clear hk
    go_wp2
    go_ret
    exact ⟨true, rfl, (fun h => nomatch h), Ext.trans (Ext.trans HB.o.2 hV.o.1) (za _ _)⟩
   ·have wk : (x.kind == 3) = false := by rw [beq_eq_false_iff_ne]; exact hk
    have hk := qh hk
    go_wp2_with fail
    go_roundw
    case rel =>
     refine ⟨i + 1, by omega, by go_num, qh ⟨Ext.trans hV.o.1 (za _ _), ?_⟩⟩
     rw [bU.o]
     intro y hy
     rcases List.mem_append.1 hy with hy | hy
     ·exact hV.o.2 y hy
     ·obtain rfl := List.mem_singleton.1 hy; exact hk.o
    case measure => simp [intOf]; omega
  ·obtain rfl : i = m.imports.length := by omega
   have hI := qh (show ∀ x ∈ m.imports, CImp x from by have := hV.o.2; rw [tlQ] at this; exact this)
   have HX := qh (Ext.trans HB.o.2 hV.o.1)
   have ug := qh (HB.o.1.ext hV.o.1)
   clear HB hV hi aj
   generalize wr = W2 at *
   have kM := qh (Fr.refl (fun _ => False) W2)
   have cw := ug.o.cell
   go_wp2_with fail
   clear cw
   go_loopw [5, 7, 28] (fun s5 s7 qu w' => ∃ i, i ≤ m.globals.length ∧ qu = .int .i64 i ∧ Hq (Ext W2 w' ∧ OwnG (Lay.ins n).slice 67 W2.heap.size (fun _ => False) w' s5 (([] : List (List Ins)) ++ (m.globals.take i).map (·.init)))) (fun _ _ qu _ => m.globals.length - (intOf qu).toNat)
   case atStart => exact ⟨0, nzQ _, rfl, kM.o, by simpa using zv _ _ _ _ _⟩
   case round =>
    obtain ⟨i, hi, rfl, hV⟩ := hrel
    obtain ⟨ap, am, ar, rfl⟩ := hV.o.2.shape
    by_cases aj : i < m.globals.length
    ·obtain ⟨b, o, ax, cx, rfl, e0, e1, e2, r0, r1, -⟩ := Lay.glob_at2 H.o.1.globals i aj
     have bU := qh (show m.globals.take (i + 1) = m.globals.take i ++ [m.globals[i]] from tsQ aj)
     generalize m.globals[i] = x at *
     replace e0 := (Ext.trans HX.o hV.o.1).cell e0 (fun h => h)
     replace e1 := (Ext.trans HX.o hV.o.1).cell e1 (fun h => h)
     replace e2 := (Ext.trans HX.o hV.o.1).cell e2 (fun h => h)
     have r1 := qh r1
     have hX := qh (Ext.trans hV.o.1 (za wr (.cells #[.int .i64 x.ty, .bool x.mtb, .slice ax x.init.length cx] 69)))
     have hO := qh (hV.o.2.ext (za wr (.cells #[.int .i64 x.ty, .bool x.mtb, .slice ax x.init.length cx] 69)))
     have eW := qh (show w.heap.size ≤ W2.heap.size ∧ W2.heap.size ≤ wr.heap.size from ⟨HX.o.size, hV.o.1.size⟩)
     go_wp2_with (at_builtin; refine Hq.o ?_)
     refine zU (Lay.ins n).slice W2.heap.size (wr.heap.size + 1) (by simp) rfl (.tmp 32) (.tmp 35) _ _ _ 24 rfl Tryz.underlying66 (zco n) rfl (by omega) (Nat.succ_pos _) (.slice ap am ar) _ x.init _ rfl rfl hO.o (Lay.mono _ (Lay.fr r1.o (Ext.trans HX.o hX.o) (fun k hk => ⟨H.o.2.1 k hk, fun h => h⟩)) (fun k hk => ?_)) (by have := eW.o; simp; omega) (by have := H.o.2.2; simp only [laQ, List.length_map, ltQ, List.length_nil]; omega) ?_
     ·have := H.o.2.1 k hk
      have := eW.o
      exact ⟨fun h => h, by simp; omega, fun e => by have := (hO.o.lt k e.symm).1; omega⟩
     intro v1 w2 h1 h2 h3
     have aU : Hq (Ext W2 w2 ∧ OwnG (Lay.ins n).slice 67 W2.heap.size (fun _ => False) w2 v1 (([] : List (List Ins)) ++ (m.globals.take (i + 1)).map (·.init))) := by
      refine ⟨Fr.new (Ext.fr hX.o h2) (fun k e => by have := (hO.o.lt k e.symm).1; omega), ?_⟩
      rw [bU.o, List.map_append, ← List.append_assoc]
      exact h1
     clear h1 h2 h3 e0 e1 e2
     go_wp2_with fail
     go_roundw
     case rel => exact ⟨i + 1, by omega, by go_num, aU⟩
     case measure => simp [intOf]; omega
    ·obtain rfl : i = m.globals.length := by omega
     have HO := qh (show OwnG (Lay.ins n).slice 67 W2.heap.size (fun _ => False) wr (.slice ap am ar) (([] : List (List Ins)) ++ m.globals.map (·.init)) from by have := hV.o.2; rw [tlQ] at this; exact this)
     have iG := qh hV.o.1
     clear kM hV hi aj
     have kM := iG
     clear iG
     generalize wr = W3 at *
     have cw := (ug.o.ext kM.o).cell
     go_wp2_with fail
     clear cw
     go_loopw [5, 9, 41] (fun s5 s9 qA w' => ∃ i, i ≤ m.elements.length ∧ qA = .int .i64 i ∧ Hq (Ext W2 w' ∧ OwnG (Lay.ins n).slice 67 W2.heap.size (fun _ => False) w' s5 ((([] : List (List Ins)) ++ m.globals.map (·.init)) ++ (m.elements.take i).map (·.off)))) (fun _ _ qA _ => m.elements.length - (intOf qA).toNat)
     case atStart => exact ⟨0, nzQ _, rfl, kM.o, by simpa using HO.o⟩
     case round =>
      obtain ⟨i, hi, rfl, hV⟩ := hrel
      obtain ⟨ap, am, ar, rfl⟩ := hV.o.2.shape
      by_cases aj : i < m.elements.length
      ·obtain ⟨b, o, ax, cx, ay, cy, rfl, e0, e1, e2, r0, r1, -⟩ := Lay.elem_at2 H.o.1.elements i aj
       have bU := qh (show m.elements.take (i + 1) = m.elements.take i ++ [m.elements[i]] from tsQ aj)
       generalize m.elements[i] = x at *
       replace e0 := (Ext.trans HX.o hV.o.1).cell e0 (fun h => h)
       replace e1 := (Ext.trans HX.o hV.o.1).cell e1 (fun h => h)
       replace e2 := (Ext.trans HX.o hV.o.1).cell e2 (fun h => h)
       have r0 := qh r0
       have hX := qh (Ext.trans hV.o.1 (za wr (.cells #[.int .u32 (x.index.toNat : Int), .slice ax x.off.length cx, .slice ay x.ids.length cy] 71)))
       have hO := qh (hV.o.2.ext (za wr (.cells #[.int .u32 (x.index.toNat : Int), .slice ax x.off.length cx, .slice ay x.ids.length cy] 71)))
       have eW := qh (show w.heap.size ≤ W2.heap.size ∧ W2.heap.size ≤ wr.heap.size from ⟨HX.o.size, hV.o.1.size⟩)
       go_wp2_with (at_builtin; refine Hq.o ?_)
       refine zU (Lay.ins n).slice W2.heap.size (wr.heap.size + 1) (by simp) rfl (.tmp 45) (.tmp 48) _ _ _ 24 rfl Tryz.underlying66 (zco n) rfl (by omega) (Nat.succ_pos _) (.slice ap am ar) _ x.off _ rfl rfl hO.o (Lay.mono _ (Lay.fr r0.o (Ext.trans HX.o hX.o) (fun k hk => ⟨H.o.2.1 k hk, fun h => h⟩)) (fun k hk => ?_)) (by have := eW.o; simp; omega) (by have := H.o.2.2; simp only [laQ, List.length_map, ltQ, List.length_nil]; omega) ?_
       ·have := H.o.2.1 k hk
        have := eW.o
        exact ⟨fun h => h, by simp; omega, fun e => by have := (hO.o.lt k e.symm).1; omega⟩
       intro v1 w2 h1 h2 h3
       have aU : Hq (Ext W2 w2 ∧ OwnG (Lay.ins n).slice 67 W2.heap.size (fun _ => False) w2 v1 ((([] : List (List Ins)) ++ m.globals.map (·.init)) ++ (m.elements.take (i + 1)).map (·.off))) := by
        refine ⟨Fr.new (Ext.fr hX.o h2) (fun k e => by have := (hO.o.lt k e.symm).1; omega), ?_⟩
        rw [bU.o, List.map_append, ← List.append_assoc]
        exact h1
       clear h1 h2 h3 e0 e1 e2
       go_wp2_with fail
       go_roundw
       case rel => exact ⟨i + 1, by omega, by go_num, aU⟩
       case measure => simp [intOf]; omega
      ·obtain rfl : i = m.elements.length := by omega
       have HO := qh (show OwnG (Lay.ins n).slice 67 W2.heap.size (fun _ => False) wr (.slice ap am ar) ((([] : List (List Ins)) ++ m.globals.map (·.init)) ++ m.elements.map (·.off)) from by have := hV.o.2; rw [tlQ] at this; exact this)
       have iG := qh hV.o.1
       clear kM hV hi aj
       have kM := iG
       clear iG
       generalize wr = W4 at *
       have cw := (ug.o.ext kM.o).cell
       go_wp2_with fail
       clear cw
       go_loopw [5, 11, 54] (fun s5 od ww w' => ∃ i, i ≤ m.datas.length ∧ ww = .int .i64 i ∧ Hq (Ext W2 w' ∧ OwnG (Lay.ins n).slice 67 W2.heap.size (fun _ => False) w' s5 (((([] : List (List Ins)) ++ m.globals.map (·.init)) ++ m.elements.map (·.off)) ++ (m.datas.take i).map (·.off)))) (fun _ _ ww _ => m.datas.length - (intOf ww).toNat)
       case atStart => exact ⟨0, nzQ _, rfl, kM.o, by simpa using HO.o⟩
       case round =>
        obtain ⟨i, hi, rfl, hV⟩ := hrel
        obtain ⟨ap, am, ar, rfl⟩ := hV.o.2.shape
        by_cases aj : i < m.datas.length
        ·obtain ⟨b, o, ax, cx, ay, cy, rfl, e0, e1, e2, r0, r1, -⟩ := Lay.dat_at2 H.o.1.datas i aj
         have bU := qh (show m.datas.take (i + 1) = m.datas.take i ++ [m.datas[i]] from tsQ aj)
         generalize m.datas[i] = x at *
         replace e0 := (Ext.trans HX.o hV.o.1).cell e0 (fun h => h)
         replace e1 := (Ext.trans HX.o hV.o.1).cell e1 (fun h => h)
         replace e2 := (Ext.trans HX.o hV.o.1).cell e2 (fun h => h)
         have r0 := qh r0
         have hX := qh (Ext.trans hV.o.1 (za wr (.cells #[.int .u32 (x.index.toNat : Int), .slice ax x.off.length cx, .slice ay x.init.length cy] 73)))
         have hO := qh (hV.o.2.ext (za wr (.cells #[.int .u32 (x.index.toNat : Int), .slice ax x.off.length cx, .slice ay x.init.length cy] 73)))
         have eW := qh (show w.heap.size ≤ W2.heap.size ∧ W2.heap.size ≤ wr.heap.size from ⟨HX.o.size, hV.o.1.size⟩)
         go_wp2_with (at_builtin; refine Hq.o ?_)
         refine zU (Lay.ins n).slice W2.heap.size (wr.heap.size + 1) (by simp) rfl (.tmp 58) (.tmp 61) _ _ _ 24 rfl Tryz.underlying66 (zco n) rfl (by omega) (Nat.succ_pos _) (.slice ap am ar) _ x.off _ rfl rfl hO.o (Lay.mono _ (Lay.fr r0.o (Ext.trans HX.o hX.o) (fun k hk => ⟨H.o.2.1 k hk, fun h => h⟩)) (fun k hk => ?_)) (by have := eW.o; simp; omega) (by have := H.o.2.2; simp only [laQ, List.length_map, ltQ, List.length_nil]; omega) ?_
         ·have := H.o.2.1 k hk
          have := eW.o
          exact ⟨fun h => h, by simp; omega, fun e => by have := (hO.o.lt k e.symm).1; omega⟩
         intro v1 w2 h1 h2 h3
         have aU : Hq (Ext W2 w2 ∧ OwnG (Lay.ins n).slice 67 W2.heap.size (fun _ => False) w2 v1 (((([] : List (List Ins)) ++ m.globals.map (·.init)) ++ m.elements.map (·.off)) ++ (m.datas.take (i + 1)).map (·.off))) := by
          refine ⟨Fr.new (Ext.fr hX.o h2) (fun k e => by have := (hO.o.lt k e.symm).1; omega), ?_⟩
          rw [bU.o, List.map_append, ← List.append_assoc]
          exact h1
         clear h1 h2 h3 e0 e1 e2
         go_wp2_with fail
         go_roundw
         case rel => exact ⟨i + 1, by omega, by go_num, aU⟩
         case measure => simp [intOf]; omega
        ·obtain rfl : i = m.datas.length := by omega
         have HO := qh (show OwnG (Lay.ins n).slice 67 W2.heap.size (fun _ => False) wr (.slice ap am ar) (((([] : List (List Ins)) ++ m.globals.map (·.init)) ++ m.elements.map (·.off)) ++ m.datas.map (·.off)) from by have := hV.o.2; rw [tlQ] at this; exact this)
         have iG := qh hV.o.1
         clear kM hV hi aj
         have kM := iG
         clear iG
         generalize wr = W5 at *
         have cw := (ug.o.ext kM.o).cell
         have ud := HO.o.slice (fun _ _ h => h)
         obtain ⟨az, cb, e, de, ct⟩ := HO.o.form
         simp only [Value.slice.injEq] at e
         obtain ⟨rfl, rfl, rfl⟩ := e
         have Cr := qh (show ∀ l ∈ (((([] : List (List Ins)) ++ m.globals.map (·.init)) ++ m.elements.map (·.off)) ++ m.datas.map (·.off)), CCon l → True from fun _ _ _ => trivial)
         obtain ⟨L, hL⟩ : ∃ L, (((([] : List (List Ins)) ++ m.globals.map (·.init)) ++ m.elements.map (·.off)) ++ m.datas.map (·.off)) = L := ⟨_, rfl⟩
         rw [hL] at ud de
         rw [hL]
         have hL := qh hL
         have ud := qh (ud)
         have Dp : (L.length : Int) ≤ 9223372036854775807 := by simp only [maxLen] at ct; omega
         clear HO Cr de ct
         go_wp2_with fail
         clear cw
         go_loopw [13, 66] (fun ib xE w' => ∃ i, i ≤ L.length ∧ xE = .int .i64 i ∧ Hq (w' = W5 ∧ ∀ x ∈ L.take i, CCon x)) (fun _ xE _ => L.length - (intOf xE).toNat)
         case atStart => exact ⟨0, nzQ _, rfl, rfl, fun x hx => nomatch hx⟩
         case round =>
          obtain ⟨i, hi, rfl, hV⟩ := hrel
          obtain ⟨rfl, bO⟩ := hV
          have bO := qh bO
          by_cases aj : i < L.length
          ·obtain ⟨b, o, a1, c1, rfl, e0, r0⟩ := ziZ ud.o i aj
           have bU := qh (show L.take (i + 1) = L.take i ++ [L[i]] from tsQ aj)
           generalize L[i] = x at *
           have eF : Hq (CCon x → ∀ y ∈ L.take (i + 1), CCon y) := by
            intro hx y hy
            rw [bU.o] at hy
            rcases List.mem_append.1 hy with hy | hy
            ·exact bO.o y hy
            ·obtain rfl := List.mem_singleton.1 hy; exact hx
           clear bU bO
           cases x with
           | nil =>
            have eF := qh (eF.o trivial)
            go_wp2_with fail
            go_roundw
            case rel => exact ⟨i + 1, by omega, by go_num, qh ⟨by trivial, eF.o⟩⟩
            case measure => simp [intOf]; omega
           | cons y ys =>
            obtain ⟨k, b2, o2, uj, n1, t6, a2, n2, c2, rfl, rfl, li, f0, f1, f2, f3, f4, -⟩ := Lay.ins_at r0 0 (by simp)
            simp only [List.getElem_cons_zero, Nat.zero_mul, Nat.add_zero] at f0
            clear f1 f2 f3 f4 r0
            obtain ⟨op, args, st, ty, body⟩ := y
            have i3 : decide ((0 : Int) < ((Ins.mk op args st ty body :: ys).length : Int)) = true := decide_eq_true (by rw [List.length_cons]; omega)
            replace f0 : wr.cell? ⟨b2, o2, none⟩ = some (.int .i64 op) := f0
            have ur := qh (Ext.trans HX.o kM.o)
            by_cases h67 : op = 67
            ·have vV : (op == 67) = true := by rw [h67]; rfl
             clear h67 eF
             go_wp2
             go_ret
             exact ⟨true, rfl, (fun h => nomatch h), ur.o⟩
            ·have vV : (op == 67) = false := by rw [beq_eq_false_iff_ne]; exact h67
             by_cases h68 : op = 68
             ·have wz : (op == 68) = true := by rw [h68]; rfl
              clear h67 h68 eF
              go_wp2
              go_ret
              exact ⟨true, rfl, (fun h => nomatch h), ur.o⟩
             ·have wz : (op == 68) = false := by rw [beq_eq_false_iff_ne]; exact h68
              have eF := qh (eF.o ⟨h67, h68⟩)
              clear h67 h68
              go_wp2_with fail
              go_roundw
              case rel => exact ⟨i + 1, by omega, by go_num, qh ⟨by trivial, eF.o⟩⟩
              case measure => simp [intOf]; omega
          ·obtain rfl : i = L.length := by omega
           have ur := qh (Ext.trans HX.o kM.o)
           have aV : Hq (Clean m) := by
            have h := bO.o
            rw [tlQ, ← hL.o] at h
            exact ⟨hI.o, fun x hx => h _ (List.mem_append.2 (.inl (List.mem_append.2 (.inl (List.mem_append.2 (.inr (List.mem_map.2 ⟨x, hx, rfl⟩))))))), fun x hx => h _ (List.mem_append.2 (.inl (List.mem_append.2 (.inr (List.mem_map.2 ⟨x, hx, rfl⟩))))), fun x hx => h _ (List.mem_append.2 (.inr (List.mem_map.2 ⟨x, hx, rfl⟩)))⟩
           clear bO hi aj
           go_wp2
           go_ret
           exact ⟨false, rfl, (fun _ => aV.o), ur.o⟩
structure Few (L : Nat) (m : Mod) : Prop where
 globals : m.globals.length ≤ L
 elements : m.elements.length ≤ L
 datas : m.datas.length ≤ L
variable {L : Nat}
theorem Few.same {m' : Mod} (h : Few L m) (e : Same m m') : Few L m' := ⟨by rw [e.globals]; exact h.globals, by rw [e.elements]; exact h.elements, by rw [e.datas]; exact h.datas⟩
variable {α : Type}
theorem zcq (rd : St → α × St) (s : St) : (zW rd s).1.length ≤ s.b.length := by
 show (rVec rd (zo s).1 (zo s).2).1.length ≤ _
 rw [yP]
 exact (z0 s).1
variable {s : St}
theorem zd3 (id : Nat) (h : Few L m) (hs : s.b.length ≤ L) : Few L (zE id m s).1 := by
 by_cases hb : 11 < id
 ·have e : zE id m s = (m, s) := by
   unfold zE
   rw [if_neg (by omega), if_neg (by omega), if_neg (by omega), if_neg (by omega), if_neg (by omega), if_neg (by omega), if_neg (by omega), if_neg (by omega), if_neg (by omega), if_neg (by omega), if_neg (by omega)]
  rw [e]; exact h
 obtain rfl | rfl | rfl | rfl | rfl | rfl | rfl | rfl | rfl | rfl | rfl | rfl : id = 0 ∨ id = 1 ∨ id = 2 ∨ id = 3 ∨ id = 4 ∨ id = 5 ∨ id = 6 ∨ id = 7 ∨ id = 8 ∨ id = 9 ∨ id = 10 ∨ id = 11 := by omega
 ·exact h
 ·rw [ZA]; exact ⟨h.globals, h.elements, h.datas⟩
 ·rw [ZB]; exact ⟨h.globals, h.elements, h.datas⟩
 ·rw [ZC]; exact ⟨h.globals, h.elements, h.datas⟩
 ·rw [ZD]; exact ⟨h.globals, h.elements, h.datas⟩
 ·rw [ZE]; exact ⟨h.globals, h.elements, h.datas⟩
 ·rw [ZF]; exact ⟨nlQ (zcq _ _) hs, h.elements, h.datas⟩
 ·rw [ZG]; exact ⟨h.globals, h.elements, h.datas⟩
 ·rw [ZH]; exact ⟨h.globals, h.elements, h.datas⟩
 ·rw [ZI]; exact ⟨h.globals, nlQ (zcq _ _) hs, h.datas⟩
 ·rw [JZ]; exact ⟨h.globals, h.elements, h.datas⟩
 ·rw [J0]; exact ⟨h.globals, h.elements, nlQ (zcq _ _) hs⟩
theorem zhF (n : Nat) (s : St) : (zy n s).1.length ≤ s.b.length := by
 unfold zy
 split
 ·exact nzQ _
 ·show (List.take _ _).length ≤ _
  rw [ltQ]; omega
theorem zbc (s : St) (n : Nat) : (s.fail n).b.length ≤ s.b.length := by
 unfold St.fail
 split <;> exact nzQ _
theorem zgQ (s : St) : (ye s).b.length ≤ s.b.length := by unfold ye; split <;> exact Nat.le_refl _
theorem zhG (lo : Bool) (p : ModSt) (h : Few L p.m) (hs : p.s.b.length ≤ L) : Few L (j6 lo p).1.m ∧ (j6 lo p).1.s.b.length ≤ L := by
 unfold j6
 dsimp only
 generalize ed : (if (zi p.s).2.b = [] then (zi p.s).2.fail 2 else (zi p.s).2) = s1
 have h1 : s1.b.length ≤ L := by
  have := yc p.s
  rw [← ed]
  split
  ·have := zbc (zi p.s).2 2; omega
  ·omega
 have h2 : (ye (zc s1).2).b.length ≤ L := by have := zgQ (zc s1).2; have := zF s1; omega
 generalize (ye (zc s1).2) = s2 at *
 generalize (zc s1).1 = n
 generalize i5 : (if s2.v = 0 ∧ (n = 0 ∨ s2.b = [] ∨ ((zi p.s).1 = 0 ∧ s2.b.length < n)) then s2.fail 2 else s2) = s3
 have h3 : s3.b.length ≤ L := by
  rw [← i5]
  split
  ·have := zbc s2 2; omega
  ·exact h2
 have h4 : (zy n s3).1.length ≤ L := nlQ (zhF n s3) h3
 have h5 : (zy n s3).2.b.length ≤ L := nlQ (yR n s3) h3
 generalize zy n s3 = t at *
 have h6 := h.same (Zg lo p.m p.names ⟨t.1, 0⟩)
 generalize zs lo p.m p.names ⟨t.1, 0⟩ = c1 at *
 have h7 := zd3 (zi p.s).1 (s := ⟨t.1, 0⟩) h h4
 generalize zE (zi p.s).1 p.m ⟨t.1, 0⟩ = c2 at *
 generalize (zi p.s).1 = id at *
 have hq : ∀ v : Nat, (if v ≠ 0 then t.2.fail v else t.2).b.length ≤ L := by
  intro v
  split
  ·exact nlQ (zbc _ _) h5
  ·exact h5
 split
 ·exact ⟨h, h5⟩
 ·refine ⟨?_, ?_⟩
  ·dsimp only
   split
   ·exact h6
   ·split
    ·exact h
    ·exact h7
  ·exact hq _
theorem zeu (lo : Bool) : ∀ (f : Nat) (p : ModSt), Few L p.m → p.s.b.length ≤ L → Few L (jR lo f p).m
 | 0, p, h, _ => h
 | f + 1, p, h, hs => by
  unfold jR
  split
  ·have h1 := zhG lo p h hs
   split
   ·exact zeu lo f _ h1.1 h1.2
   ·exact h1.1
  ·exact h
theorem CA (lo : Bool) (b : List UInt8) : Few b.length (zV lo b).1 := by
 unfold zV
 split
 ·exact ⟨nzQ _, nzQ _, nzQ _⟩
 ·exact zeu lo _ _ ⟨nzQ _, nzQ _, nzQ _⟩ (by rw [ldQ]; omega)
def V3 {α : Type} (rd : St → α × St) : Prop := ∀ s, s.v ≤ 3 → (rd s).2.v ≤ 3
theorem yk (h : s.v ≤ 3) (n : Nat) (hn : n ≤ 3) : (s.fail n).v ≤ 3 := by
 unfold St.fail
 show (if s.v = 0 then n else s.v) ≤ 3
 split
 ·exact hn
 ·exact h
theorem je {P : Prop} [Decidable P] {t : St} (h : s.v ≤ 3) (k : t.v ≤ 3) : (if P then s else t).v ≤ 3 := by
 split
 ·exact h
 ·exact k
theorem yB : V3 zi := fun s h => by
 unfold zi
 split
 ·exact yk h 3 (by decide)
 ·exact h
theorem yJ : V3 zc := fun s h => by
 unfold zc
 split
 ·exact yk h _ (by split <;> decide)
 ·exact h
theorem zbd (bits : Nat) : V3 (zJ bits) := fun s h => by
 unfold zJ
 split
 ·exact yk h _ (by split <;> decide)
 ·exact h
theorem zbe : V3 rNum := fun s h => yJ s h
theorem zhH : V3 zo := fun s h => by
 unfold zo
 split
 ·exact je (show 2 ≤ 3 by decide) (yk (yJ s h) 3 (by decide))
 ·exact yJ s h
theorem zi0 : V3 zk := fun s h => je (yk (yB s h) 1 (by decide)) (yB s h)
theorem YW (n : Nat) : V3 (zy n) := fun s h => by
 unfold zy
 split
 ·exact je (show 2 ≤ 3 by decide) (yk h 3 (by decide))
 ·exact h
theorem zi1 (k : Int) : V3 (y0 k) := fun s h => by
 unfold y0
 split
 ·exact zbd _ s h
 split
 ·exact je (yk (zbd _ s h) 2 (by decide)) (zbd _ s h)
 split
 ·exact yJ s h
 split
 ·exact yB s h
 ·exact YW _ s h
theorem zgR : ∀ ks : List Int, V3 (y2 ks)
 | [] => fun _ h => h
 | k :: ks => fun s h => zgR ks _ (zi1 k s h)
theorem zgS : V3 jH := fun s h => je (yk (yB s h) 1 (by decide)) (yB s h)
theorem zcr : V3 zD := fun s h => by
 have h1 : (if 1 < (zi s).1 then (zi s).2.fail 2 else (zi s).2).v ≤ 3 := je (yk (yB s h) 2 (by decide)) (yB s h)
 unfold zD
 dsimp only
 generalize (if 1 < (zi s).1 then (zi s).2.fail 2 else (zi s).2) = s1 at *
 split
 ·exact yJ _ (yJ _ h1)
 ·exact yJ _ h1
theorem zev : V3 zX := fun s h => zcr _ (je (yk (yB s h) 1 (by decide)) (yB s h))
variable {rd : St → α × St}
theorem zia (hr : V3 rd) : ∀ n, V3 (rVec rd n)
 | 0 => fun _ h => h
 | n + 1 => fun s h => zia hr n _ (hr s h)
theorem jZ (hr : V3 rd) : V3 (zW rd) := fun s h => zia hr _ _ (zhH s h)
theorem zbf : V3 zr := fun s h => je (YW _ _ (yJ s h)) (yk (YW _ _ (yJ s h)) 2 (by decide))
theorem zib : V3 rVTs := jZ zi0
theorem v3_ft : V3 rFT := by
 intro s h
 have h0 : (rFT0 s).v ≤ 3 := by
  unfold rFT0
  exact je (yk (yB s h) 1 (by decide)) (yB s h)
 have h1 := zib _ h0
 have h2 := zib _ h1
 have e : (rFT s).2 = (rVTs (rVTs (rFT0 s)).2).2 := by rw [rFT]
 generalize (rVTs (rVTs (rFT0 s)).2).2 = t at *
 rw [e]
 exact h2
theorem zjX : V3 rImp := fun s h => by
 have h1 := yB _ (zbf _ (zbf s h))
 unfold rImp
 dsimp only
 generalize zi (zr (zr s).2).2 = b at *
 generalize jC s = x
 split
 ·exact yJ _ h1
 split
 ·exact zev _ h1
 split
 ·exact zcr _ h1
 split
 ·exact zgS _ (zi0 _ h1)
 ·exact yk h1 1 (by decide)
theorem zcs : V3 ya := fun s h => by
 have h1 : (JF s).v ≤ 3 := je (yk (yB s h) 2 (by decide)) (yB s h)
 have h2 : (zI (zi s).1 (JF s)).2.v ≤ 3 := zgR _ _ (je (yk h1 2 (by decide)) h1)
 exact je (yk (yB _ h2) 2 (by decide)) (yB _ h2)
theorem zi2 : V3 Je := fun s h => zcs _ (zgS _ (zi0 s h))
theorem zi3 : V3 j5 := fun s h => je (yk (zbe _ (yB _ (zbf s h))) 1 (by decide)) (zbe _ (yB _ (zbf s h)))
theorem zi4 : V3 Jf := fun s h => jZ zbe _ (zcs _ (zbe s h))
theorem zgT : V3 zY := fun s h => YW _ _ (yJ s h)
theorem zjY : V3 rDat := fun s h => zgT _ (zcs _ (zbe s h))
theorem zfj (id : Nat) (m : Mod) : V3 (zE id m) := fun s h => by
 by_cases hb : 11 < id
 ·have e : zE id m s = (m, s) := by
   unfold zE
   rw [if_neg (by omega), if_neg (by omega), if_neg (by omega), if_neg (by omega), if_neg (by omega), if_neg (by omega), if_neg (by omega), if_neg (by omega), if_neg (by omega), if_neg (by omega), if_neg (by omega)]
  rw [e]; exact h
 obtain rfl | rfl | rfl | rfl | rfl | rfl | rfl | rfl | rfl | rfl | rfl | rfl : id = 0 ∨ id = 1 ∨ id = 2 ∨ id = 3 ∨ id = 4 ∨ id = 5 ∨ id = 6 ∨ id = 7 ∨ id = 8 ∨ id = 9 ∨ id = 10 ∨ id = 11 := by omega
 ·exact h
 ·rw [ZA]; exact jZ v3_ft s h
 ·rw [ZB]; exact jZ zjX s h
 ·rw [ZC]; exact jZ zbe s h
 ·rw [ZD]; exact jZ zev s h
 ·rw [ZE]; exact jZ zcr s h
 ·rw [ZF]; exact jZ zi2 s h
 ·rw [ZG]; exact jZ zi3 s h
 ·rw [ZH]; exact zbe s h
 ·rw [ZI]; exact jZ zi4 s h
 ·rw [JZ]; exact jZ zgT s h
 ·rw [J0]; exact jZ zjY s h
theorem zew (lo : Bool) : ∀ (f : Nat) (m : Mod) (last : Nat) (s : St), s.v ≤ 3 → (zw lo f m last s).2.v ≤ 3
 | 0, _, _, _, h => h
 | f + 1, m, last, s, h => by
  unfold zw
  split
  ·have h1 := YW (zc (zi s).2).1 _ (yJ _ (yB s h))
   dsimp only
   generalize zy (zc (zi s).2).1 (zc (zi s).2).2 = t at *
   split
   ·exact yk h1 2 (by decide)
   ·exact zew lo f _ _ _ (je (yk h1 2 (by decide)) h1)
  ·exact h
theorem zgU (lo : Bool) (m : Mod) (seen : Bool) (s : St) (h : s.v ≤ 3) : (zs lo m seen s).2.2.v ≤ 3 := by
 have h1 := zbf s h
 unfold zs
 dsimp only
 generalize zr s = n at *
 split
 ·exact h1
 split
 ·exact h1
 ·have h2 := zew lo 4 m 0 (if seen then n.2.fail 2 else n.2) (je (yk h1 2 (by decide)) h1)
  exact je (show 2 ≤ 3 by decide) h2
theorem zgV (h : s.v ≤ 3) : (ye s).v ≤ 3 := je (show 2 ≤ 3 by decide) h
theorem zi5 (lo : Bool) (p : ModSt) (h : p.s.v ≤ 3) : (j6 lo p).1.s.v ≤ 3 := by
 unfold j6
 dsimp only
 have h1 : (if (zi p.s).2.b = [] then (zi p.s).2.fail 2 else (zi p.s).2).v ≤ 3 := je (yk (yB _ h) 2 (by decide)) (yB _ h)
 generalize (if (zi p.s).2.b = [] then (zi p.s).2.fail 2 else (zi p.s).2) = s1 at *
 have h2 := zgV (yJ s1 h1)
 generalize (ye (zc s1).2) = s2 at *
 generalize (zc s1).1 = n
 have h3 : (if s2.v = 0 ∧ (n = 0 ∨ s2.b = [] ∨ ((zi p.s).1 = 0 ∧ s2.b.length < n)) then s2.fail 2 else s2).v ≤ 3 := je (yk h2 2 (by decide)) h2
 generalize (if s2.v = 0 ∧ (n = 0 ∨ s2.b = [] ∨ ((zi p.s).1 = 0 ∧ s2.b.length < n)) then s2.fail 2 else s2) = s3 at *
 have h5 := YW n s3 h3
 generalize zy n s3 = t at *
 have h6 := zgU lo p.m p.names ⟨t.1, 0⟩ (nzQ _)
 generalize zs lo p.m p.names ⟨t.1, 0⟩ = c1 at *
 have h7 := zfj (zi p.s).1 p.m ⟨t.1, 0⟩ (nzQ _)
 generalize zE (zi p.s).1 p.m ⟨t.1, 0⟩ = c2 at *
 generalize (zi p.s).1 = id at *
 have hq : ∀ q : St, q.v ≤ 3 → (if (ye q).v ≠ 0 then t.2.fail (ye q).v else t.2).v ≤ 3 := fun q hq => je (yk h5 _ (zgV hq)) h5
 split
 ·exact h5
 ·refine hq _ ?_
  split
  ·exact h6
  ·split
   ·exact yk (s := ⟨t.1, 0⟩) (nzQ _) 2 (by decide)
   ·exact je (yk h7 2 (by decide)) h7
theorem zgW (lo : Bool) : ∀ (f : Nat) (p : ModSt), p.s.v ≤ 3 → (jR lo f p).s.v ≤ 3
 | 0, p, h => h
 | f + 1, p, h => by
  unfold jR
  split
  ·have h1 := zi5 lo p h
   split
   ·exact zgW lo f _ h1
   ·exact h1
  ·exact h
theorem BP (lo : Bool) (b : List UInt8) : (zV lo b).2 ≤ 2 := by
 unfold zV
 split
 ·exact (by decide : (1 : Nat) ≤ 2)
 ·have h := zgW lo b.length ⟨{ Mod.none with version := 1 }, 0, false, ⟨b.drop 8, 0⟩⟩ (nzQ _)
  dsimp only
  generalize jR lo b.length ⟨{ Mod.none with version := 1 }, 0, false, ⟨b.drop 8, 0⟩⟩ = p at *
  have h1 : (if p.s.v = 3 then { p.s with v := 1 } else p.s : St).v ≤ 2 := by
   split
   ·exact (by decide : (1 : Nat) ≤ 2)
   ·omega
  generalize (if p.s.v = 3 then { p.s with v := 1 } else p.s : St) = s1 at *
  split
  ·rename_i h2
   show (if s1.v = 0 then 2 else s1.v) ≤ 2
   split <;> omega
  ·exact h1
end Go.Proofs.YtejgninpjhcgnaaGreatDoor
