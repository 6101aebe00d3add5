/- Texts of this proof, one behind the other. -/
import Derived.Test.YtejgninpjhcgnaaGreatDoorPart24
import Derived.Test.YtejgninpjhcgnaaGreatDoorPart22
import Derived.Test.YtejgninpjhcgnaaGreatDoorPart23
import Derived.Deep.Slices
namespace Go.Proofs.YtejgninpjhcgnaaGreatDoor
open Go.RowKit
open Go.ChangeShapes Go.WideShapes Go.ChangeAt Go.RowKit Go.Deep
set_option linter.unusedSimpArgs false
set_option linter.unusedVariables false
set_option maxRecDepth 100000
set_option maxHeartbeats 16000000
theorem Ye : (Tryz.prog.info? 91).map (fun i => (i.zero, i.size, i.bytes)) = some (some (.agg #[.slice none 0 0, .slice none 0 0]), Lay.ft.size, 48) := by kernel_rfl
theorem YX : (Tryz.prog.info? 65).map (fun i => (i.zero, i.size, i.bytes)) = some (some (.agg #[.string ⟨#[]⟩, .string ⟨#[]⟩, .int .i64 0, .int .u32 0, .int .u32 0, .bool false, .int .u32 0, .int .i64 0, .bool false]), Lay.imp.size, 72) := by kernel_rfl
theorem YD (n : Nat) : (Tryz.prog.info? 71).map (fun i => (i.zero, i.size, i.bytes)) = some (some (.agg #[.int .u32 0, .slice none 0 0, .slice none 0 0]), (Lay.elem n).size, 56) := by kernel_rfl
theorem YY (n : Nat) : (Tryz.prog.info? 69).map (fun i => (i.zero, i.size, i.bytes)) = some (some (.agg #[.int .i64 0, .bool false, .slice none 0 0]), (Lay.glob n).size, 40) := by kernel_rfl
theorem YZ : (Tryz.prog.info? 98).map (fun i => (i.zero, i.size, i.bytes)) = some (some (.agg #[.string ⟨#[]⟩, .int .i64 0, .int .u32 0]), Lay.expo.size, 32) := by kernel_rfl
theorem zbg (n : Nat) : (Tryz.prog.info? 73).map (fun i => (i.zero, i.size, i.bytes)) = some (some (.agg #[.int .u32 0, .slice none 0 0, .slice none 0 0]), (Lay.dat n).size, 56) := by kernel_rfl
theorem Y0 : (Tryz.prog.info? 100).map (fun i => (i.zero, i.size, i.bytes)) = some (some (.agg #[.string ⟨#[]⟩, .slice none 0 0]), Lay.cus.size, 40) := by kernel_rfl
theorem ZK : (Tryz.prog.info? 120).map (fun i => (i.zero, i.size, i.bytes)) = some (some (.agg #[.int .u32 0, .int .u32 0, .string ⟨#[]⟩]), Lay.nam.size, 24) := by kernel_rfl
theorem Zp : (Tryz.prog.info? 63).map (fun i => (i.zero, i.size, i.bytes)) = some (some (.agg #[.int .u32 0, .bool false, .int .u32 0]), Lay.lim.size, 12) := by kernel_rfl
theorem jL (x : Lim) (w : World) :
 Calls Tryz.prog 30 #[.agg #[.int .u32 (x.min.toNat : Int), .bool x.bounded, .int .u32 (x.max.toNat : Int)]] w fun e w' => e = .returned (.agg #[.int .u32 (x.min.toNat : Int), .bool x.bounded, .int .u32 (x.max.toNat : Int)]) ∧ Ext w w' := by
 go_enter Tryz.func30, Tryz.ntmps30
 go_wp2
 have hX := Ext.trans (za w (.cells #[.int .u32 (x.min.toNat : Int), .bool x.bounded, .int .u32 (x.max.toNat : Int)] 104)) (za _ (.cells #[.int .u32 (x.min.toNat : Int), .bool x.bounded, .int .u32 (x.max.toNat : Int)] 63))
 have hb := zl (w.alloc (.cells #[.int .u32 (x.min.toNat : Int), .bool x.bounded, .int .u32 (x.max.toNat : Int)] 104)) #[.int .u32 (x.min.toNat : Int), .bool x.bounded, .int .u32 (x.max.toNat : Int)] 63
 rw [show (w.alloc (.cells #[.int .u32 (x.min.toNat : Int), .bool x.bounded, .int .u32 (x.max.toNat : Int)] 104)).heap.size = w.heap.size + 1 by simp] at hb
 have c8 := hb.cell
 exact bodyPost_ret (v := .agg #[.int .u32 (x.min.toNat : Int), .bool x.bounded, .int .u32 (x.max.toNat : Int)]) (by simp [results, Tryz.results30, go_sem, c8]) rfl ⟨rfl, hX⟩
theorem zdm {n : Nat} {m : Mod} {v : ModV} {A : Nat → Prop} {w : World} (hM : ModAt n A w m v) (hA : ∀ k, A k → k < w.heap.size) (cr : ModFit m) :
 Calls Tryz.prog 10 #[.agg (zt m v)] w fun e w' => ∃ v', e = .returned (.agg (zt m v')) ∧ ModAt n (fun k => k < w'.heap.size) w' m v' ∧ Ext w w' := by
 obtain ⟨vA, vB, vC, vD, vE, vF, vG, vH, vI, vJ, vK, vL, vM⟩ := v
 obtain ⟨aA, cA, e, h1, h2⟩ := Lay.slice_form2 hM.types
 have lA := qh (nlQ h1 h2)
 obtain rfl : vA = .slice aA m.types.length cA := by simpa using e
 clear e h1 h2
 obtain ⟨aB, cB, e, h1, h2⟩ := Lay.slice_form2 hM.imports
 have lB := qh (nlQ h1 h2)
 obtain rfl : vB = .slice aB m.imports.length cB := by simpa using e
 clear e h1 h2
 obtain ⟨aC, cC, e, h1, h2⟩ := Lay.slice_form2 hM.functions
 have lC := qh (nlQ h1 h2)
 obtain rfl : vC = .slice aC m.functions.length cC := by simpa using e
 clear e h1 h2
 obtain ⟨aD, cD, e, h1, h2⟩ := Lay.slice_form2 hM.tables
 have lD := qh (nlQ h1 h2)
 obtain rfl : vD = .slice aD m.tables.length cD := by simpa using e
 clear e h1 h2
 obtain ⟨aE, cE, e, h1, h2⟩ := Lay.slice_form2 hM.memories
 have lE := qh (nlQ h1 h2)
 obtain rfl : vE = .slice aE m.memories.length cE := by simpa using e
 clear e h1 h2
 obtain ⟨aF, cF, e, h1, h2⟩ := Lay.slice_form2 hM.elements
 have lF := qh (nlQ h1 h2)
 obtain rfl : vF = .slice aF m.elements.length cF := by simpa using e
 clear e h1 h2
 obtain ⟨aG, cG, e, h1, h2⟩ := Lay.slice_form2 hM.globals
 have lG := qh (nlQ h1 h2)
 obtain rfl : vG = .slice aG m.globals.length cG := by simpa using e
 clear e h1 h2
 obtain ⟨aH, cH, e, h1, h2⟩ := Lay.slice_form2 hM.exports
 have lH := qh (nlQ h1 h2)
 obtain rfl : vH = .slice aH m.exports.length cH := by simpa using e
 clear e h1 h2
 obtain ⟨aI, cI, e, h1, h2⟩ := Lay.slice_form2 hM.codes
 have lI := qh (nlQ h1 h2)
 obtain rfl : vI = .slice aI m.codes.length cI := by simpa using e
 clear e h1 h2
 obtain ⟨aJ, cJ, e, h1, h2⟩ := Lay.slice_form2 hM.datas
 have lJ := qh (nlQ h1 h2)
 obtain rfl : vJ = .slice aJ m.datas.length cJ := by simpa using e
 clear e h1 h2
 obtain ⟨aK, cK, e, h1, h2⟩ := Lay.slice_form2 hM.customs
 have lK := qh (nlQ h1 h2)
 obtain rfl : vK = .slice aK m.customs.length cK := by simpa using e
 clear e h1 h2
 obtain ⟨aL, cL, e, h1, h2⟩ := Lay.slice_form2 hM.funcs
 have lL := qh (nlQ h1 h2)
 obtain rfl : vL = .slice aL m.funcs.length cL := by simpa using e
 clear e h1 h2
 obtain ⟨aM, cM, e, h1, h2⟩ := Lay.slice_form2 hM.locals
 have lM := qh (nlQ h1 h2)
 obtain rfl : vM = .slice aM m.locals.length cM := by simpa using e
 clear e h1 h2
 have H := qh (anQ hM (anQ hA cr))
 clear hM hA cr
 unfold zt
 dsimp only
 go_enter Tryz.func10, Tryz.ntmps10
 go_wp2_with (first | with_reducible refine JP 37 ?_ | with_reducible refine jl 37 ?_)
 refine qh ?_
 refine JQ rfl _ _ rfl #[.int .u32 (m.version.toNat : Int), .bool m.hasStart, .int .u32 (m.start.toNat : Int), .slice none 0 0, .slice none 0 0, .slice aC m.functions.length cC, .slice none 0 0, .slice none 0 0, .slice none 0 0, .slice none 0 0, .slice none 0 0, .slice aI m.codes.length cI, .slice none 0 0, .slice none 0 0, .string (zd m.named), .slice none 0 0, .slice none 0 0] (by kernel_rfl) ?_
 go_wp2_with (first | with_reducible refine JP 37 ?_ | with_reducible refine jl 37 ?_)
 refine qh ?_
 have ct := zl ((w.alloc (.cells (kmc m aA cA aB cB aC cC aD cD aE cE aF cF aG cG aH cH aI cI aJ cJ aK cK aL cL aM cM) 51)).alloc (.cells zM 37)) zM 37
 rw [show ((w.alloc (.cells (kmc m aA cA aB cB aC cC aD cD aE cE aF cF aG cG aH cH aI cI aJ cJ aK cK aL cL aM cM) 51)).alloc (.cells zM 37)).heap.size = w.heap.size + 1 + 1 by simp] at ct
 refine ct.wpList_store rfl 37 (.tmp 3) (.tmp 38) rfl rfl rfl (by kernel_rfl) rfl rfl ?_
 obtain ⟨W3, gm, gr, g, fi, ir, fD, hg, HB⟩ : ∃ W3 gm gr g, ((((w.alloc (.cells (kmc m aA cA aB cB aC cC aD cD aE cE aF cF aG cG aH cH aI cI aJ cJ aK cK aL cL aM cM) 51)).alloc (.cells zM 37)).alloc (.cells zM 37)).setRow (w.heap.size + 1 + 1) #[.int .u32 (m.version.toNat : Int), .bool m.hasStart, .int .u32 (m.start.toNat : Int), .slice none 0 0, .slice none 0 0, .slice aC m.functions.length cC, .slice none 0 0, .slice none 0 0, .slice none 0 0, .slice none 0 0, .slice none 0 0, .slice aI m.codes.length cI, .slice none 0 0, .slice none 0 0, .string (zd m.named), .slice none 0 0, .slice none 0 0]) = W3 ∧ w.heap.size = gm ∧ w.heap.size + 1 = gr ∧ w.heap.size + 1 + 1 = g ∧
  Hq (Blk W3 gm (kmc m aA cA aB cB aC cC aD cD aE cE aF cF aG cG aH cH aI cI aJ cJ aK cK aL cL aM cM) 51 ∧ Blk W3 gr zM 37 ∧ Blk W3 g #[.int .u32 (m.version.toNat : Int), .bool m.hasStart, .int .u32 (m.start.toNat : Int), .slice none 0 0, .slice none 0 0, .slice aC m.functions.length cC, .slice none 0 0, .slice none 0 0, .slice none 0 0, .slice none 0 0, .slice none 0 0, .slice aI m.codes.length cI, .slice none 0 0, .slice none 0 0, .string (zd m.named), .slice none 0 0, .slice none 0 0] 37 ∧ Ext w W3) := by
  have hs := z9 (((w.alloc (.cells (kmc m aA cA aB cB aC cC aD cD aE cE aF cF aG cG aH cH aI cI aJ cJ aK cK aL cL aM cM) 51)).alloc (.cells zM 37)).alloc (.cells zM 37)) (w.heap.size + 1 + 1) #[.int .u32 (m.version.toNat : Int), .bool m.hasStart, .int .u32 (m.start.toNat : Int), .slice none 0 0, .slice none 0 0, .slice aC m.functions.length cC, .slice none 0 0, .slice none 0 0, .slice none 0 0, .slice none 0 0, .slice none 0 0, .slice aI m.codes.length cI, .slice none 0 0, .slice none 0 0, .string (zd m.named), .slice none 0 0, .slice none 0 0]
  have dS := ((zl w (kmc m aA cA aB cB aC cC aD cD aE cE aF cF aG cG aH cH aI cI aJ cJ aK cK aL cL aM cM) 51).ext (za _ (.cells zM 37))).ext (za _ (.cells zM 37))
  have de := (zl (w.alloc (.cells (kmc m aA cA aB cB aC cC aD cD aE cE aF cF aG cG aH cH aI cI aJ cJ aK cK aL cL aM cM) 51)) zM 37).ext (za _ (.cells zM 37))
  rw [show (w.alloc (.cells (kmc m aA cA aB cB aC cC aD cD aE cE aF cF aG cG aH cH aI cI aJ cJ aK cK aL cL aM cM) 51)).heap.size = w.heap.size + 1 by simp] at de
  exact ⟨_, _, _, _, rfl, rfl, rfl, rfl, dS.fr hs (fun e => by have e' : w.heap.size = w.heap.size + 1 + 1 := e; omega), de.fr hs (fun e => by have e' : w.heap.size + 1 = w.heap.size + 1 + 1 := e; omega), ct.setRow _,
   Fr.new (Ext.fr (Ext.trans (za _ _) (Ext.trans (za _ _) (za _ _))) hs) (fun k e => by have e' : k = w.heap.size + 1 + 1 := e; omega)⟩
 clear ct
 rw [fi, hg, fD, ir]
 have HS := qh (show CS w A (fun _ => False) gm gr g (kmc m aA cA aB cB aC cC aD cD aE cE aF cF aG cG aH cH aI cI aJ cJ aK cK aL cL aM cM) zM #[.int .u32 (m.version.toNat : Int), .bool m.hasStart, .int .u32 (m.start.toNat : Int), .slice none 0 0, .slice none 0 0, .slice aC m.functions.length cC, .slice none 0 0, .slice none 0 0, .slice none 0 0, .slice none 0 0, .slice none 0 0, .slice aI m.codes.length cI, .slice none 0 0, .slice none 0 0, .string (zd m.named), .slice none 0 0, .slice none 0 0] 51 37 n W3 ⟨m.version, m.hasStart, m.start, [], [], m.functions, [], [], [], [], [], m.codes, [], [], m.named, [], []⟩ ⟨.slice none 0 0, .slice none 0 0, .slice aC m.functions.length cC, .slice none 0 0, .slice none 0 0, .slice none 0 0, .slice none 0 0, .slice none 0 0, .slice aI m.codes.length cI, .slice none 0 0, .slice none 0 0, .slice none 0 0, .slice none 0 0⟩ from by
  have h1 := HB.o.2.2.2
  have h2 := HB.o.2.2.1.lt
  have uv : ∀ k, A k → ¬ (k = g ∨ k = gr ∨ False) ∧ k < W3.heap.size := fun k hk => by have := H.o.2.1 k hk; exact ⟨fun q => (by rcases q with q | q | q; omega; omega; exact q.elim), by omega⟩
  exact ⟨HB.o.1, HB.o.2.1, HB.o.2.2.1, ⟨zH _ _ _, zH _ _ _, Lay.mono _ (Lay.fr H.o.1.functions h1 (fun k hk => ⟨H.o.2.1 k hk, fun h => h⟩)) uv, zH _ _ _, zH _ _ _, zH _ _ _, zH _ _ _, zH _ _ _, Lay.mono _ (Lay.fr H.o.1.codes h1 (fun k hk => ⟨H.o.2.1 k hk, fun h => h⟩)) uv, zH _ _ _, zH _ _ _, zH _ _ _, zH _ _ _, H.o.1.named⟩, h1, ⟨by omega, by omega, by omega⟩, H.o.2.1, fun k q => q.elim⟩)
 clear fi ir fD hg HB
 have au := HS.o.bm.cell
 have aT : (m.types.length : Int) ≤ 9223372036854775807 := by have := lA.o; simp only [maxLen] at this; omega
 go_wp2_with fail
 clear au
 go_loopw [5, 42] (fun s5 vO w' => ∃ (i : Nat) (va : Value), i ≤ m.types.length ∧ vO = .int .i64 i ∧ Hq (CV Lay.ft 91 g gr (fun _ => False) W3 (om (.int .u32 (m.version.toNat : Int)) m va nsV (.slice aC m.functions.length cC) nsV nsV nsV nsV nsV (.slice aI m.codes.length cI) nsV nsV nsV nsV) 37 w' va (m.types.take i))) (fun _ vO _ => m.types.length - (intOf vO).toNat)
 case atStart => exact ⟨0, _, nzQ _, rfl, HS.o.bg, zv _ _ _ _ _, Fr.refl _ _⟩
 obtain ⟨i, va, hi, rfl, hV⟩ := hrel
 have aW := qh (HS.o.ext hV.o.2.2)
 obtain ⟨ap, am, ar, rfl⟩ := hV.o.2.1.shape
 by_cases aj : i < m.types.length
 ·obtain ⟨b, o, ax, cx, ay, cy, rfl, e0, e1, r0, r1, hr⟩ := Lay.ft_at2 H.o.1.types i aj
  have bU := qh (show m.types.take (i + 1) = _ from tsQ aj)
  generalize m.types[i] = x at *
  replace e0 := aW.o.c e0
  replace e1 := aW.o.c e1
  have hr := qh hr
  have r0 := qh r0
  have r1 := qh r1
  have ex := hV.o.1.ext (za wr (.cells #[.slice ax x.ps.length cx, .slice ay x.rs.length cy] 103))
  have eq := ex.cell
  have eO := ex.frz
  clear ex
  go_wp2_with (at_builtin; refine Hq.o ?_)
  refine HS.o.appL hV.o (za _ _) (wr.heap.size + 1) (by simp) rfl (.tmp 47) (.tmp 53) _ _ 48 rfl Tryz.underlying25 Ye rfl (by omega) (Nat.succ_pos _) x _ rfl rfl (Lay.mono _ (HS.o.rd (Ext.trans aW.o (za _ _)) hr.o) (HS.o.old hV.o.2.1 (Ext.trans aW.o (za _ _)))) (by have := H.o.2.2.len_types; rw [ltQ]; omega) 3 bU.o ?_
  intro az aR aO w2 bi aU
  have aU := qh aU
  have bS := bi.cell
  have cp := bi.frz
  clear bi eq eO e0 e1
  go_wp2_with fail
  clear bS cp
  go_roundw
  case rel => exact ⟨i + 1, _, by omega, by go_num, qh (by simpa using aU.o)⟩
  case measure => simp [intOf]; omega
 obtain rfl : i = m.types.length := by omega
 have bh := hV.o
 rw [tlQ] at bh
 obtain ⟨zA, hz⟩ : ∃ z, z = Value.slice ap am ar := ⟨_, rfl⟩
 rw [← hz] at bh
 replace HS := qh (HS.o.next bh fun _ _ h k => h.set_types k)
 clear hV bh hz aT hi aj aW ap am ar
 generalize wr = tp at *
 have au := HS.o.bm.cell
 have aT : (m.imports.length : Int) ≤ 9223372036854775807 := by have := lB.o; simp only [maxLen] at this; omega
 go_wp2_with fail
 clear au
 go_loopw [7, 60] (fun s7 uL w' => ∃ (i : Nat) (va : Value), i ≤ m.imports.length ∧ uL = .int .i64 i ∧ Hq (CV Lay.imp 65 g gr (fun _ => False) tp (om (.int .u32 (m.version.toNat : Int)) m zA va (.slice aC m.functions.length cC) nsV nsV nsV nsV nsV (.slice aI m.codes.length cI) nsV nsV nsV nsV) 37 w' va (m.imports.take i))) (fun _ uL _ => m.imports.length - (intOf uL).toNat)
 case atStart => exact ⟨0, _, nzQ _, rfl, HS.o.bg, zv _ _ _ _ _, Fr.refl _ _⟩
 obtain ⟨i, va, hi, rfl, hV⟩ := hrel
 have aW := qh (HS.o.ext hV.o.2.2)
 obtain ⟨ap, am, ar, rfl⟩ := hV.o.2.1.shape
 by_cases aj : i < m.imports.length
 ·obtain ⟨b, o, rfl, e0, e1, e2, e3, e4, e5, e6, e7, e8, r0, r1, r2, r3, hr⟩ := Lay.imp_at2 H.o.1.imports i aj
  have bU := qh (show m.imports.take (i + 1) = _ from tsQ aj)
  generalize m.imports[i] = x at *
  replace e0 := aW.o.c e0
  replace e1 := aW.o.c e1
  replace e2 := aW.o.c e2
  replace e3 := aW.o.c e3
  replace e4 := aW.o.c e4
  replace e5 := aW.o.c e5
  replace e6 := aW.o.c e6
  replace e7 := aW.o.c e7
  replace e8 := aW.o.c e8
  have hr := qh hr
  have r0 := qh r0
  have r1 := qh r1
  have r2 := qh r2
  have r3 := qh r3
  go_wp2_with fail
  have dK := qh (zl wr #[.string (zd x.mdl), .string (zd x.name), .int .i64 x.kind, .int .u32 (x.index.toNat : Int), .int .u32 (x.lim.min.toNat : Int), .bool x.lim.bounded, .int .u32 (x.lim.max.toNat : Int), .int .i64 x.ty, .bool x.mtb] 106)
  have bP := qh (za wr (.cells #[.string (zd x.mdl), .string (zd x.name), .int .i64 x.kind, .int .u32 (x.index.toNat : Int), .int .u32 (x.lim.min.toNat : Int), .bool x.lim.bounded, .int .u32 (x.lim.max.toNat : Int), .int .i64 x.ty, .bool x.mtb] 106))
  generalize (wr.alloc (.cells #[.string (zd x.mdl), .string (zd x.name), .int .i64 x.kind, .int .u32 (x.index.toNat : Int), .int .u32 (x.lim.min.toNat : Int), .bool x.lim.bounded, .int .u32 (x.lim.max.toNat : Int), .int .i64 x.ty, .bool x.mtb] 106)) = W4 at *
  obtain ⟨ge, cm⟩ := exQ (wr.heap.size)
  rw [cm] at dK ⊢
  clear cm e0 e1 e2 e3 e4 e5 e6 e7 e8
  refine zj jQ [kT 0, kT 1, kT 2, kT 3, kT 4, kT 5, kT 6, kT 7, kT 8, kT 9, kT 10, kT 11, kT 13, kT 14, kT 15, kT 16, kR 12, kT 17, kR 18, kL 19, kT 20, kL 21] (by kernel_rfl) (by kernel_rfl) ?_
  simp only [zx, gzQ, gsQ]
  have HC := qh (fun W' (h : Ext W4.drew W') => anQ (dK.o.ext (Ext.trans (zb _) h)).cell (hV.o.1.ext (Ext.trans bP.o (Ext.trans (zb _) h))).cell)
  have bq := qh (Ext.trans bP.o (zb W4))
  generalize W4.drew = W5 at *
  repeat (apply item_take; rfl; rfl; rfl; rfl; exact fun _ _ _ _ h => h; (intro W e _ k; have q := HC.o W e; go_simp; exact k))
  apply zg; rfl; intro K hK; go_simp
  refine (jL x.lim W5).mono ?_
  rintro e w6 ⟨rfl, x6⟩
  refine hK _ _ x6 ?_
  have H6 := qh (anQ (Ext.trans bq.o x6) trivial)
  clear hK K x6 dK
  repeat (apply item_take; rfl; rfl; rfl; rfl; exact fun _ _ _ _ h => h; (intro _ _ _ k; go_simp; exact k))
  apply zg; rfl; intro K hK; go_simp
  refine hK _ _ (za _ _) ?_
  clear hK K
  apply zn; rfl; intro K hK
  refine HS.o.app hV.o H6.o.1 w6.heap.size rfl (.tmp 65) (.tmp 82) _ _ 72 rfl Tryz.underlying26 YX rfl (by omega) (Nat.succ_pos _) x _ rfl rfl (Lay.mono _ (HS.o.rd (Ext.trans aW.o H6.o.1) hr.o) (HS.o.old hV.o.2.1 (Ext.trans aW.o H6.o.1))) (by have := H.o.2.2.len_imports; rw [ltQ]; omega) 4 bU.o ?_
  intro az aR aO w2 bi aU
  refine hK _ _ ?_
  clear hK K
  have aU := qh aU
  have bS := bi.cell
  have cp := bi.frz
  clear bi HC
  repeat (apply item_take; rfl; rfl; rfl; rfl; exact fun _ _ _ _ h => h; (intro _ _ _ k; go_simp; exact k))
  apply zn; rfl; intro K hK; go_simp
  refine hK _ _ ?_
  clear hK K
  apply zm
  clear bS cp
  go_wp2
  go_roundw
  case rel => exact ⟨i + 1, _, by omega, by go_num, qh (by simpa using aU.o)⟩
  case measure => simp [intOf]; omega
 obtain rfl : i = m.imports.length := by omega
 have bh := hV.o
 rw [tlQ] at bh
 obtain ⟨zB, hz⟩ : ∃ z, z = Value.slice ap am ar := ⟨_, rfl⟩
 rw [← hz] at bh
 replace HS := qh (HS.o.next bh fun _ _ h k => h.set_imports k)
 clear hV bh hz aT hi aj aW ap am ar
 generalize wr = rm at *
 have au := HS.o.bm.cell
 have aT : (m.elements.length : Int) ≤ 9223372036854775807 := by have := lF.o; simp only [maxLen] at this; omega
 go_wp2_with fail
 clear au
 go_loopw [9, 89] (fun s9 vU w' => ∃ (i : Nat) (va : Value), i ≤ m.elements.length ∧ vU = .int .i64 i ∧ Hq (CV (Lay.elem n) 71 g gr (fun _ => False) rm (om (.int .u32 (m.version.toNat : Int)) m zA zB (.slice aC m.functions.length cC) nsV nsV va nsV nsV (.slice aI m.codes.length cI) nsV nsV nsV nsV) 37 w' va (m.elements.take i))) (fun _ vU _ => m.elements.length - (intOf vU).toNat)
 case atStart => exact ⟨0, _, nzQ _, rfl, HS.o.bg, zv _ _ _ _ _, Fr.refl _ _⟩
 obtain ⟨i, va, hi, rfl, hV⟩ := hrel
 have aW := qh (HS.o.ext hV.o.2.2)
 obtain ⟨ap, am, ar, rfl⟩ := hV.o.2.1.shape
 by_cases aj : i < m.elements.length
 ·obtain ⟨b, o, ax, cx, ay, cy, rfl, e0, e1, e2, r0, r1, hr⟩ := Lay.elem_at2 H.o.1.elements i aj
  have iu := qh (H.o.2.2.elements _ (List.getElem_mem aj))
  have bU := qh (show m.elements.take (i + 1) = _ from tsQ aj)
  generalize m.elements[i] = x at *
  replace e0 := aW.o.c e0
  replace e1 := aW.o.c e1
  replace e2 := aW.o.c e2
  have hr := qh hr
  have r0 := qh r0
  have r1 := qh r1
  go_wp2_with fail
  have dK := qh (zl wr #[.int .u32 (x.index.toNat : Int), .slice ax x.off.length cx, .slice ay x.ids.length cy] 110)
  have bP := qh (za wr (.cells #[.int .u32 (x.index.toNat : Int), .slice ax x.off.length cx, .slice ay x.ids.length cy] 110))
  generalize (wr.alloc (.cells #[.int .u32 (x.index.toNat : Int), .slice ax x.off.length cx, .slice ay x.ids.length cy] 110)) = W4 at *
  obtain ⟨ge, cm⟩ := exQ (wr.heap.size)
  rw [cm] at dK ⊢
  clear cm e0 e1 e2
  refine zj jQ [kT 0, kT 1, kT 2, kT 3, kT 4, kT 5, kT 7, kT 8, kR 6, kT 9, kR 10, kL 11, kT 12, kL 13] (by kernel_rfl) (by kernel_rfl) ?_
  simp only [zx, gzQ, gsQ]
  have HC := qh (fun W' (h : Ext W4.drew W') => anQ (dK.o.ext (Ext.trans (zb _) h)).cell (hV.o.1.ext (Ext.trans bP.o (Ext.trans (zb _) h))).cell)
  have bq := qh (Ext.trans bP.o (zb W4))
  generalize W4.drew = W5 at *
  repeat (apply item_take; rfl; rfl; rfl; rfl; exact fun _ _ _ _ h => h; (intro W e _ k; have q := HC.o W e; go_simp; exact k))
  apply zg; rfl; intro K hK; go_simp
  refine (yV n x.off ax x.off.length cx A W5 (HS.o.rd (Ext.trans aW.o bq.o) r0.o) (HS.o.lt (Ext.trans aW.o bq.o)) iu.o.1 iu.o.2).mono ?_
  rintro e w6 ⟨v6, rfl, o6, x6⟩
  refine hK _ _ x6 ?_
  obtain ⟨y1, y3, rfl, -, -⟩ := o6.form
  have H6 := qh (anQ (Ext.trans bq.o x6) o6.slice)
  clear hK K x6 o6 dK
  repeat (apply item_take; rfl; rfl; rfl; rfl; exact fun _ _ _ _ h => h; (intro _ _ _ k; go_simp; exact k))
  apply zg; rfl; intro K hK; go_simp
  refine hK _ _ (za _ _) ?_
  clear hK K
  apply zn; rfl; intro K hK
  refine HS.o.app hV.o H6.o.1 w6.heap.size rfl (.tmp 94) (.tmp 103) _ _ 56 rfl Tryz.underlying29 (YD n) rfl (by omega) (Nat.succ_pos _) x _ rfl rfl ⟨[_], [_, _], rfl, rfl, [_], [_], rfl, Lay.mono _ H6.o.2 (HS.o.new hV.o.2.1 hV.o.2.2.size bq.o.size), Lay.mono _ (HS.o.rd (Ext.trans aW.o H6.o.1) r1.o) (HS.o.old hV.o.2.1 (Ext.trans aW.o H6.o.1))⟩ (by have := H.o.2.2.len_elements; rw [ltQ]; omega) 8 bU.o ?_
  intro az aR aO w2 bi aU
  refine hK _ _ ?_
  clear hK K
  have aU := qh aU
  have bS := bi.cell
  have cp := bi.frz
  clear bi HC
  repeat (apply item_take; rfl; rfl; rfl; rfl; exact fun _ _ _ _ h => h; (intro _ _ _ k; go_simp; exact k))
  apply zn; rfl; intro K hK; go_simp
  refine hK _ _ ?_
  clear hK K
  apply zm
  clear bS cp
  go_wp2
  go_roundw
  case rel => exact ⟨i + 1, _, by omega, by go_num, qh (by simpa using aU.o)⟩
  case measure => simp [intOf]; omega
 obtain rfl : i = m.elements.length := by omega
 have bh := hV.o
 rw [tlQ] at bh
 obtain ⟨zF, hz⟩ : ∃ z, z = Value.slice ap am ar := ⟨_, rfl⟩
 rw [← hz] at bh
 replace HS := qh (HS.o.next bh fun _ _ h k => h.set_elements k)
 clear hV bh hz aT hi aj aW ap am ar
 generalize wr = wX at *
 have au := HS.o.bm.cell
 have aT : (m.globals.length : Int) ≤ 9223372036854775807 := by have := lG.o; simp only [maxLen] at this; omega
 go_wp2_with fail
 clear au
 go_loopw [11, 110] (fun od pX w' => ∃ (i : Nat) (va : Value), i ≤ m.globals.length ∧ pX = .int .i64 i ∧ Hq (CV (Lay.glob n) 69 g gr (fun _ => False) wX (om (.int .u32 (m.version.toNat : Int)) m zA zB (.slice aC m.functions.length cC) nsV nsV zF va nsV (.slice aI m.codes.length cI) nsV nsV nsV nsV) 37 w' va (m.globals.take i))) (fun _ pX _ => m.globals.length - (intOf pX).toNat)
 case atStart => exact ⟨0, _, nzQ _, rfl, HS.o.bg, zv _ _ _ _ _, Fr.refl _ _⟩
 obtain ⟨i, va, hi, rfl, hV⟩ := hrel
 have aW := qh (HS.o.ext hV.o.2.2)
 obtain ⟨ap, am, ar, rfl⟩ := hV.o.2.1.shape
 by_cases aj : i < m.globals.length
 ·obtain ⟨b, o, ax, cx, rfl, e0, e1, e2, r0, r1, hr⟩ := Lay.glob_at2 H.o.1.globals i aj
  have iu := qh (H.o.2.2.globals _ (List.getElem_mem aj))
  have bU := qh (show m.globals.take (i + 1) = _ from tsQ aj)
  generalize m.globals[i] = x at *
  replace e0 := aW.o.c e0
  replace e1 := aW.o.c e1
  replace e2 := aW.o.c e2
  have hr := qh hr
  have r0 := qh r0
  have r1 := qh r1
  go_wp2_with fail
  have dK := qh (zl wr #[.int .i64 x.ty, .bool x.mtb, .slice ax x.init.length cx] 113)
  have bP := qh (za wr (.cells #[.int .i64 x.ty, .bool x.mtb, .slice ax x.init.length cx] 113))
  generalize (wr.alloc (.cells #[.int .i64 x.ty, .bool x.mtb, .slice ax x.init.length cx] 113)) = W4 at *
  obtain ⟨ge, cm⟩ := exQ (wr.heap.size)
  rw [cm] at dK ⊢
  clear cm e0 e1 e2
  refine zj jQ [kT 0, kT 1, kT 2, kT 3, kT 4, kT 5, kT 6, kT 7, kR 8, kT 9, kR 10, kL 11, kT 12, kL 13] (by kernel_rfl) (by kernel_rfl) ?_
  simp only [zx, gzQ, gsQ]
  have HC := qh (fun W' (h : Ext W4.drew W') => anQ (dK.o.ext (Ext.trans (zb _) h)).cell (hV.o.1.ext (Ext.trans bP.o (Ext.trans (zb _) h))).cell)
  have bq := qh (Ext.trans bP.o (zb W4))
  generalize W4.drew = W5 at *
  repeat (apply item_take; rfl; rfl; rfl; rfl; exact fun _ _ _ _ h => h; (intro W e _ k; have q := HC.o W e; go_simp; exact k))
  apply zg; rfl; intro K hK; go_simp
  refine (yV n x.init ax x.init.length cx A W5 (HS.o.rd (Ext.trans aW.o bq.o) r1.o) (HS.o.lt (Ext.trans aW.o bq.o)) iu.o.1 iu.o.2).mono ?_
  rintro e w6 ⟨v6, rfl, o6, x6⟩
  refine hK _ _ x6 ?_
  obtain ⟨y1, y3, rfl, -, -⟩ := o6.form
  have H6 := qh (anQ (Ext.trans bq.o x6) o6.slice)
  clear hK K x6 o6 dK
  repeat (apply item_take; rfl; rfl; rfl; rfl; exact fun _ _ _ _ h => h; (intro _ _ _ k; go_simp; exact k))
  apply zg; rfl; intro K hK; go_simp
  refine hK _ _ (za _ _) ?_
  clear hK K
  apply zn; rfl; intro K hK
  refine HS.o.app hV.o H6.o.1 w6.heap.size rfl (.tmp 115) (.tmp 124) _ _ 40 rfl Tryz.underlying30 (YY n) rfl (by omega) (Nat.succ_pos _) x _ rfl rfl ⟨[_], [_, _], rfl, ⟨rfl, r0.o⟩, [_], [_], rfl, rfl, Lay.mono _ H6.o.2 (HS.o.new hV.o.2.1 hV.o.2.2.size bq.o.size)⟩ (by have := H.o.2.2.len_globals; rw [ltQ]; omega) 9 bU.o ?_
  intro az aR aO w2 bi aU
  refine hK _ _ ?_
  clear hK K
  have aU := qh aU
  have bS := bi.cell
  have cp := bi.frz
  clear bi HC
  repeat (apply item_take; rfl; rfl; rfl; rfl; exact fun _ _ _ _ h => h; (intro _ _ _ k; go_simp; exact k))
  apply zn; rfl; intro K hK; go_simp
  refine hK _ _ ?_
  clear hK K
  apply zm
  clear bS cp
  go_wp2
  go_roundw
  case rel => exact ⟨i + 1, _, by omega, by go_num, qh (by simpa using aU.o)⟩
  case measure => simp [intOf]; omega
 obtain rfl : i = m.globals.length := by omega
 have bh := hV.o
 rw [tlQ] at bh
 obtain ⟨zG, hz⟩ : ∃ z, z = Value.slice ap am ar := ⟨_, rfl⟩
 rw [← hz] at bh
 replace HS := qh (HS.o.next bh fun _ _ h k => h.set_globals k)
 clear hV bh hz aT hi aj aW ap am ar
 generalize wr = wl at *
 have au := HS.o.bm.cell
 have aT : (m.exports.length : Int) ≤ 9223372036854775807 := by have := lH.o; simp only [maxLen] at this; omega
 go_wp2_with fail
 clear au
 go_loopw [13, 131] (fun ib pl w' => ∃ (i : Nat) (va : Value), i ≤ m.exports.length ∧ pl = .int .i64 i ∧ Hq (CV Lay.expo 98 g gr (fun _ => False) wl (om (.int .u32 (m.version.toNat : Int)) m zA zB (.slice aC m.functions.length cC) nsV nsV zF zG va (.slice aI m.codes.length cI) nsV nsV nsV nsV) 37 w' va (m.exports.take i))) (fun _ pl _ => m.exports.length - (intOf pl).toNat)
 case atStart => exact ⟨0, _, nzQ _, rfl, HS.o.bg, zv _ _ _ _ _, Fr.refl _ _⟩
 obtain ⟨i, va, hi, rfl, hV⟩ := hrel
 have aW := qh (HS.o.ext hV.o.2.2)
 obtain ⟨ap, am, ar, rfl⟩ := hV.o.2.1.shape
 by_cases aj : i < m.exports.length
 ·obtain ⟨b, o, rfl, e0, e1, e2, r0, r1, hr⟩ := Lay.expo_at2 H.o.1.exports i aj
  have bU := qh (show m.exports.take (i + 1) = _ from tsQ aj)
  generalize m.exports[i] = x at *
  replace e0 := aW.o.c e0
  replace e1 := aW.o.c e1
  replace e2 := aW.o.c e2
  have hr := qh hr
  have r0 := qh r0
  have r1 := qh r1
  have ex := hV.o.1.ext (za wr (.cells #[.string (zd x.name), .int .i64 x.kind, .int .u32 (x.index.toNat : Int)] 114))
  have eq := ex.cell
  have eO := ex.frz
  clear ex
  go_wp2_with (at_builtin; refine Hq.o ?_)
  refine HS.o.appL hV.o (za _ _) (wr.heap.size + 1) (by simp) rfl (.tmp 136) (.tmp 144) _ _ 32 rfl Tryz.underlying31 YZ rfl (by omega) (Nat.succ_pos _) x _ rfl rfl (Lay.mono _ (HS.o.rd (Ext.trans aW.o (za _ _)) hr.o) (HS.o.old hV.o.2.1 (Ext.trans aW.o (za _ _)))) (by have := H.o.2.2.len_exports; rw [ltQ]; omega) 10 bU.o ?_
  intro az aR aO w2 bi aU
  have aU := qh aU
  have bS := bi.cell
  have cp := bi.frz
  clear bi eq eO e0 e1 e2
  go_wp2_with fail
  clear bS cp
  go_roundw
  case rel => exact ⟨i + 1, _, by omega, by go_num, qh (by simpa using aU.o)⟩
  case measure => simp [intOf]; omega
 obtain rfl : i = m.exports.length := by omega
 have bh := hV.o
 rw [tlQ] at bh
 obtain ⟨zH, hz⟩ : ∃ z, z = Value.slice ap am ar := ⟨_, rfl⟩
 rw [← hz] at bh
 replace HS := qh (HS.o.next bh fun _ _ h k => h.set_exports k)
 clear hV bh hz aT hi aj aW ap am ar
 generalize wr = vn at *
 have au := HS.o.bm.cell
 have aT : (m.datas.length : Int) ≤ 9223372036854775807 := by have := lJ.o; simp only [maxLen] at this; omega
 go_wp2_with fail
 clear au
 go_loopw [15, 151] (fun qE pm w' => ∃ (i : Nat) (va : Value), i ≤ m.datas.length ∧ pm = .int .i64 i ∧ Hq (CV (Lay.dat n) 73 g gr (fun _ => False) vn (om (.int .u32 (m.version.toNat : Int)) m zA zB (.slice aC m.functions.length cC) nsV nsV zF zG zH (.slice aI m.codes.length cI) va nsV nsV nsV) 37 w' va (m.datas.take i))) (fun _ pm _ => m.datas.length - (intOf pm).toNat)
 case atStart => exact ⟨0, _, nzQ _, rfl, HS.o.bg, zv _ _ _ _ _, Fr.refl _ _⟩
 obtain ⟨i, va, hi, rfl, hV⟩ := hrel
 have aW := qh (HS.o.ext hV.o.2.2)
 obtain ⟨ap, am, ar, rfl⟩ := hV.o.2.1.shape
 by_cases aj : i < m.datas.length
 ·obtain ⟨b, o, ax, cx, ay, cy, rfl, e0, e1, e2, r0, r1, hr⟩ := Lay.dat_at2 H.o.1.datas i aj
  have iu := qh (H.o.2.2.datas _ (List.getElem_mem aj))
  have bU := qh (show m.datas.take (i + 1) = _ from tsQ aj)
  generalize m.datas[i] = x at *
  replace e0 := aW.o.c e0
  replace e1 := aW.o.c e1
  replace e2 := aW.o.c e2
  have hr := qh hr
  have r0 := qh r0
  have r1 := qh r1
  go_wp2_with fail
  have dK := qh (zl wr #[.int .u32 (x.index.toNat : Int), .slice ax x.off.length cx, .slice ay x.init.length cy] 116)
  have bP := qh (za wr (.cells #[.int .u32 (x.index.toNat : Int), .slice ax x.off.length cx, .slice ay x.init.length cy] 116))
  generalize (wr.alloc (.cells #[.int .u32 (x.index.toNat : Int), .slice ax x.off.length cx, .slice ay x.init.length cy] 116)) = W4 at *
  obtain ⟨ge, cm⟩ := exQ (wr.heap.size)
  rw [cm] at dK ⊢
  clear cm e0 e1 e2
  refine zj jQ [kT 0, kT 1, kT 2, kT 3, kT 4, kT 5, kT 7, kT 8, kR 6, kT 9, kR 10, kL 11, kT 12, kL 13] (by kernel_rfl) (by kernel_rfl) ?_
  simp only [zx, gzQ, gsQ]
  have HC := qh (fun W' (h : Ext W4.drew W') => anQ (dK.o.ext (Ext.trans (zb _) h)).cell (hV.o.1.ext (Ext.trans bP.o (Ext.trans (zb _) h))).cell)
  have bq := qh (Ext.trans bP.o (zb W4))
  generalize W4.drew = W5 at *
  repeat (apply item_take; rfl; rfl; rfl; rfl; exact fun _ _ _ _ h => h; (intro W e _ k; have q := HC.o W e; go_simp; exact k))
  apply zg; rfl; intro K hK; go_simp
  refine (yV n x.off ax x.off.length cx A W5 (HS.o.rd (Ext.trans aW.o bq.o) r0.o) (HS.o.lt (Ext.trans aW.o bq.o)) iu.o.1 iu.o.2).mono ?_
  rintro e w6 ⟨v6, rfl, o6, x6⟩
  refine hK _ _ x6 ?_
  obtain ⟨y1, y3, rfl, -, -⟩ := o6.form
  have H6 := qh (anQ (Ext.trans bq.o x6) o6.slice)
  clear hK K x6 o6 dK
  repeat (apply item_take; rfl; rfl; rfl; rfl; exact fun _ _ _ _ h => h; (intro _ _ _ k; go_simp; exact k))
  apply zg; rfl; intro K hK; go_simp
  refine hK _ _ (za _ _) ?_
  clear hK K
  apply zn; rfl; intro K hK
  refine HS.o.app hV.o H6.o.1 w6.heap.size rfl (.tmp 156) (.tmp 165) _ _ 56 rfl Tryz.underlying33 (zbg n) rfl (by omega) (Nat.succ_pos _) x _ rfl rfl ⟨[_], [_, _], rfl, rfl, [_], [_], rfl, Lay.mono _ H6.o.2 (HS.o.new hV.o.2.1 hV.o.2.2.size bq.o.size), Lay.mono _ (HS.o.rd (Ext.trans aW.o H6.o.1) r1.o) (HS.o.old hV.o.2.1 (Ext.trans aW.o H6.o.1))⟩ (by have := H.o.2.2.len_datas; rw [ltQ]; omega) 12 bU.o ?_
  intro az aR aO w2 bi aU
  refine hK _ _ ?_
  clear hK K
  have aU := qh aU
  have bS := bi.cell
  have cp := bi.frz
  clear bi HC
  repeat (apply item_take; rfl; rfl; rfl; rfl; exact fun _ _ _ _ h => h; (intro _ _ _ k; go_simp; exact k))
  apply zn; rfl; intro K hK; go_simp
  refine hK _ _ ?_
  clear hK K
  apply zm
  clear bS cp
  go_wp2
  go_roundw
  case rel => exact ⟨i + 1, _, by omega, by go_num, qh (by simpa using aU.o)⟩
  case measure => simp [intOf]; omega
 obtain rfl : i = m.datas.length := by omega
 have bh := hV.o
 rw [tlQ] at bh
 obtain ⟨zJ, hz⟩ : ∃ z, z = Value.slice ap am ar := ⟨_, rfl⟩
 rw [← hz] at bh
 replace HS := qh (HS.o.next bh fun _ _ h k => h.set_datas k)
 clear hV bh hz aT hi aj aW ap am ar
 generalize wr = rO at *
 have au := HS.o.bm.cell
 have aT : (m.customs.length : Int) ≤ 9223372036854775807 := by have := lK.o; simp only [maxLen] at this; omega
 go_wp2_with fail
 clear au
 go_loopw [17, 172] (fun qI pW w' => ∃ (i : Nat) (va : Value), i ≤ m.customs.length ∧ pW = .int .i64 i ∧ Hq (CV Lay.cus 100 g gr (fun _ => False) rO (om (.int .u32 (m.version.toNat : Int)) m zA zB (.slice aC m.functions.length cC) nsV nsV zF zG zH (.slice aI m.codes.length cI) zJ va nsV nsV) 37 w' va (m.customs.take i))) (fun _ pW _ => m.customs.length - (intOf pW).toNat)
 case atStart => exact ⟨0, _, nzQ _, rfl, HS.o.bg, zv _ _ _ _ _, Fr.refl _ _⟩
 obtain ⟨i, va, hi, rfl, hV⟩ := hrel
 have aW := qh (HS.o.ext hV.o.2.2)
 obtain ⟨ap, am, ar, rfl⟩ := hV.o.2.1.shape
 by_cases aj : i < m.customs.length
 ·obtain ⟨b, o, ay, cy, rfl, e0, e1, r0, r1, hr⟩ := Lay.cus_at2 H.o.1.customs i aj
  have bU := qh (show m.customs.take (i + 1) = _ from tsQ aj)
  generalize m.customs[i] = x at *
  replace e0 := aW.o.c e0
  replace e1 := aW.o.c e1
  have hr := qh hr
  have r0 := qh r0
  have r1 := qh r1
  have ex := hV.o.1.ext (za wr (.cells #[.string (zd x.name), .slice ay x.data.length cy] 117))
  have eq := ex.cell
  have eO := ex.frz
  clear ex
  go_wp2_with (at_builtin; refine Hq.o ?_)
  refine HS.o.appL hV.o (za _ _) (wr.heap.size + 1) (by simp) rfl (.tmp 177) (.tmp 183) _ _ 40 rfl Tryz.underlying34 Y0 rfl (by omega) (Nat.succ_pos _) x _ rfl rfl (Lay.mono _ (HS.o.rd (Ext.trans aW.o (za _ _)) hr.o) (HS.o.old hV.o.2.1 (Ext.trans aW.o (za _ _)))) (by have := H.o.2.2.len_customs; rw [ltQ]; omega) 13 bU.o ?_
  intro az aR aO w2 bi aU
  have aU := qh aU
  have bS := bi.cell
  have cp := bi.frz
  clear bi eq eO e0 e1
  go_wp2_with fail
  clear bS cp
  go_roundw
  case rel => exact ⟨i + 1, _, by omega, by go_num, qh (by simpa using aU.o)⟩
  case measure => simp [intOf]; omega
 obtain rfl : i = m.customs.length := by omega
 have bh := hV.o
 rw [tlQ] at bh
 obtain ⟨zK, hz⟩ : ∃ z, z = Value.slice ap am ar := ⟨_, rfl⟩
 rw [← hz] at bh
 replace HS := qh (HS.o.next bh fun _ _ h k => h.set_customs k)
 clear hV bh hz aT hi aj aW ap am ar
 generalize wr = tL at *
 have au := HS.o.bm.cell
 have aT : (m.funcs.length : Int) ≤ 9223372036854775807 := by have := lL.o; simp only [maxLen] at this; omega
 go_wp2_with fail
 clear au
 go_loopw [19, 190] (fun Az pA w' => ∃ (i : Nat) (va : Value), i ≤ m.funcs.length ∧ pA = .int .i64 i ∧ Hq (CV Lay.nam 120 g gr (fun _ => False) tL (om (.int .u32 (m.version.toNat : Int)) m zA zB (.slice aC m.functions.length cC) nsV nsV zF zG zH (.slice aI m.codes.length cI) zJ zK va nsV) 37 w' va (m.funcs.take i))) (fun _ pA _ => m.funcs.length - (intOf pA).toNat)
 case atStart => exact ⟨0, _, nzQ _, rfl, HS.o.bg, zv _ _ _ _ _, Fr.refl _ _⟩
 obtain ⟨i, va, hi, rfl, hV⟩ := hrel
 have aW := qh (HS.o.ext hV.o.2.2)
 obtain ⟨ap, am, ar, rfl⟩ := hV.o.2.1.shape
 by_cases aj : i < m.funcs.length
 ·obtain ⟨b, o, rfl, e0, e1, e2, r0, hr⟩ := Lay.nam_at2 H.o.1.funcs i aj
  have bU := qh (show m.funcs.take (i + 1) = _ from tsQ aj)
  generalize m.funcs[i] = x at *
  replace e0 := aW.o.c e0
  replace e1 := aW.o.c e1
  replace e2 := aW.o.c e2
  have hr := qh hr
  have r0 := qh r0
  have ex := hV.o.1.ext (za wr (.cells #[.int .u32 (x.fn.toNat : Int), .int .u32 (x.idx.toNat : Int), .string (zd x.name)] 119))
  have eq := ex.cell
  have eO := ex.frz
  clear ex
  go_wp2_with (at_builtin; refine Hq.o ?_)
  refine HS.o.appL hV.o (za _ _) (wr.heap.size + 1) (by simp) rfl (.tmp 195) (.tmp 203) _ _ 24 rfl Tryz.underlying35 ZK rfl (by omega) (Nat.succ_pos _) x _ rfl rfl (Lay.mono _ (HS.o.rd (Ext.trans aW.o (za _ _)) hr.o) (HS.o.old hV.o.2.1 (Ext.trans aW.o (za _ _)))) (by have := H.o.2.2.len_funcs; rw [ltQ]; omega) 15 bU.o ?_
  intro az aR aO w2 bi aU
  have aU := qh aU
  have bS := bi.cell
  have cp := bi.frz
  clear bi eq eO e0 e1 e2
  go_wp2_with fail
  clear bS cp
  go_roundw
  case rel => exact ⟨i + 1, _, by omega, by go_num, qh (by simpa using aU.o)⟩
  case measure => simp [intOf]; omega
 obtain rfl : i = m.funcs.length := by omega
 have bh := hV.o
 rw [tlQ] at bh
 obtain ⟨zL, hz⟩ : ∃ z, z = Value.slice ap am ar := ⟨_, rfl⟩
 rw [← hz] at bh
 replace HS := qh (HS.o.next bh fun _ _ h k => h.set_funcs k)
 clear hV bh hz aT hi aj aW ap am ar
 generalize wr = tu at *
 have au := HS.o.bm.cell
 have aT : (m.locals.length : Int) ≤ 9223372036854775807 := by have := lM.o; simp only [maxLen] at this; omega
 go_wp2_with fail
 clear au
 go_loopw [21, 210] (fun iM i9 w' => ∃ (i : Nat) (va : Value), i ≤ m.locals.length ∧ i9 = .int .i64 i ∧ Hq (CV Lay.nam 120 g gr (fun _ => False) tu (om (.int .u32 (m.version.toNat : Int)) m zA zB (.slice aC m.functions.length cC) nsV nsV zF zG zH (.slice aI m.codes.length cI) zJ zK zL va) 37 w' va (m.locals.take i))) (fun _ i9 _ => m.locals.length - (intOf i9).toNat)
 case atStart => exact ⟨0, _, nzQ _, rfl, HS.o.bg, zv _ _ _ _ _, Fr.refl _ _⟩
 obtain ⟨i, va, hi, rfl, hV⟩ := hrel
 have aW := qh (HS.o.ext hV.o.2.2)
 obtain ⟨ap, am, ar, rfl⟩ := hV.o.2.1.shape
 by_cases aj : i < m.locals.length
 ·obtain ⟨b, o, rfl, e0, e1, e2, r0, hr⟩ := Lay.nam_at2 H.o.1.locals i aj
  have bU := qh (show m.locals.take (i + 1) = _ from tsQ aj)
  generalize m.locals[i] = x at *
  replace e0 := aW.o.c e0
  replace e1 := aW.o.c e1
  replace e2 := aW.o.c e2
  have hr := qh hr
  have r0 := qh r0
  have ex := hV.o.1.ext (za wr (.cells #[.int .u32 (x.fn.toNat : Int), .int .u32 (x.idx.toNat : Int), .string (zd x.name)] 119))
  have eq := ex.cell
  have eO := ex.frz
  clear ex
  go_wp2_with (at_builtin; refine Hq.o ?_)
  refine HS.o.appL hV.o (za _ _) (wr.heap.size + 1) (by simp) rfl (.tmp 215) (.tmp 223) _ _ 24 rfl Tryz.underlying35 ZK rfl (by omega) (Nat.succ_pos _) x _ rfl rfl (Lay.mono _ (HS.o.rd (Ext.trans aW.o (za _ _)) hr.o) (HS.o.old hV.o.2.1 (Ext.trans aW.o (za _ _)))) (by have := H.o.2.2.len_locals; rw [ltQ]; omega) 16 bU.o ?_
  intro az aR aO w2 bi aU
  have aU := qh aU
  have bS := bi.cell
  have cp := bi.frz
  clear bi eq eO e0 e1 e2
  go_wp2_with fail
  clear bS cp
  go_roundw
  case rel => exact ⟨i + 1, _, by omega, by go_num, qh (by simpa using aU.o)⟩
  case measure => simp [intOf]; omega
 obtain rfl : i = m.locals.length := by omega
 have bh := hV.o
 rw [tlQ] at bh
 obtain ⟨zM, hz⟩ : ∃ z, z = Value.slice ap am ar := ⟨_, rfl⟩
 rw [← hz] at bh
 replace HS := qh (HS.o.next bh fun _ _ h k => h.set_locals k)
 clear hV bh hz aT hi aj aW ap am ar
 generalize wr = r9 at *
 have au := HS.o.bm.cell
 have aT : (m.tables.length : Int) ≤ 9223372036854775807 := by have := lD.o; simp only [maxLen] at this; omega
 go_wp2_with fail
 clear au
 go_loopw [23, 230] (fun tq qa w' => ∃ (i : Nat) (va : Value), i ≤ m.tables.length ∧ qa = .int .i64 i ∧ Hq (CV Lay.lim 63 g gr (fun _ => False) r9 (om (.int .u32 (m.version.toNat : Int)) m zA zB (.slice aC m.functions.length cC) va nsV zF zG zH (.slice aI m.codes.length cI) zJ zK zL zM) 37 w' va (m.tables.take i))) (fun _ qa _ => m.tables.length - (intOf qa).toNat)
 case atStart => exact ⟨0, _, nzQ _, rfl, HS.o.bg, zv _ _ _ _ _, Fr.refl _ _⟩
 obtain ⟨i, va, hi, rfl, hV⟩ := hrel
 have aW := qh (HS.o.ext hV.o.2.2)
 obtain ⟨ap, am, ar, rfl⟩ := hV.o.2.1.shape
 by_cases aj : i < m.tables.length
 ·obtain ⟨b, o, rfl, e0, e1, e2, hr⟩ := Lay.lim_at2 H.o.1.tables i aj
  have bU := qh (show m.tables.take (i + 1) = _ from tsQ aj)
  generalize m.tables[i] = x at *
  replace e0 := aW.o.c e0
  replace e1 := aW.o.c e1
  replace e2 := aW.o.c e2
  have hr := qh hr
  go_wp2_with fail
  have dK := qh (zl wr #[.int .u32 (x.min.toNat : Int), .bool x.bounded, .int .u32 (x.max.toNat : Int)] 104)
  have bP := qh (za wr (.cells #[.int .u32 (x.min.toNat : Int), .bool x.bounded, .int .u32 (x.max.toNat : Int)] 104))
  generalize (wr.alloc (.cells #[.int .u32 (x.min.toNat : Int), .bool x.bounded, .int .u32 (x.max.toNat : Int)] 104)) = W4 at *
  obtain ⟨ge, cm⟩ := exQ (wr.heap.size)
  rw [cm] at dK ⊢
  clear cm e0 e1 e2
  refine zj jQ [kT 0, kT 1, kT 2, kR 3, kR 4, kL 5, kT 6, kL 7] (by kernel_rfl) (by kernel_rfl) ?_
  simp only [zx, gzQ, gsQ]
  have HC := qh (fun W' (h : Ext W4.drew W') => anQ (dK.o.ext (Ext.trans (zb _) h)).cell (hV.o.1.ext (Ext.trans bP.o (Ext.trans (zb _) h))).cell)
  have bq := qh (Ext.trans bP.o (zb W4))
  generalize W4.drew = W5 at *
  repeat (apply item_take; rfl; rfl; rfl; rfl; exact fun _ _ _ _ h => h; (intro W e _ k; have q := HC.o W e; go_simp; exact k))
  apply zg; rfl; intro K hK; go_simp
  refine (jL x W5).mono ?_
  rintro e w6 ⟨rfl, x6⟩
  refine hK _ _ x6 ?_
  have H6 := qh (anQ (Ext.trans bq.o x6) trivial)
  clear hK K x6 dK
  repeat (apply item_take; rfl; rfl; rfl; rfl; exact fun _ _ _ _ h => h; (intro _ _ _ k; go_simp; exact k))
  apply zg; rfl; intro K hK; go_simp
  refine hK _ _ (za _ _) ?_
  clear hK K
  apply zn; rfl; intro K hK
  refine HS.o.app hV.o H6.o.1 w6.heap.size rfl (.tmp 235) (.tmp 238) _ _ 12 rfl Tryz.underlying28 Zp rfl (by omega) (Nat.succ_pos _) x _ rfl rfl (Lay.mono _ (HS.o.rd (Ext.trans aW.o H6.o.1) hr.o) (HS.o.old hV.o.2.1 (Ext.trans aW.o H6.o.1))) (by have := H.o.2.2.len_tables; rw [ltQ]; omega) 6 bU.o ?_
  intro az aR aO w2 bi aU
  refine hK _ _ ?_
  clear hK K
  have aU := qh aU
  have bS := bi.cell
  have cp := bi.frz
  clear bi HC
  repeat (apply item_take; rfl; rfl; rfl; rfl; exact fun _ _ _ _ h => h; (intro _ _ _ k; go_simp; exact k))
  apply zn; rfl; intro K hK; go_simp
  refine hK _ _ ?_
  clear hK K
  apply zm
  clear bS cp
  go_wp2
  go_roundw
  case rel => exact ⟨i + 1, _, by omega, by go_num, qh (by simpa using aU.o)⟩
  case measure => simp [intOf]; omega
 obtain rfl : i = m.tables.length := by omega
 have bh := hV.o
 rw [tlQ] at bh
 obtain ⟨zD, hz⟩ : ∃ z, z = Value.slice ap am ar := ⟨_, rfl⟩
 rw [← hz] at bh
 replace HS := qh (HS.o.next bh fun _ _ h k => h.set_tables k)
 clear hV bh hz aT hi aj aW ap am ar
 generalize wr = mi at *
 have au := HS.o.bm.cell
 have aT : (m.memories.length : Int) ≤ 9223372036854775807 := by have := lE.o; simp only [maxLen] at this; omega
 go_wp2_with fail
 clear au
 go_loopw [25, 245] (fun sA qg w' => ∃ (i : Nat) (va : Value), i ≤ m.memories.length ∧ qg = .int .i64 i ∧ Hq (CV Lay.lim 63 g gr (fun _ => False) mi (om (.int .u32 (m.version.toNat : Int)) m zA zB (.slice aC m.functions.length cC) zD va zF zG zH (.slice aI m.codes.length cI) zJ zK zL zM) 37 w' va (m.memories.take i))) (fun _ qg _ => m.memories.length - (intOf qg).toNat)
 case atStart => exact ⟨0, _, nzQ _, rfl, HS.o.bg, zv _ _ _ _ _, Fr.refl _ _⟩
 obtain ⟨i, va, hi, rfl, hV⟩ := hrel
 have aW := qh (HS.o.ext hV.o.2.2)
 obtain ⟨ap, am, ar, rfl⟩ := hV.o.2.1.shape
 by_cases aj : i < m.memories.length
 ·obtain ⟨b, o, rfl, e0, e1, e2, hr⟩ := Lay.lim_at2 H.o.1.memories i aj
  have bU := qh (show m.memories.take (i + 1) = _ from tsQ aj)
  generalize m.memories[i] = x at *
  replace e0 := aW.o.c e0
  replace e1 := aW.o.c e1
  replace e2 := aW.o.c e2
  have hr := qh hr
  go_wp2_with fail
  have dK := qh (zl wr #[.int .u32 (x.min.toNat : Int), .bool x.bounded, .int .u32 (x.max.toNat : Int)] 104)
  have bP := qh (za wr (.cells #[.int .u32 (x.min.toNat : Int), .bool x.bounded, .int .u32 (x.max.toNat : Int)] 104))
  generalize (wr.alloc (.cells #[.int .u32 (x.min.toNat : Int), .bool x.bounded, .int .u32 (x.max.toNat : Int)] 104)) = W4 at *
  obtain ⟨ge, cm⟩ := exQ (wr.heap.size)
  rw [cm] at dK ⊢
  clear cm e0 e1 e2
  refine zj jQ [kT 0, kT 1, kT 2, kR 3, kR 4, kL 5, kT 6, kL 7] (by kernel_rfl) (by kernel_rfl) ?_
  simp only [zx, gzQ, gsQ]
  have HC := qh (fun W' (h : Ext W4.drew W') => anQ (dK.o.ext (Ext.trans (zb _) h)).cell (hV.o.1.ext (Ext.trans bP.o (Ext.trans (zb _) h))).cell)
  have bq := qh (Ext.trans bP.o (zb W4))
  generalize W4.drew = W5 at *
  repeat (apply item_take; rfl; rfl; rfl; rfl; exact fun _ _ _ _ h => h; (intro W e _ k; have q := HC.o W e; go_simp; exact k))
  apply zg; rfl; intro K hK; go_simp
  refine (jL x W5).mono ?_
  rintro e w6 ⟨rfl, x6⟩
  refine hK _ _ x6 ?_
  have H6 := qh (anQ (Ext.trans bq.o x6) trivial)
  clear hK K x6 dK
  repeat (apply item_take; rfl; rfl; rfl; rfl; exact fun _ _ _ _ h => h; (intro _ _ _ k; go_simp; exact k))
  apply zg; rfl; intro K hK; go_simp
  refine hK _ _ (za _ _) ?_
  clear hK K
  apply zn; rfl; intro K hK
  refine HS.o.app hV.o H6.o.1 w6.heap.size rfl (.tmp 250) (.tmp 253) _ _ 12 rfl Tryz.underlying28 Zp rfl (by omega) (Nat.succ_pos _) x _ rfl rfl (Lay.mono _ (HS.o.rd (Ext.trans aW.o H6.o.1) hr.o) (HS.o.old hV.o.2.1 (Ext.trans aW.o H6.o.1))) (by have := H.o.2.2.len_memories; rw [ltQ]; omega) 7 bU.o ?_
  intro az aR aO w2 bi aU
  refine hK _ _ ?_
  clear hK K
  have aU := qh aU
  have bS := bi.cell
  have cp := bi.frz
  clear bi HC
  repeat (apply item_take; rfl; rfl; rfl; rfl; exact fun _ _ _ _ h => h; (intro _ _ _ k; go_simp; exact k))
  apply zn; rfl; intro K hK; go_simp
  refine hK _ _ ?_
  clear hK K
  apply zm
  clear bS cp
  go_wp2
  go_roundw
  case rel => exact ⟨i + 1, _, by omega, by go_num, qh (by simpa using aU.o)⟩
  case measure => simp [intOf]; omega
 obtain rfl : i = m.memories.length := by omega
 have bh := hV.o
 rw [tlQ] at bh
 obtain ⟨zE, hz⟩ : ∃ z, z = Value.slice ap am ar := ⟨_, rfl⟩
 rw [← hz] at bh
 replace HS := qh (HS.o.next bh fun _ _ h k => h.set_memories k)
 clear hV bh hz aT hi aj aW ap am ar
 generalize wr = i2 at *
 have au := HS.o.bm.cell
 clear au
 go_upto_region 57 with fail
 refine wp_region_lit ?_
 refine HS.o.bg.wpList_load rfl 37 (.tmp 3) rfl rfl _ Tryz.underlying37 rfl (by kernel_rfl) ?_
 refine HS.o.br.wpList_store rfl 37 (.tmp 2) (.tmp 257) rfl rfl rfl (by kernel_rfl) rfl ?_ ?_
 ·have oA := Lay.slice_one HS.o.md.types
  have oB := Lay.slice_one HS.o.md.imports
  have oC := Lay.slice_one HS.o.md.functions
  have oD := Lay.slice_one HS.o.md.tables
  have oE := Lay.slice_one HS.o.md.memories
  have oF := Lay.slice_one HS.o.md.elements
  have oG := Lay.slice_one HS.o.md.globals
  have oH := Lay.slice_one HS.o.md.exports
  have oI := Lay.slice_one HS.o.md.codes
  have oJ := Lay.slice_one HS.o.md.datas
  have oK := Lay.slice_one HS.o.md.customs
  have oL := Lay.slice_one HS.o.md.funcs
  have oM := Lay.slice_one HS.o.md.locals
  show List.all [.int .u32 (m.version.toNat : Int), .bool m.hasStart, .int .u32 (m.start.toNat : Int), zA, zB, .slice aC m.functions.length cC, zD, zE, zF, zG, zH, .slice aI m.codes.length cI, zJ, zK, .string (zd m.named), zL, zM] (·.oneCell') = true
  simp only [List.all_cons, List.all_nil, oA, oB, oC, oD, oE, oF, oG, oH, oI, oJ, oK, oL, oM]
  rfl
 refine wpList_nil ?_
 go_wp2
 have hs := z9 i2 gr #[.int .u32 (m.version.toNat : Int), .bool m.hasStart, .int .u32 (m.start.toNat : Int), zA, zB, .slice aC m.functions.length cC, zD, zE, zF, zG, zH, .slice aI m.codes.length cI, zJ, zK, .string (zd m.named), zL, zM]
 have c8 := HS.o.br.setRow #[.int .u32 (m.version.toNat : Int), .bool m.hasStart, .int .u32 (m.start.toNat : Int), zA, zB, .slice aC m.functions.length cC, zD, zE, zF, zG, zH, .slice aI m.codes.length cI, zJ, zK, .string (zd m.named), zL, zM]
 have hX := qh (Fr.new (Ext.fr HS.o.x hs) (fun k e => by have e' : k = gr := e; have := HS.o.lo; omega))
 have aV := qh (show ModAt n (fun k => k < (i2.setRow gr #[.int .u32 (m.version.toNat : Int), .bool m.hasStart, .int .u32 (m.start.toNat : Int), zA, zB, .slice aC m.functions.length cC, zD, zE, zF, zG, zH, .slice aI m.codes.length cI, zJ, zK, .string (zd m.named), zL, zM]).heap.size) (i2.setRow gr #[.int .u32 (m.version.toNat : Int), .bool m.hasStart, .int .u32 (m.start.toNat : Int), zA, zB, .slice aC m.functions.length cC, zD, zE, zF, zG, zH, .slice aI m.codes.length cI, zJ, zK, .string (zd m.named), zL, zM]) m ⟨zA, zB, .slice aC m.functions.length cC, zD, zE, zF, zG, zH, .slice aI m.codes.length cI, zJ, zK, zL, zM⟩ from
  (HS.o.md.fr hs (fun k hk => ⟨hk.2, fun e => hk.1 (.inr (.inl e))⟩)).mono (fun k hk => nqQ hk.2 hs.size))
 exact bodyPost_ret (v := .agg #[.int .u32 (m.version.toNat : Int), .bool m.hasStart, .int .u32 (m.start.toNat : Int), zA, zB, .slice aC m.functions.length cC, zD, zE, zF, zG, zH, .slice aI m.codes.length cI, zJ, zK, .string (zd m.named), zL, zM]) (yq Tryz.results10 _ rfl c8 _ Tryz.underlying37 rfl (by kernel_rfl)) rfl ⟨⟨zA, zB, .slice aC m.functions.length cC, zD, zE, zF, zG, zH, .slice aI m.codes.length cI, zJ, zK, zL, zM⟩, rfl, aV.o, hX.o⟩
section
variable {P : Program} {aw : Array Oper} {Q : Exit → Act → World → Prop} {R : Frm}
theorem zdn {o : Oper} {rest : List Item} {a : Act} {w : World} {d : Tmp} (g : Nat) (cs : Array Value) (T ty : TypeId) (x : Operand) (ho : o.op = .load ty x) (hx : a.eval x = .pointer (some ⟨g, 0, none⟩)) (hB : ∀ W, R.E w W → Blk W g cs T) (du : TypeDesc)
 (hu : P.underlying ty = some du) (kW : du.isRow = true) (hi : (P.info? ty).map (·.size) = some cs.size) (hd : o.dst = some d) (aj : Nat.blt d a.tmps.size = true) (hw : Region.wanted o (yielded aw a.tmps) = true)
 (hQ : ∀ v c a w, Q (.panic c) (a.put o.dst v) w → Q (.panic c) a w) (h : yz P aw Q R rest (a.put o.dst (.agg cs)) w) : yz P aw Q R (.take o :: rest) a w :=
 item_take (by rw [ho]; rfl) hd aj hw hQ (fun W hE K hK => (hB W hE).wp_load ty x ho hx du hu kW hi hK) h
end
theorem BV {b : List UInt8} (hc : Clean (zV false b).1) : ((zV false b).2 = 0 → ∃ m, yA b = .ok m [] ∧ yI m = yI (zV false b).1 ∧ gMod m ≤ 64 * b.length ∧ Nice m) ∧ ((zV false b).2 = 1 → yA b = .bad) := by
 have h := ze1 false b hc
 refine ⟨fun h0 => ?_, h.2⟩
 have h1 := h.1 h0
 have h2 := zdb h1
 exact ⟨_, h1, zjN _, h2.2, h2.1⟩
theorem zdo (aa : Option Addr) (mm cap : Nat) (bs : List UInt8) (pp : Option Addr) (pn pc : Nat) (ps : List Int) (pe pu : Addr) (w : World) (hR : Lay.u8.slice.rd (fun k => k < w.heap.size) w [.slice aa mm cap] bs) (hP : Lay.int.slice.rd (fun k => k < w.heap.size) w [.slice pp pn pc] ps) (hS : Spec pe pu w.heap.size w) :
 Calls Tryz.prog 3 #[.slice aa mm cap, .slice pp pn pc] w fun e w' => e = .returned (.bool true) ∧ Ext w w' := by
 obtain rfl : mm = bs.length := by obtain ⟨_, _, e, _⟩ := hR; simp only [List.cons.injEq, Value.slice.injEq, and_true] at e; exact e.2.1
 have aT : (bs.length : Int) ≤ 9223372036854775807 := by
  obtain ⟨a', c', e, dw, cn⟩ := Lay.slice_form hR
  simp only [maxLen] at cn; omega
 have vm : (pn : Int) ≤ 9223372036854775807 := by
  obtain ⟨a', c', e, dw, cn⟩ := Lay.slice_form hP
  simp only [Value.slice.injEq] at e
  obtain ⟨-, rfl, -⟩ := e
  simp only [maxLen] at cn; omega
 by_cases h31 : 2147483647 < bs.length
 ·have d1 : decide ((2147483647 : Int) < (bs.length : Int)) = true := decide_eq_true (by omega)
  clear hR hP hS
  as_aux_lemma =>
  go_enter Tryz.func3, Tryz.ntmps3
  go_wp2
  go_ret
  exact ⟨rfl, Fr.refl _ _⟩
 have d1 : decide ((2147483647 : Int) < (bs.length : Int)) = false := decide_eq_false (by omega)
 by_cases hp31 : 2147483647 < pn
 ·have d2 : decide ((2147483647 : Int) < (pn : Int)) = true := decide_eq_true (by omega)
  clear hR hP hS
  as_aux_lemma =>
  go_enter Tryz.func3, Tryz.ntmps3
  go_wp2
  go_ret
  exact ⟨rfl, Fr.refl _ _⟩
 have d2 : decide ((2147483647 : Int) < (pn : Int)) = false := decide_eq_false (by omega)
 by_cases fk : 65536 < bs.length
 ·have d3 : decide ((65536 : Int) < (bs.length : Int)) = true := decide_eq_true (by omega)
  clear hR hP hS
  as_aux_lemma =>
  go_enter Tryz.func3, Tryz.ntmps3
  go_wp2
  go_ret
  exact ⟨rfl, Fr.refl _ _⟩
 have d3 : decide ((65536 : Int) < (bs.length : Int)) = false := decide_eq_false (by omega)
 have HR := qh (za9 0 _ bs aa bs.length cap w hR (fun _ h => h) (by omega))
 have HI := qh (fun W (h : Ext w W) (ag : yA bs ≠ .any) => Jq 0 (fun k => k < w.heap.size) aa pp cap pn pc bs ps pe pu W (Lay.fr hR h (fun k hk => ⟨hk, fun h => h⟩)) (Lay.fr hP h (fun k hk => ⟨hk, fun h => h⟩)) (fun k hk => nqQ hk h.size) (hS.up h) (by omega) ag)
 have HD := qh (fun W (h : Ext w W) => zd2 h hS)
 have kX := qh (show bs.length ≤ 65536 by omega)
 have HV := qh (anQ (BP false bs) (anQ (CA false bs) (BV (b := bs))))
 obtain ⟨M, hM⟩ := exQ ((zV false bs).1)
 obtain ⟨vd, qM⟩ := exQ ((zV false bs).2)
 rw [hM, qM] at HV HR
 clear hR hP hS h31 hp31 fk hM qM
 go_enter Tryz.func3, Tryz.ntmps3
 go_wp2_with fail
 refine HR.o.mono ?_
 rintro e w1 ⟨v, rfl, xq, x1⟩
 obtain ⟨aA, m8, aB, nJ, aC, nO, aD, nA, aE, nU, aF, nG, aG, nb, aH, nX, aI, nP, aJ, ni, aK, ny, aL, nZ, aM, nY, rfl⟩ := ZX xq
 obtain ⟨W1, gs, iQ, fe, H1⟩ : ∃ W1 gs, Hq ((w1.alloc (.cells (kmc M aA m8 aB nJ aC nO aD nA aE nU aF nG aG nb aH nX aI nP aJ ni aK ny aL nZ aM nY) 37)) = W1) ∧ Hq (w1.heap.size = gs) ∧ Hq (Blk W1 gs (kmc M aA m8 aB nJ aC nO aD nA aE nU aF nG aG nb aH nX aI nP aJ ni aK ny aL nZ aM nY) 37 ∧ Ext w W1 ∧ ModAt 1 (fun k => k < gs) W1 M ⟨.slice aA M.types.length m8, .slice aB M.imports.length nJ, .slice aC M.functions.length nO, .slice aD M.tables.length nA, .slice aE M.memories.length nU, .slice aF M.elements.length nG, .slice aG M.globals.length nb, .slice aH M.exports.length nX, .slice aI M.codes.length nP, .slice aJ M.datas.length ni, .slice aK M.customs.length ny, .slice aL M.funcs.length nZ, .slice aM M.locals.length nY⟩ ∧ w.heap.size ≤ gs ∧ gs < W1.heap.size) :=
  ⟨_, _, rfl, rfl, zl _ _ _, Ext.trans x1 (za _ _), xq.fr (za _ _) (fun k hk => ⟨hk, fun h => h⟩), x1.size, by simp⟩
 clear xq x1 HR
 by_cases h2 : vd = 2
 ·as_aux_lemma =>
  subst h2
  have hx := qh (show Ext w (w1.alloc (.cells (kmc M aA m8 aB nJ aC nO aD nA aE nU aF nG aG nb aH nX aI nP aJ ni aK ny aL nZ aM nY) 37)) from iQ.o ▸ H1.o.2.1)
  go_wp2
  go_ret
  exact ⟨rfl, hx.o⟩
 have ct := bfQ (a := (vd : Int)) (b := 2) (by omega)
 go_upto_region 6 with fail
 rw [iQ.o, fe.o]
 clear iQ fe
 have cw := H1.o.1.cell
 have HG := qh (zcp H1.o.2.2.1 (fun k hk => Nat.lt_trans hk H1.o.2.2.2.2) (by have h3 := HV.o.2.1; have := h3.globals; have := h3.elements; have := h3.datas; have := kX.o; omega))
 go_wp2_with fail
 refine HG.o.mono ?_
 rintro e w2 ⟨bb, rfl, c6, x2⟩
 clear HG cw
 cases bb with
 | true =>
  as_aux_lemma =>
  have hx := qh (Ext.trans H1.o.2.1 x2)
  clear c6 x2
  go_wp2
  go_ret
  exact ⟨rfl, hx.o⟩
 | false =>
 have c6 := c6 rfl
 have it := HV.o.2.2 (by assumption)
 have H2 := qh (anQ (Ext.trans H1.o.2.1 x2) (anQ (H1.o.1.ext x2) x2))
 clear x2
 by_cases h1 : vd = 1
 ·as_aux_lemma =>
  subst h1
  have cZ := qh (it.2 rfl)
  clear it c6 HV
  go_wp2_with fail
  refine (HI.o w2 H2.o.1 (by rw [cZ.o]; exact fun e => nomatch e)).mono ?_
  rintro e w3 (⟨m, v, hp, -⟩ | ⟨-, rfl, x3⟩)
  ·rw [cZ.o] at hp; cases hp
  have x3 := qh (Ext.trans H2.o.1 x3)
  rw [show zt Mod.none ModV.zero = zM from rfl]
  go_wp2_with fail
  refine (HD.o _ (Ext.trans x3.o (za _ _))).mono ?_
  rintro e w4 ⟨rfl, x4⟩
  have x4 := qh x4
  go_wp2
  go_ret
  exact ⟨rfl, x4.o⟩
 ·as_aux_lemma =>
  obtain rfl : vd = 0 := by have := HV.o.1; clear it; omega
  obtain ⟨m, gu, pf, qU, AY⟩ := it.1 rfl
  have HK := qh (anQ gu (anQ pf (anQ qU AY)))
  clear it c6 gu pf qU AY h1 h2 ct
  go_wp2_with fail
  refine (HI.o w2 H2.o.1 (by rw [HK.o.1]; exact fun e => nomatch e)).mono ?_
  rintro e w3 (⟨m', v', hp, rfl, wu, x3⟩ | ⟨hp, -⟩)
  rotate_left
  ·rw [HK.o.1] at hp; cases hp
  rw [HK.o.1] at hp
  obtain ⟨rfl, -⟩ := zP hp
  obtain ⟨bA, tz, bB, r7, bC, sH, bD, r6, bE, tg, bF, sr, bG, sQ, bH, sB, bI, tH, bJ, tE, bK, tk, bL, sV, bM, sj, rfl⟩ := ZX wu
  obtain ⟨W4, g4, da, C5, H4⟩ : ∃ W4 g4, Hq ((w3.alloc (.cells (kmc m bA tz bB r7 bC sH bD r6 bE tg bF sr bG sQ bH sB bI tH bJ tE bK tk bL sV bM sj) 51)) = W4) ∧ Hq (w3.heap.size = g4) ∧ Hq (Blk W4 g4 (kmc m bA tz bB r7 bC sH bD r6 bE tg bF sr bG sQ bH sB bI tH bJ tE bK tk bL sV bM sj) 51 ∧ Ext w W4 ∧ ModAt 1 (fun k => k < g4) W4 m ⟨.slice bA m.types.length tz, .slice bB m.imports.length r7, .slice bC m.functions.length sH, .slice bD m.tables.length r6, .slice bE m.memories.length tg, .slice bF m.elements.length sr, .slice bG m.globals.length sQ, .slice bH m.exports.length sB, .slice bI m.codes.length tH, .slice bJ m.datas.length tE, .slice bK m.customs.length tk, .slice bL m.funcs.length sV, .slice bM m.locals.length sj⟩ ∧ g4 < W4.heap.size ∧ Blk W4 gs (kmc M aA m8 aB nJ aC nO aD nA aE nU aF nG aG nb aH nX aI nP aJ ni aK ny aL nZ aM nY) 37 ∧ ModAt 1 (fun k => k < gs) W4 M ⟨.slice aA M.types.length m8, .slice aB M.imports.length nJ, .slice aC M.functions.length nO, .slice aD M.tables.length nA, .slice aE M.memories.length nU, .slice aF M.elements.length nG, .slice aG M.globals.length nb, .slice aH M.exports.length nX, .slice aI M.codes.length nP, .slice aJ M.datas.length ni, .slice aK M.customs.length ny, .slice aL M.funcs.length nZ, .slice aM M.locals.length nY⟩ ∧ gs < g4 ∧ Ext W1 W4) :=
   ⟨_, _, rfl, rfl, zl _ _ _, Ext.trans H2.o.1 (Ext.trans x3 (za _ _)), wu.fr (za _ _) (fun k hk => ⟨hk, fun h => h⟩), by simp, H2.o.2.1.ext (Ext.trans x3 (za _ _)), H1.o.2.2.1.fr (Ext.trans H2.o.2.2 (Ext.trans x3 (za _ _))) (fun k hk => ⟨Nat.lt_trans hk H1.o.2.2.2.2, fun h => h⟩), (H2.o.2.1.ext x3).lt, Ext.trans H2.o.2.2 (Ext.trans x3 (za _ _))⟩
  clear wu x3 hp HI HD
  go_wp2_with fail
  rw [da.o, C5.o]
  refine zj jQ [kT 0, kT 1, kT 2, kT 5, kR 3, kR 4, kR 6, kT 7, kT 8, kT 9] (by kernel_rfl) (by kernel_rfl) ?_
  simp only [zx, gzQ, gsQ]
  have bq := qh (zb W4)
  generalize W4.drew = W5 at *
  as_aux_lemma =>
  repeat (apply item_take; rfl; rfl; rfl; rfl; exact fun _ _ _ _ h => h; (intro _ _ _ k; go_simp; exact k))
  apply zdn g4 (kmc m bA tz bB r7 bC sH bD r6 bE tg bF sr bG sQ bH sB bI tH bJ tE bK tk bL sV bM sj) 51 51 (.tmp 7) rfl rfl (fun W hE => H4.o.1.ext (Ext.trans bq.o hE)) _ Tryz.underlying51 rfl (by kernel_rfl)
  ·rfl
  ·rfl
  ·rfl
  ·exact fun _ _ _ _ h => h
  apply zdn gs (kmc M aA m8 aB nJ aC nO aD nA aE nU aF nG aG nb aH nX aI nP aJ ni aK ny aL nZ aM nY) 37 37 (.tmp 5) rfl rfl (fun W hE => H4.o.2.2.2.2.1.ext (Ext.trans bq.o hE)) _ Tryz.underlying37 rfl (by kernel_rfl)
  ·rfl
  ·rfl
  ·rfl
  ·exact fun _ _ _ _ h => h
  as_aux_lemma =>
  apply zg; rfl; intro K hK; go_simp
  refine (zdm (H4.o.2.2.1.fr bq.o (fun k hk => ⟨Nat.lt_trans hk H4.o.2.2.2.1, fun h => h⟩)) (fun k hk => nqQ (Nat.lt_trans hk H4.o.2.2.2.1) bq.o.size) (zes HK.o.2.2.2 (by have := HK.o.2.2.1; have := kX.o; omega))).mono ?_
  rintro e w6 ⟨v6, rfl, h6, x6⟩
  refine hK _ _ x6 ?_
  have H6 := qh (anQ h6 (Ext.trans bq.o x6))
  clear hK K h6 x6
  apply zg; rfl; intro K hK; go_simp
  refine (zbP H6.o.1 (fun k hk => hk) (by have h := zer HK.o.2.2.2 (by have := HK.o.2.2.1; have := kX.o; omega); have := HK.o.2.2.1; have := kX.o; omega)).mono ?_
  rintro e w7 ⟨rfl, x7⟩
  refine hK _ _ x7 ?_
  have H7 := qh (Ext.trans H6.o.2 x7)
  clear hK K x7 H6
  apply zg; rfl; intro K hK; go_simp
  refine (zbP (H4.o.2.2.2.2.2.1.fr H7.o (fun k hk => ⟨by have := H4.o.2.2.2.1; have := H4.o.2.2.2.2.2.2.1; omega, fun h => h⟩)) (fun k hk => by have := H7.o.size; have := H4.o.2.2.2.1; have := H4.o.2.2.2.2.2.2.1; omega) (by rw [← HK.o.2.1]; have h := zer HK.o.2.2.2 (by have := HK.o.2.2.1; have := kX.o; omega); have := HK.o.2.2.1; have := kX.o; omega)).mono ?_
  rintro e w8 ⟨rfl, x8⟩
  refine hK _ _ x8 ?_
  rw [← HK.o.2.1]
  have H8 := qh (Ext.trans H4.o.2.1 (Ext.trans H7.o x8))
  clear hK K x8 H7
  repeat (apply item_take; rfl; rfl; rfl; rfl; exact fun _ _ _ _ h => h; (intro _ _ _ k; go_simp; exact k))
  apply zm
  go_wp2
  go_ret
  exact ⟨rfl, H8.o⟩
def Yf {α : Type} (P : Program) (t : TypeId) (l : Lay α) : Prop :=
 P.cellsOf t = l.size ∧ ∀ {H : Type} {enc : TypeId × Value → H} {w : World} {base : Nat} {spare : Nat → Bool} {held : Bool} {fuel : Nat} {cs : List Value} {x : DataW H × List MemPlace},
  DataW.trod enc P w base spare held fuel t cs = some x → ∃ a, l.rd (fun k => k < w.heap.size) w cs a
variable {P : Program} {t e : TypeId} {α β : Type}
theorem zgY (ht : P.underlying t = some (.int .i64)) (hc : P.cellsOf t = 1) : Yf P t Lay.int := ⟨hc, fun h => by
 obtain ⟨n, rfl, -, hw⟩ := DataW.trod_int ht h
 exact ⟨n, rfl, bounds_i64 hw⟩⟩
theorem zhL (ht : P.underlying t = some (.int .u8)) (hc : P.cellsOf t = 1) : Yf P t Lay.u8 := ⟨hc, fun h => by
 obtain ⟨n, rfl, -, hw⟩ := DataW.trod_int ht h
 have hb : 0 ≤ n ∧ n ≤ 255 := bounds_u8 hw
 refine ⟨UInt8.ofNat n.toNat, ?_⟩
 show [Value.int .u8 n] = [Value.int .u8 _]
 rw [UInt8.toNat_ofNat', Nat.mod_eq_of_lt (by omega), Int.toNat_of_nonneg hb.1]⟩
theorem zj4 (ht : P.underlying t = some (.int .u32)) (hc : P.cellsOf t = 1) : Yf P t Lay.u32 := ⟨hc, fun h => by
 obtain ⟨n, rfl, -, hw⟩ := DataW.trod_int ht h
 have hb : 0 ≤ n ∧ n ≤ 4294967295 := bounds_u32 hw
 refine ⟨UInt32.ofNat n.toNat, ?_⟩
 show [Value.int .u32 n] = [Value.int .u32 _]
 rw [UInt32.toNat_ofNat', Nat.mod_eq_of_lt (by omega), Int.toNat_of_nonneg hb.1]⟩
theorem zj5 (ht : P.underlying t = some (.int .u64)) (hc : P.cellsOf t = 1) : Yf P t Lay.u64 := ⟨hc, fun h => by
 obtain ⟨n, rfl, -, hw⟩ := DataW.trod_int ht h
 have hb : 0 ≤ n ∧ n ≤ 18446744073709551615 := bounds_u64 hw
 refine ⟨UInt64.ofNat n.toNat, ?_⟩
 show [Value.int .u64 n] = [Value.int .u64 _]
 rw [UInt64.toNat_ofNat', Nat.mod_eq_of_lt (by omega), Int.toNat_of_nonneg hb.1]⟩
theorem zjc (ht : P.underlying t = some .bool) (hc : P.cellsOf t = 1) : Yf P t Lay.bool := ⟨hc, fun h => by
 obtain ⟨n, rfl, -⟩ := DataW.trod_bool ht h
 exact ⟨n, rfl⟩⟩
theorem zj6 (ht : P.underlying t = some .string) (hc : P.cellsOf t = 1) : Yf P t Lay.str := ⟨hc, fun h => by
 obtain ⟨n, rfl, -, hn⟩ := DataW.trod_string ht h
 exact ⟨n, rfl, hn⟩⟩
theorem zbh {l : Lay α} (ht : P.underlying t = some (.slice e)) (hc : P.cellsOf t = 1) (he : Yf P e l) (h0 : 0 < l.size) : Yf P t l.slice := ⟨hc, fun {H enc w base spare held fuel cs x} h => by
 rcases open_slice ht h with ⟨rfl, -⟩ | ⟨a, len, cap, m, n, D, Pl, rfl, hb, hl, hm, oo, -, hx⟩
 ·exact ⟨[], none, 0, rfl, Nat.le_refl _, by decide, fun h => absurd h (by simp)⟩
 have lz : len ≤ m := by rw [oo]; split <;> omega
 rcases Nat.eq_zero_or_pos len with hz | iR
 ·subst hz
  exact ⟨[], some a, cap, rfl, hl, hm, fun h => absurd h (by simp)⟩
 rw [he.1] at hx
 have first : ∃ b o cX T fz, a = ⟨b, o, none⟩ ∧ w.heap[b]? = some (.cells cX T fz) := by
  obtain ⟨fb, h1, -⟩ := hx 0 (by omega)
  obtain ⟨-, h2, h3⟩ := World.cells?_some h1
  have h4 := h3 0 h0
  rw [List.getElem?_eq_getElem (by omega), Nat.zero_mul] at h4
  obtain ⟨b, o, sp⟩ := a
  simp only [Addr.add, if_true, World.cell?] at h4
  cases hh : w.heap[b]? with
  | none => rw [hh] at h4; cases h4
  | some obj =>
   rw [hh] at h4
   cases obj with
   | cells cX T fz =>
    cases sp with
    | none => exact ⟨b, o, cX, T, fz, rfl, hh⟩
    | some _ => simp at h4
   | _ => cases h4
 obtain ⟨b, o, cX, T, fz, rfl, hh⟩ := first
 have build : ∀ k, k ≤ len → ∃ (flat : List Value) (xs : List α), xs.length = k ∧ flat.length = k * l.size ∧ l.all (fun k => k < w.heap.size) w flat xs ∧ ∀ j, j < flat.length → cX[o + j]? = flat[j]? := by
  intro k
  induction k with
  | zero => exact fun _ => ⟨[], [], rfl, by simp, rfl, by simp⟩
  | succ k ih =>
   intro hk
   obtain ⟨flat, xs, e1, e2, e3, e4⟩ := ih (by omega)
   obtain ⟨fb, h1, h2⟩ := hx k (by omega)
   obtain ⟨y, hy⟩ := he.2 h2
   obtain ⟨-, h3, h4⟩ := World.cells?_some h1
   refine ⟨flat ++ fb, xs ++ [y], by simp [e1], by rw [laQ, e2, h3, Nat.succ_mul], Lay.all_append e3 (Lay.all_single hy), fun j hj => ?_⟩
   rcases Nat.lt_or_ge j flat.length with nw | nw
   ·rw [List.getElem?_append_left nw, e4 j nw]
   ·rw [List.getElem?_append_right nw]
    have h5 := h4 (j - flat.length) (by rw [laQ] at hj; omega)
    rw [← h5, yY, yY, Lib.cell_of_heap hh]
    congr 1
    omega
 obtain ⟨flat, xs, e1, e2, e3, e4⟩ := build len (Nat.le_refl _)
 subst e1
 exact ⟨xs, some ⟨b, o, none⟩, cap, rfl, hl, hm, fun _ => ⟨b, o, cX, T, fz, flat, rfl, Z6 hh, hh, e3, e4⟩⟩⟩
structure OpensF {α : Type} (P : Program) (fs : List Field) (off : Nat) (l : Lay α) : Prop where
 rd : ∀ {H : Type} {enc : TypeId × Value → H} {w : World} {base : Nat} {spare : Nat → Bool} {held : Bool} {fuel : Nat} {cs : List Value},
  cs.length = off + l.size → (∀ f ∈ fs, ∃ x, DataW.trod enc P w base spare held fuel f.type ((cs.drop f.offset).take (P.cellsOf f.type)) = some x) → ∃ a, l.rd (fun k => k < w.heap.size) w (cs.drop off) a
theorem zjd {f : Field} {off : Nat} {l : Lay α} (h : Yf P f.type l) (ho : f.offset = off) : OpensF P [f] off l := ⟨fun hl hf => by
 obtain ⟨x, hx⟩ := hf f (.head _)
 rw [ho, h.1, List.take_of_length_le (by rw [ldQ]; omega)] at hx
 exact h.2 hx⟩
theorem zi9 {f : Field} {fs : List Field} {off : Nat} {l : Lay α} {m : Lay β} (h : Yf P f.type l) (ho : f.offset = off) (k : OpensF P fs (off + l.size) m) : OpensF P (f :: fs) off (l.pair m) := ⟨fun {H enc w base spare held fuel cs} hl hf => by
 obtain ⟨x, hx⟩ := hf f (.head _)
 rw [ho, h.1] at hx
 obtain ⟨a, ha⟩ := h.2 hx
 have BD : cs.length = off + (l.size + m.size) := hl
 obtain ⟨b, hb⟩ := k.rd (by omega) (fun f gC => hf f (.tail _ gC))
 refine ⟨(a, b), _, _, ?_, ha, hb⟩
 rw [← List.drop_drop, List.take_append_drop]⟩
theorem zic {fs : Array Field} {l : Lay α} (ht : P.underlying t = some (.struct fs)) (hc : P.cellsOf t = l.size) (h : OpensF P fs.toList 0 l) : Yf P t l := ⟨hc, fun {H enc w base spare held fuel cs x} hx => by
 obtain ⟨xs, n, rfl, -, hl, aT, hf⟩ := DataW.trod_struct ht hx
 refine h.rd (enc := enc) (w := w) (base := base) (spare := spare) (held := held) (fuel := n) (cs := cs) (by omega) fun f gC => ?_
 obtain ⟨i, hi, e⟩ := List.getElem_of_mem gC
 have := hf i f (by rw [← e, Array.getElem?_eq_getElem (by simpa using hi)]; simp)
 rw [this]
 exact ⟨_, List.getElem?_eq_getElem (by simp at hi; omega)⟩⟩
end Go.Proofs.YtejgninpjhcgnaaGreatDoor
