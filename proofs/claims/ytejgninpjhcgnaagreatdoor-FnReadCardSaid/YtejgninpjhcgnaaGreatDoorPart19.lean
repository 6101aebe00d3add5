/- Texts of this proof, one behind the other. -/
import Derived.Test.YtejgninpjhcgnaaGreatDoorPart18
import Derived.Test.YtejgninpjhcgnaaGreatDoorPart14
import Derived.Deep.Cut
import Derived.Deep.CutRange
namespace Go.Proofs.YtejgninpjhcgnaaGreatDoor
open Go.RowKit
set_option linter.unusedSimpArgs false
set_option linter.unusedVariables false
set_option maxRecDepth 100000
set_option maxHeartbeats 32000000
theorem zdZ : (Tryz.prog.info? 103).map (fun i => (i.zero, i.size, i.bytes)) = some (some (.agg #[.slice none 0 0, .slice none 0 0]), Lay.ft.size, 48) := by kernel_rfl
theorem zgD : (Tryz.prog.info? 106).map (fun i => (i.zero, i.size, i.bytes)) = some (some (.agg #[.string ⟨#[]⟩, .string ⟨#[]⟩, .int .i64 0, .int .u32 0, .int .u32 0, .bool false, .int .u32 0, .int .i64 0, .bool false]), Lay.imp.size, 72) := by kernel_rfl
theorem zet : (Tryz.prog.info? 104).map (fun i => (i.zero, i.size, i.bytes)) = some (some (.agg #[.int .u32 0, .bool false, .int .u32 0]), Lay.lim.size, 12) := by kernel_rfl
theorem ze5 (n : Nat) : (Tryz.prog.info? 110).map (fun i => (i.zero, i.size, i.bytes)) = some (some (.agg #[.int .u32 0, .slice none 0 0, .slice none 0 0]), (Lay.elem (n + 1)).size, 56) := by kernel_rfl
theorem zgE (n : Nat) : (Tryz.prog.info? 113).map (fun i => (i.zero, i.size, i.bytes)) = some (some (.agg #[.int .i64 0, .bool false, .slice none 0 0]), (Lay.glob (n + 1)).size, 40) := by kernel_rfl
theorem zgF : (Tryz.prog.info? 114).map (fun i => (i.zero, i.size, i.bytes)) = some (some (.agg #[.string ⟨#[]⟩, .int .i64 0, .int .u32 0]), Lay.expo.size, 32) := by kernel_rfl
theorem zjW : (Tryz.prog.info? 22).map (fun i => (i.zero, i.size, i.bytes)) = some (some (.slice none 0 0), Lay.u8.slice.size, 24) := by kernel_rfl
theorem ziV (n : Nat) : (Tryz.prog.info? 116).map (fun i => (i.zero, i.size, i.bytes)) = some (some (.agg #[.int .u32 0, .slice none 0 0, .slice none 0 0]), (Lay.dat (n + 1)).size, 56) := by kernel_rfl
theorem zgG : (Tryz.prog.info? 117).map (fun i => (i.zero, i.size, i.bytes)) = some (some (.agg #[.string ⟨#[]⟩, .slice none 0 0]), Lay.cus.size, 40) := by kernel_rfl
theorem zgH : (Tryz.prog.info? 119).map (fun i => (i.zero, i.size, i.bytes)) = some (some (.agg #[.int .u32 0, .int .u32 0, .string ⟨#[]⟩]), Lay.nam.size, 24) := by kernel_rfl
theorem zh9 {α : Type} {g : α → Nat} : ∀ {l : List α} {x : α}, x ∈ l → g x ≤ gL g l
 | y :: l, x, h => by
  rw [jY]
  rcases List.mem_cons.1 h with rfl | h
  ·omega
  ·have := zh9 (g := g) h; omega
theorem zhA {m : Mod} (hG : gMod m ≤ 4294967296) : ∀ x ∈ m.types, x.ps.length ≤ 8796093022208 ∧ x.rs.length ≤ 8796093022208 := by
 intro x hx
 have h := zh9 (g := gFT) hx
 have e := zcl m
 have h2 : gFT x = 192 + 64 * x.ps.length + 64 * x.rs.length := rfl
 omega
abbrev emc (m : Mod) (q : Value) (aA : Option Addr) (cA : Nat) (aB : Option Addr) (cB : Nat) (aC : Option Addr) (cC : Nat) (aD : Option Addr) (cD : Nat) (aE : Option Addr) (cE : Nat) (aF : Option Addr) (cF : Nat) (aG : Option Addr) (cG : Nat) (aH : Option Addr) (cH : Nat) (aI : Option Addr) (cI : Nat) (aJ : Option Addr) (cJ : Nat) (aK : Option Addr) (cK : Nat) (aL : Option Addr) (cL : Nat) (aM : Option Addr) (cM : Nat) : Array Value := #[.int .u32 0, q, .slice aA m.types.length cA, .slice aB m.imports.length cB, .slice aC m.functions.length cC, .slice aD m.tables.length cD, .slice aE m.memories.length cE, .slice aF m.elements.length cF, .slice aG m.globals.length cG, .slice aH m.exports.length cH, .slice aI m.codes.length cI, .slice aJ m.datas.length cJ, .slice aK m.customs.length cK, .string (zd m.named), .slice aL m.funcs.length cL, .slice aM m.locals.length cM]
theorem zdc (n : Nat) (m : Mod) (v : EV) (gm : Nat) (A : Nat → Prop) (w : World) (hB : Blk w gm (yg m v) 194) (hM : EAt A w m v) (kn : Lay.cus.slice.rd A w [v.customs] m.customs) (bj : Lay.nam.slice.rd A w [v.locals] m.locals) (hA : ∀ k, A k → k < w.heap.size) (hN : Nice m) (hG : gMod m ≤ 4294967296) (X : Nat → Prop) (hX : ∀ k, X k → k < w.heap.size ∧ ¬ A k) :
 Calls Tryz.prog 19 #[.pointer (some ⟨gm, 0, none⟩)] w fun e w' => ∃ v', e = .returned (.agg (zt m v')) ∧ ModAt (n + 1) (fun k => ¬ X k ∧ k < w'.heap.size) w' m v' ∧ Ext w w' := by
 obtain ⟨vN, vA, vB, vC, vD, vE, vF, vG, vH, vI, vJ, vK, vL, vM⟩ := v
 obtain ⟨aA, cA, e, h1, h2⟩ := Lay.slice_form2 hM.types
 have lA := qh (nlQ h1 h2)
 obtain rfl : vA = .slice aA m.types.length cA := by simpa using e
 clear e h1 h2
 obtain ⟨aB, cB, e, h1, h2⟩ := Lay.slice_form2 hM.imports
 have lB := qh (nlQ h1 h2)
 obtain rfl : vB = .slice aB m.imports.length cB := by simpa using e
 clear e h1 h2
 obtain ⟨aC, cC, e, h1, h2⟩ := Lay.slice_form2 hM.functions
 have lC := qh (nlQ h1 h2)
 obtain rfl : vC = .slice aC m.functions.length cC := by simpa using e
 clear e h1 h2
 obtain ⟨aD, cD, e, h1, h2⟩ := Lay.slice_form2 hM.tables
 have lD := qh (nlQ h1 h2)
 obtain rfl : vD = .slice aD m.tables.length cD := by simpa using e
 clear e h1 h2
 obtain ⟨aE, cE, e, h1, h2⟩ := Lay.slice_form2 hM.memories
 have lE := qh (nlQ h1 h2)
 obtain rfl : vE = .slice aE m.memories.length cE := by simpa using e
 clear e h1 h2
 obtain ⟨aF, cF, e, h1, h2⟩ := Lay.slice_form2 hM.elements
 have lF := qh (nlQ h1 h2)
 obtain rfl : vF = .slice aF m.elements.length cF := by simpa using e
 clear e h1 h2
 obtain ⟨aG, cG, e, h1, h2⟩ := Lay.slice_form2 hM.globals
 have lG := qh (nlQ h1 h2)
 obtain rfl : vG = .slice aG m.globals.length cG := by simpa using e
 clear e h1 h2
 obtain ⟨aH, cH, e, h1, h2⟩ := Lay.slice_form2 hM.exports
 have lH := qh (nlQ h1 h2)
 obtain rfl : vH = .slice aH m.exports.length cH := by simpa using e
 clear e h1 h2
 obtain ⟨aI, cI, e, h1, h2⟩ := Lay.slice_form2 hM.codes
 have lI := qh (nlQ h1 h2)
 obtain rfl : vI = .slice aI m.codes.length cI := by simpa using e
 clear e h1 h2
 obtain ⟨aJ, cJ, e, h1, h2⟩ := Lay.slice_form2 hM.datas
 have lJ := qh (nlQ h1 h2)
 obtain rfl : vJ = .slice aJ m.datas.length cJ := by simpa using e
 clear e h1 h2
 obtain ⟨aK, cK, e, h1, h2⟩ := Lay.slice_form2 kn
 have lK := qh (nlQ h1 h2)
 obtain rfl : vK = .slice aK m.customs.length cK := by simpa using e
 clear e h1 h2
 obtain ⟨aL, cL, e, h1, h2⟩ := Lay.slice_form2 hM.funcs
 have lL := qh (nlQ h1 h2)
 obtain rfl : vL = .slice aL m.funcs.length cL := by simpa using e
 clear e h1 h2
 obtain ⟨aM, cM, e, h1, h2⟩ := Lay.slice_form2 bj
 have lM := qh (nlQ h1 h2)
 obtain rfl : vM = .slice aM m.locals.length cM := by simpa using e
 clear e h1 h2
 obtain ⟨p0, rfl⟩ : ∃ p, vN = .pointer p := by
  rcases hM.start with ⟨_, _, e⟩ | ⟨_, b, e, _⟩ <;> exact ⟨_, by simpa using e⟩
 have HS : Hq ((m.hasStart = false ∧ m.start = 0 ∧ p0 = none) ∨ (m.hasStart = true ∧ ∃ b, p0 = some ⟨b, 0, none⟩ ∧ A b ∧ Blk w b #[.int .u32 (m.start.toNat : Int)] 24)) := by
  rcases hM.start with ⟨h1, h2, h3⟩ | ⟨h1, b, h3, h4⟩
  ·exact .inl ⟨h1, h2, by simpa using h3⟩
  ·exact .inr ⟨h1, b, by simpa using h3, h4⟩
 have cr := zes hN hG
 have A3 := zhA hG
 have n4 := ze4 hG
 have H := qh (show EAt A w m ⟨.pointer p0, .slice aA m.types.length cA, .slice aB m.imports.length cB, .slice aC m.functions.length cC, .slice aD m.tables.length cD, .slice aE m.memories.length cE, .slice aF m.elements.length cF, .slice aG m.globals.length cG, .slice aH m.exports.length cH, .slice aI m.codes.length cI, .slice aJ m.datas.length cJ, .slice aK m.customs.length cK, .slice aL m.funcs.length cL, .slice aM m.locals.length cM⟩ ∧ (∀ k, A k → k < w.heap.size) ∧ ModFit m ∧ Lay.cus.slice.rd A w [.slice aK m.customs.length cK] m.customs ∧ Lay.nam.slice.rd A w [.slice aM m.locals.length cM] m.locals ∧ Nice m ∧ (∀ x ∈ m.types, x.ps.length ≤ 8796093022208 ∧ x.rs.length ≤ 8796093022208) ∧ m.codes.length ≤ 4294967296 ∧ (∀ k, X k → k < w.heap.size ∧ ¬ A k) from ⟨hM, hA, cr, kn, bj, hN, A3, n4, hX⟩)
 have uW : Hq (Blk w gm (emc m (.pointer p0) aA cA aB cB aC cC aD cD aE cE aF cF aG cG aH cH aI cI aJ cJ aK cK aL cL aM cM) 194) := hB
 clear hB hM hA cr kn bj hN A3 n4 hG hX
 go_enter Tryz.func19, Tryz.ntmps19
 go_upto_region 1 with fail
 obtain ⟨W1, gr, iQ, fD, HB⟩ : ∃ W1 gr, (w.alloc (.cells zM 51)) = W1 ∧ w.heap.size = gr ∧ Hq (Blk W1 gm (emc m (.pointer p0) aA cA aB cB aC cC aD cD aE cE aF cF aG cG aH cH aI cI aJ cJ aK cK aL cL aM cM) 194 ∧ Blk W1 gr zM 51 ∧ Ext w W1) := ⟨_, _, rfl, rfl, uW.o.ext (za _ _), zl _ _ _, za _ _⟩
 rw [iQ, fD]
 refine zj jQ [kT 0, kT 1, kT 2, kT 3, kT 4, kT 5, kT 6, kT 7, kT 8, kT 9, kT 10, kT 11, kT 12, kT 13, kT 14, kR 15, kL 16] (by kernel_rfl) (by kernel_rfl) ?_
 simp only [zx, gzQ, gsQ]
 have kZ : Hq (Blk W1.drew gm (emc m (.pointer p0) aA cA aB cB aC cC aD cD aE cE aF cF aG cG aH cH aI cI aJ cJ aK cK aL cL aM cM) 194 ∧ Blk W1.drew gr zM 51 ∧ Ext w W1.drew) := ⟨HB.o.1.ext (zb _), HB.o.2.1.ext (zb _), Ext.trans HB.o.2.2 (zb _)⟩
 have tY := qh (show gr = w.heap.size ∧ gm < gr from ⟨fD.symm, by rw [← fD]; exact uW.o.lt⟩)
 clear uW HB fD iQ
 generalize W1.drew = W5 at *
 have HC := qh (fun W' (h : Ext W5 W') => (kZ.o.1.ext h).cell)
 repeat (apply item_take; rfl; rfl; rfl; rfl; exact fun _ _ _ _ h => h; (intro W e _ k; have q := HC.o W e; go_simp; exact k))
 apply zg; rfl; intro K hK; go_simp
 obtain ⟨W6, g, oQ, hg, oW⟩ : ∃ W6 g, (W5.alloc (.cells zM 51)) = W6 ∧ W5.heap.size = g ∧ Hq (Blk W6 gm (emc m (.pointer p0) aA cA aB cB aC cC aD cD aE cE aF cF aG cG aH cH aI cI aJ cJ aK cK aL cL aM cM) 194 ∧ Blk W6 gr zM 51 ∧ Blk W6 g zM 51 ∧ Ext w W6 ∧ gr < g) :=
  ⟨_, _, rfl, rfl, kZ.o.1.ext (za _ _), kZ.o.2.1.ext (za _ _), zl _ _ _, Ext.trans kZ.o.2.2 (za _ _), kZ.o.2.1.lt⟩
 refine hK _ _ (za _ _) ?_
 clear hK K HC
 rw [oQ, hg]
 clear oQ hg kZ
 apply zn; rfl; intro K hK
 refine wp_store_row 51 (.tmp 3) (.tmp 42) rfl g #[.int .u32 0, .bool false, .int .u32 0, .slice none 0 0, .slice none 0 0, .slice aC m.functions.length cC, .slice none 0 0, .slice none 0 0, .slice none 0 0, .slice none 0 0, .slice none 0 0, .slice none 0 0, .slice none 0 0, .slice none 0 0, .string (zd m.named), .slice none 0 0, .slice none 0 0] rfl rfl _ _ oW.o.2.2.1 (by kernel_rfl) rfl (by kernel_rfl) (hK _ _ ?_)
 clear hK K
 simp only [Act.put]
 obtain ⟨W3, fi, kE⟩ : ∃ W3, W6.setRow g #[.int .u32 0, .bool false, .int .u32 0, .slice none 0 0, .slice none 0 0, .slice aC m.functions.length cC, .slice none 0 0, .slice none 0 0, .slice none 0 0, .slice none 0 0, .slice none 0 0, .slice none 0 0, .slice none 0 0, .slice none 0 0, .string (zd m.named), .slice none 0 0, .slice none 0 0] = W3 ∧ Hq (Blk W3 gm (emc m (.pointer p0) aA cA aB cB aC cC aD cD aE cE aF cF aG cG aH cH aI cI aJ cJ aK cK aL cL aM cM) 194 ∧ Blk W3 gr zM 51 ∧ Blk W3 g #[.int .u32 0, .bool false, .int .u32 0, .slice none 0 0, .slice none 0 0, .slice aC m.functions.length cC, .slice none 0 0, .slice none 0 0, .slice none 0 0, .slice none 0 0, .slice none 0 0, .slice none 0 0, .slice none 0 0, .slice none 0 0, .string (zd m.named), .slice none 0 0, .slice none 0 0] 51 ∧ Ext w W3) := by
  have hs := z9 W6 g #[.int .u32 0, .bool false, .int .u32 0, .slice none 0 0, .slice none 0 0, .slice aC m.functions.length cC, .slice none 0 0, .slice none 0 0, .slice none 0 0, .slice none 0 0, .slice none 0 0, .slice none 0 0, .slice none 0 0, .slice none 0 0, .string (zd m.named), .slice none 0 0, .slice none 0 0]
  have lg := oW.o.2.2.2.2
  have uz := tY.o
  exact ⟨_, rfl, oW.o.1.fr hs (fun e => by have e' : gm = g := e; omega), oW.o.2.1.fr hs (fun e => by have e' : gr = g := e; omega), oW.o.2.2.1.setRow _, Fr.new (Ext.fr oW.o.2.2.2.1 hs) (fun k e => by cases e; omega)⟩
 have HG := qh (show gm < w.heap.size ∧ gr = w.heap.size ∧ gr < g from ⟨by have := tY.o; omega, tY.o.1, oW.o.2.2.2.2⟩)
 rw [fi]
 clear fi oW tY
 apply zm
 have au := kE.o.1.cell
 have eR := kE.o.1.frz
 go_upto_region 2 with fail
 go_cut [48] from 43 to 57 (fun A9 w' => A9 = .bool m.hasStart ∧ w' = W3)
 case first =>
  as_aux_lemma =>
   rcases HS.o with ⟨h1, h2, h3⟩ | ⟨h1, b, h3, h4⟩
   ·obtain rfl := h3
    have h1 := qh h1
    clear HS h2
    go_wp2_with fail
    go_meet
    exact ⟨by rw [h1.o], rfl⟩
   ·obtain rfl := h3
    have h1 := qh h1
    clear HS h4
    go_wp2_with fail
    go_meet
    exact ⟨by rw [h1.o], rfl⟩
 case rest =>
  obtain ⟨rfl, rfl⟩ := hcut
  go_upto_if 48 with fail
  go_cut [] from 43 to 57 (fun w' => Hq (Blk w' gm (emc m (.pointer p0) aA cA aB cB aC cC aD cD aE cE aF cF aG cG aH cH aI cI aJ cJ aK cK aL cL aM cM) 194 ∧ Blk w' gr zM 51 ∧ Blk w' g #[.int .u32 0, .bool m.hasStart, .int .u32 (m.start.toNat : Int), .slice none 0 0, .slice none 0 0, .slice aC m.functions.length cC, .slice none 0 0, .slice none 0 0, .slice none 0 0, .slice none 0 0, .slice none 0 0, .slice none 0 0, .slice none 0 0, .slice none 0 0, .string (zd m.named), .slice none 0 0, .slice none 0 0] 51 ∧ Ext w w'))
  case first =>
   as_aux_lemma =>
    rcases HS.o with ⟨h1, h2, h3⟩ | ⟨h1, b, h3, h4, h5⟩
    ·have h2 := qh h2
     have wv := qh h1
     rw [h1]
     clear HS h1 h3
     go_wp2_with fail
     go_meet
     exact ⟨kE.o.1, kE.o.2.1, by rw [h2.o, wv.o]; exact kE.o.2.2.1, kE.o.2.2.2⟩
    ·obtain rfl := h3
     have h5 := qh (anQ (H.o.2.1 b h4) h5)
     have wv := qh h1
     rw [h1]
     clear HS h1 h4 au eR
     go_wp2_with fail
     refine zj (yX (fun k => k = g)) [kT 0, kT 1, kT 2, kT 3, kT 4, kT 5, kT 6, kT 7, kR 8, kT 9, kL 10] (by kernel_rfl) (by kernel_rfl) ?_
     simp only [zx, gzQ, gsQ]
     have HC := qh (fun W' (h : Fr (fun k => k = g) wc.drew W') => anQ ((kE.o.1.ext (zb _)).fr h (fun e => by have e' : gm = g := e; have := HG.o; omega)).cell ((h5.o.2.ext (Ext.trans kE.o.2.2.2 (zb _))).fr h (fun e => by have e' : b = g := e; have := HG.o; have := h5.o.1; omega)).cell)
     have kZ : Hq (Blk wc.drew gm (emc m (.pointer (some ⟨b, 0, none⟩)) aA cA aB cB aC cC aD cD aE cE aF cF aG cG aH cH aI cI aJ cJ aK cK aL cL aM cM) 194 ∧ Blk wc.drew gr zM 51 ∧ Blk wc.drew g #[.int .u32 0, .bool false, .int .u32 0, .slice none 0 0, .slice none 0 0, .slice aC m.functions.length cC, .slice none 0 0, .slice none 0 0, .slice none 0 0, .slice none 0 0, .slice none 0 0, .slice none 0 0, .slice none 0 0, .slice none 0 0, .string (zd m.named), .slice none 0 0, .slice none 0 0] 51 ∧ Ext w wc.drew) := ⟨kE.o.1.ext (zb _), kE.o.2.1.ext (zb _), kE.o.2.2.1.ext (zb _), Ext.trans kE.o.2.2.2 (zb _)⟩
     clear kE
     generalize wc.drew = W5 at *
     repeat (apply item_take; rfl; rfl; rfl; rfl; exact fun _ _ _ _ h => h; (intro W e _ k; obtain ⟨q, q2⟩ := HC.o W e; go_simp; exact k))
     have eq := kZ.o.2.2.1.cell
     have eO := kZ.o.2.2.1.frz
     apply zg; rfl; intro K hK; go_simp
     refine hK _ _ (zf W5 ⟨g, 1, none⟩ (.bool true)) ?_
     clear hK K eq eO HC
     have vq := qh (show Blk (W5.setCell ⟨g, 1, none⟩ (.bool true)) g #[.int .u32 0, .bool true, .int .u32 0, .slice none 0 0, .slice none 0 0, .slice aC m.functions.length cC, .slice none 0 0, .slice none 0 0, .slice none 0 0, .slice none 0 0, .slice none 0 0, .slice none 0 0, .slice none 0 0, .slice none 0 0, .string (zd m.named), .slice none 0 0, .slice none 0 0] 51 from kZ.o.2.2.1.set 1 (.bool true))
     have ep := qh (zf W5 ⟨g, 1, none⟩ (.bool true))
     generalize W5.setCell ⟨g, 1, none⟩ (.bool true) = W6 at *
     repeat (apply item_take; rfl; rfl; rfl; rfl; exact fun _ _ _ _ h => h; (intro _ _ _ k; go_simp; exact k))
     have eq := vq.o.cell
     have eO := vq.o.frz
     apply zn; rfl; intro K hK; go_simp
     refine hK _ _ ?_
     clear hK K eq eO
     have qT := qh (show Blk (W6.setCell ⟨g, 2, none⟩ (.int .u32 (m.start.toNat : Int))) g #[.int .u32 0, .bool true, .int .u32 (m.start.toNat : Int), .slice none 0 0, .slice none 0 0, .slice aC m.functions.length cC, .slice none 0 0, .slice none 0 0, .slice none 0 0, .slice none 0 0, .slice none 0 0, .slice none 0 0, .slice none 0 0, .slice none 0 0, .string (zd m.named), .slice none 0 0, .slice none 0 0] 51 from vq.o.set 2 (.int .u32 (m.start.toNat : Int)))
     have uu := qh (zf W6 ⟨g, 2, none⟩ (.int .u32 (m.start.toNat : Int)))
     generalize W6.setCell ⟨g, 2, none⟩ (.int .u32 (m.start.toNat : Int)) = W7 at *
     apply zm
     go_wp2_with fail
     go_meet
     have lg := HG.o
     exact ⟨(kZ.o.1.fr ep.o (fun e => by have e' : gm = g := e; omega)).fr uu.o (fun e => by have e' : gm = g := e; omega), (kZ.o.2.1.fr ep.o (fun e => by have e' : gr = g := e; omega)).fr uu.o (fun e => by have e' : gr = g := e; omega), by rw [wv.o]; exact qT.o,
      Fr.new (Fr.trans (Ext.fr kZ.o.2.2.2 ep.o) uu.o (fun _ _ h => h) (fun _ _ h => h)) (fun k e => by cases e; omega)⟩
  case rest =>
   obtain ⟨W3, rfl⟩ : ∃ W, W = wc := ⟨_, rfl⟩
   have HS := qh (show CS w A X gm gr g (emc m (.pointer p0) aA cA aB cB aC cC aD cD aE cE aF cF aG cG aH cH aI cI aJ cJ aK cK aL cL aM cM) zM #[.int .u32 0, .bool m.hasStart, .int .u32 (m.start.toNat : Int), .slice none 0 0, .slice none 0 0, .slice aC m.functions.length cC, .slice none 0 0, .slice none 0 0, .slice none 0 0, .slice none 0 0, .slice none 0 0, .slice none 0 0, .slice none 0 0, .slice none 0 0, .string (zd m.named), .slice none 0 0, .slice none 0 0] 194 51 (n + 1) W3 ⟨m.version, m.hasStart, m.start, [], [], m.functions, [], [], [], [], [], [], [], [], m.named, [], []⟩ ⟨.slice none 0 0, .slice none 0 0, .slice aC m.functions.length cC, .slice none 0 0, .slice none 0 0, .slice none 0 0, .slice none 0 0, .slice none 0 0, .slice none 0 0, .slice none 0 0, .slice none 0 0, .slice none 0 0, .slice none 0 0⟩ from by
    have h1 := hcut.o.2.2.2
    have uv : ∀ k, A k → ¬ (k = g ∨ k = gr ∨ X k) ∧ k < W3.heap.size := fun k hk => by have := H.o.2.1 k hk; have := HG.o; have := h1.size; exact ⟨fun q => (by rcases q with q | q | q; omega; omega; exact (H.o.2.2.2.2.2.2.2.2 k q).2 hk), by omega⟩
    exact ⟨hcut.o.1, hcut.o.2.1, hcut.o.2.2.1, ⟨zH _ _ _, zH _ _ _, Lay.mono _ (Lay.fr H.o.1.functions h1 (fun k hk => ⟨H.o.2.1 k hk, fun h => h⟩)) uv, zH _ _ _, zH _ _ _, zH _ _ _, zH _ _ _, zH _ _ _, zH _ _ _, zH _ _ _, zH _ _ _, zH _ _ _, zH _ _ _, H.o.1.named⟩, h1, ⟨by have := HG.o; omega, HG.o.2.2, by have := HG.o; omega⟩, H.o.2.1, H.o.2.2.2.2.2.2.2.2⟩)
   clear au eR HG kE hcut
   have au := HS.o.bm.cell
   have aT : (m.types.length : Int) ≤ 9223372036854775807 := by have := lA.o; simp only [maxLen] at this; omega
   go_wp2_with fail
   clear au
   go_loopw [5, 64] (fun s5 wF w' => ∃ (i : Nat) (va : Value), i ≤ m.types.length ∧ wF = .int .i64 i ∧ Hq (CV Lay.ft 103 g gr X W3 (om (.int .u32 0) m va nsV (.slice aC m.functions.length cC) nsV nsV nsV nsV nsV nsV nsV nsV nsV nsV) 51 w' va (m.types.take i))) (fun _ wF _ => m.types.length - (intOf wF).toNat)
   case atStart => exact ⟨0, _, nzQ _, rfl, HS.o.bg, zv _ _ _ _ _, Fr.refl _ _⟩
   obtain ⟨i, va, hi, rfl, hV⟩ := hrel
   have aW := qh (HS.o.ext hV.o.2.2)
   obtain ⟨ap, am, ar, rfl⟩ := hV.o.2.1.shape
   by_cases aj : i < m.types.length
   ·obtain ⟨b, o, ax, cx, ay, cy, rfl, e0, e1, r0, r1, hr⟩ := Lay.ft_at2 H.o.1.types i aj
    have iu := qh (H.o.2.2.2.2.2.2.1 _ (List.getElem_mem aj))
    have bU := qh (show m.types.take (i + 1) = _ from tsQ aj)
    generalize m.types[i] = x at *
    replace e0 := aW.o.c e0
    replace e1 := aW.o.c e1
    have hr := qh hr
    have r0 := qh r0
    have r1 := qh r1
    go_wp2_with fail
    have dK := qh (zl wr #[.slice ax x.ps.length cx, .slice ay x.rs.length cy] 197)
    have bP := qh (za wr (.cells #[.slice ax x.ps.length cx, .slice ay x.rs.length cy] 197))
    generalize (wr.alloc (.cells #[.slice ax x.ps.length cx, .slice ay x.rs.length cy] 197)) = W4 at *
    obtain ⟨ge, cm⟩ := exQ (wr.heap.size)
    rw [cm] at dK ⊢
    clear cm e0 e1
    refine zj jQ [kT 0, kT 1, kT 2, kT 3, kT 5, kT 6, kR 4, kR 7, kT 8, kR 9, kL 10, kT 11, kL 12] (by kernel_rfl) (by kernel_rfl) ?_
    simp only [zx, gzQ, gsQ]
    have HC := qh (fun W' (h : Ext W4.drew W') => anQ (dK.o.ext (Ext.trans (zb _) h)).cell (hV.o.1.ext (Ext.trans bP.o (Ext.trans (zb _) h))).cell)
    have bq := qh (Ext.trans bP.o (zb W4))
    generalize W4.drew = W5 at *
    repeat (apply item_take; rfl; rfl; rfl; rfl; exact fun _ _ _ _ h => h; (intro W e _ k; have q := HC.o W e; go_simp; exact k))
    apply zg; rfl; intro K hK; go_simp
    refine (Zo x.ps (.slice ax x.ps.length cx) A W5 (HS.o.rd (Ext.trans aW.o bq.o) r0.o) (HS.o.lt (Ext.trans aW.o bq.o)) iu.o.1).mono ?_
    rintro e w6 ⟨v6, rfl, o6, x6⟩
    refine hK _ _ x6 ?_
    obtain ⟨y1, y3, rfl, -, -⟩ := o6.form
    have H5 := qh (anQ (Ext.trans bq.o x6) (anQ o6.slice x6.size))
    clear hK K x6 o6
    apply zg; rfl; intro K hK; go_simp
    refine (Zo x.rs (.slice ay x.rs.length cy) A w6 (HS.o.rd (Ext.trans aW.o H5.o.1) r1.o) (HS.o.lt (Ext.trans aW.o H5.o.1)) iu.o.2).mono ?_
    rintro e w7 ⟨v7, rfl, o7, x7⟩
    refine hK _ _ x7 ?_
    obtain ⟨z1, z3, rfl, -, -⟩ := o7.form
    have H6 := qh (anQ (Ext.trans H5.o.1 x7) (anQ o7.slice x7))
    clear hK K x7 o7 dK
    repeat (apply item_take; rfl; rfl; rfl; rfl; exact fun _ _ _ _ h => h; (intro _ _ _ k; go_simp; exact k))
    apply zg; rfl; intro K hK; go_simp
    refine hK _ _ (za _ _) ?_
    clear hK K
    apply zn; rfl; intro K hK
    refine HS.o.app hV.o H6.o.1 w7.heap.size rfl (.tmp 69) (.tmp 77) _ _ 48 rfl Tryz.underlying41 zdZ rfl (by omega) (Nat.succ_pos _) x _ rfl rfl ⟨[_], [_], rfl, Lay.mono _ (Lay.fr H5.o.2.1 H6.o.2.2 (fun k hk => ⟨hk.2, fun h => h⟩)) (fun k hk => (HS.o.new hV.o.2.1 hV.o.2.2.size bq.o.size) k ⟨hk.1, nqQ hk.2 H6.o.2.2.size⟩), Lay.mono _ H6.o.2.1 (HS.o.new hV.o.2.1 hV.o.2.2.size (nlQ bq.o.size H5.o.2.2))⟩ (by have := H.o.2.2.1.len_types; rw [ltQ]; omega) 3 bU.o ?_
    intro az aR aO w2 bi aU
    refine hK _ _ ?_
    clear hK K
    have aU := qh aU
    have bS := bi.cell
    have cp := bi.frz
    clear bi HC
    repeat (apply item_take; rfl; rfl; rfl; rfl; exact fun _ _ _ _ h => h; (intro _ _ _ k; go_simp; exact k))
    apply zn; rfl; intro K hK; go_simp
    refine hK _ _ ?_
    clear hK K
    apply zm
    clear bS cp
    go_wp2
    go_roundw
    case rel => exact ⟨i + 1, _, by omega, by go_num, qh (by simpa using aU.o)⟩
    case measure => simp [intOf]; omega
   obtain rfl : i = m.types.length := by omega
   have bh := hV.o
   rw [tlQ] at bh
   obtain ⟨zA, hz⟩ : ∃ z, z = Value.slice ap am ar := ⟨_, rfl⟩
   rw [← hz] at bh
   replace HS := qh (HS.o.next bh fun _ _ h k => h.set_types k)
   clear hV bh hz aT hi aj aW ap am ar
   generalize wr = tp at *
   have au := HS.o.bm.cell
   have aT : (m.imports.length : Int) ≤ 9223372036854775807 := by have := lB.o; simp only [maxLen] at this; omega
   go_wp2_with fail
   clear au
   go_loopw [7, 87] (fun s7 wT w' => ∃ (i : Nat) (va : Value), i ≤ m.imports.length ∧ wT = .int .i64 i ∧ Hq (CV Lay.imp 106 g gr X tp (om (.int .u32 0) m zA va (.slice aC m.functions.length cC) nsV nsV nsV nsV nsV nsV nsV nsV nsV nsV) 51 w' va (m.imports.take i))) (fun _ wT _ => m.imports.length - (intOf wT).toNat)
   case atStart => exact ⟨0, _, nzQ _, rfl, HS.o.bg, zv _ _ _ _ _, Fr.refl _ _⟩
   obtain ⟨i, va, hi, rfl, hV⟩ := hrel
   have aW := qh (HS.o.ext hV.o.2.2)
   obtain ⟨ap, am, ar, rfl⟩ := hV.o.2.1.shape
   by_cases aj : i < m.imports.length
   ·obtain ⟨b, o, T, p, rfl, e0, e1, e2, r0, r1, r2⟩ := Lay.eimp_at2 H.o.1.imports i aj
    have bU := qh (show m.imports.take (i + 1) = _ from tsQ aj)
    generalize m.imports[i] = x at *
    replace e0 := aW.o.c e0
    replace e1 := aW.o.c e1
    replace e2 := aW.o.c e2
    have r0 := qh r0
    have r1 := qh r1
    have r2 := qh r2
    go_wp2_with fail
    have dK := qh (zl wr #[.string (zd x.mdl), .string (zd x.name), .iface T p] 202)
    have bP := qh (za wr (.cells #[.string (zd x.mdl), .string (zd x.name), .iface T p] 202))
    generalize (wr.alloc (.cells #[.string (zd x.mdl), .string (zd x.name), .iface T p] 202)) = W4 at *
    obtain ⟨ge, cm⟩ := exQ (wr.heap.size)
    rw [cm] at dK ⊢
    clear cm e0 e1 e2
    refine zj jQ [kT 0, kT 1, kT 2, kR 3, kR 4, kL 5, kT 6, kL 7] (by kernel_rfl) (by kernel_rfl) ?_
    simp only [zx, gzQ, gsQ]
    have HC := qh (fun W' (h : Ext W4.drew W') => anQ (dK.o.ext (Ext.trans (zb _) h)).cell (hV.o.1.ext (Ext.trans bP.o (Ext.trans (zb _) h))).cell)
    have bq := qh (Ext.trans bP.o (zb W4))
    generalize W4.drew = W5 at *
    repeat (apply item_take; rfl; rfl; rfl; rfl; exact fun _ _ _ _ h => h; (intro W e _ k; have q := HC.o W e; go_simp; exact k))
    apply zg; rfl; intro K hK; go_simp
    refine (Yp x (.iface T p) A W5 (HS.o.rd (Ext.trans aW.o bq.o) r2.o) (HS.o.lt (Ext.trans aW.o bq.o))).mono ?_
    rintro e w6 ⟨rfl, x6⟩
    refine hK _ _ x6 ?_
    have H6 := qh (anQ (Ext.trans bq.o x6) trivial)
    clear hK K x6 dK
    repeat (apply item_take; rfl; rfl; rfl; rfl; exact fun _ _ _ _ h => h; (intro _ _ _ k; go_simp; exact k))
    apply zg; rfl; intro K hK; go_simp
    refine hK _ _ (za _ _) ?_
    clear hK K
    apply zn; rfl; intro K hK
    refine HS.o.app hV.o H6.o.1 w6.heap.size rfl (.tmp 92) (.tmp 95) _ _ 72 rfl Tryz.underlying42 zgD rfl (by omega) (Nat.succ_pos _) x _ rfl rfl (Lay.imp_mk r0.o r1.o r2.o) (by have := H.o.2.2.1.len_imports; rw [ltQ]; omega) 4 bU.o ?_
    intro az aR aO w2 bi aU
    refine hK _ _ ?_
    clear hK K
    have aU := qh aU
    have bS := bi.cell
    have cp := bi.frz
    clear bi HC
    repeat (apply item_take; rfl; rfl; rfl; rfl; exact fun _ _ _ _ h => h; (intro _ _ _ k; go_simp; exact k))
    apply zn; rfl; intro K hK; go_simp
    refine hK _ _ ?_
    clear hK K
    apply zm
    clear bS cp
    go_wp2
    go_roundw
    case rel => exact ⟨i + 1, _, by omega, by go_num, qh (by simpa using aU.o)⟩
    case measure => simp [intOf]; omega
   obtain rfl : i = m.imports.length := by omega
   have bh := hV.o
   rw [tlQ] at bh
   obtain ⟨zB, hz⟩ : ∃ z, z = Value.slice ap am ar := ⟨_, rfl⟩
   rw [← hz] at bh
   replace HS := qh (HS.o.next bh fun _ _ h k => h.set_imports k)
   clear hV bh hz aT hi aj aW ap am ar
   generalize wr = rm at *
   have au := HS.o.bm.cell
   have aT : (m.tables.length : Int) ≤ 9223372036854775807 := by have := lD.o; simp only [maxLen] at this; omega
   go_wp2_with fail
   clear au
   go_loopw [9, 105] (fun s9 qk w' => ∃ (i : Nat) (va : Value), i ≤ m.tables.length ∧ qk = .int .i64 i ∧ Hq (CV Lay.lim 104 g gr X rm (om (.int .u32 0) m zA zB (.slice aC m.functions.length cC) va nsV nsV nsV nsV nsV nsV nsV nsV nsV) 51 w' va (m.tables.take i))) (fun _ qk _ => m.tables.length - (intOf qk).toNat)
   case atStart => exact ⟨0, _, nzQ _, rfl, HS.o.bg, zv _ _ _ _ _, Fr.refl _ _⟩
   obtain ⟨i, va, hi, rfl, hV⟩ := hrel
   have aW := qh (HS.o.ext hV.o.2.2)
   obtain ⟨ap, am, ar, rfl⟩ := hV.o.2.1.shape
   by_cases aj : i < m.tables.length
   ·obtain ⟨b, o, q, rfl, e0, e1, e2, r0⟩ := Lay.etab_at2 H.o.1.tables i aj
    have bU := qh (show m.tables.take (i + 1) = _ from tsQ aj)
    generalize m.tables[i] = x at *
    replace e0 := aW.o.c e0
    replace e1 := aW.o.c e1
    replace e2 := aW.o.c e2
    have r0 := qh r0
    go_wp2_with fail
    have dK := qh (zl wr #[.int .i64 0, .int .u32 (x.min.toNat : Int), .pointer q] 208)
    have bP := qh (za wr (.cells #[.int .i64 0, .int .u32 (x.min.toNat : Int), .pointer q] 208))
    generalize (wr.alloc (.cells #[.int .i64 0, .int .u32 (x.min.toNat : Int), .pointer q] 208)) = W4 at *
    obtain ⟨ge, cm⟩ := exQ (wr.heap.size)
    rw [cm] at dK ⊢
    clear cm e0 e1 e2
    refine zj jQ [kT 0, kT 1, kT 2, kT 3, kR 4, kR 5, kL 6, kT 7, kL 8] (by kernel_rfl) (by kernel_rfl) ?_
    simp only [zx, gzQ, gsQ]
    have HC := qh (fun W' (h : Ext W4.drew W') => anQ (dK.o.ext (Ext.trans (zb _) h)).cell (hV.o.1.ext (Ext.trans bP.o (Ext.trans (zb _) h))).cell)
    have bq := qh (Ext.trans bP.o (zb W4))
    generalize W4.drew = W5 at *
    repeat (apply item_take; rfl; rfl; rfl; rfl; exact fun _ _ _ _ h => h; (intro W e _ k; have q := HC.o W e; go_simp; exact k))
    apply zg; rfl; intro K hK; go_simp
    refine (y8 x _ _ A W5 (HS.o.rd (Ext.trans aW.o bq.o) r0.o) (HS.o.lt (Ext.trans aW.o bq.o))).mono ?_
    rintro e w6 ⟨rfl, x6⟩
    refine hK _ _ x6 ?_
    have H6 := qh (anQ (Ext.trans bq.o x6) trivial)
    clear hK K x6 dK
    repeat (apply item_take; rfl; rfl; rfl; rfl; exact fun _ _ _ _ h => h; (intro _ _ _ k; go_simp; exact k))
    apply zg; rfl; intro K hK; go_simp
    refine hK _ _ (za _ _) ?_
    clear hK K
    apply zn; rfl; intro K hK
    refine HS.o.app hV.o H6.o.1 w6.heap.size rfl (.tmp 110) (.tmp 114) _ _ 12 rfl Tryz.underlying43 zet rfl (by omega) (Nat.succ_pos _) x _ rfl rfl (Lay.lim_mk x) (by have := H.o.2.2.1.len_tables; rw [ltQ]; omega) 6 bU.o ?_
    intro az aR aO w2 bi aU
    refine hK _ _ ?_
    clear hK K
    have aU := qh aU
    have bS := bi.cell
    have cp := bi.frz
    clear bi HC
    repeat (apply item_take; rfl; rfl; rfl; rfl; exact fun _ _ _ _ h => h; (intro _ _ _ k; go_simp; exact k))
    apply zn; rfl; intro K hK; go_simp
    refine hK _ _ ?_
    clear hK K
    apply zm
    clear bS cp
    go_wp2
    go_roundw
    case rel => exact ⟨i + 1, _, by omega, by go_num, qh (by simpa using aU.o)⟩
    case measure => simp [intOf]; omega
   obtain rfl : i = m.tables.length := by omega
   have bh := hV.o
   rw [tlQ] at bh
   obtain ⟨zD, hz⟩ : ∃ z, z = Value.slice ap am ar := ⟨_, rfl⟩
   rw [← hz] at bh
   replace HS := qh (HS.o.next bh fun _ _ h k => h.set_tables k)
   clear hV bh hz aT hi aj aW ap am ar
   generalize wr = wX at *
   have au := HS.o.bm.cell
   have aT : (m.memories.length : Int) ≤ 9223372036854775807 := by have := lE.o; simp only [maxLen] at this; omega
   go_wp2_with fail
   clear au
   go_loopw [11, 124] (fun od pK w' => ∃ (i : Nat) (va : Value), i ≤ m.memories.length ∧ pK = .int .i64 i ∧ Hq (CV Lay.lim 104 g gr X wX (om (.int .u32 0) m zA zB (.slice aC m.functions.length cC) zD va nsV nsV nsV nsV nsV nsV nsV nsV) 51 w' va (m.memories.take i))) (fun _ pK _ => m.memories.length - (intOf pK).toNat)
   case atStart => exact ⟨0, _, nzQ _, rfl, HS.o.bg, zv _ _ _ _ _, Fr.refl _ _⟩
   obtain ⟨i, va, hi, rfl, hV⟩ := hrel
   have aW := qh (HS.o.ext hV.o.2.2)
   obtain ⟨ap, am, ar, rfl⟩ := hV.o.2.1.shape
   by_cases aj : i < m.memories.length
   ·obtain ⟨b, o, q, rfl, e0, e1, r0⟩ := Lay.elim_at2 H.o.1.memories i aj
    have bU := qh (show m.memories.take (i + 1) = _ from tsQ aj)
    generalize m.memories[i] = x at *
    replace e0 := aW.o.c e0
    replace e1 := aW.o.c e1
    have r0 := qh r0
    go_wp2_with fail
    have dK := qh (zl wr #[.int .u32 (x.min.toNat : Int), .pointer q] 211)
    have bP := qh (za wr (.cells #[.int .u32 (x.min.toNat : Int), .pointer q] 211))
    generalize (wr.alloc (.cells #[.int .u32 (x.min.toNat : Int), .pointer q] 211)) = W4 at *
    obtain ⟨ge, cm⟩ := exQ (wr.heap.size)
    rw [cm] at dK ⊢
    clear cm e0 e1
    refine zj jQ [kT 0, kT 1, kT 2, kT 3, kR 4, kR 5, kL 6, kT 7, kL 8] (by kernel_rfl) (by kernel_rfl) ?_
    simp only [zx, gzQ, gsQ]
    have HC := qh (fun W' (h : Ext W4.drew W') => anQ (dK.o.ext (Ext.trans (zb _) h)).cell (hV.o.1.ext (Ext.trans bP.o (Ext.trans (zb _) h))).cell)
    have bq := qh (Ext.trans bP.o (zb W4))
    generalize W4.drew = W5 at *
    repeat (apply item_take; rfl; rfl; rfl; rfl; exact fun _ _ _ _ h => h; (intro W e _ k; have q := HC.o W e; go_simp; exact k))
    apply zg; rfl; intro K hK; go_simp
    refine (y8 x _ _ A W5 (HS.o.rd (Ext.trans aW.o bq.o) r0.o) (HS.o.lt (Ext.trans aW.o bq.o))).mono ?_
    rintro e w6 ⟨rfl, x6⟩
    refine hK _ _ x6 ?_
    have H6 := qh (anQ (Ext.trans bq.o x6) trivial)
    clear hK K x6 dK
    repeat (apply item_take; rfl; rfl; rfl; rfl; exact fun _ _ _ _ h => h; (intro _ _ _ k; go_simp; exact k))
    apply zg; rfl; intro K hK; go_simp
    refine hK _ _ (za _ _) ?_
    clear hK K
    apply zn; rfl; intro K hK
    refine HS.o.app hV.o H6.o.1 w6.heap.size rfl (.tmp 129) (.tmp 133) _ _ 12 rfl Tryz.underlying43 zet rfl (by omega) (Nat.succ_pos _) x _ rfl rfl (Lay.lim_mk x) (by have := H.o.2.2.1.len_memories; rw [ltQ]; omega) 7 bU.o ?_
    intro az aR aO w2 bi aU
    refine hK _ _ ?_
    clear hK K
    have aU := qh aU
    have bS := bi.cell
    have cp := bi.frz
    clear bi HC
    repeat (apply item_take; rfl; rfl; rfl; rfl; exact fun _ _ _ _ h => h; (intro _ _ _ k; go_simp; exact k))
    apply zn; rfl; intro K hK; go_simp
    refine hK _ _ ?_
    clear hK K
    apply zm
    clear bS cp
    go_wp2
    go_roundw
    case rel => exact ⟨i + 1, _, by omega, by go_num, qh (by simpa using aU.o)⟩
    case measure => simp [intOf]; omega
   obtain rfl : i = m.memories.length := by omega
   have bh := hV.o
   rw [tlQ] at bh
   obtain ⟨zE, hz⟩ : ∃ z, z = Value.slice ap am ar := ⟨_, rfl⟩
   rw [← hz] at bh
   replace HS := qh (HS.o.next bh fun _ _ h k => h.set_memories k)
   clear hV bh hz aT hi aj aW ap am ar
   generalize wr = wl at *
   have au := HS.o.bm.cell
   have aT : (m.elements.length : Int) ≤ 9223372036854775807 := by have := lF.o; simp only [maxLen] at this; omega
   go_wp2_with fail
   clear au
   go_loopw [13, 143] (fun ib pt w' => ∃ (i : Nat) (va : Value), i ≤ m.elements.length ∧ pt = .int .i64 i ∧ Hq (CV (Lay.elem (n + 1)) 110 g gr X wl (om (.int .u32 0) m zA zB (.slice aC m.functions.length cC) zD zE va nsV nsV nsV nsV nsV nsV nsV) 51 w' va (m.elements.take i))) (fun _ pt _ => m.elements.length - (intOf pt).toNat)
   case atStart => exact ⟨0, _, nzQ _, rfl, HS.o.bg, zv _ _ _ _ _, Fr.refl _ _⟩
   obtain ⟨i, va, hi, rfl, hV⟩ := hrel
   have aW := qh (HS.o.ext hV.o.2.2)
   obtain ⟨ap, am, ar, rfl⟩ := hV.o.2.1.shape
   by_cases aj : i < m.elements.length
   ·obtain ⟨b, o, ax, cx, ay, cy, rfl, e0, e1, e2, r0, r1⟩ := Lay.eelem_at2 H.o.1.elements i aj
    have iu := qh (H.o.2.2.1.elements _ (List.getElem_mem aj))
    have bU := qh (show m.elements.take (i + 1) = _ from tsQ aj)
    generalize m.elements[i] = x at *
    replace e0 := aW.o.c e0
    replace e1 := aW.o.c e1
    replace e2 := aW.o.c e2
    have r0 := qh r0
    have r1 := qh r1
    go_wp2_with fail
    have dK := qh (zl wr #[.int .u32 (x.index.toNat : Int), .slice ax x.off.length cx, .slice ay x.ids.length cy] 216)
    have bP := qh (za wr (.cells #[.int .u32 (x.index.toNat : Int), .slice ax x.off.length cx, .slice ay x.ids.length cy] 216))
    generalize (wr.alloc (.cells #[.int .u32 (x.index.toNat : Int), .slice ax x.off.length cx, .slice ay x.ids.length cy] 216)) = W4 at *
    obtain ⟨ge, cm⟩ := exQ (wr.heap.size)
    rw [cm] at dK ⊢
    clear cm e0 e1 e2
    refine zj jQ [kT 0, kT 1, kT 2, kT 3, kT 4, kT 5, kT 6, kT 8, kT 9, kR 7, kT 10, kR 11, kL 12, kT 13, kL 14] (by kernel_rfl) (by kernel_rfl) ?_
    simp only [zx, gzQ, gsQ]
    have HC := qh (fun W' (h : Ext W4.drew W') => anQ (dK.o.ext (Ext.trans (zb _) h)).cell (hV.o.1.ext (Ext.trans bP.o (Ext.trans (zb _) h))).cell)
    have bq := qh (Ext.trans bP.o (zb W4))
    generalize W4.drew = W5 at *
    repeat (apply item_take; rfl; rfl; rfl; rfl; exact fun _ _ _ _ h => h; (intro W e _ k; have q := HC.o W e; go_simp; exact k))
    apply zg; rfl; intro K hK; go_simp
    refine (JJ n x.off ax x.off.length cx A W5 (HS.o.rd (Ext.trans aW.o bq.o) r0.o) (HS.o.lt (Ext.trans aW.o bq.o)) iu.o.1).mono ?_
    rintro e w6 ⟨v6, rfl, o6, x6⟩
    refine hK _ _ x6 ?_
    obtain ⟨y1, y3, rfl, -, -⟩ := o6.form
    have H6 := qh (anQ (Ext.trans bq.o x6) o6.slice)
    clear hK K x6 o6 dK
    repeat (apply item_take; rfl; rfl; rfl; rfl; exact fun _ _ _ _ h => h; (intro _ _ _ k; go_simp; exact k))
    apply zg; rfl; intro K hK; go_simp
    refine hK _ _ (za _ _) ?_
    clear hK K
    apply zn; rfl; intro K hK
    refine HS.o.app hV.o H6.o.1 w6.heap.size rfl (.tmp 148) (.tmp 158) _ _ 56 rfl Tryz.underlying44 (ze5 n) rfl (by omega) (Nat.succ_pos _) x _ rfl rfl ⟨[_], [_, _], rfl, rfl, [_], [_], rfl, Lay.mono _ H6.o.2 (HS.o.new hV.o.2.1 hV.o.2.2.size bq.o.size), (Lay.mono _ (HS.o.rd (Ext.trans aW.o H6.o.1) r1.o) (HS.o.old hV.o.2.1 (Ext.trans aW.o H6.o.1)))⟩ (by have := H.o.2.2.1.len_elements; rw [ltQ]; omega) 8 bU.o ?_
    intro az aR aO w2 bi aU
    refine hK _ _ ?_
    clear hK K
    have aU := qh aU
    have bS := bi.cell
    have cp := bi.frz
    clear bi HC
    repeat (apply item_take; rfl; rfl; rfl; rfl; exact fun _ _ _ _ h => h; (intro _ _ _ k; go_simp; exact k))
    apply zn; rfl; intro K hK; go_simp
    refine hK _ _ ?_
    clear hK K
    apply zm
    clear bS cp
    go_wp2
    go_roundw
    case rel => exact ⟨i + 1, _, by omega, by go_num, qh (by simpa using aU.o)⟩
    case measure => simp [intOf]; omega
   obtain rfl : i = m.elements.length := by omega
   have bh := hV.o
   rw [tlQ] at bh
   obtain ⟨zF, hz⟩ : ∃ z, z = Value.slice ap am ar := ⟨_, rfl⟩
   rw [← hz] at bh
   replace HS := qh (HS.o.next bh fun _ _ h k => h.set_elements k)
   clear hV bh hz aT hi aj aW ap am ar
   generalize wr = vn at *
   have au := HS.o.bm.cell
   have aT : (m.globals.length : Int) ≤ 9223372036854775807 := by have := lG.o; simp only [maxLen] at this; omega
   go_wp2_with fail
   clear au
   go_loopw [15, 168] (fun qE pQ w' => ∃ (i : Nat) (va : Value), i ≤ m.globals.length ∧ pQ = .int .i64 i ∧ Hq (CV (Lay.glob (n + 1)) 113 g gr X vn (om (.int .u32 0) m zA zB (.slice aC m.functions.length cC) zD zE zF va nsV nsV nsV nsV nsV nsV) 51 w' va (m.globals.take i))) (fun _ pQ _ => m.globals.length - (intOf pQ).toNat)
   case atStart => exact ⟨0, _, nzQ _, rfl, HS.o.bg, zv _ _ _ _ _, Fr.refl _ _⟩
   obtain ⟨i, va, hi, rfl, hV⟩ := hrel
   have aW := qh (HS.o.ext hV.o.2.2)
   obtain ⟨ap, am, ar, rfl⟩ := hV.o.2.1.shape
   by_cases aj : i < m.globals.length
   ·obtain ⟨b, o, ax, cx, rfl, e0, e1, e2, r0, r1⟩ := Lay.eglob_at2 H.o.1.globals i aj
    have iu := qh (H.o.2.2.1.globals _ (List.getElem_mem aj))
    have bU := qh (show m.globals.take (i + 1) = _ from tsQ aj)
    generalize m.globals[i] = x at *
    replace e0 := aW.o.c e0
    replace e1 := aW.o.c e1
    replace e2 := aW.o.c e2
    have r0 := qh r0
    have r1 := qh r1
    go_wp2_with fail
    have dK := qh (zl wr #[.int .i64 x.ty, .bool x.mtb, .slice ax x.init.length cx] 220)
    have bP := qh (za wr (.cells #[.int .i64 x.ty, .bool x.mtb, .slice ax x.init.length cx] 220))
    generalize (wr.alloc (.cells #[.int .i64 x.ty, .bool x.mtb, .slice ax x.init.length cx] 220)) = W4 at *
    obtain ⟨ge, cm⟩ := exQ (wr.heap.size)
    rw [cm] at dK ⊢
    clear cm e0 e1 e2
    refine zj jQ [kT 0, kT 1, kT 2, kT 3, kT 4, kT 5, kT 6, kT 7, kT 8, kR 9, kT 10, kR 11, kL 12, kT 13, kL 14] (by kernel_rfl) (by kernel_rfl) ?_
    simp only [zx, gzQ, gsQ]
    have HC := qh (fun W' (h : Ext W4.drew W') => anQ (dK.o.ext (Ext.trans (zb _) h)).cell (hV.o.1.ext (Ext.trans bP.o (Ext.trans (zb _) h))).cell)
    have bq := qh (Ext.trans bP.o (zb W4))
    generalize W4.drew = W5 at *
    repeat (apply item_take; rfl; rfl; rfl; rfl; exact fun _ _ _ _ h => h; (intro W e _ k; have q := HC.o W e; go_simp; exact k))
    apply zg; rfl; intro K hK; go_simp
    refine (JJ n x.init ax x.init.length cx A W5 (HS.o.rd (Ext.trans aW.o bq.o) r1.o) (HS.o.lt (Ext.trans aW.o bq.o)) iu.o.1).mono ?_
    rintro e w6 ⟨v6, rfl, o6, x6⟩
    refine hK _ _ x6 ?_
    obtain ⟨y1, y3, rfl, -, -⟩ := o6.form
    have H6 := qh (anQ (Ext.trans bq.o x6) o6.slice)
    clear hK K x6 o6 dK
    repeat (apply item_take; rfl; rfl; rfl; rfl; exact fun _ _ _ _ h => h; (intro _ _ _ k; go_simp; exact k))
    apply zg; rfl; intro K hK; go_simp
    refine hK _ _ (za _ _) ?_
    clear hK K
    apply zn; rfl; intro K hK
    refine HS.o.app hV.o H6.o.1 w6.heap.size rfl (.tmp 173) (.tmp 183) _ _ 40 rfl Tryz.underlying45 (zgE n) rfl (by omega) (Nat.succ_pos _) x _ rfl rfl ⟨[_], [_, _], rfl, ⟨rfl, r0.o⟩, [_], [_], rfl, rfl, Lay.mono _ H6.o.2 (HS.o.new hV.o.2.1 hV.o.2.2.size bq.o.size)⟩ (by have := H.o.2.2.1.len_globals; rw [ltQ]; omega) 9 bU.o ?_
    intro az aR aO w2 bi aU
    refine hK _ _ ?_
    clear hK K
    have aU := qh aU
    have bS := bi.cell
    have cp := bi.frz
    clear bi HC
    repeat (apply item_take; rfl; rfl; rfl; rfl; exact fun _ _ _ _ h => h; (intro _ _ _ k; go_simp; exact k))
    apply zn; rfl; intro K hK; go_simp
    refine hK _ _ ?_
    clear hK K
    apply zm
    clear bS cp
    go_wp2
    go_roundw
    case rel => exact ⟨i + 1, _, by omega, by go_num, qh (by simpa using aU.o)⟩
    case measure => simp [intOf]; omega
   obtain rfl : i = m.globals.length := by omega
   have bh := hV.o
   rw [tlQ] at bh
   obtain ⟨zG, hz⟩ : ∃ z, z = Value.slice ap am ar := ⟨_, rfl⟩
   rw [← hz] at bh
   replace HS := qh (HS.o.next bh fun _ _ h k => h.set_globals k)
   clear hV bh hz aT hi aj aW ap am ar
   generalize wr = rO at *
   have au := HS.o.bm.cell
   have aT : (m.exports.length : Int) ≤ 9223372036854775807 := by have := lH.o; simp only [maxLen] at this; omega
   go_wp2_with fail
   clear au
   go_loopw [17, 193] (fun qI qz w' => ∃ (i : Nat) (va : Value), i ≤ m.exports.length ∧ qz = .int .i64 i ∧ Hq (CV Lay.expo 114 g gr X rO (om (.int .u32 0) m zA zB (.slice aC m.functions.length cC) zD zE zF zG va nsV nsV nsV nsV nsV) 51 w' va (m.exports.take i))) (fun _ qz _ => m.exports.length - (intOf qz).toNat)
   case atStart => exact ⟨0, _, nzQ _, rfl, HS.o.bg, zv _ _ _ _ _, Fr.refl _ _⟩
   obtain ⟨i, va, hi, rfl, hV⟩ := hrel
   have aW := qh (HS.o.ext hV.o.2.2)
   obtain ⟨ap, am, ar, rfl⟩ := hV.o.2.1.shape
   by_cases aj : i < m.exports.length
   ·obtain ⟨b, o, rfl, e0, e1, e2, r0, r1, hr⟩ := Lay.expo_at2 H.o.1.exports i aj
    have bU := qh (show m.exports.take (i + 1) = _ from tsQ aj)
    generalize m.exports[i] = x at *
    replace e0 := aW.o.c e0
    replace e1 := aW.o.c e1
    replace e2 := aW.o.c e2
    have hr := qh hr
    have r0 := qh r0
    have r1 := qh r1
    have ex := hV.o.1.ext (za wr (.cells #[.string (zd x.name), .int .i64 x.kind, .int .u32 (x.index.toNat : Int)] 225))
    have eq := ex.cell
    have eO := ex.frz
    clear ex
    go_wp2_with (at_builtin; refine Hq.o ?_)
    refine HS.o.appL hV.o (za _ _) (wr.heap.size + 1) (by simp) rfl (.tmp 198) (.tmp 208) _ _ 32 rfl Tryz.underlying46 zgF rfl (by omega) (Nat.succ_pos _) x _ rfl rfl (Lay.mono _ (HS.o.rd (Ext.trans aW.o (za _ _)) hr.o) (HS.o.old hV.o.2.1 (Ext.trans aW.o (za _ _)))) (by have := H.o.2.2.1.len_exports; rw [ltQ]; omega) 10 bU.o ?_
    intro az aR aO w2 bi aU
    have aU := qh aU
    have bS := bi.cell
    have cp := bi.frz
    clear bi eq eO e0 e1 e2
    go_wp2_with fail
    clear bS cp
    go_roundw
    case rel => exact ⟨i + 1, _, by omega, by go_num, qh (by simpa using aU.o)⟩
    case measure => simp [intOf]; omega
   obtain rfl : i = m.exports.length := by omega
   have bh := hV.o
   rw [tlQ] at bh
   obtain ⟨zH, hz⟩ : ∃ z, z = Value.slice ap am ar := ⟨_, rfl⟩
   rw [← hz] at bh
   replace HS := qh (HS.o.next bh fun _ _ h k => h.set_exports k)
   clear hV bh hz aT hi aj aW ap am ar
   generalize wr = tL at *
   have au := HS.o.bm.cell
   have aT : (m.codes.length : Int) ≤ 9223372036854775807 := by have := lI.o; simp only [maxLen] at this; omega
   go_wp2_with fail
   clear au
   go_loopw [19, 218] (fun Az p5 w' => ∃ (i : Nat) (va : Value), i ≤ m.codes.length ∧ p5 = .int .i64 i ∧ Hq (CV Lay.u8.slice 22 g gr X tL (om (.int .u32 0) m zA zB (.slice aC m.functions.length cC) zD zE zF zG zH va nsV nsV nsV nsV) 51 w' va (m.codes.take i))) (fun _ p5 _ => m.codes.length - (intOf p5).toNat)
   case atStart => exact ⟨0, _, nzQ _, rfl, HS.o.bg, zv _ _ _ _ _, Fr.refl _ _⟩
   obtain ⟨i, va, hi, rfl, hV⟩ := hrel
   have aW := qh (HS.o.ext hV.o.2.2)
   obtain ⟨ap, am, ar, rfl⟩ := hV.o.2.1.shape
   by_cases aj : i < m.codes.length
   ·obtain ⟨b, o, ax, cx, rfl, e0, r0⟩ := Lay.code_at2 H.o.1.codes i aj
    have bU := qh (show m.codes.take (i + 1) = _ from tsQ aj)
    generalize m.codes[i] = x at *
    replace e0 := aW.o.c e0
    have r0 := qh r0
    have ex := hV.o.1.ext (za wr (.cells #[.slice ax x.length cx] 227))
    have eq := ex.cell
    have eO := ex.frz
    clear ex
    go_wp2_with (at_builtin; refine Hq.o ?_)
    refine HS.o.appL hV.o (za _ _) (wr.heap.size + 1) (by simp) rfl (.tmp 223) (.tmp 226) _ _ 24 rfl Tryz.underlying32 zjW rfl (by omega) (Nat.succ_pos _) x _ rfl rfl (Lay.mono _ (HS.o.rd (Ext.trans aW.o (za _ _)) r0.o) (HS.o.old hV.o.2.1 (Ext.trans aW.o (za _ _)))) (by have := H.o.2.2.2.2.2.2.2.1; rw [ltQ]; omega) 11 bU.o ?_
    intro az aR aO w2 bi aU
    have aU := qh aU
    have bS := bi.cell
    have cp := bi.frz
    clear bi eq eO e0
    go_wp2_with fail
    clear bS cp
    go_roundw
    case rel => exact ⟨i + 1, _, by omega, by go_num, qh (by simpa using aU.o)⟩
    case measure => simp [intOf]; omega
   obtain rfl : i = m.codes.length := by omega
   have bh := hV.o
   rw [tlQ] at bh
   obtain ⟨zI, hz⟩ : ∃ z, z = Value.slice ap am ar := ⟨_, rfl⟩
   rw [← hz] at bh
   replace HS := qh (HS.o.next bh fun _ _ h k => h.set_codes k)
   clear hV bh hz aT hi aj aW ap am ar
   generalize wr = tu at *
   have au := HS.o.bm.cell
   have aT : (m.datas.length : Int) ≤ 9223372036854775807 := by have := lJ.o; simp only [maxLen] at this; omega
   go_wp2_with fail
   clear au
   go_loopw [21, 236] (fun iM pY w' => ∃ (i : Nat) (va : Value), i ≤ m.datas.length ∧ pY = .int .i64 i ∧ Hq (CV (Lay.dat (n + 1)) 116 g gr X tu (om (.int .u32 0) m zA zB (.slice aC m.functions.length cC) zD zE zF zG zH zI va nsV nsV nsV) 51 w' va (m.datas.take i))) (fun _ pY _ => m.datas.length - (intOf pY).toNat)
   case atStart => exact ⟨0, _, nzQ _, rfl, HS.o.bg, zv _ _ _ _ _, Fr.refl _ _⟩
   obtain ⟨i, va, hi, rfl, hV⟩ := hrel
   have aW := qh (HS.o.ext hV.o.2.2)
   obtain ⟨ap, am, ar, rfl⟩ := hV.o.2.1.shape
   by_cases aj : i < m.datas.length
   ·obtain ⟨b, o, ax, cx, ay, cy, rfl, e0, e1, e2, r0, r1⟩ := Lay.edat_at2 H.o.1.datas i aj
    have iu := qh (H.o.2.2.1.datas _ (List.getElem_mem aj))
    have bU := qh (show m.datas.take (i + 1) = _ from tsQ aj)
    generalize m.datas[i] = x at *
    replace e0 := aW.o.c e0
    replace e1 := aW.o.c e1
    replace e2 := aW.o.c e2
    have r0 := qh r0
    have r1 := qh r1
    go_wp2_with fail
    have dK := qh (zl wr #[.int .u32 (x.index.toNat : Int), .slice ax x.off.length cx, .slice ay x.init.length cy] 229)
    have bP := qh (za wr (.cells #[.int .u32 (x.index.toNat : Int), .slice ax x.off.length cx, .slice ay x.init.length cy] 229))
    generalize (wr.alloc (.cells #[.int .u32 (x.index.toNat : Int), .slice ax x.off.length cx, .slice ay x.init.length cy] 229)) = W4 at *
    obtain ⟨ge, cm⟩ := exQ (wr.heap.size)
    rw [cm] at dK ⊢
    clear cm e0 e1 e2
    refine zj jQ [kT 0, kT 1, kT 2, kT 3, kT 4, kT 5, kT 6, kT 8, kT 9, kR 7, kT 10, kR 11, kL 12, kT 13, kL 14] (by kernel_rfl) (by kernel_rfl) ?_
    simp only [zx, gzQ, gsQ]
    have HC := qh (fun W' (h : Ext W4.drew W') => anQ (dK.o.ext (Ext.trans (zb _) h)).cell (hV.o.1.ext (Ext.trans bP.o (Ext.trans (zb _) h))).cell)
    have bq := qh (Ext.trans bP.o (zb W4))
    generalize W4.drew = W5 at *
    repeat (apply item_take; rfl; rfl; rfl; rfl; exact fun _ _ _ _ h => h; (intro W e _ k; have q := HC.o W e; go_simp; exact k))
    apply zg; rfl; intro K hK; go_simp
    refine (JJ n x.off ax x.off.length cx A W5 (HS.o.rd (Ext.trans aW.o bq.o) r0.o) (HS.o.lt (Ext.trans aW.o bq.o)) iu.o.1).mono ?_
    rintro e w6 ⟨v6, rfl, o6, x6⟩
    refine hK _ _ x6 ?_
    obtain ⟨y1, y3, rfl, -, -⟩ := o6.form
    have H6 := qh (anQ (Ext.trans bq.o x6) o6.slice)
    clear hK K x6 o6 dK
    repeat (apply item_take; rfl; rfl; rfl; rfl; exact fun _ _ _ _ h => h; (intro _ _ _ k; go_simp; exact k))
    apply zg; rfl; intro K hK; go_simp
    refine hK _ _ (za _ _) ?_
    clear hK K
    apply zn; rfl; intro K hK
    refine HS.o.app hV.o H6.o.1 w6.heap.size rfl (.tmp 241) (.tmp 251) _ _ 56 rfl Tryz.underlying47 (ziV n) rfl (by omega) (Nat.succ_pos _) x _ rfl rfl ⟨[_], [_, _], rfl, rfl, [_], [_], rfl, Lay.mono _ H6.o.2 (HS.o.new hV.o.2.1 hV.o.2.2.size bq.o.size), (Lay.mono _ (HS.o.rd (Ext.trans aW.o H6.o.1) r1.o) (HS.o.old hV.o.2.1 (Ext.trans aW.o H6.o.1)))⟩ (by have := H.o.2.2.1.len_datas; rw [ltQ]; omega) 12 bU.o ?_
    intro az aR aO w2 bi aU
    refine hK _ _ ?_
    clear hK K
    have aU := qh aU
    have bS := bi.cell
    have cp := bi.frz
    clear bi HC
    repeat (apply item_take; rfl; rfl; rfl; rfl; exact fun _ _ _ _ h => h; (intro _ _ _ k; go_simp; exact k))
    apply zn; rfl; intro K hK; go_simp
    refine hK _ _ ?_
    clear hK K
    apply zm
    clear bS cp
    go_wp2
    go_roundw
    case rel => exact ⟨i + 1, _, by omega, by go_num, qh (by simpa using aU.o)⟩
    case measure => simp [intOf]; omega
   obtain rfl : i = m.datas.length := by omega
   have bh := hV.o
   rw [tlQ] at bh
   obtain ⟨zJ, hz⟩ : ∃ z, z = Value.slice ap am ar := ⟨_, rfl⟩
   rw [← hz] at bh
   replace HS := qh (HS.o.next bh fun _ _ h k => h.set_datas k)
   clear hV bh hz aT hi aj aW ap am ar
   generalize wr = r9 at *
   have au := HS.o.bm.cell
   have aT : (m.customs.length : Int) ≤ 9223372036854775807 := by have := lK.o; simp only [maxLen] at this; omega
   go_wp2_with fail
   clear au
   go_loopw [23, 260] (fun tq py w' => ∃ (i : Nat) (va : Value), i ≤ m.customs.length ∧ py = .int .i64 i ∧ Hq (CV Lay.cus 117 g gr X r9 (om (.int .u32 0) m zA zB (.slice aC m.functions.length cC) zD zE zF zG zH zI zJ va nsV nsV) 51 w' va (m.customs.take i))) (fun _ py _ => m.customs.length - (intOf py).toNat)
   case atStart => exact ⟨0, _, nzQ _, rfl, HS.o.bg, zv _ _ _ _ _, Fr.refl _ _⟩
   obtain ⟨i, va, hi, rfl, hV⟩ := hrel
   have aW := qh (HS.o.ext hV.o.2.2)
   obtain ⟨ap, am, ar, rfl⟩ := hV.o.2.1.shape
   by_cases aj : i < m.customs.length
   ·obtain ⟨b, o, ay, cy, rfl, e0, e1, r0, r1, hr⟩ := Lay.cus_at2 H.o.2.2.2.1 i aj
    have bU := qh (show m.customs.take (i + 1) = _ from tsQ aj)
    generalize m.customs[i] = x at *
    replace e0 := aW.o.c e0
    replace e1 := aW.o.c e1
    have hr := qh hr
    have r0 := qh r0
    have r1 := qh r1
    have ex := hV.o.1.ext (za wr (.cells #[.string (zd x.name), .slice ay x.data.length cy] 230))
    have eq := ex.cell
    have eO := ex.frz
    clear ex
    go_wp2_with (at_builtin; refine Hq.o ?_)
    refine HS.o.appL hV.o (za _ _) (wr.heap.size + 1) (by simp) rfl (.tmp 265) (.tmp 271) _ _ 40 rfl Tryz.underlying48 zgG rfl (by omega) (Nat.succ_pos _) x _ rfl rfl (Lay.mono _ (HS.o.rd (Ext.trans aW.o (za _ _)) hr.o) (HS.o.old hV.o.2.1 (Ext.trans aW.o (za _ _)))) (by have := H.o.2.2.1.len_customs; rw [ltQ]; omega) 13 bU.o ?_
    intro az aR aO w2 bi aU
    have aU := qh aU
    have bS := bi.cell
    have cp := bi.frz
    clear bi eq eO e0 e1
    go_wp2_with fail
    clear bS cp
    go_roundw
    case rel => exact ⟨i + 1, _, by omega, by go_num, qh (by simpa using aU.o)⟩
    case measure => simp [intOf]; omega
   obtain rfl : i = m.customs.length := by omega
   have bh := hV.o
   rw [tlQ] at bh
   obtain ⟨zK, hz⟩ : ∃ z, z = Value.slice ap am ar := ⟨_, rfl⟩
   rw [← hz] at bh
   replace HS := qh (HS.o.next bh fun _ _ h k => h.set_customs k)
   clear hV bh hz aT hi aj aW ap am ar
   generalize wr = mi at *
   have au := HS.o.bm.cell
   have aT : (m.funcs.length : Int) ≤ 9223372036854775807 := by have := lL.o; simp only [maxLen] at this; omega
   go_wp2_with fail
   clear au
   go_loopw [25, 281] (fun sA pN w' => ∃ (i : Nat) (va : Value), i ≤ m.funcs.length ∧ pN = .int .i64 i ∧ Hq (CV Lay.nam 119 g gr X mi (om (.int .u32 0) m zA zB (.slice aC m.functions.length cC) zD zE zF zG zH zI zJ zK va nsV) 51 w' va (m.funcs.take i))) (fun _ pN _ => m.funcs.length - (intOf pN).toNat)
   case atStart => exact ⟨0, _, nzQ _, rfl, HS.o.bg, zv _ _ _ _ _, Fr.refl _ _⟩
   obtain ⟨i, va, hi, rfl, hV⟩ := hrel
   have aW := qh (HS.o.ext hV.o.2.2)
   obtain ⟨ap, am, ar, rfl⟩ := hV.o.2.1.shape
   by_cases aj : i < m.funcs.length
   ·obtain ⟨b, o, rfl, e0, e1, r0⟩ := Lay.enam_at2 H.o.1.funcs i aj
    have iu := qh (H.o.2.2.2.2.2.1.funcs _ (List.getElem_mem aj))
    have bU := qh (show m.funcs.take (i + 1) = _ from tsQ aj)
    generalize m.funcs[i] = x at *
    replace e0 := aW.o.c e0
    replace e1 := aW.o.c e1
    have r0 := qh r0
    have ex := hV.o.1.ext (za wr (.cells #[.int .u32 (x.idx.toNat : Int), .string (zd x.name)] 232))
    have eq := ex.cell
    have eO := ex.frz
    clear ex
    go_wp2_with (at_builtin; refine Hq.o ?_)
    refine HS.o.appL hV.o (za _ _) (wr.heap.size + 1) (by simp) rfl (.tmp 286) (.tmp 292) _ _ 24 rfl Tryz.underlying49 zgH rfl (by omega) (Nat.succ_pos _) x _ rfl rfl (Lay.nam_mk iu.o r0.o) (by have := H.o.2.2.1.len_funcs; rw [ltQ]; omega) 15 bU.o ?_
    intro az aR aO w2 bi aU
    have aU := qh aU
    have bS := bi.cell
    have cp := bi.frz
    clear bi eq eO e0 e1
    go_wp2_with fail
    clear bS cp
    go_roundw
    case rel => exact ⟨i + 1, _, by omega, by go_num, qh (by simpa using aU.o)⟩
    case measure => simp [intOf]; omega
   obtain rfl : i = m.funcs.length := by omega
   have bh := hV.o
   rw [tlQ] at bh
   obtain ⟨zL, hz⟩ : ∃ z, z = Value.slice ap am ar := ⟨_, rfl⟩
   rw [← hz] at bh
   replace HS := qh (HS.o.next bh fun _ _ h k => h.set_funcs k)
   clear hV bh hz aT hi aj aW ap am ar
   generalize wr = i2 at *
   have au := HS.o.bm.cell
   have aT : (m.locals.length : Int) ≤ 9223372036854775807 := by have := lM.o; simp only [maxLen] at this; omega
   go_wp2_with fail
   clear au
   go_loopw [27, 302] (fun ut pj w' => ∃ (i : Nat) (va : Value), i ≤ m.locals.length ∧ pj = .int .i64 i ∧ Hq (CV Lay.nam 119 g gr X i2 (om (.int .u32 0) m zA zB (.slice aC m.functions.length cC) zD zE zF zG zH zI zJ zK zL va) 51 w' va (m.locals.take i))) (fun _ pj _ => m.locals.length - (intOf pj).toNat)
   case atStart => exact ⟨0, _, nzQ _, rfl, HS.o.bg, zv _ _ _ _ _, Fr.refl _ _⟩
   obtain ⟨i, va, hi, rfl, hV⟩ := hrel
   have aW := qh (HS.o.ext hV.o.2.2)
   obtain ⟨ap, am, ar, rfl⟩ := hV.o.2.1.shape
   by_cases aj : i < m.locals.length
   ·obtain ⟨b, o, rfl, e0, e1, e2, r0, hr⟩ := Lay.nam_at2 H.o.2.2.2.2.1 i aj
    have bU := qh (show m.locals.take (i + 1) = _ from tsQ aj)
    generalize m.locals[i] = x at *
    replace e0 := aW.o.c e0
    replace e1 := aW.o.c e1
    replace e2 := aW.o.c e2
    have hr := qh hr
    have r0 := qh r0
    have ex := hV.o.1.ext (za wr (.cells #[.int .u32 (x.fn.toNat : Int), .int .u32 (x.idx.toNat : Int), .string (zd x.name)] 234))
    have eq := ex.cell
    have eO := ex.frz
    clear ex
    go_wp2_with (at_builtin; refine Hq.o ?_)
    refine HS.o.appL hV.o (za _ _) (wr.heap.size + 1) (by simp) rfl (.tmp 307) (.tmp 317) _ _ 24 rfl Tryz.underlying49 zgH rfl (by omega) (Nat.succ_pos _) x _ rfl rfl (Lay.mono _ (HS.o.rd (Ext.trans aW.o (za _ _)) hr.o) (HS.o.old hV.o.2.1 (Ext.trans aW.o (za _ _)))) (by have := H.o.2.2.1.len_locals; rw [ltQ]; omega) 16 bU.o ?_
    intro az aR aO w2 bi aU
    have aU := qh aU
    have bS := bi.cell
    have cp := bi.frz
    clear bi eq eO e0 e1 e2
    go_wp2_with fail
    clear bS cp
    go_roundw
    case rel => exact ⟨i + 1, _, by omega, by go_num, qh (by simpa using aU.o)⟩
    case measure => simp [intOf]; omega
   obtain rfl : i = m.locals.length := by omega
   have bh := hV.o
   rw [tlQ] at bh
   obtain ⟨zM, hz⟩ : ∃ z, z = Value.slice ap am ar := ⟨_, rfl⟩
   rw [← hz] at bh
   replace HS := qh (HS.o.next bh fun _ _ h k => h.set_locals k)
   clear hV bh hz aT hi aj aW ap am ar
   generalize wr = pk at *
   have au := HS.o.bm.cell
   clear au
   go_upto_region 64 with fail
   refine wp_region_lit ?_
   refine HS.o.bg.wpList_load rfl 51 (.tmp 3) rfl rfl _ Tryz.underlying51 rfl (by kernel_rfl) ?_
   refine HS.o.br.wpList_store rfl 51 (.tmp 2) (.tmp 321) rfl rfl rfl (by kernel_rfl) rfl ?_ ?_
   ·have oA := Lay.slice_one HS.o.md.types
    have oB := Lay.slice_one HS.o.md.imports
    have oC := Lay.slice_one HS.o.md.functions
    have oD := Lay.slice_one HS.o.md.tables
    have oE := Lay.slice_one HS.o.md.memories
    have oF := Lay.slice_one HS.o.md.elements
    have oG := Lay.slice_one HS.o.md.globals
    have oH := Lay.slice_one HS.o.md.exports
    have oI := Lay.slice_one HS.o.md.codes
    have oJ := Lay.slice_one HS.o.md.datas
    have oK := Lay.slice_one HS.o.md.customs
    have oL := Lay.slice_one HS.o.md.funcs
    have oM := Lay.slice_one HS.o.md.locals
    show List.all [.int .u32 0, .bool m.hasStart, .int .u32 (m.start.toNat : Int), zA, zB, .slice aC m.functions.length cC, zD, zE, zF, zG, zH, zI, zJ, zK, .string (zd m.named), zL, zM] (·.oneCell') = true
    simp only [List.all_cons, List.all_nil, oA, oB, oC, oD, oE, oF, oG, oH, oI, oJ, oK, oL, oM]
    rfl
   refine wpList_nil ?_
   go_wp2
   have hs := z9 pk gr #[.int .u32 0, .bool m.hasStart, .int .u32 (m.start.toNat : Int), zA, zB, .slice aC m.functions.length cC, zD, zE, zF, zG, zH, zI, zJ, zK, .string (zd m.named), zL, zM]
   have c8 := HS.o.br.setRow #[.int .u32 0, .bool m.hasStart, .int .u32 (m.start.toNat : Int), zA, zB, .slice aC m.functions.length cC, zD, zE, zF, zG, zH, zI, zJ, zK, .string (zd m.named), zL, zM]
   have hX := qh (Fr.new (Ext.fr HS.o.x hs) (fun k e => by have e' : k = gr := e; have := HS.o.lo; omega))
   have aV := qh (show ModAt (n + 1) (fun k => ¬ X k ∧ k < (pk.setRow gr #[.int .u32 0, .bool m.hasStart, .int .u32 (m.start.toNat : Int), zA, zB, .slice aC m.functions.length cC, zD, zE, zF, zG, zH, zI, zJ, zK, .string (zd m.named), zL, zM]).heap.size) (pk.setRow gr #[.int .u32 0, .bool m.hasStart, .int .u32 (m.start.toNat : Int), zA, zB, .slice aC m.functions.length cC, zD, zE, zF, zG, zH, zI, zJ, zK, .string (zd m.named), zL, zM]) m ⟨zA, zB, .slice aC m.functions.length cC, zD, zE, zF, zG, zH, zI, zJ, zK, zL, zM⟩ from
    (HS.o.md.fr hs (fun k hk => ⟨hk.2, fun e => hk.1 (.inr (.inl e))⟩)).mono (fun k hk => ⟨fun q => hk.1 (.inr (.inr q)), nqQ hk.2 hs.size⟩))
   have xu := qh H.o.2.2.2.2.2.1.version
   exact bodyPost_ret (v := .agg #[.int .u32 0, .bool m.hasStart, .int .u32 (m.start.toNat : Int), zA, zB, .slice aC m.functions.length cC, zD, zE, zF, zG, zH, zI, zJ, zK, .string (zd m.named), zL, zM]) (yq Tryz.results19 _ rfl c8 _ Tryz.underlying51 rfl (by kernel_rfl)) rfl ⟨⟨zA, zB, .slice aC m.functions.length cC, zD, zE, zF, zG, zH, zI, zJ, zK, zL, zM⟩, by simp only [zt, xu.o]; rfl, aV.o, hX.o⟩
variable {w : World}
theorem ze6 {A : Nat → Prop} {bs : List UInt8} {ps : List Int} {aa pp : Option Addr} {cap pn pc : Nat} (hR : Lay.u8.slice.rd A w [.slice aa bs.length cap] bs) (hP : Lay.int.slice.rd A w [.slice pp pn pc] ps) (hA : ∀ k, A k → k < w.heap.size) (hl : bs.length ≤ 140737488355328) :
 IsR A w.heap.size bs (w.alloc (.cells #[.slice aa bs.length cap, .slice pp pn pc, .int .i64 0] 84)) :=
 ⟨aa, cap, pp, pn, pc, 0, ps, zl w _ _, Lay.fr hR (za w _) (fun k hk => ⟨hA k hk, fun h => h⟩), Lay.fr hP (za w _) (fun k hk => ⟨hA k hk, fun h => h⟩), by omega, fun k hk => ⟨by have := hA k hk; simp; omega, by have := hA k hk; omega⟩⟩
theorem YC {P : Program} {fn : Func} {a ty t : Nat} (h : fn.results = #[.cell a ty, .tmp t]) (tmps : Array Value) {g : Nat} (hp : tmps.getD a undef = .pointer (some ⟨g, 0, none⟩)) {cs : Array Value} {T : TypeId} (hB : Blk w g cs T) (d : TypeDesc)
 (hu : P.underlying ty = some d) (hd : d.isRow = true) (hi : (P.info? ty).map (·.size) = some cs.size) : (results fn tmps).run P w = .ok (.tuple #[.agg cs, tmps.getD t undef]) w := by
 have rF : tmps[a]?.getD undef = .pointer (some ⟨g, 0, none⟩) := by simpa using hp
 simp [results, h, rF, asAddr, hB.loadVar d hu hd hi]
theorem Jq (n : Nat) (A : Nat → Prop) (aa pp : Option Addr) (cap pn pc : Nat) (bs : List UInt8) (ps : List Int) (pe pu : Addr) (w : World) (hR : Lay.u8.slice.rd A w [.slice aa bs.length cap] bs) (hP : Lay.int.slice.rd A w [.slice pp pn pc] ps) (hA : ∀ k, A k → k < w.heap.size)
 (hS : Spec pe pu w.heap.size w) (hl : bs.length ≤ 67108864) (ag : yA bs ≠ .any) :
 Calls Tryz.prog 7 #[.slice aa bs.length cap, .slice pp pn pc] w fun e w' =>
  (∃ m v, yA bs = .ok m [] ∧ e = .returned (.tuple #[.agg (zt m v), .bool true]) ∧ ModAt (n + 1) (fun k => k < w'.heap.size) w' m v ∧ Ext w w') ∨
  (yA bs = .bad ∧ e = .returned (.tuple #[.agg (zt Mod.none .zero), .bool false]) ∧ Ext w w') := by
 obtain ⟨g, hg⟩ := exQ (w.heap.size)
 have df := za w (.cells zM 51)
 have hH : (w.alloc (.cells zM 51)).heap.size = g + 1 := by simp [hg]
 have hI := ze6 (Lay.fr hR df (fun k hk => ⟨hA k hk, fun h => h⟩)) (Lay.fr hP df (fun k hk => ⟨hA k hk, fun h => h⟩)) (fun k hk => by rw [hH]; have := hA k hk; omega) (by omega : bs.length ≤ 140737488355328)
 have eJ := Ext.trans df (za (w.alloc (.cells zM 51)) (.cells #[.slice aa bs.length cap, .slice pp pn pc, .int .i64 0] 84))
 rw [hH] at hI
 have HB := qh (show Blk _ g zM 51 from hg ▸ ((zl w zM 51).ext (za (w.alloc (.cells zM 51)) (.cells #[.slice aa bs.length cap, .slice pp pn pc, .int .i64 0] 84))))
 have HC := qh (show RdX zjv A (fun k => k = g + 1) (g + 1) pe pu g bs _ from ⟨⟨hI, fun k => Iff.rfl⟩, (hg ▸ hS).ext eJ, fun k e => by have e' : k = g + 1 := e; omega, by omega⟩)
 have H := qh (anQ hl (anQ ag (anQ eJ hg)))
 clear hR hP hA hS hl ag hI df eJ
 go_enter Tryz.func7, Tryz.ntmps7
 go_wp2_with fail
 clear hH
 generalize ((w.alloc (.cells zM 51)).alloc (.cells #[.slice aa bs.length cap, .slice pp pn pc, .int .i64 0] 84)) = w1 at *
 refine (zcW HC.o H.o.2.1 (by have := H.o.1; omega)).mono ?_
 rintro e w2 (⟨m, v, gm, h3, rfl, h4⟩ | ⟨h3, ⟨p, rfl⟩, h4⟩)
 ·have gz := zdb h3
  have hl := H.o.1
  have bi := HB.o.fr h4.2.2.2.2 (fun e => by have e' : g = g + 1 := e; omega)
  have HP := qh (zdc n m v gm (aN w1 w2) w2 h4.1 h4.2.1 h4.2.2.1 h4.2.2.2.1 (fun k hk => hk.2) gz.1 (by omega) (fun k => k = g) (fun k e => by have e' : k = g := e; have := bi.lt; have := H.o.2.2.2; have := H.o.2.2.1.size; exact ⟨by omega, fun q => by have := q.1; have := HB.o.lt; omega⟩))
  have hg := H.o.2.2.2
  have xF := qh (show Ext w w2 from Fr.new (Ext.fr H.o.2.2.1 h4.2.2.2.2) (fun k e => by have e' : k = g + 1 := e; omega))
  have H2 := qh (anQ h3 bi)
  clear h3 h4 gz bi HC hg hl
  go_wp2_with (first | with_reducible refine JP 51 ?_ | with_reducible refine jl 51 ?_ | fail)
  refine HP.o.mono ?_
  rintro e w3 ⟨v', rfl, hM, x3⟩
  have i7 := H2.o.2.ext x3
  have H3 := qh (anQ hM (anQ i7 x3))
  clear hM x3 i7 HP
  go_wp2_with (first | with_reducible refine JP 51 ?_ | with_reducible refine jl 51 ?_ | fail)
  refine qh ?_
  have mA := qh (show (zt m v').toList.all (·.oneCell') = true by
   have HM := H3.o.1
   have oA := Lay.slice_one HM.types
   have oB := Lay.slice_one HM.imports
   have oC := Lay.slice_one HM.functions
   have oD := Lay.slice_one HM.tables
   have oE := Lay.slice_one HM.memories
   have oF := Lay.slice_one HM.elements
   have oG := Lay.slice_one HM.globals
   have oH := Lay.slice_one HM.exports
   have oI := Lay.slice_one HM.codes
   have oJ := Lay.slice_one HM.datas
   have oK := Lay.slice_one HM.customs
   have oL := Lay.slice_one HM.funcs
   have oM := Lay.slice_one HM.locals
   show List.all [.int .u32 (m.version.toNat : Int), .bool m.hasStart, .int .u32 (m.start.toNat : Int), v'.types, v'.imports, v'.functions, v'.tables, v'.memories, v'.elements, v'.globals, v'.exports, v'.codes, v'.datas, v'.customs, .string (zd m.named), v'.funcs, v'.locals] (·.oneCell') = true
   simp only [List.all_cons, List.all_nil, oA, oB, oC, oD, oE, oF, oG, oH, oI, oJ, oK, oL, oM]
   rfl)
  refine H3.o.2.1.wpList_store rfl 51 (.tmp 4) (.tmp 24) rfl rfl rfl (by kernel_rfl) rfl mA.o ?_
  clear mA
  go_wp2_with fail
  (try simp only [Exit.inBlock, Exit.then])
  have hs := z9 w3 g (zt m v')
  have c8 := H3.o.2.1.setRow (zt m v')
  have hX := Fr.new (Fr.trans (Ext.trans xF.o H3.o.2.2) hs (fun _ _ e => e.elim) (fun k _ e => e)) (fun k e => by have e' : k = g := e; have := H.o.2.2.2; omega)
  refine bodyPost_ret (YC Tryz.results7 _ rfl c8 _ Tryz.underlying51 rfl (by kernel_rfl)) rfl (.inl ⟨m, v', H2.o.1, rfl, ?_, hX⟩)
  exact (H3.o.1.fr hs (fun k hk => ⟨hk.2, hk.1⟩)).mono (fun k hk => nqQ hk.2 hs.size)
 ·have bi := HB.o.fr h4 (fun e => by have e' : g = g + 1 := e; omega)
  have xF := qh (show Ext w w2 from Fr.new (Ext.fr H.o.2.2.1 h4) (fun k e => by have e' : k = g + 1 := e; have := H.o.2.2.2; omega))
  have H2 := qh (anQ h3 bi)
  clear h3 h4 bi HC HB
  go_wp2_with (first | with_reducible refine JP 51 ?_ | with_reducible refine jl 51 ?_ | fail)
  refine qh ?_
  refine JQ rfl _ _ rfl zM (by kernel_rfl) ?_
  refine H2.o.2.wpList_store rfl 51 (.tmp 4) (.tmp 19) rfl rfl rfl (by kernel_rfl) rfl rfl ?_
  go_wp2_with fail
  (try simp only [Exit.inBlock, Exit.then])
  have hs := z9 w2 g zM
  have c8 := H2.o.2.setRow zM
  have hX := Fr.new (Fr.trans xF.o hs (fun _ _ e => e.elim) (fun k _ e => e)) (fun k e => by have e' : k = g := e; have := H.o.2.2.2; omega)
  exact bodyPost_ret (YC Tryz.results7 _ rfl c8 _ Tryz.underlying51 rfl (by kernel_rfl)) rfl (.inr ⟨H2.o.1, rfl, hX⟩)
theorem ze7 (N : Nat) (D : Nat → Prop) (g gm : Nat) (lo : Bool) (s : St) (w : World) (q3 q0 q1 q2 q4 q5 q6 q7 q8 q9 bN bk bl bp bZ bY cg : Value) (h : SpR D g lo s w) (hB : Blk w gm #[q0, q1, q2, q3, q4, q5, q6, q7, q8, q9, bN, bk, bl, bp, bZ, bY, cg] 37) (ag : ¬ gm = g) (dP : ∀ k, D k → ¬ k = gm) (hl : s.b.length ≤ 1048576) :
 Calls Tryz.prog 54 #[.pointer (some ⟨g, 0, none⟩), .int .i64 1, .pointer (some ⟨gm, 0, none⟩)] w fun e w' => e = .returned (.tuple #[]) ∧ (∃ v, Blk w' gm #[q0, q1, q2, v, q4, q5, q6, q7, q8, q9, bN, bk, bl, bp, bZ, bY, cg] 37 ∧ Lay.ft.slice.rd (aE D w w') w' [v] (yt s).1) ∧ SpR D g lo (yt s).2 w' ∧ Fr (fun k => k = g ∨ k = gm) w w' := by
 have H := qh (anQ h (anQ hl (anQ h.lt.1 (anQ hB (anQ ag dP)))))
 clear h hl hB ag dP
 go_enter Tryz.func54, Tryz.ntmps54
 go_wp2_with fail
 refine (zaF H.o.1 (by have := H.o.2.1; omega)).mono ?_
 rintro e w1 ⟨v, rfl, k0, k1, k2⟩
 have hr := qh (show Lay.ft.slice.rd (fun k => w.heap.size ≤ k ∧ k < w1.heap.size) w1 [v] (yt s).1 from Lay.mono _ (k0.slice (fun k hk q => by omega)) (fun k hk => ⟨by have := hk.1; omega, hk.2⟩))
 obtain ⟨a1, a2, a3, rfl⟩ := y5 hr.o
 have cz := H.o.2.2.2.1.fr k2 H.o.2.2.2.2.1
 have au := cz.cell
 have eR := cz.frz
 have H1 := qh (anQ k1 (anQ k2 cz))
 clear k1 k2 cz k0
 go_wp2
 go_end0
 have hs := zf w1 ⟨gm, 3, none⟩ (.slice a1 a2 a3)
 refine ⟨rfl, ⟨.slice a1 a2 a3, ?_, ?_⟩, H1.o.1.fr hs (fun e => H.o.2.2.2.2.1 e.symm) (fun k hk e => H.o.2.2.2.2.2 k hk e), Fr.trans H1.o.2.1 hs (fun _ _ e => .inl e) (fun _ _ e => .inr e)⟩
 ·simpa using H1.o.2.2.set 3 (.slice a1 a2 a3)
 ·have hz : (w1.setCell ⟨gm, 3, none⟩ (.slice a1 a2 a3)).heap.size = w1.heap.size := by simp
  exact Lay.mono _ (Lay.fr hr.o hs (fun k hk => ⟨hk.2, fun e => by have e' : k = gm := e; have := H.o.2.2.2.1.lt; omega⟩)) (fun k hk => ⟨.inr hk.1, by rw [hz]; exact hk.2⟩)
theorem ze8 (N : Nat) (D : Nat → Prop) (g gm : Nat) (lo : Bool) (s : St) (w : World) (q4 q0 q1 q2 q3 q5 q6 q7 q8 q9 bN bk bl bp bZ bY cg : Value) (h : SpR D g lo s w) (hB : Blk w gm #[q0, q1, q2, q3, q4, q5, q6, q7, q8, q9, bN, bk, bl, bp, bZ, bY, cg] 37) (ag : ¬ gm = g) (dP : ∀ k, D k → ¬ k = gm) (hl : s.b.length ≤ 1048576) :
 Calls Tryz.prog 54 #[.pointer (some ⟨g, 0, none⟩), .int .i64 2, .pointer (some ⟨gm, 0, none⟩)] w fun e w' => e = .returned (.tuple #[]) ∧ (∃ v, Blk w' gm #[q0, q1, q2, q3, v, q5, q6, q7, q8, q9, bN, bk, bl, bp, bZ, bY, cg] 37 ∧ Lay.imp.slice.rd (aE D w w') w' [v] (y6 s).1) ∧ SpR D g lo (y6 s).2 w' ∧ Fr (fun k => k = g ∨ k = gm) w w' := by
 have H := qh (anQ h (anQ hl (anQ h.lt.1 (anQ hB (anQ ag dP)))))
 clear h hl hB ag dP
 go_enter Tryz.func54, Tryz.ntmps54
 go_wp2_with fail
 refine (zb0 H.o.1 H.o.2.1).mono ?_
 rintro e w1 ⟨v, rfl, k0, k1, k2⟩
 have hr := qh (show Lay.imp.slice.rd (fun k => w.heap.size ≤ k ∧ k < w1.heap.size) w1 [v] (y6 s).1 from OwnG.sliceF zim k0)
 obtain ⟨a1, a2, a3, rfl⟩ := y5 hr.o
 have cz := H.o.2.2.2.1.fr k2 H.o.2.2.2.2.1
 have au := cz.cell
 have eR := cz.frz
 have H1 := qh (anQ k1 (anQ k2 cz))
 clear k1 k2 cz k0
 go_wp2
 go_end0
 have hs := zf w1 ⟨gm, 4, none⟩ (.slice a1 a2 a3)
 refine ⟨rfl, ⟨.slice a1 a2 a3, ?_, ?_⟩, H1.o.1.fr hs (fun e => H.o.2.2.2.2.1 e.symm) (fun k hk e => H.o.2.2.2.2.2 k hk e), Fr.trans H1.o.2.1 hs (fun _ _ e => .inl e) (fun _ _ e => .inr e)⟩
 ·simpa using H1.o.2.2.set 4 (.slice a1 a2 a3)
 ·have hz : (w1.setCell ⟨gm, 4, none⟩ (.slice a1 a2 a3)).heap.size = w1.heap.size := by simp
  exact Lay.mono _ (Lay.fr hr.o hs (fun k hk => ⟨hk.2, fun e => by have e' : k = gm := e; have := H.o.2.2.2.1.lt; omega⟩)) (fun k hk => ⟨.inr hk.1, by rw [hz]; exact hk.2⟩)
end Go.Proofs.YtejgninpjhcgnaaGreatDoor
