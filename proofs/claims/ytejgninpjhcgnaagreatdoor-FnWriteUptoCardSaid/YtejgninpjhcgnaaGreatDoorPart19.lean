/- Texts of this proof, one behind the other. -/
import Derived.Test.YtejgninpjhcgnaaGreatDoorPart18
import Derived.OwnWalk
namespace Go.Proofs.YtejgninpjhcgnaaGreatDoor
open Go.RowKit
set_option linter.unusedSimpArgs false
set_option linter.unusedVariables false
set_option maxRecDepth 100000
set_option maxHeartbeats 32000000
theorem zkx : (Tryz.prog.info? 218).map (fun i => (i.zero, i.size, i.bytes)) = some (some (.int .i64 0), Lay.int.size, 8) := by kernel_rfl
theorem zbG (l : List Int) (v : Value) (A : Nat → Prop) (w : World) (hR : Lay.int.slice.rd A w [v] l) (hA : ∀ k, A k → k < w.heap.size) (hl : l.length ≤ 8796093022208) :
 Calls Tryz.prog 85 #[v] w fun e w' => ∃ v1, e = .returned v1 ∧ Own Lay.int 218 w.heap.size w' v1 l ∧ Ext w w' := by
 obtain ⟨aa, cap, rfl, ce, bh⟩ := Lay.slice_form hR
 have ao : (l.length : Int) ≤ 9223372036854775807 := by omega
 have H := qh (anQ hR (anQ hA hl))
 clear hR hA hl ce bh
 go_enter Tryz.func85, Tryz.ntmps85
 go_wp2_with fail
 go_loopw [3, 8] (fun s3 s8 w' => ∃ (i : Nat), i ≤ l.length ∧ s8 = .int .i64 i ∧ Hd (Own Lay.int 218 w.heap.size w' s3 (l.take i)) ∧ Hd (Ext w w')) (fun _ s8 _ => l.length - (intOf s8).toNat)
 case atStart => exact ⟨0, nzQ _, rfl, jz _ _ _ _, Fr.refl _ _⟩
 case round =>
  obtain ⟨i, hi, rfl, hO, hX⟩ := hrel
  by_cases ah : i < l.length
  ·obtain ⟨hR, hA, hl⟩ := H.o
   have eM := Lay.fr hR hX.o (fun k hk => ⟨hA k hk, fun h => h⟩)
   obtain ⟨b, o, rfl, eH, tG, cN, bY⟩ := zbX eM i ah
   have aX : Hd (l.take (i + 1) = l.take i ++ [l[i]]) := by rw [tsQ ah]; rfl
   generalize l[i] = x at *
   have HB := qh (anQ cN bY)
   clear hR hA hl eM eH cN bY
   go_wp2_with (at_builtin; refine Hd.o ?_)
   refine Yq Lay.int w.heap.size rfl (.tmp 12) (.tmp 14) _ _ (.int .i64 0) 8 rfl Tryz.underlying195 zkx rfl (by omega) (by decide) u3 (l.take i) x _ rfl rfl hO.o ⟨rfl, HB.o⟩ hX.o.size (by have := H.o.2.2; rw [ltQ]; omega) ?_
   intro v1 w1 h1 h2 h3
   have kK : Hd (Own Lay.int 218 w.heap.size w1 v1 (l.take (i + 1))) := by show Own _ _ _ _ _ _; rw [aX.o]; exact h1
   have iE : Hd (Ext w w1) := Fr.trans hX.o h2 (fun _ _ h => h) (fun k hk e => by have := hO.o.lt k e.symm; omega)
   clear h1 h2 h3
   go_wp2
   go_roundw
   case rel => exact ⟨i + 1, by omega, by go_num, kK, iE⟩
   case measure => simp [intOf]; omega
  ·obtain rfl : i = l.length := by omega
   go_wp2
   go_ret
   have := hO.o
   rw [tlQ] at this
   exact ⟨_, rfl, this, hX.o⟩
abbrev nW (w w' : World) : Nat → Prop := fun k => w.heap.size ≤ k ∧ k < w'.heap.size
theorem JW (x : Lim) (w : World) :
 Calls Tryz.prog 87 #[.agg #[.int .u32 (x.min.toNat : Int), .bool x.bounded, .int .u32 (x.max.toNat : Int)]] w fun e w' => ∃ q, e = .returned (.agg #[.int .u32 (x.min.toNat : Int), .pointer q]) ∧ Lay.wlim.rd (nW w w') w' [.int .u32 (x.min.toNat : Int), .pointer q] x ∧ Ext w w' := by
 obtain ⟨min, bounded, max⟩ := x
 simp only
 have hm := min.toNat_lt
 have qB := max.toNat_lt
 cases bounded with
 | false =>
  go_enter Tryz.func87, Tryz.ntmps87
  go_wp2
  have hX := Ext.trans (za w (.cells #[.int .u32 (min.toNat : Int), .bool false, .int .u32 (max.toNat : Int)] 104)) (za _ (.cells #[.int .u32 (min.toNat : Int), .pointer none] 206))
  exact bodyPost_ret (v := .agg #[.int .u32 (min.toNat : Int), .pointer none]) (by simp [results, Tryz.results87, go_sem]) rfl ⟨none, rfl, ⟨none, rfl, .inl ⟨rfl, rfl⟩⟩, hX⟩
 | true =>
  go_enter Tryz.func87, Tryz.ntmps87
  go_wp2
  have hX := Ext.trans (za w (.cells #[.int .u32 (min.toNat : Int), .bool true, .int .u32 (max.toNat : Int)] 104)) (za _ (.cells #[.int .u32 (min.toNat : Int), .pointer (some ⟨w.heap.size, 2, none⟩)] 206))
  have hb : Blk ((w.alloc (.cells #[.int .u32 (min.toNat : Int), .bool true, .int .u32 (max.toNat : Int)] 104)).alloc (.cells #[.int .u32 (min.toNat : Int), .pointer (some ⟨w.heap.size, 2, none⟩)] 206)) w.heap.size #[.int .u32 (min.toNat : Int), .bool true, .int .u32 (max.toNat : Int)] 104 := (zk w _ _).ext (za _ _)
  exact bodyPost_ret (v := .agg #[.int .u32 (min.toNat : Int), .pointer (some ⟨w.heap.size, 2, none⟩)]) (by simp [results, Tryz.results87, go_sem]) rfl ⟨_, rfl, ⟨_, rfl, .inr ⟨rfl, _, _, _, _, _, rfl, ⟨Nat.le_refl _, hb.lt⟩, hb, rfl⟩⟩, hX⟩
theorem zbU (x : Imp) (w : World) :
 Calls Tryz.prog 86 #[.agg #[.string (zc x.mdl), .string (zc x.name), .int .i64 x.kind, .int .u32 (x.index.toNat : Int), .int .u32 (x.lim.min.toNat : Int), .bool x.lim.bounded, .int .u32 (x.lim.max.toNat : Int), .int .i64 x.ty, .bool x.mtb]] w
  fun e w' => ∃ d, e = .returned d ∧ Lay.wdesc.rd (nW w w') w' [d] x ∧ Ext w w' := by
 obtain ⟨mdl, name, kind, index, lim, ty, mtb⟩ := x
 simp only
 have rS := qh (za w (.cells #[.string (zc mdl), .string (zc name), .int .i64 kind, .int .u32 (index.toNat : Int), .int .u32 (lim.min.toNat : Int), .bool lim.bounded, .int .u32 (lim.max.toNat : Int), .int .i64 ty, .bool mtb] 106))
 have kX : ∀ (A : Nat → Prop) (W : World) (d : Value), (if kind = 0 then [d] = [Value.iface 286 (.agg #[.int .u32 (index.toNat : Int)])]
  else if kind = 1 then ∃ u v, [d] = [Value.iface 287 (.agg #[.int .i64 0, u, v])] ∧ Lay.wlim.rd A W [u, v] lim
  else if kind = 2 then ∃ u v, [d] = [Value.iface 290 (.agg #[u, v])] ∧ Lay.wlim.rd A W [u, v] lim
  else [d] = [Value.iface 292 (.agg #[.int .i64 ty, .bool mtb])]) → Lay.wdesc.rd A W [d] ⟨mdl, name, kind, index, lim, ty, mtb⟩ := fun A W d h => h
 have kX := qh kX
 by_cases h0 : kind = 0
 ·subst h0
  go_enter Tryz.func86, Tryz.ntmps86
  go_wp2
  go_ret
  exact ⟨_, rfl, kX.o _ _ _ (by rw [if_pos True.intro]; rfl), rS.o⟩
 have d0 : (kind == 0) = false := by rw [beq_eq_false_iff_ne]; exact h0
 have H0 := qh h0
 clear h0
 by_cases h1 : kind = 1
 ·subst h1
  go_enter Tryz.func86, Tryz.ntmps86
  go_wp2_with fail
  generalize (w.alloc (.cells #[.string (zc mdl), .string (zc name), .int .i64 1, .int .u32 (index.toNat : Int), .int .u32 (lim.min.toNat : Int), .bool lim.bounded, .int .u32 (lim.max.toNat : Int), .int .i64 ty, .bool mtb] 106)) = W1 at *
  refine (JW lim W1).mono ?_
  rintro e w2 ⟨q, rfl, hl, hx⟩
  have HL := qh (anQ hl hx)
  clear hl hx
  go_wp2
  go_ret
  exact ⟨_, rfl, kX.o _ _ _ (by rw [if_neg H0.o, if_pos True.intro]; exact ⟨_, _, rfl, Lay.mono _ HL.o.1 (fun k hk => ⟨nlQ rS.o.size hk.1, hk.2⟩)⟩), Ext.trans rS.o HL.o.2⟩
 have d1 : (kind == 1) = false := by rw [beq_eq_false_iff_ne]; exact h1
 have H1 := qh h1
 clear h1
 by_cases h2 : kind = 2
 ·subst h2
  go_enter Tryz.func86, Tryz.ntmps86
  go_wp2_with fail
  generalize (w.alloc (.cells #[.string (zc mdl), .string (zc name), .int .i64 2, .int .u32 (index.toNat : Int), .int .u32 (lim.min.toNat : Int), .bool lim.bounded, .int .u32 (lim.max.toNat : Int), .int .i64 ty, .bool mtb] 106)) = W1 at *
  refine (JW lim W1).mono ?_
  rintro e w2 ⟨q, rfl, hl, hx⟩
  have HL := qh (anQ hl hx)
  clear hl hx
  go_wp2
  go_ret
  exact ⟨_, rfl, kX.o _ _ _ (by rw [if_neg H0.o, if_neg H1.o, if_pos True.intro]; exact ⟨_, _, rfl, Lay.mono _ HL.o.1 (fun k hk => ⟨nlQ rS.o.size hk.1, hk.2⟩)⟩), Ext.trans rS.o HL.o.2⟩
 have d2 : (kind == 2) = false := by rw [beq_eq_false_iff_ne]; exact h2
 have H2 := qh h2
 clear h2
 go_enter Tryz.func86, Tryz.ntmps86
 go_wp2
 go_ret
 exact ⟨_, rfl, kX.o _ _ _ (by rw [if_neg H0.o, if_neg H1.o, if_neg H2.o]; rfl), rS.o⟩
theorem ziu : (Tryz.prog.info? 197).map (fun i => (i.zero, i.size, i.bytes)) = some (some (.agg #[.slice none 0 0, .slice none 0 0]), Lay.ft.size, 48) := by kernel_rfl
theorem zfT : (Tryz.prog.info? 202).map (fun i => (i.zero, i.size, i.bytes)) = some (some (.agg #[.string ⟨#[]⟩, .string ⟨#[]⟩, .nilIface]), Lay.wimp.size, 48) := by kernel_rfl
theorem zhi : (Tryz.prog.info? 208).map (fun i => (i.zero, i.size, i.bytes)) = some (some (.agg #[.int .i64 0, .int .u32 0, .pointer none]), Lay.wtab.size, 24) := by kernel_rfl
theorem zeO : (Tryz.prog.info? 211).map (fun i => (i.zero, i.size, i.bytes)) = some (some (.agg #[.int .u32 0, .pointer none]), Lay.wlim.size, 16) := by kernel_rfl
theorem zeP (n : Nat) : (Tryz.prog.info? 216).map (fun i => (i.zero, i.size, i.bytes)) = some (some (.agg #[.int .u32 0, .slice none 0 0, .slice none 0 0]), (Lay.welem n).size, 56) := by kernel_rfl
theorem zfU (n : Nat) : (Tryz.prog.info? 220).map (fun i => (i.zero, i.size, i.bytes)) = some (some (.agg #[.int .i64 0, .bool false, .slice none 0 0]), (Lay.wglob n).size, 40) := by kernel_rfl
theorem zfV : (Tryz.prog.info? 225).map (fun i => (i.zero, i.size, i.bytes)) = some (some (.agg #[.string ⟨#[]⟩, .int .i64 0, .int .u32 0]), Lay.expo.size, 32) := by kernel_rfl
theorem ziv : (Tryz.prog.info? 227).map (fun i => (i.zero, i.size, i.bytes)) = some (some (.agg #[.slice none 0 0]), Lay.wraw.size, 24) := by kernel_rfl
theorem ziw (n : Nat) : (Tryz.prog.info? 229).map (fun i => (i.zero, i.size, i.bytes)) = some (some (.agg #[.int .u32 0, .slice none 0 0, .slice none 0 0]), (Lay.wdat n).size, 56) := by kernel_rfl
theorem zfW : (Tryz.prog.info? 230).map (fun i => (i.zero, i.size, i.bytes)) = some (some (.agg #[.string ⟨#[]⟩, .slice none 0 0]), Lay.cus.size, 40) := by kernel_rfl
theorem zix : (Tryz.prog.info? 232).map (fun i => (i.zero, i.size, i.bytes)) = some (some (.agg #[.int .u32 0, .string ⟨#[]⟩]), Lay.wnam.size, 24) := by kernel_rfl
theorem zhj : (Tryz.prog.info? 234).map (fun i => (i.zero, i.size, i.bytes)) = some (some (.agg #[.int .u32 0, .int .u32 0, .string ⟨#[]⟩]), Lay.nam.size, 32) := by kernel_rfl
structure BFit (m : Mod) : Prop extends ModFit m where
 len_codes : m.codes.length ≤ 4294967296
 ft : ∀ x ∈ m.types, x.ps.length ≤ 8796093022208 ∧ x.rs.length ≤ 8796093022208
abbrev bmc (m : Mod) (aA : Option Addr) (cA : Nat) (aB : Option Addr) (cB : Nat) (aC : Option Addr) (cC : Nat) (aD : Option Addr) (cD : Nat) (aE : Option Addr) (cE : Nat) (aF : Option Addr) (cF : Nat) (aG : Option Addr) (cG : Nat) (aH : Option Addr) (cH : Nat) (aI : Option Addr) (cI : Nat) (aJ : Option Addr) (cJ : Nat) (aK : Option Addr) (cK : Nat) (aL : Option Addr) (cL : Nat) (aM : Option Addr) (cM : Nat) : Array Value := (kmc m aA cA aB cB aC cC aD cD aE cE aF cF aG cG aH cH aI cI aJ cJ aK cK aL cL aM cM)
variable {n : Nat} {m : Mod} {v : ModV} {A : Nat → Prop} {w : World}
theorem zeQ (hM : ModAt n A w m v) (hA : ∀ k, A k → k < w.heap.size) (hF : BFit m) (X : Nat → Prop) (hX : ∀ k, X k → k < w.heap.size ∧ ¬ A k) :
 Calls Tryz.prog 45 #[.agg (zs m v)] w fun e w' => ∃ v' g, e = .returned (.pointer (some ⟨g, 0, none⟩)) ∧ w.heap.size ≤ g ∧ Blk w' g (ziQ m v') 194 ∧ WAt n (fun k => ¬ (k = g ∨ X k) ∧ k < w'.heap.size) w' m v' ∧ Ext w w' := by
 obtain ⟨vA, vB, vC, vD, vE, vF, vG, vH, vI, vJ, vK, vL, vM⟩ := v
 obtain ⟨aA, cA, e, h1, h2⟩ := Lay.slice_form2 hM.types
 have lA := qh (nlQ h1 h2)
 obtain rfl : vA = .slice aA m.types.length cA := by simpa using e
 clear e h1 h2
 obtain ⟨aB, cB, e, h1, h2⟩ := Lay.slice_form2 hM.imports
 have lB := qh (nlQ h1 h2)
 obtain rfl : vB = .slice aB m.imports.length cB := by simpa using e
 clear e h1 h2
 obtain ⟨aC, cC, e, h1, h2⟩ := Lay.slice_form2 hM.functions
 have lC := qh (nlQ h1 h2)
 obtain rfl : vC = .slice aC m.functions.length cC := by simpa using e
 clear e h1 h2
 obtain ⟨aD, cD, e, h1, h2⟩ := Lay.slice_form2 hM.tables
 have lD := qh (nlQ h1 h2)
 obtain rfl : vD = .slice aD m.tables.length cD := by simpa using e
 clear e h1 h2
 obtain ⟨aE, cE, e, h1, h2⟩ := Lay.slice_form2 hM.memories
 have lE := qh (nlQ h1 h2)
 obtain rfl : vE = .slice aE m.memories.length cE := by simpa using e
 clear e h1 h2
 obtain ⟨aF, cF, e, h1, h2⟩ := Lay.slice_form2 hM.elements
 have lF := qh (nlQ h1 h2)
 obtain rfl : vF = .slice aF m.elements.length cF := by simpa using e
 clear e h1 h2
 obtain ⟨aG, cG, e, h1, h2⟩ := Lay.slice_form2 hM.globals
 have lG := qh (nlQ h1 h2)
 obtain rfl : vG = .slice aG m.globals.length cG := by simpa using e
 clear e h1 h2
 obtain ⟨aH, cH, e, h1, h2⟩ := Lay.slice_form2 hM.exports
 have lH := qh (nlQ h1 h2)
 obtain rfl : vH = .slice aH m.exports.length cH := by simpa using e
 clear e h1 h2
 obtain ⟨aI, cI, e, h1, h2⟩ := Lay.slice_form2 hM.codes
 have lI := qh (nlQ h1 h2)
 obtain rfl : vI = .slice aI m.codes.length cI := by simpa using e
 clear e h1 h2
 obtain ⟨aJ, cJ, e, h1, h2⟩ := Lay.slice_form2 hM.datas
 have lJ := qh (nlQ h1 h2)
 obtain rfl : vJ = .slice aJ m.datas.length cJ := by simpa using e
 clear e h1 h2
 obtain ⟨aK, cK, e, h1, h2⟩ := Lay.slice_form2 hM.customs
 have lK := qh (nlQ h1 h2)
 obtain rfl : vK = .slice aK m.customs.length cK := by simpa using e
 clear e h1 h2
 obtain ⟨aL, cL, e, h1, h2⟩ := Lay.slice_form2 hM.funcs
 have lL := qh (nlQ h1 h2)
 obtain rfl : vL = .slice aL m.funcs.length cL := by simpa using e
 clear e h1 h2
 obtain ⟨aM, cM, e, h1, h2⟩ := Lay.slice_form2 hM.locals
 have lM := qh (nlQ h1 h2)
 obtain rfl : vM = .slice aM m.locals.length cM := by simpa using e
 clear e h1 h2
 have H := qh (anQ hM (anQ hA (anQ hF hX)))
 clear hM hA hF hX
 unfold zs
 dsimp only
 go_enter Tryz.func45, Tryz.ntmps45
 go_wp2_with (with_reducible refine Y1 194 ?_)
 refine qh ?_
 refine Zd rfl _ _ rfl (wom m (.pointer none) nsW nsW nsW nsW nsW nsW nsW nsW nsW nsW nsW [] nsW nsW) (by kernel_rfl) ?_
 go_upto_region 2 with fail
 obtain ⟨W1, gm, g, fC, eA, hg, HB⟩ : ∃ W1 gm g, ((w.alloc (.cells (bmc m aA cA aB cB aC cC aD cD aE cE aF cF aG cG aH cH aI cI aJ cJ aK cK aL cL aM cM) 51)).alloc (.cells (wom m (.pointer none) nsW nsW nsW nsW nsW nsW nsW nsW nsW nsW nsW [] nsW nsW) 194)) = W1 ∧ w.heap.size = gm ∧ w.heap.size + 1 = g ∧ Hd (Blk W1 gm (bmc m aA cA aB cB aC cC aD cD aE cE aF cF aG cG aH cH aI cI aJ cJ aK cK aL cL aM cM) 51 ∧ Blk W1 g (wom m (.pointer none) nsW nsW nsW nsW nsW nsW nsW nsW nsW nsW nsW [] nsW nsW) 194 ∧ Ext w W1) := by
  have ct := (zk w (bmc m aA cA aB cB aC cC aD cD aE cE aF cF aG cG aH cH aI cI aJ cJ aK cK aL cL aM cM) 51).ext (za _ (.cells (wom m (.pointer none) nsW nsW nsW nsW nsW nsW nsW nsW nsW nsW nsW [] nsW nsW) 194))
  have dw := zk (w.alloc (.cells (bmc m aA cA aB cB aC cC aD cD aE cE aF cF aG cG aH cH aI cI aJ cJ aK cK aL cL aM cM) 51)) (wom m (.pointer none) nsW nsW nsW nsW nsW nsW nsW nsW nsW nsW nsW [] nsW nsW) 194
  rw [show (w.alloc (.cells (bmc m aA cA aB cB aC cC aD cD aE cE aF cF aG cG aH cH aI cI aJ cJ aK cK aL cL aM cM) 51)).heap.size = w.heap.size + 1 by simp] at dw
  exact ⟨_, _, _, rfl, rfl, rfl, ct, dw, Ext.trans (za _ _) (za _ _)⟩
 rw [fC, hg, eA]
 have HG := qh (show w.heap.size = gm ∧ gm < g from ⟨eA, by omega⟩)
 clear fC eA hg
 obtain ⟨q0, mC⟩ : ∃ q0 : Option Addr, (m.hasStart = true → q0 = some ⟨gm, 2, none⟩) ∧ (m.hasStart = false → q0 = none) := by
  cases m.hasStart
  ·exact ⟨none, fun h => (by cases h), fun _ => rfl⟩
  ·exact ⟨_, fun _ => rfl, fun h => (by cases h)⟩
 have mC := qh mC
 have ag := HB.o.1.cell
 go_upto_if 33 with fail
 go_cut [] from 34 to 38 (fun w' => Hd (Blk w' gm (bmc m aA cA aB cB aC cC aD cD aE cE aF cF aG cG aH cH aI cI aJ cJ aK cK aL cL aM cM) 51 ∧ Blk w' g (wom m (.pointer q0) nsW nsW nsW nsW nsW nsW nsW nsW nsW nsW nsW [] nsW nsW) 194 ∧ Ext w w'))
 case first =>
  have dY := HB.o.2.1.cell
  have fx := HB.o.2.1.frz
  go_wp2_with fail
  ·have e := mC.o.1 (by assumption)
   go_meet
   have hf := zh W1 ⟨g, 1, none⟩ (.pointer (some ⟨gm, 2, none⟩))
   refine ⟨HB.o.1.fr hf (fun e => by have e' : gm = g := e; have := HG.o; omega), ?_, Fr.new (Ext.fr HB.o.2.2 hf) (fun k e => by have e' : k = g := e; have := HG.o; omega)⟩
   rw [e]
   exact HB.o.2.1.set 1 (.pointer (some ⟨gm, 2, none⟩))
  ·have e := mC.o.2 (by assumption)
   go_meet
   exact ⟨HB.o.1, by rw [e]; exact HB.o.2.1, HB.o.2.2⟩
 case rest =>
  obtain ⟨W3, rfl⟩ : ∃ W, W = wc := ⟨_, rfl⟩
  have HS := qh (show BS w A X gm g (bmc m aA cA aB cB aC cC aD cD aE cE aF cF aG cG aH cH aI cI aJ cJ aK cK aL cL aM cM) (wom m (.pointer q0) nsW nsW nsW nsW nsW nsW nsW nsW nsW nsW nsW [] nsW nsW) 51 194 n W3 ⟨m.version, m.hasStart, m.start, [], [], [], [], [], [], [], [], [], [], [], m.named, [], []⟩ ⟨.pointer q0, nsW, nsW, nsW, nsW, nsW, nsW, nsW, nsW, nsW, nsW, nsW, nsW, nsW⟩ from by
   have iy := HG.o
   have iU := hcut.o.1.lt
   refine ⟨hcut.o.1, hcut.o.2.1, ⟨⟨_, rfl, ?_⟩, zV _ _ _, zV _ _ _, zV _ _ _, zV _ _ _, zV _ _ _, zV _ _ _, zV _ _ _, zV _ _ _, zV _ _ _, zV _ _ _, zV _ _ _, zV _ _ _, zV _ _ _⟩, hcut.o.2.2, ⟨by omega, by omega⟩, H.o.2.1, H.o.2.2.2⟩
   rcases Bool.eq_false_or_eq_true m.hasStart with h1 | h1
   ·exact .inr ⟨h1, gm, 2, _, _, _, mC.o.1 h1, ⟨fun q => (by rcases q with q | q; omega; have := (H.o.2.2.2 gm q).1; omega), iU⟩, hcut.o.1, rfl⟩
   ·exact .inl ⟨h1, mC.o.2 h1⟩)
  clear ag HG HB hcut mC
  have ag := HS.o.bm.cell
  have ao : (m.types.length : Int) ≤ 9223372036854775807 := by have := lA.o; simp only [maxLen] at this; omega
  go_wp2_with fail
  clear ag
  go_loopw [5, 42] (fun s5 qX w' => ∃ (i : Nat) (va : Value), i ≤ m.types.length ∧ qX = .int .i64 i ∧ Hd (BV Lay.ft 197 g X W3 (wom m (.pointer q0) va nsW nsW nsW nsW nsW nsW nsW nsW nsW nsW [] nsW nsW) 194 w' va (m.types.take i))) (fun _ qX _ => m.types.length - (intOf qX).toNat)
  case atStart => exact ⟨0, _, nzQ _, rfl, HS.o.bg, Go.Proofs.YtejgninpjhcgnaaGreatDoor.zK _ _ _ _ _, Fr.refl _ _⟩
  obtain ⟨i, va, hi, rfl, hV⟩ := hrel
  have aW := qh (HS.o.ext hV.o.2.2)
  obtain ⟨aN, aw, az, rfl⟩ := hV.o.2.1.shape
  by_cases ah : i < m.types.length
  ·obtain ⟨b, o, ax, cx, ay, cy, rfl, e0, e1, r0, r1, hr⟩ := Lay.ft_at2 H.o.1.types i ah
   have ei := qh (H.o.2.2.1.ft _ (List.getElem_mem ah))
   have aX := qh (show m.types.take (i + 1) = _ from tsQ ah)
   generalize m.types[i] = x at *
   replace e0 := aW.o.cB e0
   replace e1 := aW.o.cB e1
   have hr := qh hr
   have r0 := qh r0
   have r1 := qh r1
   go_wp2_with fail
   have cg := qh (zk wr #[.slice ax x.ps.length cx, .slice ay x.rs.length cy] 103)
   have bl := qh (za wr (.cells #[.slice ax x.ps.length cx, .slice ay x.rs.length cy] 103))
   generalize (wr.alloc (.cells #[.slice ax x.ps.length cx, .slice ay x.rs.length cy] 103)) = W4 at *
   obtain ⟨ge, aZ⟩ := exQ (wr.heap.size)
   rw [aZ] at cg ⊢
   have aZ := qh aZ
   clear e0 e1
   as_aux_lemma =>
   refine zi (y4 (fun k => ¬ (k = g ∨ k = ge))) [kT 0, kT 1, kT 2, kT 3, kT 4, kT 5, kT 6, kT 7, kT 9, kT 10, kR 8, kR 11, kT 12, kR 13, kR 14, kT 15, kT 16, kT 17, kL 18] (by kernel_rfl) (by kernel_rfl) ?_
   simp only [zy, gzQ, gsQ]
   have HC := qh (fun W' (h : Fr (fun k => ¬ (k = g ∨ k = ge)) W4.drew W') => anQ ((cg.o.ext (zb _)).fr h (fun e => e (.inr rfl))).cell ((hV.o.1.ext (Ext.trans bl.o (zb _))).fr h (fun e => e (.inl rfl))).cell)
   have bQ := qh (Ext.trans bl.o (zb W4))
   have fb := qh (cg.o.ext (zb W4))
   generalize W4.drew = W5 at *
   repeat (apply item_take; rfl; rfl; rfl; rfl; exact fun _ _ _ _ h => h; (intro W e _ k; have q := HC.o W e; go_simp; exact k))
   apply ze; rfl; intro K hK; go_simp
   refine (zbG x.ps (.slice ax x.ps.length cx) A W5 (HS.o.rd (Ext.trans aW.o bQ.o) r0.o) (HS.o.lt (Ext.trans aW.o bQ.o)) ei.o.1).mono ?_
   rintro e w6 ⟨v6, rfl, o6, x6⟩
   refine hK _ _ x6.to ?_
   obtain ⟨y1, y3, rfl, -, -⟩ := o6.form
   have H5 := qh (anQ (Ext.trans bQ.o x6) (anQ o6.slice x6.size))
   clear hK K x6 o6
   apply ze; rfl; intro K hK; go_simp
   refine (zbG x.rs (.slice ay x.rs.length cy) A w6 (HS.o.rd (Ext.trans aW.o H5.o.1) r1.o) (HS.o.lt (Ext.trans aW.o H5.o.1)) ei.o.2).mono ?_
   rintro e w7 ⟨v7, rfl, o7, x7⟩
   refine hK _ _ x7.to ?_
   obtain ⟨z1, z3, rfl, -, -⟩ := o7.form
   have H6 := qh (anQ (Ext.trans H5.o.1 x7) (anQ o7.slice x7))
   clear hK K x7 o7 cg fb
   repeat (apply item_take; rfl; rfl; rfl; rfl; exact fun _ _ _ _ h => h; (intro _ _ _ k; go_simp; exact k))
   apply ze; rfl; intro K hK; go_simp
   refine hK _ _ (za _ _).to ?_
   clear hK K
   apply ze; rfl; intro K hK
   refine HS.o.app hV.o H6.o.1 w7.heap.size rfl (.tmp 51) (.tmp 59) _ _ 48 rfl Tryz.underlying159 ziu rfl (by omega) (Nat.succ_pos _) x _ rfl rfl ⟨[_], [_], rfl, Lay.mono _ (Lay.fr H5.o.2.1 H6.o.2.2 (fun k hk => ⟨hk.2, fun h => h⟩)) (fun k hk => (HS.o.new hV.o.2.1 hV.o.2.2.size bQ.o.size) k ⟨hk.1, nqQ hk.2 H6.o.2.2.size⟩), Lay.mono _ H6.o.2.1 (HS.o.new hV.o.2.1 hV.o.2.2.size (nlQ bQ.o.size H5.o.2.2))⟩ (by have := H.o.2.2.1.len_types; rw [ltQ]; omega) 2 aX.o ?_
   intro aR aV aU w2 bN hst de
   refine hK _ _ (de.mono (fun k _ e e2 => by have := aZ.o; have := HS.o.bg.lt; rcases e2 with e2 | e2 <;> omega)) ?_
   clear hK K
   have hst := qh hst
   have db := bN.cell
   have dj := bN.frz
   clear bN de HC
   repeat (apply item_take; rfl; rfl; rfl; rfl; exact fun _ _ _ _ h => h; (intro _ _ _ k; go_simp; exact k))
   apply zu; rfl; intro K hK; go_simp
   refine hK _ _ ?_
   clear hK K
   apply zl
   clear db dj
   go_wp2
   go_roundw
   case rel => exact ⟨i + 1, _, by omega, by go_num, qh (by simpa using hst.o)⟩
   case measure => simp [intOf]; omega
  obtain rfl : i = m.types.length := by omega
  have bk := hV.o
  rw [tlQ] at bk
  obtain ⟨zA, hz⟩ : ∃ z, z = Value.slice aN aw az := ⟨_, rfl⟩
  rw [← hz] at bk
  replace HS := qh (HS.o.next bk fun _ _ h k => h.set_types k)
  clear hV bk hz ao hi ah aW aN aw az
  generalize wr = tK at *
  have ag := HS.o.bm.cell
  have ao : (m.imports.length : Int) ≤ 9223372036854775807 := by have := lB.o; simp only [maxLen] at this; omega
  go_wp2_with fail
  clear ag
  go_loopw [7, 68] (fun s7 wv w' => ∃ (i : Nat) (va : Value), i ≤ m.imports.length ∧ wv = .int .i64 i ∧ Hd (BV Lay.wimp 202 g X tK (wom m (.pointer q0) zA va nsW nsW nsW nsW nsW nsW nsW nsW nsW [] nsW nsW) 194 w' va (m.imports.take i))) (fun _ wv _ => m.imports.length - (intOf wv).toNat)
  case atStart => exact ⟨0, _, nzQ _, rfl, HS.o.bg, Go.Proofs.YtejgninpjhcgnaaGreatDoor.zK _ _ _ _ _, Fr.refl _ _⟩
  obtain ⟨i, va, hi, rfl, hV⟩ := hrel
  have aW := qh (HS.o.ext hV.o.2.2)
  obtain ⟨aN, aw, az, rfl⟩ := hV.o.2.1.shape
  by_cases ah : i < m.imports.length
  ·obtain ⟨b, o, rfl, e0, e1, e2, e3, e4, e5, e6, e7, e8, r0, r1, r2, r3, hr⟩ := Lay.imp_at2 H.o.1.imports i ah
   have aX := qh (show m.imports.take (i + 1) = _ from tsQ ah)
   generalize m.imports[i] = x at *
   replace e0 := aW.o.cB e0
   replace e1 := aW.o.cB e1
   replace e2 := aW.o.cB e2
   replace e3 := aW.o.cB e3
   replace e4 := aW.o.cB e4
   replace e5 := aW.o.cB e5
   replace e6 := aW.o.cB e6
   replace e7 := aW.o.cB e7
   replace e8 := aW.o.cB e8
   have hr := qh hr
   have r0 := qh r0
   have r1 := qh r1
   have r2 := qh r2
   have r3 := qh r3
   go_wp2_with fail
   have cg := qh (zk wr #[.string (zc x.mdl), .string (zc x.name), .int .i64 x.kind, .int .u32 (x.index.toNat : Int), .int .u32 (x.lim.min.toNat : Int), .bool x.lim.bounded, .int .u32 (x.lim.max.toNat : Int), .int .i64 x.ty, .bool x.mtb] 106)
   have bl := qh (za wr (.cells #[.string (zc x.mdl), .string (zc x.name), .int .i64 x.kind, .int .u32 (x.index.toNat : Int), .int .u32 (x.lim.min.toNat : Int), .bool x.lim.bounded, .int .u32 (x.lim.max.toNat : Int), .int .i64 x.ty, .bool x.mtb] 106))
   generalize (wr.alloc (.cells #[.string (zc x.mdl), .string (zc x.name), .int .i64 x.kind, .int .u32 (x.index.toNat : Int), .int .u32 (x.lim.min.toNat : Int), .bool x.lim.bounded, .int .u32 (x.lim.max.toNat : Int), .int .i64 x.ty, .bool x.mtb] 106)) = W4 at *
   obtain ⟨ge, aZ⟩ := exQ (wr.heap.size)
   rw [aZ] at cg ⊢
   have aZ := qh aZ
   clear e0 e1 e2 e3 e4 e5 e6 e7 e8
   as_aux_lemma =>
   refine zi (y4 (fun k => ¬ (k = g ∨ k = ge))) [kT 0, kT 1, kT 2, kT 3, kT 4, kT 5, kT 6, kT 7, kT 8, kT 9, kT 10, kR 11, kT 12, kR 13, kR 14, kT 15, kT 16, kT 17, kL 18] (by kernel_rfl) (by kernel_rfl) ?_
   simp only [zy, gzQ, gsQ]
   have HC := qh (fun W' (h : Fr (fun k => ¬ (k = g ∨ k = ge)) W4.drew W') => anQ ((cg.o.ext (zb _)).fr h (fun e => e (.inr rfl))).cell ((hV.o.1.ext (Ext.trans bl.o (zb _))).fr h (fun e => e (.inl rfl))).cell)
   have bQ := qh (Ext.trans bl.o (zb W4))
   have fb := qh (cg.o.ext (zb W4))
   generalize W4.drew = W5 at *
   repeat (apply item_take; rfl; rfl; rfl; rfl; exact fun _ _ _ _ h => h; (intro W e _ k; have q := HC.o W e; go_simp; exact k))
   apply ze; rfl; intro K hK; go_simp
   refine (zbU x W5).mono ?_
   rintro e w6 ⟨d, rfl, o6, x6⟩
   obtain ⟨T, p, ed⟩ := Lay.wdesc_iface o6
   obtain rfl : d = .iface T p := by simpa using ed
   clear ed
   refine hK _ _ x6.to ?_
   have H6 := qh (anQ (Ext.trans bQ.o x6) o6)
   clear hK K x6 o6 cg fb
   repeat (apply item_take; rfl; rfl; rfl; rfl; exact fun _ _ _ _ h => h; (intro _ _ _ k; go_simp; exact k))
   apply ze; rfl; intro K hK; go_simp
   refine hK _ _ (za _ _).to ?_
   clear hK K
   apply ze; rfl; intro K hK
   refine HS.o.app hV.o H6.o.1 w6.heap.size rfl (.tmp 77) (.tmp 85) _ _ 48 rfl Tryz.underlying162 zfT rfl (by omega) (Nat.succ_pos _) x _ rfl rfl ⟨[_], [_, _], rfl, ⟨rfl, r0.o⟩, [_], [_], rfl, ⟨rfl, r1.o⟩, Lay.mono _ H6.o.2 (HS.o.new hV.o.2.1 hV.o.2.2.size bQ.o.size)⟩ (by have := H.o.2.2.1.len_imports; rw [ltQ]; omega) 3 aX.o ?_
   intro aR aV aU w2 bN hst de
   refine hK _ _ (de.mono (fun k _ e e2 => by have := aZ.o; have := HS.o.bg.lt; rcases e2 with e2 | e2 <;> omega)) ?_
   clear hK K
   have hst := qh hst
   have db := bN.cell
   have dj := bN.frz
   clear bN de HC
   repeat (apply item_take; rfl; rfl; rfl; rfl; exact fun _ _ _ _ h => h; (intro _ _ _ k; go_simp; exact k))
   apply zu; rfl; intro K hK; go_simp
   refine hK _ _ ?_
   clear hK K
   apply zl
   clear db dj
   go_wp2
   go_roundw
   case rel => exact ⟨i + 1, _, by omega, by go_num, qh (by simpa using hst.o)⟩
   case measure => simp [intOf]; omega
  obtain rfl : i = m.imports.length := by omega
  have bk := hV.o
  rw [tlQ] at bk
  obtain ⟨zB, hz⟩ : ∃ z, z = Value.slice aN aw az := ⟨_, rfl⟩
  rw [← hz] at bk
  replace HS := qh (HS.o.next bk fun _ _ h k => h.set_imports k)
  clear hV bk hz ao hi ah aW aN aw az
  generalize wr = tu at *
  have ag := HS.o.bm.cell
  have dY := HS.o.bg.cell
  have fx := HS.o.bg.frz
  go_upto_region 15 with fail
  clear dY fx ag
  replace HS := qh (HS.o.store 4 (.slice aC m.functions.length cC) (fun B W hB hx h => h.set_functions (Lay.mono _ (Lay.fr H.o.1.functions hx (fun k hk => ⟨H.o.2.1 k hk, fun q => q⟩)) hB)))
  generalize tu.setCell ⟨g, 4, none⟩ (.slice aC m.functions.length cC) = DT at *
  have ag := HS.o.bm.cell
  have ao : (m.tables.length : Int) ≤ 9223372036854775807 := by have := lD.o; simp only [maxLen] at this; omega
  go_wp2_with fail
  clear ag
  go_loopw [9, 100] (fun s9 i6 w' => ∃ (i : Nat) (va : Value), i ≤ m.tables.length ∧ i6 = .int .i64 i ∧ Hd (BV Lay.wtab 208 g X DT (wom m (.pointer q0) zA zB (.slice aC m.functions.length cC) va nsW nsW nsW nsW nsW nsW nsW [] nsW nsW) 194 w' va (m.tables.take i))) (fun _ i6 _ => m.tables.length - (intOf i6).toNat)
  case atStart => exact ⟨0, _, nzQ _, rfl, HS.o.bg, Go.Proofs.YtejgninpjhcgnaaGreatDoor.zK _ _ _ _ _, Fr.refl _ _⟩
  obtain ⟨i, va, hi, rfl, hV⟩ := hrel
  have aW := qh (HS.o.ext hV.o.2.2)
  obtain ⟨aN, aw, az, rfl⟩ := hV.o.2.1.shape
  by_cases ah : i < m.tables.length
  ·obtain ⟨b, o, rfl, e0, e1, e2, hr⟩ := Lay.lim_at2 H.o.1.tables i ah
   have aX := qh (show m.tables.take (i + 1) = _ from tsQ ah)
   generalize m.tables[i] = x at *
   replace e0 := aW.o.cB e0
   replace e1 := aW.o.cB e1
   replace e2 := aW.o.cB e2
   have hr := qh hr
   go_wp2_with fail
   have cg := qh (zk wr #[.int .u32 (x.min.toNat : Int), .bool x.bounded, .int .u32 (x.max.toNat : Int)] 104)
   have bl := qh (za wr (.cells #[.int .u32 (x.min.toNat : Int), .bool x.bounded, .int .u32 (x.max.toNat : Int)] 104))
   generalize (wr.alloc (.cells #[.int .u32 (x.min.toNat : Int), .bool x.bounded, .int .u32 (x.max.toNat : Int)] 104)) = W4 at *
   obtain ⟨ge, aZ⟩ := exQ (wr.heap.size)
   rw [aZ] at cg ⊢
   have aZ := qh aZ
   clear e0 e1 e2
   as_aux_lemma =>
   refine zi (y4 (fun k => ¬ (k = g ∨ k = ge))) [kT 0, kT 1, kT 2, kT 3, kT 4, kT 5, kT 6, kR 7, kT 8, kR 9, kR 10, kT 11, kT 12, kT 13, kL 14] (by kernel_rfl) (by kernel_rfl) ?_
   simp only [zy, gzQ, gsQ]
   have HC := qh (fun W' (h : Fr (fun k => ¬ (k = g ∨ k = ge)) W4.drew W') => anQ ((cg.o.ext (zb _)).fr h (fun e => e (.inr rfl))).cell ((hV.o.1.ext (Ext.trans bl.o (zb _))).fr h (fun e => e (.inl rfl))).cell)
   have bQ := qh (Ext.trans bl.o (zb W4))
   have fb := qh (cg.o.ext (zb W4))
   generalize W4.drew = W5 at *
   repeat (apply item_take; rfl; rfl; rfl; rfl; exact fun _ _ _ _ h => h; (intro W e _ k; have q := HC.o W e; go_simp; exact k))
   apply ze; rfl; intro K hK; go_simp
   refine (JW x W5).mono ?_
   rintro e w6 ⟨q, rfl, o6, x6⟩
   refine hK _ _ x6.to ?_
   have H6 := qh (anQ (Ext.trans bQ.o x6) o6)
   clear hK K x6 o6 cg fb
   repeat (apply item_take; rfl; rfl; rfl; rfl; exact fun _ _ _ _ h => h; (intro _ _ _ k; go_simp; exact k))
   apply ze; rfl; intro K hK; go_simp
   refine hK _ _ (za _ _).to ?_
   clear hK K
   apply ze; rfl; intro K hK
   refine HS.o.app hV.o H6.o.1 w6.heap.size rfl (.tmp 109) (.tmp 113) _ _ 24 rfl Tryz.underlying167 zhi rfl (by omega) (Nat.succ_pos _) x _ rfl rfl ⟨[_], [_, _], rfl, rfl, Lay.mono _ H6.o.2 (HS.o.new hV.o.2.1 hV.o.2.2.size bQ.o.size)⟩ (by have := H.o.2.2.1.len_tables; rw [ltQ]; omega) 5 aX.o ?_
   intro aR aV aU w2 bN hst de
   refine hK _ _ (de.mono (fun k _ e e2 => by have := aZ.o; have := HS.o.bg.lt; rcases e2 with e2 | e2 <;> omega)) ?_
   clear hK K
   have hst := qh hst
   have db := bN.cell
   have dj := bN.frz
   clear bN de HC
   repeat (apply item_take; rfl; rfl; rfl; rfl; exact fun _ _ _ _ h => h; (intro _ _ _ k; go_simp; exact k))
   apply zu; rfl; intro K hK; go_simp
   refine hK _ _ ?_
   clear hK K
   apply zl
   clear db dj
   go_wp2
   go_roundw
   case rel => exact ⟨i + 1, _, by omega, by go_num, qh (by simpa using hst.o)⟩
   case measure => simp [intOf]; omega
  obtain rfl : i = m.tables.length := by omega
  have bk := hV.o
  rw [tlQ] at bk
  obtain ⟨zD, hz⟩ : ∃ z, z = Value.slice aN aw az := ⟨_, rfl⟩
  rw [← hz] at bk
  replace HS := qh (HS.o.next bk fun _ _ h k => h.set_tables k)
  clear hV bk hz ao hi ah aW aN aw az
  generalize wr = xN at *
  have ag := HS.o.bm.cell
  have ao : (m.memories.length : Int) ≤ 9223372036854775807 := by have := lE.o; simp only [maxLen] at this; omega
  go_wp2_with fail
  clear ag
  go_loopw [11, 122] (fun nN qj w' => ∃ (i : Nat) (va : Value), i ≤ m.memories.length ∧ qj = .int .i64 i ∧ Hd (BV Lay.wlim 211 g X xN (wom m (.pointer q0) zA zB (.slice aC m.functions.length cC) zD va nsW nsW nsW nsW nsW nsW [] nsW nsW) 194 w' va (m.memories.take i))) (fun _ qj _ => m.memories.length - (intOf qj).toNat)
  case atStart => exact ⟨0, _, nzQ _, rfl, HS.o.bg, Go.Proofs.YtejgninpjhcgnaaGreatDoor.zK _ _ _ _ _, Fr.refl _ _⟩
  obtain ⟨i, va, hi, rfl, hV⟩ := hrel
  have aW := qh (HS.o.ext hV.o.2.2)
  obtain ⟨aN, aw, az, rfl⟩ := hV.o.2.1.shape
  by_cases ah : i < m.memories.length
  ·obtain ⟨b, o, rfl, e0, e1, e2, hr⟩ := Lay.lim_at2 H.o.1.memories i ah
   have aX := qh (show m.memories.take (i + 1) = _ from tsQ ah)
   generalize m.memories[i] = x at *
   replace e0 := aW.o.cB e0
   replace e1 := aW.o.cB e1
   replace e2 := aW.o.cB e2
   have hr := qh hr
   go_wp2_with fail
   have cg := qh (zk wr #[.int .u32 (x.min.toNat : Int), .bool x.bounded, .int .u32 (x.max.toNat : Int)] 104)
   have bl := qh (za wr (.cells #[.int .u32 (x.min.toNat : Int), .bool x.bounded, .int .u32 (x.max.toNat : Int)] 104))
   generalize (wr.alloc (.cells #[.int .u32 (x.min.toNat : Int), .bool x.bounded, .int .u32 (x.max.toNat : Int)] 104)) = W4 at *
   obtain ⟨ge, aZ⟩ := exQ (wr.heap.size)
   rw [aZ] at cg ⊢
   have aZ := qh aZ
   clear e0 e1 e2
   as_aux_lemma =>
   refine zi (y4 (fun k => ¬ (k = g ∨ k = ge))) [kT 0, kT 1, kT 2, kT 3, kT 4, kT 5, kT 6, kR 7, kT 8, kR 9, kR 10, kT 11, kT 12, kT 13, kL 14] (by kernel_rfl) (by kernel_rfl) ?_
   simp only [zy, gzQ, gsQ]
   have HC := qh (fun W' (h : Fr (fun k => ¬ (k = g ∨ k = ge)) W4.drew W') => anQ ((cg.o.ext (zb _)).fr h (fun e => e (.inr rfl))).cell ((hV.o.1.ext (Ext.trans bl.o (zb _))).fr h (fun e => e (.inl rfl))).cell)
   have bQ := qh (Ext.trans bl.o (zb W4))
   have fb := qh (cg.o.ext (zb W4))
   generalize W4.drew = W5 at *
   repeat (apply item_take; rfl; rfl; rfl; rfl; exact fun _ _ _ _ h => h; (intro W e _ k; have q := HC.o W e; go_simp; exact k))
   apply ze; rfl; intro K hK; go_simp
   refine (JW x W5).mono ?_
   rintro e w6 ⟨q, rfl, o6, x6⟩
   refine hK _ _ x6.to ?_
   have H6 := qh (anQ (Ext.trans bQ.o x6) o6)
   clear hK K x6 o6 cg fb
   repeat (apply item_take; rfl; rfl; rfl; rfl; exact fun _ _ _ _ h => h; (intro _ _ _ k; go_simp; exact k))
   apply ze; rfl; intro K hK; go_simp
   refine hK _ _ (za _ _).to ?_
   clear hK K
   apply ze; rfl; intro K hK
   refine HS.o.app hV.o H6.o.1 w6.heap.size rfl (.tmp 131) (.tmp 135) _ _ 16 rfl Tryz.underlying170 zeO rfl (by omega) (Nat.succ_pos _) x _ rfl rfl (Lay.mono _ H6.o.2 (HS.o.new hV.o.2.1 hV.o.2.2.size bQ.o.size)) (by have := H.o.2.2.1.len_memories; rw [ltQ]; omega) 6 aX.o ?_
   intro aR aV aU w2 bN hst de
   refine hK _ _ (de.mono (fun k _ e e2 => by have := aZ.o; have := HS.o.bg.lt; rcases e2 with e2 | e2 <;> omega)) ?_
   clear hK K
   have hst := qh hst
   have db := bN.cell
   have dj := bN.frz
   clear bN de HC
   repeat (apply item_take; rfl; rfl; rfl; rfl; exact fun _ _ _ _ h => h; (intro _ _ _ k; go_simp; exact k))
   apply zu; rfl; intro K hK; go_simp
   refine hK _ _ ?_
   clear hK K
   apply zl
   clear db dj
   go_wp2
   go_roundw
   case rel => exact ⟨i + 1, _, by omega, by go_num, qh (by simpa using hst.o)⟩
   case measure => simp [intOf]; omega
  obtain rfl : i = m.memories.length := by omega
  have bk := hV.o
  rw [tlQ] at bk
  obtain ⟨zE, hz⟩ : ∃ z, z = Value.slice aN aw az := ⟨_, rfl⟩
  rw [← hz] at bk
  replace HS := qh (HS.o.next bk fun _ _ h k => h.set_memories k)
  clear hV bk hz ao hi ah aW aN aw az
  generalize wr = xa at *
  have ag := HS.o.bm.cell
  have ao : (m.elements.length : Int) ≤ 9223372036854775807 := by have := lF.o; simp only [maxLen] at this; omega
  go_wp2_with fail
  clear ag
  go_loopw [13, 144] (fun fX qM w' => ∃ (i : Nat) (va : Value), i ≤ m.elements.length ∧ qM = .int .i64 i ∧ Hd (BV (Lay.welem n) 216 g X xa (wom m (.pointer q0) zA zB (.slice aC m.functions.length cC) zD zE va nsW nsW nsW nsW nsW [] nsW nsW) 194 w' va (m.elements.take i))) (fun _ qM _ => m.elements.length - (intOf qM).toNat)
  case atStart => exact ⟨0, _, nzQ _, rfl, HS.o.bg, Go.Proofs.YtejgninpjhcgnaaGreatDoor.zK _ _ _ _ _, Fr.refl _ _⟩
  obtain ⟨i, va, hi, rfl, hV⟩ := hrel
  have aW := qh (HS.o.ext hV.o.2.2)
  obtain ⟨aN, aw, az, rfl⟩ := hV.o.2.1.shape
  by_cases ah : i < m.elements.length
  ·obtain ⟨b, o, ax, cx, ay, cy, rfl, e0, e1, e2, r0, r1, hr⟩ := Lay.elem_at2 H.o.1.elements i ah
   have ei := qh (H.o.2.2.1.elements _ (List.getElem_mem ah))
   have aX := qh (show m.elements.take (i + 1) = _ from tsQ ah)
   generalize m.elements[i] = x at *
   replace e0 := aW.o.cB e0
   replace e1 := aW.o.cB e1
   replace e2 := aW.o.cB e2
   have hr := qh hr
   have r0 := qh r0
   have r1 := qh r1
   go_wp2_with fail
   have cg := qh (zk wr #[.int .u32 (x.index.toNat : Int), .slice ax x.off.length cx, .slice ay x.ids.length cy] 110)
   have bl := qh (za wr (.cells #[.int .u32 (x.index.toNat : Int), .slice ax x.off.length cx, .slice ay x.ids.length cy] 110))
   generalize (wr.alloc (.cells #[.int .u32 (x.index.toNat : Int), .slice ax x.off.length cx, .slice ay x.ids.length cy] 110)) = W4 at *
   obtain ⟨ge, aZ⟩ := exQ (wr.heap.size)
   rw [aZ] at cg ⊢
   have aZ := qh aZ
   clear e0 e1 e2
   as_aux_lemma =>
   refine zi (y4 (fun k => ¬ (k = g ∨ k = ge))) [kT 0, kT 1, kT 2, kT 3, kT 4, kT 5, kT 6, kT 7, kT 8, kT 9, kT 12, kT 13, kR 10, kT 11, kT 14, kR 15, kR 16, kT 17, kT 18, kT 19, kL 20] (by kernel_rfl) (by kernel_rfl) ?_
   simp only [zy, gzQ, gsQ]
   have HC := qh (fun W' (h : Fr (fun k => ¬ (k = g ∨ k = ge)) W4.drew W') => anQ ((cg.o.ext (zb _)).fr h (fun e => e (.inr rfl))).cell ((hV.o.1.ext (Ext.trans bl.o (zb _))).fr h (fun e => e (.inl rfl))).cell)
   have bQ := qh (Ext.trans bl.o (zb W4))
   have fb := qh (cg.o.ext (zb W4))
   generalize W4.drew = W5 at *
   repeat (apply item_take; rfl; rfl; rfl; rfl; exact fun _ _ _ _ h => h; (intro W e _ k; have q := HC.o W e; go_simp; exact k))
   apply ze; rfl; intro K hK; go_simp
   refine (Z1 n x.off ax x.off.length cx A W5 (HS.o.rd (Ext.trans aW.o bQ.o) r0.o) (HS.o.lt (Ext.trans aW.o bQ.o)) ei.o.1 ei.o.2).mono ?_
   rintro e w6 ⟨v6, rfl, o6, x6⟩
   refine hK _ _ x6.to ?_
   obtain ⟨y1, y3, rfl, -, -⟩ := o6.form
   have H6 := qh (anQ (Ext.trans bQ.o x6) o6.slice)
   clear hK K x6 o6 cg fb
   repeat (apply item_take; rfl; rfl; rfl; rfl; exact fun _ _ _ _ h => h; (intro _ _ _ k; go_simp; exact k))
   apply ze; rfl; intro K hK; go_simp
   refine hK _ _ (za _ _).to ?_
   clear hK K
   apply ze; rfl; intro K hK
   refine HS.o.app hV.o H6.o.1 w6.heap.size rfl (.tmp 153) (.tmp 163) _ _ 56 rfl Tryz.underlying173 (zeP n) rfl (by omega) (Nat.succ_pos _) x _ rfl rfl ⟨[_], [_, _], rfl, rfl, [_], [_], rfl, Lay.mono _ H6.o.2 (HS.o.new hV.o.2.1 hV.o.2.2.size bQ.o.size), (Lay.mono _ (HS.o.rd (Ext.trans aW.o H6.o.1) r1.o) (HS.o.old hV.o.2.1 (Ext.trans aW.o H6.o.1)))⟩ (by have := H.o.2.2.1.len_elements; rw [ltQ]; omega) 7 aX.o ?_
   intro aR aV aU w2 bN hst de
   refine hK _ _ (de.mono (fun k _ e e2 => by have := aZ.o; have := HS.o.bg.lt; rcases e2 with e2 | e2 <;> omega)) ?_
   clear hK K
   have hst := qh hst
   have db := bN.cell
   have dj := bN.frz
   clear bN de HC
   repeat (apply item_take; rfl; rfl; rfl; rfl; exact fun _ _ _ _ h => h; (intro _ _ _ k; go_simp; exact k))
   apply zu; rfl; intro K hK; go_simp
   refine hK _ _ ?_
   clear hK K
   apply zl
   clear db dj
   go_wp2
   go_roundw
   case rel => exact ⟨i + 1, _, by omega, by go_num, qh (by simpa using hst.o)⟩
   case measure => simp [intOf]; omega
  obtain rfl : i = m.elements.length := by omega
  have bk := hV.o
  rw [tlQ] at bk
  obtain ⟨zF, hz⟩ : ∃ z, z = Value.slice aN aw az := ⟨_, rfl⟩
  rw [← hz] at bk
  replace HS := qh (HS.o.next bk fun _ _ h k => h.set_elements k)
  clear hV bk hz ao hi ah aW aN aw az
  generalize wr = Az at *
  have ag := HS.o.bm.cell
  have ao : (m.globals.length : Int) ≤ 9223372036854775807 := by have := lG.o; simp only [maxLen] at this; omega
  go_wp2_with fail
  clear ag
  go_loopw [15, 172] (fun ra fT w' => ∃ (i : Nat) (va : Value), i ≤ m.globals.length ∧ fT = .int .i64 i ∧ Hd (BV (Lay.wglob n) 220 g X Az (wom m (.pointer q0) zA zB (.slice aC m.functions.length cC) zD zE zF va nsW nsW nsW nsW [] nsW nsW) 194 w' va (m.globals.take i))) (fun _ fT _ => m.globals.length - (intOf fT).toNat)
  case atStart => exact ⟨0, _, nzQ _, rfl, HS.o.bg, Go.Proofs.YtejgninpjhcgnaaGreatDoor.zK _ _ _ _ _, Fr.refl _ _⟩
  obtain ⟨i, va, hi, rfl, hV⟩ := hrel
  have aW := qh (HS.o.ext hV.o.2.2)
  obtain ⟨aN, aw, az, rfl⟩ := hV.o.2.1.shape
  by_cases ah : i < m.globals.length
  ·obtain ⟨b, o, ax, cx, rfl, e0, e1, e2, r0, r1, hr⟩ := Lay.glob_at2 H.o.1.globals i ah
   have ei := qh (H.o.2.2.1.globals _ (List.getElem_mem ah))
   have aX := qh (show m.globals.take (i + 1) = _ from tsQ ah)
   generalize m.globals[i] = x at *
   replace e0 := aW.o.cB e0
   replace e1 := aW.o.cB e1
   replace e2 := aW.o.cB e2
   have hr := qh hr
   have r0 := qh r0
   have r1 := qh r1
   go_wp2_with fail
   have cg := qh (zk wr #[.int .i64 x.ty, .bool x.mtb, .slice ax x.init.length cx] 113)
   have bl := qh (za wr (.cells #[.int .i64 x.ty, .bool x.mtb, .slice ax x.init.length cx] 113))
   generalize (wr.alloc (.cells #[.int .i64 x.ty, .bool x.mtb, .slice ax x.init.length cx] 113)) = W4 at *
   obtain ⟨ge, aZ⟩ := exQ (wr.heap.size)
   rw [aZ] at cg ⊢
   have aZ := qh aZ
   clear e0 e1 e2
   as_aux_lemma =>
   refine zi (y4 (fun k => ¬ (k = g ∨ k = ge))) [kT 0, kT 1, kT 2, kT 3, kT 4, kT 5, kT 6, kT 7, kT 8, kT 9, kT 10, kT 11, kR 12, kT 13, kT 14, kR 15, kR 16, kT 17, kT 18, kT 19, kL 20] (by kernel_rfl) (by kernel_rfl) ?_
   simp only [zy, gzQ, gsQ]
   have HC := qh (fun W' (h : Fr (fun k => ¬ (k = g ∨ k = ge)) W4.drew W') => anQ ((cg.o.ext (zb _)).fr h (fun e => e (.inr rfl))).cell ((hV.o.1.ext (Ext.trans bl.o (zb _))).fr h (fun e => e (.inl rfl))).cell)
   have bQ := qh (Ext.trans bl.o (zb W4))
   have fb := qh (cg.o.ext (zb W4))
   generalize W4.drew = W5 at *
   repeat (apply item_take; rfl; rfl; rfl; rfl; exact fun _ _ _ _ h => h; (intro W e _ k; have q := HC.o W e; go_simp; exact k))
   apply ze; rfl; intro K hK; go_simp
   refine (Z1 n x.init ax x.init.length cx A W5 (HS.o.rd (Ext.trans aW.o bQ.o) r1.o) (HS.o.lt (Ext.trans aW.o bQ.o)) ei.o.1 ei.o.2).mono ?_
   rintro e w6 ⟨v6, rfl, o6, x6⟩
   refine hK _ _ x6.to ?_
   obtain ⟨y1, y3, rfl, -, -⟩ := o6.form
   have H6 := qh (anQ (Ext.trans bQ.o x6) o6.slice)
   clear hK K x6 o6 cg fb
   repeat (apply item_take; rfl; rfl; rfl; rfl; exact fun _ _ _ _ h => h; (intro _ _ _ k; go_simp; exact k))
   apply ze; rfl; intro K hK; go_simp
   refine hK _ _ (za _ _).to ?_
   clear hK K
   apply ze; rfl; intro K hK
   refine HS.o.app hV.o H6.o.1 w6.heap.size rfl (.tmp 181) (.tmp 191) _ _ 40 rfl Tryz.underlying176 (zfU n) rfl (by omega) (Nat.succ_pos _) x _ rfl rfl ⟨[_], [_, _], rfl, ⟨rfl, r0.o⟩, [_], [_], rfl, rfl, Lay.mono _ H6.o.2 (HS.o.new hV.o.2.1 hV.o.2.2.size bQ.o.size)⟩ (by have := H.o.2.2.1.len_globals; rw [ltQ]; omega) 8 aX.o ?_
   intro aR aV aU w2 bN hst de
   refine hK _ _ (de.mono (fun k _ e e2 => by have := aZ.o; have := HS.o.bg.lt; rcases e2 with e2 | e2 <;> omega)) ?_
   clear hK K
   have hst := qh hst
   have db := bN.cell
   have dj := bN.frz
   clear bN de HC
   repeat (apply item_take; rfl; rfl; rfl; rfl; exact fun _ _ _ _ h => h; (intro _ _ _ k; go_simp; exact k))
   apply zu; rfl; intro K hK; go_simp
   refine hK _ _ ?_
   clear hK K
   apply zl
   clear db dj
   go_wp2
   go_roundw
   case rel => exact ⟨i + 1, _, by omega, by go_num, qh (by simpa using hst.o)⟩
   case measure => simp [intOf]; omega
  obtain rfl : i = m.globals.length := by omega
  have bk := hV.o
  rw [tlQ] at bk
  obtain ⟨zG, hz⟩ : ∃ z, z = Value.slice aN aw az := ⟨_, rfl⟩
  rw [← hz] at bk
  replace HS := qh (HS.o.next bk fun _ _ h k => h.set_globals k)
  clear hV bk hz ao hi ah aW aN aw az
  generalize wr = tO at *
  have ag := HS.o.bm.cell
  have ao : (m.exports.length : Int) ≤ 9223372036854775807 := by have := lH.o; simp only [maxLen] at this; omega
  go_wp2_with fail
  clear ag
  go_loopw [17, 200] (fun xk rG w' => ∃ (i : Nat) (va : Value), i ≤ m.exports.length ∧ rG = .int .i64 i ∧ Hd (BV Lay.expo 225 g X tO (wom m (.pointer q0) zA zB (.slice aC m.functions.length cC) zD zE zF zG va nsW nsW nsW [] nsW nsW) 194 w' va (m.exports.take i))) (fun _ rG _ => m.exports.length - (intOf rG).toNat)
  case atStart => exact ⟨0, _, nzQ _, rfl, HS.o.bg, Go.Proofs.YtejgninpjhcgnaaGreatDoor.zK _ _ _ _ _, Fr.refl _ _⟩
  obtain ⟨i, va, hi, rfl, hV⟩ := hrel
  have aW := qh (HS.o.ext hV.o.2.2)
  obtain ⟨aN, aw, az, rfl⟩ := hV.o.2.1.shape
  by_cases ah : i < m.exports.length
  ·obtain ⟨b, o, rfl, e0, e1, e2, r0, r1, hr⟩ := Lay.expo_at2 H.o.1.exports i ah
   have aX := qh (show m.exports.take (i + 1) = _ from tsQ ah)
   generalize m.exports[i] = x at *
   replace e0 := aW.o.cB e0
   replace e1 := aW.o.cB e1
   replace e2 := aW.o.cB e2
   have hr := qh hr
   have r0 := qh r0
   have r1 := qh r1
   go_wp2_with fail
   have cg := qh (zk wr #[.string (zc x.name), .int .i64 x.kind, .int .u32 (x.index.toNat : Int)] 114)
   have bl := qh (za wr (.cells #[.string (zc x.name), .int .i64 x.kind, .int .u32 (x.index.toNat : Int)] 114))
   generalize (wr.alloc (.cells #[.string (zc x.name), .int .i64 x.kind, .int .u32 (x.index.toNat : Int)] 114)) = W4 at *
   obtain ⟨ge, aZ⟩ := exQ (wr.heap.size)
   rw [aZ] at cg ⊢
   have aZ := qh aZ
   clear e0 e1 e2
   as_aux_lemma =>
   refine zi (y4 (fun k => ¬ (k = g ∨ k = ge))) [kT 0, kT 1, kT 2, kT 3, kT 4, kT 5, kT 6, kT 7, kT 8, kT 9, kT 10, kT 11, kT 12, kT 13, kR 14, kR 15, kT 16, kT 17, kT 18, kL 19] (by kernel_rfl) (by kernel_rfl) ?_
   simp only [zy, gzQ, gsQ]
   have HC := qh (fun W' (h : Fr (fun k => ¬ (k = g ∨ k = ge)) W4.drew W') => anQ ((cg.o.ext (zb _)).fr h (fun e => e (.inr rfl))).cell ((hV.o.1.ext (Ext.trans bl.o (zb _))).fr h (fun e => e (.inl rfl))).cell)
   have bQ := qh (Ext.trans bl.o (zb W4))
   have fb := qh (cg.o.ext (zb W4))
   generalize W4.drew = W5 at *
   repeat (apply item_take; rfl; rfl; rfl; rfl; exact fun _ _ _ _ h => h; (intro W e _ k; have q := HC.o W e; go_simp; exact k))
   apply ze; rfl; intro K hK; go_simp
   refine hK _ _ (za _ _).to ?_
   clear hK K
   apply ze; rfl; intro K hK
   refine HS.o.app hV.o bQ.o W5.heap.size rfl (.tmp 209) (.tmp 218) _ _ 32 rfl Tryz.underlying179 zfV rfl (by omega) (Nat.succ_pos _) x _ rfl rfl (Lay.mono _ (HS.o.rd (Ext.trans aW.o bQ.o) hr.o) (HS.o.old hV.o.2.1 (Ext.trans aW.o bQ.o))) (by have := H.o.2.2.1.len_exports; rw [ltQ]; omega) 9 aX.o ?_
   intro aR aV aU w2 bN hst de
   refine hK _ _ (de.mono (fun k _ e e2 => by have := aZ.o; have := HS.o.bg.lt; rcases e2 with e2 | e2 <;> omega)) ?_
   clear hK K
   have hst := qh hst
   have db := bN.cell
   have dj := bN.frz
   clear bN de HC
   repeat (apply item_take; rfl; rfl; rfl; rfl; exact fun _ _ _ _ h => h; (intro _ _ _ k; go_simp; exact k))
   apply zu; rfl; intro K hK; go_simp
   refine hK _ _ ?_
   clear hK K
   apply zl
   clear db dj
   go_wp2
   go_roundw
   case rel => exact ⟨i + 1, _, by omega, by go_num, qh (by simpa using hst.o)⟩
   case measure => simp [intOf]; omega
  obtain rfl : i = m.exports.length := by omega
  have bk := hV.o
  rw [tlQ] at bk
  obtain ⟨zH, hz⟩ : ∃ z, z = Value.slice aN aw az := ⟨_, rfl⟩
  rw [← hz] at bk
  replace HS := qh (HS.o.next bk fun _ _ h k => h.set_exports k)
  clear hV bk hz ao hi ah aW aN aw az
  generalize wr = uC at *
  have ag := HS.o.bm.cell
  have ao : (m.codes.length : Int) ≤ 9223372036854775807 := by have := lI.o; simp only [maxLen] at this; omega
  go_wp2_with fail
  clear ag
  go_loopw [19, 227] (fun xp qd w' => ∃ (i : Nat) (va : Value), i ≤ m.codes.length ∧ qd = .int .i64 i ∧ Hd (BV Lay.wraw 227 g X uC (wom m (.pointer q0) zA zB (.slice aC m.functions.length cC) zD zE zF zG zH va nsW nsW [] nsW nsW) 194 w' va (m.codes.take i))) (fun _ qd _ => m.codes.length - (intOf qd).toNat)
  case atStart => exact ⟨0, _, nzQ _, rfl, HS.o.bg, Go.Proofs.YtejgninpjhcgnaaGreatDoor.zK _ _ _ _ _, Fr.refl _ _⟩
  obtain ⟨i, va, hi, rfl, hV⟩ := hrel
  have aW := qh (HS.o.ext hV.o.2.2)
  obtain ⟨aN, aw, az, rfl⟩ := hV.o.2.1.shape
  by_cases ah : i < m.codes.length
  ·obtain ⟨b, o, ax, cx, rfl, e0, r0⟩ := Lay.wraw_at H.o.1.codes i ah
   have aX := qh (show m.codes.take (i + 1) = _ from tsQ ah)
   generalize m.codes[i] = x at *
   replace e0 := aW.o.cB e0
   have r0 := qh r0
   have dY := hV.o.1.cell
   have fx := hV.o.1.frz
   go_wp2_with (at_builtin; refine Hd.o ?_)
   refine HS.o.appL hV.o (Fr.refl _ _) wr.heap.size rfl rfl (.tmp 236) (.tmp 239) _ _ 24 rfl Tryz.underlying182 ziv rfl (by omega) (Nat.succ_pos _) x _ rfl rfl (Lay.mono _ (HS.o.rd aW.o r0.o) (HS.o.old hV.o.2.1 aW.o)) (by have := H.o.2.2.1.len_codes; rw [ltQ]; omega) 10 aX.o ?_
   intro aR aV aU w2 bN hst de
   have hst := qh hst
   have db := bN.cell
   have dj := bN.frz
   clear bN de dY fx e0
   go_wp2_with fail
   clear db dj
   go_roundw
   case rel => exact ⟨i + 1, _, by omega, by go_num, qh (by simpa using hst.o)⟩
   case measure => simp [intOf]; omega
  obtain rfl : i = m.codes.length := by omega
  have bk := hV.o
  rw [tlQ] at bk
  obtain ⟨zI, hz⟩ : ∃ z, z = Value.slice aN aw az := ⟨_, rfl⟩
  rw [← hz] at bk
  replace HS := qh (HS.o.next bk fun _ _ h k => h.set_codes k)
  clear hV bk hz ao hi ah aW aN aw az
  generalize wr = ux at *
  have ag := HS.o.bm.cell
  have ao : (m.datas.length : Int) ≤ 9223372036854775807 := by have := lJ.o; simp only [maxLen] at this; omega
  go_wp2_with fail
  clear ag
  go_loopw [21, 248] (fun rW rI w' => ∃ (i : Nat) (va : Value), i ≤ m.datas.length ∧ rI = .int .i64 i ∧ Hd (BV (Lay.wdat n) 229 g X ux (wom m (.pointer q0) zA zB (.slice aC m.functions.length cC) zD zE zF zG zH zI va nsW [] nsW nsW) 194 w' va (m.datas.take i))) (fun _ rI _ => m.datas.length - (intOf rI).toNat)
  case atStart => exact ⟨0, _, nzQ _, rfl, HS.o.bg, Go.Proofs.YtejgninpjhcgnaaGreatDoor.zK _ _ _ _ _, Fr.refl _ _⟩
  obtain ⟨i, va, hi, rfl, hV⟩ := hrel
  have aW := qh (HS.o.ext hV.o.2.2)
  obtain ⟨aN, aw, az, rfl⟩ := hV.o.2.1.shape
  by_cases ah : i < m.datas.length
  ·obtain ⟨b, o, ax, cx, ay, cy, rfl, e0, e1, e2, r0, r1, hr⟩ := Lay.dat_at2 H.o.1.datas i ah
   have ei := qh (H.o.2.2.1.datas _ (List.getElem_mem ah))
   have aX := qh (show m.datas.take (i + 1) = _ from tsQ ah)
   generalize m.datas[i] = x at *
   replace e0 := aW.o.cB e0
   replace e1 := aW.o.cB e1
   replace e2 := aW.o.cB e2
   have hr := qh hr
   have r0 := qh r0
   have r1 := qh r1
   go_wp2_with fail
   have cg := qh (zk wr #[.int .u32 (x.index.toNat : Int), .slice ax x.off.length cx, .slice ay x.init.length cy] 116)
   have bl := qh (za wr (.cells #[.int .u32 (x.index.toNat : Int), .slice ax x.off.length cx, .slice ay x.init.length cy] 116))
   generalize (wr.alloc (.cells #[.int .u32 (x.index.toNat : Int), .slice ax x.off.length cx, .slice ay x.init.length cy] 116)) = W4 at *
   obtain ⟨ge, aZ⟩ := exQ (wr.heap.size)
   rw [aZ] at cg ⊢
   have aZ := qh aZ
   clear e0 e1 e2
   as_aux_lemma =>
   refine zi (y4 (fun k => ¬ (k = g ∨ k = ge))) [kT 0, kT 1, kT 2, kT 3, kT 4, kT 5, kT 6, kT 7, kT 8, kT 9, kT 12, kT 13, kR 10, kT 11, kT 14, kR 15, kR 16, kT 17, kT 18, kT 19, kL 20] (by kernel_rfl) (by kernel_rfl) ?_
   simp only [zy, gzQ, gsQ]
   have HC := qh (fun W' (h : Fr (fun k => ¬ (k = g ∨ k = ge)) W4.drew W') => anQ ((cg.o.ext (zb _)).fr h (fun e => e (.inr rfl))).cell ((hV.o.1.ext (Ext.trans bl.o (zb _))).fr h (fun e => e (.inl rfl))).cell)
   have bQ := qh (Ext.trans bl.o (zb W4))
   have fb := qh (cg.o.ext (zb W4))
   generalize W4.drew = W5 at *
   repeat (apply item_take; rfl; rfl; rfl; rfl; exact fun _ _ _ _ h => h; (intro W e _ k; have q := HC.o W e; go_simp; exact k))
   apply ze; rfl; intro K hK; go_simp
   refine (Z1 n x.off ax x.off.length cx A W5 (HS.o.rd (Ext.trans aW.o bQ.o) r0.o) (HS.o.lt (Ext.trans aW.o bQ.o)) ei.o.1 ei.o.2).mono ?_
   rintro e w6 ⟨v6, rfl, o6, x6⟩
   refine hK _ _ x6.to ?_
   obtain ⟨y1, y3, rfl, -, -⟩ := o6.form
   have H6 := qh (anQ (Ext.trans bQ.o x6) o6.slice)
   clear hK K x6 o6 cg fb
   repeat (apply item_take; rfl; rfl; rfl; rfl; exact fun _ _ _ _ h => h; (intro _ _ _ k; go_simp; exact k))
   apply ze; rfl; intro K hK; go_simp
   refine hK _ _ (za _ _).to ?_
   clear hK K
   apply ze; rfl; intro K hK
   refine HS.o.app hV.o H6.o.1 w6.heap.size rfl (.tmp 257) (.tmp 267) _ _ 56 rfl Tryz.underlying185 (ziw n) rfl (by omega) (Nat.succ_pos _) x _ rfl rfl ⟨[_], [_, _], rfl, rfl, [_], [_], rfl, Lay.mono _ H6.o.2 (HS.o.new hV.o.2.1 hV.o.2.2.size bQ.o.size), (Lay.mono _ (HS.o.rd (Ext.trans aW.o H6.o.1) r1.o) (HS.o.old hV.o.2.1 (Ext.trans aW.o H6.o.1)))⟩ (by have := H.o.2.2.1.len_datas; rw [ltQ]; omega) 11 aX.o ?_
   intro aR aV aU w2 bN hst de
   refine hK _ _ (de.mono (fun k _ e e2 => by have := aZ.o; have := HS.o.bg.lt; rcases e2 with e2 | e2 <;> omega)) ?_
   clear hK K
   have hst := qh hst
   have db := bN.cell
   have dj := bN.frz
   clear bN de HC
   repeat (apply item_take; rfl; rfl; rfl; rfl; exact fun _ _ _ _ h => h; (intro _ _ _ k; go_simp; exact k))
   apply zu; rfl; intro K hK; go_simp
   refine hK _ _ ?_
   clear hK K
   apply zl
   clear db dj
   go_wp2
   go_roundw
   case rel => exact ⟨i + 1, _, by omega, by go_num, qh (by simpa using hst.o)⟩
   case measure => simp [intOf]; omega
  obtain rfl : i = m.datas.length := by omega
  have bk := hV.o
  rw [tlQ] at bk
  obtain ⟨zJ, hz⟩ : ∃ z, z = Value.slice aN aw az := ⟨_, rfl⟩
  rw [← hz] at bk
  replace HS := qh (HS.o.next bk fun _ _ h k => h.set_datas k)
  clear hV bk hz ao hi ah aW aN aw az
  generalize wr = tL at *
  have ag := HS.o.bm.cell
  have ao : (m.customs.length : Int) ≤ 9223372036854775807 := by have := lK.o; simp only [maxLen] at this; omega
  go_wp2_with fail
  clear ag
  go_loopw [23, 276] (fun Bb qI w' => ∃ (i : Nat) (va : Value), i ≤ m.customs.length ∧ qI = .int .i64 i ∧ Hd (BV Lay.cus 230 g X tL (wom m (.pointer q0) zA zB (.slice aC m.functions.length cC) zD zE zF zG zH zI zJ va [] nsW nsW) 194 w' va (m.customs.take i))) (fun _ qI _ => m.customs.length - (intOf qI).toNat)
  case atStart => exact ⟨0, _, nzQ _, rfl, HS.o.bg, Go.Proofs.YtejgninpjhcgnaaGreatDoor.zK _ _ _ _ _, Fr.refl _ _⟩
  obtain ⟨i, va, hi, rfl, hV⟩ := hrel
  have aW := qh (HS.o.ext hV.o.2.2)
  obtain ⟨aN, aw, az, rfl⟩ := hV.o.2.1.shape
  by_cases ah : i < m.customs.length
  ·obtain ⟨b, o, ay, cy, rfl, e0, e1, r0, r1, hr⟩ := Lay.cus_at2 H.o.1.customs i ah
   have aX := qh (show m.customs.take (i + 1) = _ from tsQ ah)
   generalize m.customs[i] = x at *
   replace e0 := aW.o.cB e0
   replace e1 := aW.o.cB e1
   have hr := qh hr
   have r0 := qh r0
   have r1 := qh r1
   go_wp2_with fail
   have cg := qh (zk wr #[.string (zc x.name), .slice ay x.data.length cy] 117)
   have bl := qh (za wr (.cells #[.string (zc x.name), .slice ay x.data.length cy] 117))
   generalize (wr.alloc (.cells #[.string (zc x.name), .slice ay x.data.length cy] 117)) = W4 at *
   obtain ⟨ge, aZ⟩ := exQ (wr.heap.size)
   rw [aZ] at cg ⊢
   have aZ := qh aZ
   clear e0 e1
   as_aux_lemma =>
   refine zi (y4 (fun k => ¬ (k = g ∨ k = ge))) [kT 0, kT 1, kT 2, kT 3, kT 4, kT 5, kT 6, kT 7, kT 8, kT 9, kR 10, kR 11, kT 12, kT 13, kL 14] (by kernel_rfl) (by kernel_rfl) ?_
   simp only [zy, gzQ, gsQ]
   have HC := qh (fun W' (h : Fr (fun k => ¬ (k = g ∨ k = ge)) W4.drew W') => anQ ((cg.o.ext (zb _)).fr h (fun e => e (.inr rfl))).cell ((hV.o.1.ext (Ext.trans bl.o (zb _))).fr h (fun e => e (.inl rfl))).cell)
   have bQ := qh (Ext.trans bl.o (zb W4))
   have fb := qh (cg.o.ext (zb W4))
   generalize W4.drew = W5 at *
   repeat (apply item_take; rfl; rfl; rfl; rfl; exact fun _ _ _ _ h => h; (intro W e _ k; have q := HC.o W e; go_simp; exact k))
   apply ze; rfl; intro K hK; go_simp
   refine hK _ _ (za _ _).to ?_
   clear hK K
   apply ze; rfl; intro K hK
   refine HS.o.app hV.o bQ.o W5.heap.size rfl (.tmp 284) (.tmp 290) _ _ 40 rfl Tryz.underlying188 zfW rfl (by omega) (Nat.succ_pos _) x _ rfl rfl (Lay.mono _ (HS.o.rd (Ext.trans aW.o bQ.o) hr.o) (HS.o.old hV.o.2.1 (Ext.trans aW.o bQ.o))) (by have := H.o.2.2.1.len_customs; rw [ltQ]; omega) 12 aX.o ?_
   intro aR aV aU w2 bN hst de
   refine hK _ _ (de.mono (fun k _ e e2 => by have := aZ.o; have := HS.o.bg.lt; rcases e2 with e2 | e2 <;> omega)) ?_
   clear hK K
   have hst := qh hst
   have db := bN.cell
   have dj := bN.frz
   clear bN de HC
   repeat (apply item_take; rfl; rfl; rfl; rfl; exact fun _ _ _ _ h => h; (intro _ _ _ k; go_simp; exact k))
   apply zu; rfl; intro K hK; go_simp
   refine hK _ _ ?_
   clear hK K
   apply zl
   clear db dj
   go_wp2
   go_roundw
   case rel => exact ⟨i + 1, _, by omega, by go_num, qh (by simpa using hst.o)⟩
   case measure => simp [intOf]; omega
  obtain rfl : i = m.customs.length := by omega
  have bk := hV.o
  rw [tlQ] at bk
  obtain ⟨zK, hz⟩ : ∃ z, z = Value.slice aN aw az := ⟨_, rfl⟩
  rw [← hz] at bk
  replace HS := qh (HS.o.next bk fun _ _ h k => h.set_customs k)
  clear hV bk hz ao hi ah aW aN aw az
  generalize wr = mZ at *
  have ag := HS.o.bm.cell
  have dY := HS.o.bg.cell
  have fx := HS.o.bg.frz
  go_upto_region 56 with fail
  clear dY fx ag
  replace HS := qh (HS.o.store 13 (.string (zc m.named)) (fun B W hB hx h => h))
  generalize mZ.setCell ⟨g, 13, none⟩ (.string (zc m.named)) = xM at *
  have ag := HS.o.bm.cell
  have ao : (m.funcs.length : Int) ≤ 9223372036854775807 := by have := lL.o; simp only [maxLen] at this; omega
  go_wp2_with fail
  clear ag
  go_loopw [25, 304] (fun AO pZ w' => ∃ (i : Nat) (va : Value), i ≤ m.funcs.length ∧ pZ = .int .i64 i ∧ Hd (BV Lay.wnam 232 g X xM (wom m (.pointer q0) zA zB (.slice aC m.functions.length cC) zD zE zF zG zH zI zJ zK m.named va nsW) 194 w' va (m.funcs.take i))) (fun _ pZ _ => m.funcs.length - (intOf pZ).toNat)
  case atStart => exact ⟨0, _, nzQ _, rfl, HS.o.bg, Go.Proofs.YtejgninpjhcgnaaGreatDoor.zK _ _ _ _ _, Fr.refl _ _⟩
  obtain ⟨i, va, hi, rfl, hV⟩ := hrel
  have aW := qh (HS.o.ext hV.o.2.2)
  obtain ⟨aN, aw, az, rfl⟩ := hV.o.2.1.shape
  by_cases ah : i < m.funcs.length
  ·obtain ⟨b, o, rfl, e0, e1, e2, r0, hr⟩ := Lay.nam_at2 H.o.1.funcs i ah
   have aX := qh (show m.funcs.take (i + 1) = _ from tsQ ah)
   generalize m.funcs[i] = x at *
   replace e0 := aW.o.cB e0
   replace e1 := aW.o.cB e1
   replace e2 := aW.o.cB e2
   have hr := qh hr
   have r0 := qh r0
   go_wp2_with fail
   have cg := qh (zk wr #[.int .u32 (x.fn.toNat : Int), .int .u32 (x.idx.toNat : Int), .string (zc x.name)] 119)
   have bl := qh (za wr (.cells #[.int .u32 (x.fn.toNat : Int), .int .u32 (x.idx.toNat : Int), .string (zc x.name)] 119))
   generalize (wr.alloc (.cells #[.int .u32 (x.fn.toNat : Int), .int .u32 (x.idx.toNat : Int), .string (zc x.name)] 119)) = W4 at *
   obtain ⟨ge, aZ⟩ := exQ (wr.heap.size)
   rw [aZ] at cg ⊢
   have aZ := qh aZ
   clear e0 e1 e2
   as_aux_lemma =>
   refine zi (y4 (fun k => ¬ (k = g ∨ k = ge))) [kT 0, kT 1, kT 2, kT 3, kT 4, kT 5, kT 6, kT 7, kT 8, kT 9, kT 10, kR 11, kR 12, kT 13, kT 14, kT 15, kL 16] (by kernel_rfl) (by kernel_rfl) ?_
   simp only [zy, gzQ, gsQ]
   have HC := qh (fun W' (h : Fr (fun k => ¬ (k = g ∨ k = ge)) W4.drew W') => anQ ((cg.o.ext (zb _)).fr h (fun e => e (.inr rfl))).cell ((hV.o.1.ext (Ext.trans bl.o (zb _))).fr h (fun e => e (.inl rfl))).cell)
   have bQ := qh (Ext.trans bl.o (zb W4))
   have fb := qh (cg.o.ext (zb W4))
   generalize W4.drew = W5 at *
   repeat (apply item_take; rfl; rfl; rfl; rfl; exact fun _ _ _ _ h => h; (intro W e _ k; have q := HC.o W e; go_simp; exact k))
   apply ze; rfl; intro K hK; go_simp
   refine hK _ _ (za _ _).to ?_
   clear hK K
   apply ze; rfl; intro K hK
   refine HS.o.app hV.o bQ.o W5.heap.size rfl (.tmp 313) (.tmp 319) _ _ 24 rfl Tryz.underlying189 zix rfl (by omega) (Nat.succ_pos _) x _ rfl rfl ⟨[_], [_], rfl, rfl, rfl, r0.o⟩ (by have := H.o.2.2.1.len_funcs; rw [ltQ]; omega) 14 aX.o ?_
   intro aR aV aU w2 bN hst de
   refine hK _ _ (de.mono (fun k _ e e2 => by have := aZ.o; have := HS.o.bg.lt; rcases e2 with e2 | e2 <;> omega)) ?_
   clear hK K
   have hst := qh hst
   have db := bN.cell
   have dj := bN.frz
   clear bN de HC
   repeat (apply item_take; rfl; rfl; rfl; rfl; exact fun _ _ _ _ h => h; (intro _ _ _ k; go_simp; exact k))
   apply zu; rfl; intro K hK; go_simp
   refine hK _ _ ?_
   clear hK K
   apply zl
   clear db dj
   go_wp2
   go_roundw
   case rel => exact ⟨i + 1, _, by omega, by go_num, qh (by simpa using hst.o)⟩
   case measure => simp [intOf]; omega
  obtain rfl : i = m.funcs.length := by omega
  have bk := hV.o
  rw [tlQ] at bk
  obtain ⟨zL, hz⟩ : ∃ z, z = Value.slice aN aw az := ⟨_, rfl⟩
  rw [← hz] at bk
  replace HS := qh (HS.o.next bk fun _ _ h k => h.set_funcs k)
  clear hV bk hz ao hi ah aW aN aw az
  generalize wr = i7 at *
  have ag := HS.o.bm.cell
  have ao : (m.locals.length : Int) ≤ 9223372036854775807 := by have := lM.o; simp only [maxLen] at this; omega
  go_wp2_with fail
  clear ag
  go_loopw [27, 328] (fun vp pS w' => ∃ (i : Nat) (va : Value), i ≤ m.locals.length ∧ pS = .int .i64 i ∧ Hd (BV Lay.nam 234 g X i7 (wom m (.pointer q0) zA zB (.slice aC m.functions.length cC) zD zE zF zG zH zI zJ zK m.named zL va) 194 w' va (m.locals.take i))) (fun _ pS _ => m.locals.length - (intOf pS).toNat)
  case atStart => exact ⟨0, _, nzQ _, rfl, HS.o.bg, Go.Proofs.YtejgninpjhcgnaaGreatDoor.zK _ _ _ _ _, Fr.refl _ _⟩
  obtain ⟨i, va, hi, rfl, hV⟩ := hrel
  have aW := qh (HS.o.ext hV.o.2.2)
  obtain ⟨aN, aw, az, rfl⟩ := hV.o.2.1.shape
  by_cases ah : i < m.locals.length
  ·obtain ⟨b, o, rfl, e0, e1, e2, r0, hr⟩ := Lay.nam_at2 H.o.1.locals i ah
   have aX := qh (show m.locals.take (i + 1) = _ from tsQ ah)
   generalize m.locals[i] = x at *
   replace e0 := aW.o.cB e0
   replace e1 := aW.o.cB e1
   replace e2 := aW.o.cB e2
   have hr := qh hr
   have r0 := qh r0
   go_wp2_with fail
   have cg := qh (zk wr #[.int .u32 (x.fn.toNat : Int), .int .u32 (x.idx.toNat : Int), .string (zc x.name)] 119)
   have bl := qh (za wr (.cells #[.int .u32 (x.fn.toNat : Int), .int .u32 (x.idx.toNat : Int), .string (zc x.name)] 119))
   generalize (wr.alloc (.cells #[.int .u32 (x.fn.toNat : Int), .int .u32 (x.idx.toNat : Int), .string (zc x.name)] 119)) = W4 at *
   obtain ⟨ge, aZ⟩ := exQ (wr.heap.size)
   rw [aZ] at cg ⊢
   have aZ := qh aZ
   clear e0 e1 e2
   as_aux_lemma =>
   refine zi (y4 (fun k => ¬ (k = g ∨ k = ge))) [kT 0, kT 1, kT 2, kT 3, kT 4, kT 5, kT 6, kT 7, kT 8, kT 9, kT 10, kT 11, kT 12, kT 13, kR 14, kR 15, kT 16, kT 17, kT 18, kL 19] (by kernel_rfl) (by kernel_rfl) ?_
   simp only [zy, gzQ, gsQ]
   have HC := qh (fun W' (h : Fr (fun k => ¬ (k = g ∨ k = ge)) W4.drew W') => anQ ((cg.o.ext (zb _)).fr h (fun e => e (.inr rfl))).cell ((hV.o.1.ext (Ext.trans bl.o (zb _))).fr h (fun e => e (.inl rfl))).cell)
   have bQ := qh (Ext.trans bl.o (zb W4))
   have fb := qh (cg.o.ext (zb W4))
   generalize W4.drew = W5 at *
   repeat (apply item_take; rfl; rfl; rfl; rfl; exact fun _ _ _ _ h => h; (intro W e _ k; have q := HC.o W e; go_simp; exact k))
   apply ze; rfl; intro K hK; go_simp
   refine hK _ _ (za _ _).to ?_
   clear hK K
   apply ze; rfl; intro K hK
   refine HS.o.app hV.o bQ.o W5.heap.size rfl (.tmp 337) (.tmp 346) _ _ 32 rfl Tryz.underlying190 zhj rfl (by omega) (Nat.succ_pos _) x _ rfl rfl (Lay.mono _ (HS.o.rd (Ext.trans aW.o bQ.o) hr.o) (HS.o.old hV.o.2.1 (Ext.trans aW.o bQ.o))) (by have := H.o.2.2.1.len_locals; rw [ltQ]; omega) 15 aX.o ?_
   intro aR aV aU w2 bN hst de
   refine hK _ _ (de.mono (fun k _ e e2 => by have := aZ.o; have := HS.o.bg.lt; rcases e2 with e2 | e2 <;> omega)) ?_
   clear hK K
   have hst := qh hst
   have db := bN.cell
   have dj := bN.frz
   clear bN de HC
   repeat (apply item_take; rfl; rfl; rfl; rfl; exact fun _ _ _ _ h => h; (intro _ _ _ k; go_simp; exact k))
   apply zu; rfl; intro K hK; go_simp
   refine hK _ _ ?_
   clear hK K
   apply zl
   clear db dj
   go_wp2
   go_roundw
   case rel => exact ⟨i + 1, _, by omega, by go_num, qh (by simpa using hst.o)⟩
   case measure => simp [intOf]; omega
  obtain rfl : i = m.locals.length := by omega
  have bk := hV.o
  rw [tlQ] at bk
  obtain ⟨zM, hz⟩ : ∃ z, z = Value.slice aN aw az := ⟨_, rfl⟩
  rw [← hz] at bk
  replace HS := qh (HS.o.next bk fun _ _ h k => h.set_locals k)
  clear hV bk hz ao hi ah aW aN aw az
  generalize wr = Dg at *
  have ag := HS.o.bm.cell
  clear ag
  go_wp2
  go_ret
  exact ⟨⟨.pointer q0, zA, zB, .slice aC m.functions.length cC, zD, zE, zF, zG, zH, zI, zJ, zK, zL, zM⟩, g, rfl, by have := HS.o.lo; omega, HS.o.bg, HS.o.md.mono (fun k hk => ⟨⟨fun q => hk.1 (.inl q), fun q => hk.1 (.inr q)⟩, hk.2⟩), HS.o.x⟩
theorem zdX (hM : ModAt n A w m v) (hA : ∀ k, A k → k < w.heap.size) (hF : BFit m) (hO : WOk m) :
 Calls Tryz.prog 14 #[.agg (zs m v)] w fun e w' => ∃ v gs, e = .returned (.tuple #[v, .bool true]) ∧ jU m.locals gs ∧ OwnB w.heap.size w' v (wMod m gs) ∧ Ext w w' := by
 obtain ⟨vA, vB, vC, vD, vE, vF, vG, vH, vI, vJ, vK, vL, vM⟩ := v
 obtain ⟨aA, cA, e, h1, h2⟩ := Lay.slice_form2 hM.types
 obtain rfl : vA = .slice aA m.types.length cA := by simpa using e
 clear e h1 h2
 obtain ⟨aB, cB, e, h1, h2⟩ := Lay.slice_form2 hM.imports
 obtain rfl : vB = .slice aB m.imports.length cB := by simpa using e
 clear e h1 h2
 obtain ⟨aC, cC, e, h1, h2⟩ := Lay.slice_form2 hM.functions
 obtain rfl : vC = .slice aC m.functions.length cC := by simpa using e
 clear e h1 h2
 obtain ⟨aD, cD, e, h1, h2⟩ := Lay.slice_form2 hM.tables
 obtain rfl : vD = .slice aD m.tables.length cD := by simpa using e
 clear e h1 h2
 obtain ⟨aE, cE, e, h1, h2⟩ := Lay.slice_form2 hM.memories
 obtain rfl : vE = .slice aE m.memories.length cE := by simpa using e
 clear e h1 h2
 obtain ⟨aF, cF, e, h1, h2⟩ := Lay.slice_form2 hM.elements
 obtain rfl : vF = .slice aF m.elements.length cF := by simpa using e
 clear e h1 h2
 obtain ⟨aG, cG, e, h1, h2⟩ := Lay.slice_form2 hM.globals
 obtain rfl : vG = .slice aG m.globals.length cG := by simpa using e
 clear e h1 h2
 obtain ⟨aH, cH, e, h1, h2⟩ := Lay.slice_form2 hM.exports
 obtain rfl : vH = .slice aH m.exports.length cH := by simpa using e
 clear e h1 h2
 obtain ⟨aI, cI, e, h1, h2⟩ := Lay.slice_form2 hM.codes
 obtain rfl : vI = .slice aI m.codes.length cI := by simpa using e
 clear e h1 h2
 obtain ⟨aJ, cJ, e, h1, h2⟩ := Lay.slice_form2 hM.datas
 obtain rfl : vJ = .slice aJ m.datas.length cJ := by simpa using e
 clear e h1 h2
 obtain ⟨aK, cK, e, h1, h2⟩ := Lay.slice_form2 hM.customs
 obtain rfl : vK = .slice aK m.customs.length cK := by simpa using e
 clear e h1 h2
 obtain ⟨aL, cL, e, h1, h2⟩ := Lay.slice_form2 hM.funcs
 obtain rfl : vL = .slice aL m.funcs.length cL := by simpa using e
 clear e h1 h2
 obtain ⟨aM, cM, e, h1, h2⟩ := Lay.slice_form2 hM.locals
 obtain rfl : vM = .slice aM m.locals.length cM := by simpa using e
 clear e h1 h2
 have H := qh (anQ hM (anQ hA (anQ hF hO)))
 clear hM hA hF hO
 unfold zs
 dsimp only
 go_enter Tryz.func14, Tryz.ntmps14
 go_wp2_with (with_reducible refine Zc 51 ?_)
 refine qh ?_
 have hB := zk w (bmc m aA cA aB cB aC cC aD cD aE cE aF cF aG cG aH cH aI cI aJ cJ aK cK aL cL aM cM) 51
 have cU := za w (.cells (bmc m aA cA aB cB aC cC aD cD aE cE aF cF aG cG aH cH aI cI aJ cJ aK cK aL cL aM cM) 51)
 have hS := zgl 135 (w.alloc (.cells (bmc m aA cA aB cB aC cC aD cD aE cE aF cF aG cG aH cH aI cI aJ cJ aK cK aL cL aM cM) 51)) (w.heap.size + 1) (by simp)
 have cN := za (w.alloc (.cells (bmc m aA cA aB cB aC cC aD cD aE cE aF cF aG cG aH cH aI cI aJ cJ aK cK aL cL aM cM) 51)) (.cells #[.slice none 0 0] 135)
 have cl : ((w.alloc (.cells (bmc m aA cA aB cB aC cC aD cD aE cE aF cF aG cG aH cH aI cI aJ cJ aK cK aL cL aM cM) 51)).alloc (.cells #[.slice none 0 0] 135)).heap.size = w.heap.size + 2 := by simp
 have HS := qh (anQ cU (anQ hS (anQ cN (anQ cl (hB.ext cN)))))
 clear hB cU hS cN cl
 generalize lZ : ((w.alloc (.cells (bmc m aA cA aB cB aC cC aD cD aE cE aF cF aG cG aH cH aI cI aJ cJ aK cK aL cL aM cM) 51)).alloc (.cells #[.slice none 0 0] 135)) = W2 at *
 have lZ := qh lZ
 have pJ := qh (fun k hk => show k = w.heap.size + 1 from by have := zi5.lt HS.o.2.1 k hk; have h' := HS.o.2.2.2.1; omega)
 refine HS.o.2.2.2.2.wpList_load rfl 51 (.tmp 1) rfl rfl _ Tryz.underlying51 rfl (by kernel_rfl) ?_
 go_wp2_with fail
 have BT := qh (Ext.trans HS.o.1 HS.o.2.2.1)
 refine (zeQ (H.o.1.fr BT.o (fun k hk => ⟨H.o.2.1 k hk, fun q => q⟩)) (fun k hk => nqQ (H.o.2.1 k hk) BT.o.size) H.o.2.2.1 (fun k => k = w.heap.size + 1) (fun k e => by have e' : k = w.heap.size + 1 := e; have := HS.o.2.2.2.1; exact ⟨by omega, fun q => by have := H.o.2.1 k q; omega⟩)).mono ?_
 rintro e w3 ⟨v3, g, rfl, hg, hb, hw, hx⟩
 have H3 := qh (anQ hg (anQ hb (anQ hw hx)))
 clear hg hb hw hx
 go_wp2_with fail
 have lP := zi5.frame HS.o.2.1 H3.o.2.2.2 (fun _ _ h => h)
 have cZ := HS.o.2.2.2.1
 have fI := H3.o.2.2.2.size
 have lX := H3.o.1
 refine (zad zi5 n (w.heap.size + 1) (w.heap.size + 1) g m v3 (fun k => ¬ (k = g ∨ k = w.heap.size + 1) ∧ k < w3.heap.size) w3 lP.1 H3.o.2.1 H3.o.2.2.1 (fun k hk => ⟨hk.2, fun e => hk.1 (.inr (pJ.o _ ((lP.2 _).1 e)))⟩) (fun e => by have := pJ.o _ ((lP.2 _).1 e); omega) (by omega) H.o.2.2.2).mono ?_
 rintro e w4 ⟨rfl, gs, hG, cT⟩
 have hG := qh hG
 clear cZ fI lX
 have rQ := Wrote.after HS.o.2.1 H3.o.2.2.2 cT
 rw [← lZ.o] at rQ
 obtain ⟨v, hc, ho, uD⟩ := zcx (by simp) rQ
 obtain ⟨f1, f2, f3, rfl⟩ := ho.shape
 have HR := qh (anQ (ho.lower (Nat.le_succ _)) (Ext.trans HS.o.1 uD))
 clear rQ cT ho uD lP
 go_wp2_with fail
 go_quiet (fail)
 go_wp2
 go_ret2
 exact ⟨_, gs, rfl, hG.o, HR.o.1.ext ((Fr.refl _ _).drewN _), HR.o.2.drewN _⟩
structure Same (m m' : Mod) : Prop where
 version : m'.version = m.version
 types : m'.types = m.types
 imports : m'.imports = m.imports
 functions : m'.functions = m.functions
 tables : m'.tables = m.tables
 memories : m'.memories = m.memories
 elements : m'.elements = m.elements
 globals : m'.globals = m.globals
 exports : m'.exports = m.exports
 codes : m'.codes = m.codes
 datas : m'.datas = m.datas
theorem Same.refl (m : Mod) : Same m m := ⟨rfl, rfl, rfl, rfl, rfl, rfl, rfl, rfl, rfl, rfl, rfl⟩
theorem Same.trans {a b c : Mod} (h : Same a b) (k : Same b c) : Same a c := ⟨k.1.trans h.1, k.2.trans h.2, k.3.trans h.3, k.4.trans h.4, k.5.trans h.5, k.6.trans h.6, k.7.trans h.7, k.8.trans h.8, k.9.trans h.9, k.10.trans h.10, k.11.trans h.11⟩
theorem zhk (lo : Bool) (id : Nat) (m : Mod) (s : St) : Same m (JN lo id m s).1 := by
 unfold JN
 split
 ·exact ⟨rfl, rfl, rfl, rfl, rfl, rfl, rfl, rfl, rfl, rfl, rfl⟩
 ·split <;> exact ⟨rfl, rfl, rfl, rfl, rfl, rfl, rfl, rfl, rfl, rfl, rfl⟩
theorem zcj (lo : Bool) : ∀ (f : Nat) (m : Mod) (last : Nat) (s : St), Same m (zx lo f m last s).1
 | 0, m, _, _ => Same.refl m
 | f + 1, m, last, s => by
  unfold zx
  split
  ·dsimp only
   split
   ·exact Same.refl m
   ·exact (zhk lo _ m _).trans (zcj lo f _ _ _)
  ·exact Same.refl m
theorem zeR (lo : Bool) (m : Mod) (seen : Bool) (s : St) : Same m (zz lo m seen s).1 := by
 unfold zz
 dsimp only
 split
 ·exact Same.refl m
 ·split
  ·exact ⟨rfl, rfl, rfl, rfl, rfl, rfl, rfl, rfl, rfl, rfl, rfl⟩
  ·exact zcj lo _ _ _ _
theorem zhl (m : Mod) (s : St) : zO 1 m s = ({ m with types := (yI s).1 }, (yI s).2) := rfl
theorem zhm (m : Mod) (s : St) : zO 2 m s = ({ m with imports := (ju s).1 }, (ju s).2) := rfl
theorem zhn (m : Mod) (s : St) : zO 3 m s = ({ m with functions := (yp s).1 }, (yp s).2) := rfl
theorem zho (m : Mod) (s : St) : zO 4 m s = ({ m with tables := (zR z6 s).1 }, (zR z6 s).2) := rfl
theorem zhp (m : Mod) (s : St) : zO 5 m s = ({ m with memories := (zR zE s).1 }, (zR zE s).2) := rfl
theorem zhq (m : Mod) (s : St) : zO 6 m s = ({ m with globals := (zR Ju s).1 }, (zR Ju s).2) := rfl
theorem zhr (m : Mod) (s : St) : zO 7 m s = ({ m with exports := (zR Ji s).1 }, (zR Ji s).2) := rfl
theorem zhs (m : Mod) (s : St) : zO 8 m s = ({ m with hasStart := true, start := (rNum s).1 }, (rNum s).2) := rfl
theorem zht (m : Mod) (s : St) : zO 9 m s = ({ m with elements := (zR Jv s).1 }, (zR Jv s).2) := rfl
theorem zfX (m : Mod) (s : St) : zO 10 m s = ({ m with codes := (zR y7 s).1 }, (zR y7 s).2) := rfl
theorem zfY (m : Mod) (s : St) : zO 11 m s = ({ m with datas := (zR rDat s).1 }, (zR rDat s).2) := rfl
def secQ (lo : Bool) (id : Nat) (p : ModSt) (t : List UInt8) : ModSt :=
 if id = 0 then ⟨(zz lo p.m p.names ⟨t, 0⟩).1, p.last, (zz lo p.m p.names ⟨t, 0⟩).2.1, (zz lo p.m p.names ⟨t, 0⟩).2.2⟩
 else if 11 < id ∨ id ≤ p.last ∨ p.names then ⟨p.m, p.last, p.names, St.fail ⟨t, 0⟩ 2⟩
 else ⟨(zO id p.m ⟨t, 0⟩).1, id, p.names, if (zO id p.m ⟨t, 0⟩).2.v = 0 ∧ (zO id p.m ⟨t, 0⟩).2.b ≠ [] then (zO id p.m ⟨t, 0⟩).2.fail 2 else (zO id p.m ⟨t, 0⟩).2⟩
theorem zck (lo : Bool) (f : Nat) {p : ModSt} (h : p.s.v ≠ 0 ∨ p.s.b = []) : Yg lo f p = p := by
 cases f with
 | zero => rfl
 | succ f => unfold Yg; rw [if_neg (fun q => h.elim (fun h => h q.1) (fun h => q.2 h))]
end Go.Proofs.YtejgninpjhcgnaaGreatDoor
