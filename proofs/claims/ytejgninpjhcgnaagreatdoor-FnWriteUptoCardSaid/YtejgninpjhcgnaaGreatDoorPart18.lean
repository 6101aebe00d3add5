/- Texts of this proof, one behind the other. -/
import Derived.Test.YtejgninpjhcgnaaGreatDoorPart13
namespace Go.Proofs.YtejgninpjhcgnaaGreatDoor
open Go.RowKit
set_option linter.unusedSimpArgs false
set_option linter.unusedVariables false
set_option maxRecDepth 100000
set_option maxHeartbeats 16000000
variable {w w' : World} {p : Addr}
theorem Fr.c {v : Value} (h : Ext w w') (e : w.cell? p = some v) : w'.cell? p = some v := h.cell e (fun q => q)
structure CS (w : World) (A X : Nat → Prop) (gm gr g : Nat) (MC Z OC : Array Value) (Tm T : TypeId) (n : Nat) (W : World) (m : Mod) (v : ModV) : Prop where
 bm : Blk W gm MC Tm
 br : Blk W gr Z T
 bg : Blk W g OC T
 md : ModAt n (fun k => ¬ (k = g ∨ k = gr ∨ X k) ∧ k < W.heap.size) W m v
 x : Ext w W
 lo : w.heap.size ≤ gr ∧ gr < g ∧ gm ≠ g
 hA : ∀ k, A k → k < w.heap.size
 hX : ∀ k, X k → k < w.heap.size ∧ ¬ A k
abbrev CV {α : Type} (l : Lay α) (e : TypeId) (g gr : Nat) (X : Nat → Prop) (W0 : World) (OC : Array Value) (T : TypeId) (W : World) (va : Value) (xs : List α) : Prop :=
 Blk W g OC T ∧ OwnG l e W0.heap.size (fun k => k = g ∨ k = gr ∨ X k) W va xs ∧ Fr (fun k => k = g) W0 W
section
variable {w : World} {A X : Nat → Prop} {gm gr g : Nat} {MC Z OC ga : Array Value} {Tm T : TypeId} {n : Nat} {W W' W0 W1 : World} {m m1 : Mod} {v v1 : ModV} {α : Type} {l : Lay α} {e : TypeId} {va : Value} {xs lp : List α} {Y : Nat → Prop}
theorem CS.rd (h : CS w A X gm gr g MC Z OC Tm T n W0 m v) {β : Type} {k : Lay β} {cs : List Value} {y : β} (hx : Ext w W) (r : k.rd A w cs y) : k.rd A W cs y := Lay.fr r hx (fun j hj => ⟨h.hA j hj, fun q => q⟩)
theorem CS.lt (h : CS w A X gm gr g MC Z OC Tm T n W0 m v) (hx : Ext w W) : ∀ k, A k → k < W.heap.size := fun k hk => nqQ (h.hA k hk) hx.size
theorem CS.ext (h : CS w A X gm gr g MC Z OC Tm T n W0 m v) (hf : Fr (fun k => k = g) W0 W) : Ext w W := Fr.new (Ext.fr h.x hf) (fun k q => by have q' : k = g := q; have := h.lo; omega)
theorem CS.old (h : CS w A X gm gr g MC Z OC Tm T n W0 m v) (hO : OwnG l e W0.heap.size Y W1 va xs) (hx : Ext w W) : ∀ k, A k → ¬ (k = g ∨ k = gr ∨ X k) ∧ k < W.heap.size ∧ some k ≠ va.ownBlock := fun k hk => by
 have h1 := h.hA k hk
 have h2 := h.lo
 have h3 := h.x.size
 have h4 := hx.size
 refine ⟨fun q => ?_, by omega, fun q => by have := (hO.lt k q.symm).1; omega⟩
 rcases q with q | q | q
 ·omega
 ·omega
 ·exact (h.hX k q).2 hk
theorem CS.new (h : CS w A X gm gr g MC Z OC Tm T n W0 m v) (hO : OwnG l e W0.heap.size Y W1 va xs) (h0 : W0.heap.size ≤ W1.heap.size) (h1 : W1.heap.size ≤ W.heap.size) : ∀ k, W.heap.size ≤ k ∧ k < W'.heap.size → ¬ (k = g ∨ k = gr ∨ X k) ∧ k < W'.heap.size ∧ some k ≠ va.ownBlock := fun k hk => by
 have h2 := h.bg.lt
 have h3 := h.br.lt
 have h4 := h.x.size
 refine ⟨fun q => ?_, hk.2, fun q => by have := (hO.lt k q.symm).2; omega⟩
 rcases q with q | q | q
 ·omega
 ·omega
 ·have := (h.hX k q).1; omega
theorem CS.next (h : CS w A X gm gr g MC Z OC Tm T n W0 m v) (hV : CV l e g gr X W0 ga T W va xs) (gG : ∀ (B : Nat → Prop) (W : World), ModAt n B W m v → l.slice.rd B W [va] xs → ModAt n B W m1 v1) : CS w A X gm gr g MC Z ga Tm T n W m1 v1 := by
 have hs := hV.2.2.size
 have h2 := h.bg.lt
 have h3 := h.br.lt
 have h4 := h.x.size
 refine ⟨h.bm.fr hV.2.2 h.lo.2.2, h.br.fr hV.2.2 (fun q => by have q' : gr = g := q; have := h.lo; omega), hV.1, gG _ _ ((h.md.fr hV.2.2 (fun k hk => ⟨hk.2, fun q => hk.1 (.inl q)⟩)).mono (fun k hk => ⟨hk.1, nqQ hk.2 hs⟩)) (hV.2.1.slice (fun k hk q => ?_)), h.ext hV.2.2, h.lo, h.hA, h.hX⟩
 rcases q with q | q | q
 ·omega
 ·omega
 ·have := (h.hX k q).1; omega
theorem CS.step (h : CS w A X gm gr g MC Z OC Tm T n W0 m v) {W1 W2 : World} {v1 : Value} (hV : CV l e g gr X W0 ga T W va xs) (hx : Ext W W1) (f : Nat) (h1 : OwnG l e W0.heap.size (fun k => k = g ∨ k = gr ∨ X k) W2 v1 lp) (h2 : Fr (fun k => some k = va.ownBlock) W1 W2) :
 Blk W2 g ga T ∧ CV l e g gr X W0 (ga.setIfInBounds f v1) T (W2.setCell ⟨g, f, none⟩ v1) v1 lp :=
 ze1 (f := f) (hV.1.ext hx) (hV.2.1.ext hx) (hV.2.2.ext hx) (.inl rfl) h.bg.lt rfl h1 h2
section
variable {P : Program} {ar : Array Oper} {rest : List Oper} {o : Oper} {a : Act} {Q : Exit → Act → World → Prop} {K : Act → World → Prop}
theorem CS.app (h : CS w A X gm gr g MC Z OC Tm T n W0 m v) (hV : CV l e g gr X W0 ga T W va xs) (hx : Ext W W1) (k : Nat) (hn : W1.heap.size = k) (s x : Operand) (t : TypeId) (z : Value) (bytes : Nat)
 (ho : o.op = .call { callee := .builtin .append, args := #[s, x], argTypes := #[t, t] }) (ht : P.underlying t = some (.slice e)) (bj : (P.info? e).map (fun i => (i.zero, i.size, i.bytes)) = some (some z, l.size, bytes)) (hz : z.cells.size = l.size) (ct : 0 < bytes) (dr : 0 < l.size)
 (y : α) (cs : Array Value) (hs : a.eval s = va) (qi : a.eval x = .slice (some ⟨k, 0, none⟩) 1 1) (HY : l.rd (fun k => ¬ (k = g ∨ k = gr ∨ X k) ∧ k < W1.heap.size ∧ some k ≠ va.ownBlock) W1 cs.toList y)
 (hl : (xs.length + 1) * bytes ≤ 140737488355328) (f : Nat) (pV : lp = xs ++ [y])
 (hc : ∀ v1 v2 v3 w1, Blk w1 g ga T → CV l e g gr X W0 (ga.setIfInBounds f (.slice v1 v2 v3)) T (w1.setCell ⟨g, f, none⟩ (.slice v1 v2 v3)) (.slice v1 v2 v3) lp → K (a.put o.dst (.slice v1 v2 v3)) w1) : o.wp P a (W1.alloc (.cells cs e)) K Q := by
 refine zaT l W0.heap.size k hn s x t e z bytes ho ht bj hz ct dr va xs y cs hs qi (hV.2.1.ext hx) HY (nlQ hV.2.2.size hx.size) hl ?_
 intro u w1 h1 h2 _
 obtain ⟨u1, u2, u3, rfl⟩ := h1.shape
 obtain ⟨h3, h4⟩ := h.step hV hx f h1 h2
 rw [← pV] at h4
 exact hc _ _ _ _ h3 h4
theorem CS.appL (h : CS w A X gm gr g MC Z OC Tm T n W0 m v) (hV : CV l e g gr X W0 ga T W va xs) (hx : Ext W W1) (k : Nat) (hn : W1.heap.size = k) (ir : o.guard = none) (s x : Operand) (t : TypeId) (z : Value) (bytes : Nat)
 (ho : o.op = .call { callee := .builtin .append, args := #[s, x], argTypes := #[t, t] }) (ht : P.underlying t = some (.slice e)) (bj : (P.info? e).map (fun i => (i.zero, i.size, i.bytes)) = some (some z, l.size, bytes)) (hz : z.cells.size = l.size) (ct : 0 < bytes) (dr : 0 < l.size)
 (y : α) (cs : Array Value) (hs : a.eval s = va) (qi : a.eval x = .slice (some ⟨k, 0, none⟩) 1 1) (HY : l.rd (fun k => ¬ (k = g ∨ k = gr ∨ X k) ∧ k < W1.heap.size ∧ some k ≠ va.ownBlock) W1 cs.toList y)
 (hl : (xs.length + 1) * bytes ≤ 140737488355328) (f : Nat) (pV : lp = xs ++ [y])
 (hc : ∀ v1 v2 v3 w1, Blk w1 g ga T → CV l e g gr X W0 (ga.setIfInBounds f (.slice v1 v2 v3)) T (w1.setCell ⟨g, f, none⟩ (.slice v1 v2 v3)) (.slice v1 v2 v3) lp → wpList P ar Q rest (a.put o.dst (.slice v1 v2 v3)) w1) : wpList P ar Q (o :: rest) a (W1.alloc (.cells cs e)) :=
 wpList_plain ir fun _ hK => h.app hV hx k hn s x t z bytes ho ht bj hz ct dr y cs hs qi HY hl f pV fun v1 v2 v3 w1 h1 h2 => hK _ _ (hc v1 v2 v3 w1 h1 h2)
end
end
abbrev nsV : Value := .slice none 0 0
abbrev om (c0 : Value) (m : Mod) (v3 v4 v5 v6 v7 v8 v9 u4 vu vr nU ez eO : Value) : Array Value := #[c0, .bool m.hasStart, .int .u32 (m.start.toNat : Int), v3, v4, v5, v6, v7, v8, v9, u4, vu, vr, nU, .string (zc m.named), ez, eO]
theorem Yw : (Tryz.prog.info? 103).map (fun i => (i.zero, i.size, i.bytes)) = some (some (.agg #[.slice none 0 0, .slice none 0 0]), Lay.ft.size, 48) := by kernel_rfl
theorem zaj : (Tryz.prog.info? 106).map (fun i => (i.zero, i.size, i.bytes)) = some (some (.agg #[.string ⟨#[]⟩, .string ⟨#[]⟩, .int .i64 0, .int .u32 0, .int .u32 0, .bool false, .int .u32 0, .int .i64 0, .bool false]), Lay.imp.size, 72) := by kernel_rfl
theorem YV (n : Nat) : (Tryz.prog.info? 110).map (fun i => (i.zero, i.size, i.bytes)) = some (some (.agg #[.int .u32 0, .slice none 0 0, .slice none 0 0]), (Lay.elem n).size, 56) := by kernel_rfl
theorem zak (n : Nat) : (Tryz.prog.info? 113).map (fun i => (i.zero, i.size, i.bytes)) = some (some (.agg #[.int .i64 0, .bool false, .slice none 0 0]), (Lay.glob n).size, 40) := by kernel_rfl
theorem zal : (Tryz.prog.info? 114).map (fun i => (i.zero, i.size, i.bytes)) = some (some (.agg #[.string ⟨#[]⟩, .int .i64 0, .int .u32 0]), Lay.expo.size, 32) := by kernel_rfl
theorem zbF (n : Nat) : (Tryz.prog.info? 116).map (fun i => (i.zero, i.size, i.bytes)) = some (some (.agg #[.int .u32 0, .slice none 0 0, .slice none 0 0]), (Lay.dat n).size, 56) := by kernel_rfl
theorem zam : (Tryz.prog.info? 117).map (fun i => (i.zero, i.size, i.bytes)) = some (some (.agg #[.string ⟨#[]⟩, .slice none 0 0]), Lay.cus.size, 40) := by kernel_rfl
theorem Z6 : (Tryz.prog.info? 119).map (fun i => (i.zero, i.size, i.bytes)) = some (some (.agg #[.int .u32 0, .int .u32 0, .string ⟨#[]⟩]), Lay.nam.size, 24) := by kernel_rfl
theorem ZO : (Tryz.prog.info? 104).map (fun i => (i.zero, i.size, i.bytes)) = some (some (.agg #[.int .u32 0, .bool false, .int .u32 0]), Lay.lim.size, 12) := by kernel_rfl
theorem j6 (x : Lim) (w : World) :
 Calls Tryz.prog 46 #[.agg #[.int .u32 (x.min.toNat : Int), .bool x.bounded, .int .u32 (x.max.toNat : Int)]] w fun e w' => e = .returned (.agg #[.int .u32 (x.min.toNat : Int), .bool x.bounded, .int .u32 (x.max.toNat : Int)]) ∧ Ext w w' := by
 go_enter Tryz.func46, Tryz.ntmps46
 go_wp2
 have hX := Ext.trans (za w (.cells #[.int .u32 (x.min.toNat : Int), .bool x.bounded, .int .u32 (x.max.toNat : Int)] 63)) (za _ (.cells #[.int .u32 (x.min.toNat : Int), .bool x.bounded, .int .u32 (x.max.toNat : Int)] 104))
 have hb := zk (w.alloc (.cells #[.int .u32 (x.min.toNat : Int), .bool x.bounded, .int .u32 (x.max.toNat : Int)] 63)) #[.int .u32 (x.min.toNat : Int), .bool x.bounded, .int .u32 (x.max.toNat : Int)] 104
 rw [show (w.alloc (.cells #[.int .u32 (x.min.toNat : Int), .bool x.bounded, .int .u32 (x.max.toNat : Int)] 63)).heap.size = w.heap.size + 1 by simp] at hb
 have dG := hb.cell
 exact bodyPost_ret (v := .agg #[.int .u32 (x.min.toNat : Int), .bool x.bounded, .int .u32 (x.max.toNat : Int)]) (by simp [results, Tryz.results46, go_sem, dG]) rfl ⟨rfl, hX⟩
variable {n : Nat} {m : Mod} {A : Nat → Prop}
theorem zdW {v : ModV} (hM : ModAt n A w m v) (hA : ∀ k, A k → k < w.heap.size) (eD : ModFit m) :
 Calls Tryz.prog 15 #[.agg (zs m v)] w fun e w' => ∃ v', e = .returned (.agg (zs m v')) ∧ ModAt n (fun k => k < w'.heap.size) w' m v' ∧ Ext w w' := by
 obtain ⟨vA, vB, vC, vD, vE, vF, vG, vH, vI, vJ, vK, vL, vM⟩ := v
 obtain ⟨aA, cA, e, h1, h2⟩ := Lay.slice_form2 hM.types
 have lA := qh (nlQ h1 h2)
 obtain rfl : vA = .slice aA m.types.length cA := by simpa using e
 clear e h1 h2
 obtain ⟨aB, cB, e, h1, h2⟩ := Lay.slice_form2 hM.imports
 have lB := qh (nlQ h1 h2)
 obtain rfl : vB = .slice aB m.imports.length cB := by simpa using e
 clear e h1 h2
 obtain ⟨aC, cC, e, h1, h2⟩ := Lay.slice_form2 hM.functions
 have lC := qh (nlQ h1 h2)
 obtain rfl : vC = .slice aC m.functions.length cC := by simpa using e
 clear e h1 h2
 obtain ⟨aD, cD, e, h1, h2⟩ := Lay.slice_form2 hM.tables
 have lD := qh (nlQ h1 h2)
 obtain rfl : vD = .slice aD m.tables.length cD := by simpa using e
 clear e h1 h2
 obtain ⟨aE, cE, e, h1, h2⟩ := Lay.slice_form2 hM.memories
 have lE := qh (nlQ h1 h2)
 obtain rfl : vE = .slice aE m.memories.length cE := by simpa using e
 clear e h1 h2
 obtain ⟨aF, cF, e, h1, h2⟩ := Lay.slice_form2 hM.elements
 have lF := qh (nlQ h1 h2)
 obtain rfl : vF = .slice aF m.elements.length cF := by simpa using e
 clear e h1 h2
 obtain ⟨aG, cG, e, h1, h2⟩ := Lay.slice_form2 hM.globals
 have lG := qh (nlQ h1 h2)
 obtain rfl : vG = .slice aG m.globals.length cG := by simpa using e
 clear e h1 h2
 obtain ⟨aH, cH, e, h1, h2⟩ := Lay.slice_form2 hM.exports
 have lH := qh (nlQ h1 h2)
 obtain rfl : vH = .slice aH m.exports.length cH := by simpa using e
 clear e h1 h2
 obtain ⟨aI, cI, e, h1, h2⟩ := Lay.slice_form2 hM.codes
 have lI := qh (nlQ h1 h2)
 obtain rfl : vI = .slice aI m.codes.length cI := by simpa using e
 clear e h1 h2
 obtain ⟨aJ, cJ, e, h1, h2⟩ := Lay.slice_form2 hM.datas
 have lJ := qh (nlQ h1 h2)
 obtain rfl : vJ = .slice aJ m.datas.length cJ := by simpa using e
 clear e h1 h2
 obtain ⟨aK, cK, e, h1, h2⟩ := Lay.slice_form2 hM.customs
 have lK := qh (nlQ h1 h2)
 obtain rfl : vK = .slice aK m.customs.length cK := by simpa using e
 clear e h1 h2
 obtain ⟨aL, cL, e, h1, h2⟩ := Lay.slice_form2 hM.funcs
 have lL := qh (nlQ h1 h2)
 obtain rfl : vL = .slice aL m.funcs.length cL := by simpa using e
 clear e h1 h2
 obtain ⟨aM, cM, e, h1, h2⟩ := Lay.slice_form2 hM.locals
 have lM := qh (nlQ h1 h2)
 obtain rfl : vM = .slice aM m.locals.length cM := by simpa using e
 clear e h1 h2
 have H := qh (anQ hM (anQ hA eD))
 clear hM hA eD
 unfold zs
 dsimp only
 go_enter Tryz.func15, Tryz.ntmps15
 go_wp2_with (first | with_reducible refine Y1 51 ?_ | with_reducible refine Jx 51 ?_)
 refine qh ?_
 refine Zd rfl _ _ rfl #[.int .u32 (m.version.toNat : Int), .bool m.hasStart, .int .u32 (m.start.toNat : Int), .slice none 0 0, .slice none 0 0, .slice aC m.functions.length cC, .slice none 0 0, .slice none 0 0, .slice none 0 0, .slice none 0 0, .slice none 0 0, .slice aI m.codes.length cI, .slice none 0 0, .slice none 0 0, .string (zc m.named), .slice none 0 0, .slice none 0 0] (by kernel_rfl) ?_
 go_wp2_with (first | with_reducible refine Y1 51 ?_ | with_reducible refine Jx 51 ?_)
 refine qh ?_
 have cV := zk ((w.alloc (.cells (kmc m aA cA aB cB aC cC aD cD aE cE aF cF aG cG aH cH aI cI aJ cJ aK cK aL cL aM cM) 37)).alloc (.cells zM 51)) zM 51
 rw [show ((w.alloc (.cells (kmc m aA cA aB cB aC cC aD cD aE cE aF cF aG cG aH cH aI cI aJ cJ aK cK aL cL aM cM) 37)).alloc (.cells zM 51)).heap.size = w.heap.size + 1 + 1 by simp] at cV
 refine cV.wpList_store rfl 51 (.tmp 3) (.tmp 38) rfl rfl rfl (by kernel_rfl) rfl rfl ?_
 obtain ⟨W3, gm, gr, g, eS, eA, Ba, hg, HB⟩ : ∃ W3 gm gr g, ((((w.alloc (.cells (kmc m aA cA aB cB aC cC aD cD aE cE aF cF aG cG aH cH aI cI aJ cJ aK cK aL cL aM cM) 37)).alloc (.cells zM 51)).alloc (.cells zM 51)).setRow (w.heap.size + 1 + 1) #[.int .u32 (m.version.toNat : Int), .bool m.hasStart, .int .u32 (m.start.toNat : Int), .slice none 0 0, .slice none 0 0, .slice aC m.functions.length cC, .slice none 0 0, .slice none 0 0, .slice none 0 0, .slice none 0 0, .slice none 0 0, .slice aI m.codes.length cI, .slice none 0 0, .slice none 0 0, .string (zc m.named), .slice none 0 0, .slice none 0 0]) = W3 ∧ w.heap.size = gm ∧ w.heap.size + 1 = gr ∧ w.heap.size + 1 + 1 = g ∧
  Hd (Blk W3 gm (kmc m aA cA aB cB aC cC aD cD aE cE aF cF aG cG aH cH aI cI aJ cJ aK cK aL cL aM cM) 37 ∧ Blk W3 gr zM 51 ∧ Blk W3 g #[.int .u32 (m.version.toNat : Int), .bool m.hasStart, .int .u32 (m.start.toNat : Int), .slice none 0 0, .slice none 0 0, .slice aC m.functions.length cC, .slice none 0 0, .slice none 0 0, .slice none 0 0, .slice none 0 0, .slice none 0 0, .slice aI m.codes.length cI, .slice none 0 0, .slice none 0 0, .string (zc m.named), .slice none 0 0, .slice none 0 0] 51 ∧ Ext w W3) := by
  have hs := yE (((w.alloc (.cells (kmc m aA cA aB cB aC cC aD cD aE cE aF cF aG cG aH cH aI cI aJ cJ aK cK aL cL aM cM) 37)).alloc (.cells zM 51)).alloc (.cells zM 51)) (w.heap.size + 1 + 1) #[.int .u32 (m.version.toNat : Int), .bool m.hasStart, .int .u32 (m.start.toNat : Int), .slice none 0 0, .slice none 0 0, .slice aC m.functions.length cC, .slice none 0 0, .slice none 0 0, .slice none 0 0, .slice none 0 0, .slice none 0 0, .slice aI m.codes.length cI, .slice none 0 0, .slice none 0 0, .string (zc m.named), .slice none 0 0, .slice none 0 0]
  have ct := ((zk w (kmc m aA cA aB cB aC cC aD cD aE cE aF cF aG cG aH cH aI cI aJ cJ aK cK aL cL aM cM) 37).ext (za _ (.cells zM 51))).ext (za _ (.cells zM 51))
  have dw := (zk (w.alloc (.cells (kmc m aA cA aB cB aC cC aD cD aE cE aF cF aG cG aH cH aI cI aJ cJ aK cK aL cL aM cM) 37)) zM 51).ext (za _ (.cells zM 51))
  rw [show (w.alloc (.cells (kmc m aA cA aB cB aC cC aD cD aE cE aF cF aG cG aH cH aI cI aJ cJ aK cK aL cL aM cM) 37)).heap.size = w.heap.size + 1 by simp] at dw
  exact ⟨_, _, _, _, rfl, rfl, rfl, rfl, ct.fr hs (fun e => by have e' : w.heap.size = w.heap.size + 1 + 1 := e; omega), dw.fr hs (fun e => by have e' : w.heap.size + 1 = w.heap.size + 1 + 1 := e; omega), cV.setRow _,
   Fr.new (Ext.fr (Ext.trans (za _ _) (Ext.trans (za _ _) (za _ _))) hs) (fun k e => by have e' : k = w.heap.size + 1 + 1 := e; omega)⟩
 clear cV
 rw [eS, hg, Ba, eA]
 have HS := qh (show CS w A (fun _ => False) gm gr g (kmc m aA cA aB cB aC cC aD cD aE cE aF cF aG cG aH cH aI cI aJ cJ aK cK aL cL aM cM) zM #[.int .u32 (m.version.toNat : Int), .bool m.hasStart, .int .u32 (m.start.toNat : Int), .slice none 0 0, .slice none 0 0, .slice aC m.functions.length cC, .slice none 0 0, .slice none 0 0, .slice none 0 0, .slice none 0 0, .slice none 0 0, .slice aI m.codes.length cI, .slice none 0 0, .slice none 0 0, .string (zc m.named), .slice none 0 0, .slice none 0 0] 37 51 n W3 ⟨m.version, m.hasStart, m.start, [], [], m.functions, [], [], [], [], [], m.codes, [], [], m.named, [], []⟩ ⟨.slice none 0 0, .slice none 0 0, .slice aC m.functions.length cC, .slice none 0 0, .slice none 0 0, .slice none 0 0, .slice none 0 0, .slice none 0 0, .slice aI m.codes.length cI, .slice none 0 0, .slice none 0 0, .slice none 0 0, .slice none 0 0⟩ from by
  have h1 := HB.o.2.2.2
  have h2 := HB.o.2.2.1.lt
  have AU : ∀ k, A k → ¬ (k = g ∨ k = gr ∨ False) ∧ k < W3.heap.size := fun k hk => by have := H.o.2.1 k hk; exact ⟨fun q => (by rcases q with q | q | q; omega; omega; exact q.elim), by omega⟩
  exact ⟨HB.o.1, HB.o.2.1, HB.o.2.2.1, ⟨zV _ _ _, zV _ _ _, Lay.mono _ (Lay.fr H.o.1.functions h1 (fun k hk => ⟨H.o.2.1 k hk, fun h => h⟩)) AU, zV _ _ _, zV _ _ _, zV _ _ _, zV _ _ _, zV _ _ _, Lay.mono _ (Lay.fr H.o.1.codes h1 (fun k hk => ⟨H.o.2.1 k hk, fun h => h⟩)) AU, zV _ _ _, zV _ _ _, zV _ _ _, zV _ _ _, H.o.1.named⟩, h1, ⟨by omega, by omega, by omega⟩, H.o.2.1, fun k q => q.elim⟩)
 clear eS eA Ba hg HB
 have ag := HS.o.bm.cell
 have ao : (m.types.length : Int) ≤ 9223372036854775807 := by have := lA.o; simp only [maxLen] at this; omega
 go_wp2_with fail
 clear ag
 go_loopw [5, 42] (fun s5 qX w' => ∃ (i : Nat) (va : Value), i ≤ m.types.length ∧ qX = .int .i64 i ∧ Hd (CV Lay.ft 103 g gr (fun _ => False) W3 (om (.int .u32 (m.version.toNat : Int)) m va nsV (.slice aC m.functions.length cC) nsV nsV nsV nsV nsV (.slice aI m.codes.length cI) nsV nsV nsV nsV) 51 w' va (m.types.take i))) (fun _ qX _ => m.types.length - (intOf qX).toNat)
 case atStart => exact ⟨0, _, nzQ _, rfl, HS.o.bg, Go.Proofs.YtejgninpjhcgnaaGreatDoor.zK _ _ _ _ _, Fr.refl _ _⟩
 obtain ⟨i, va, hi, rfl, hV⟩ := hrel
 have aW := qh (HS.o.ext hV.o.2.2)
 obtain ⟨aN, aw, az, rfl⟩ := hV.o.2.1.shape
 by_cases ah : i < m.types.length
 ·obtain ⟨b, o, ax, cx, ay, cy, rfl, e0, e1, r0, r1, hr⟩ := Lay.ft_at2 H.o.1.types i ah
  have aX := qh (show m.types.take (i + 1) = _ from tsQ ah)
  generalize m.types[i] = x at *
  replace e0 := aW.o.c e0
  replace e1 := aW.o.c e1
  have hr := qh hr
  have r0 := qh r0
  have r1 := qh r1
  have fg := hV.o.1.ext (za wr (.cells #[.slice ax x.ps.length cx, .slice ay x.rs.length cy] 91))
  have dY := fg.cell
  have fx := fg.frz
  clear fg
  go_wp2_with (at_builtin; refine Hd.o ?_)
  refine HS.o.appL hV.o (za _ _) (wr.heap.size + 1) (by simp) rfl (.tmp 47) (.tmp 53) _ _ 48 rfl Tryz.underlying41 Yw rfl (by omega) (Nat.succ_pos _) x _ rfl rfl (Lay.mono _ (HS.o.rd (Ext.trans aW.o (za _ _)) hr.o) (HS.o.old hV.o.2.1 (Ext.trans aW.o (za _ _)))) (by have := H.o.2.2.len_types; rw [ltQ]; omega) 3 aX.o ?_
  intro aR aV aU w2 bN hst
  have hst := qh hst
  have db := bN.cell
  have dj := bN.frz
  clear bN dY fx e0 e1
  go_wp2_with fail
  clear db dj
  go_roundw
  case rel => exact ⟨i + 1, _, by omega, by go_num, qh (by simpa using hst.o)⟩
  case measure => simp [intOf]; omega
 obtain rfl : i = m.types.length := by omega
 have bk := hV.o
 rw [tlQ] at bk
 obtain ⟨zA, hz⟩ : ∃ z, z = Value.slice aN aw az := ⟨_, rfl⟩
 rw [← hz] at bk
 replace HS := qh (HS.o.next bk fun _ _ h k => h.set_types k)
 clear hV bk hz ao hi ah aW aN aw az
 generalize wr = tK at *
 have ag := HS.o.bm.cell
 have ao : (m.imports.length : Int) ≤ 9223372036854775807 := by have := lB.o; simp only [maxLen] at this; omega
 go_wp2_with fail
 clear ag
 go_loopw [7, 60] (fun s7 xY w' => ∃ (i : Nat) (va : Value), i ≤ m.imports.length ∧ xY = .int .i64 i ∧ Hd (CV Lay.imp 106 g gr (fun _ => False) tK (om (.int .u32 (m.version.toNat : Int)) m zA va (.slice aC m.functions.length cC) nsV nsV nsV nsV nsV (.slice aI m.codes.length cI) nsV nsV nsV nsV) 51 w' va (m.imports.take i))) (fun _ xY _ => m.imports.length - (intOf xY).toNat)
 case atStart => exact ⟨0, _, nzQ _, rfl, HS.o.bg, Go.Proofs.YtejgninpjhcgnaaGreatDoor.zK _ _ _ _ _, Fr.refl _ _⟩
 obtain ⟨i, va, hi, rfl, hV⟩ := hrel
 have aW := qh (HS.o.ext hV.o.2.2)
 obtain ⟨aN, aw, az, rfl⟩ := hV.o.2.1.shape
 by_cases ah : i < m.imports.length
 ·obtain ⟨b, o, rfl, e0, e1, e2, e3, e4, e5, e6, e7, e8, r0, r1, r2, r3, hr⟩ := Lay.imp_at2 H.o.1.imports i ah
  have aX := qh (show m.imports.take (i + 1) = _ from tsQ ah)
  generalize m.imports[i] = x at *
  replace e0 := aW.o.c e0
  replace e1 := aW.o.c e1
  replace e2 := aW.o.c e2
  replace e3 := aW.o.c e3
  replace e4 := aW.o.c e4
  replace e5 := aW.o.c e5
  replace e6 := aW.o.c e6
  replace e7 := aW.o.c e7
  replace e8 := aW.o.c e8
  have hr := qh hr
  have r0 := qh r0
  have r1 := qh r1
  have r2 := qh r2
  have r3 := qh r3
  go_wp2_with fail
  have cg := qh (zk wr #[.string (zc x.mdl), .string (zc x.name), .int .i64 x.kind, .int .u32 (x.index.toNat : Int), .int .u32 (x.lim.min.toNat : Int), .bool x.lim.bounded, .int .u32 (x.lim.max.toNat : Int), .int .i64 x.ty, .bool x.mtb] 65)
  have bl := qh (za wr (.cells #[.string (zc x.mdl), .string (zc x.name), .int .i64 x.kind, .int .u32 (x.index.toNat : Int), .int .u32 (x.lim.min.toNat : Int), .bool x.lim.bounded, .int .u32 (x.lim.max.toNat : Int), .int .i64 x.ty, .bool x.mtb] 65))
  generalize (wr.alloc (.cells #[.string (zc x.mdl), .string (zc x.name), .int .i64 x.kind, .int .u32 (x.index.toNat : Int), .int .u32 (x.lim.min.toNat : Int), .bool x.lim.bounded, .int .u32 (x.lim.max.toNat : Int), .int .i64 x.ty, .bool x.mtb] 65)) = W4 at *
  obtain ⟨ge, aZ⟩ := exQ (wr.heap.size)
  rw [aZ] at cg ⊢
  clear aZ e0 e1 e2 e3 e4 e5 e6 e7 e8
  refine zi JS [kT 0, kT 1, kT 2, kT 3, kT 4, kT 5, kT 6, kT 7, kT 8, kT 9, kT 10, kT 11, kT 13, kT 14, kT 15, kT 16, kR 12, kT 17, kR 18, kL 19, kT 20, kL 21] (by kernel_rfl) (by kernel_rfl) ?_
  simp only [zy, gzQ, gsQ]
  have HC := qh (fun W' (h : Ext W4.drew W') => anQ (cg.o.ext (Ext.trans (zb _) h)).cell (hV.o.1.ext (Ext.trans bl.o (Ext.trans (zb _) h))).cell)
  have bQ := qh (Ext.trans bl.o (zb W4))
  generalize W4.drew = W5 at *
  repeat (apply item_take; rfl; rfl; rfl; rfl; exact fun _ _ _ _ h => h; (intro W e _ k; have q := HC.o W e; go_simp; exact k))
  apply ze; rfl; intro K hK; go_simp
  refine (j6 x.lim W5).mono ?_
  rintro e w6 ⟨rfl, x6⟩
  refine hK _ _ x6 ?_
  have H6 := qh (anQ (Ext.trans bQ.o x6) trivial)
  clear hK K x6 cg
  repeat (apply item_take; rfl; rfl; rfl; rfl; exact fun _ _ _ _ h => h; (intro _ _ _ k; go_simp; exact k))
  apply ze; rfl; intro K hK; go_simp
  refine hK _ _ (za _ _) ?_
  clear hK K
  apply zu; rfl; intro K hK
  refine HS.o.app hV.o H6.o.1 w6.heap.size rfl (.tmp 65) (.tmp 82) _ _ 72 rfl Tryz.underlying42 zaj rfl (by omega) (Nat.succ_pos _) x _ rfl rfl (Lay.mono _ (HS.o.rd (Ext.trans aW.o H6.o.1) hr.o) (HS.o.old hV.o.2.1 (Ext.trans aW.o H6.o.1))) (by have := H.o.2.2.len_imports; rw [ltQ]; omega) 4 aX.o ?_
  intro aR aV aU w2 bN hst
  refine hK _ _ ?_
  clear hK K
  have hst := qh hst
  have db := bN.cell
  have dj := bN.frz
  clear bN HC
  repeat (apply item_take; rfl; rfl; rfl; rfl; exact fun _ _ _ _ h => h; (intro _ _ _ k; go_simp; exact k))
  apply zu; rfl; intro K hK; go_simp
  refine hK _ _ ?_
  clear hK K
  apply zl
  clear db dj
  go_wp2
  go_roundw
  case rel => exact ⟨i + 1, _, by omega, by go_num, qh (by simpa using hst.o)⟩
  case measure => simp [intOf]; omega
 obtain rfl : i = m.imports.length := by omega
 have bk := hV.o
 rw [tlQ] at bk
 obtain ⟨zB, hz⟩ : ∃ z, z = Value.slice aN aw az := ⟨_, rfl⟩
 rw [← hz] at bk
 replace HS := qh (HS.o.next bk fun _ _ h k => h.set_imports k)
 clear hV bk hz ao hi ah aW aN aw az
 generalize wr = tu at *
 have ag := HS.o.bm.cell
 have ao : (m.elements.length : Int) ≤ 9223372036854775807 := by have := lF.o; simp only [maxLen] at this; omega
 go_wp2_with fail
 clear ag
 go_loopw [9, 89] (fun s9 Aq w' => ∃ (i : Nat) (va : Value), i ≤ m.elements.length ∧ Aq = .int .i64 i ∧ Hd (CV (Lay.elem n) 110 g gr (fun _ => False) tu (om (.int .u32 (m.version.toNat : Int)) m zA zB (.slice aC m.functions.length cC) nsV nsV va nsV nsV (.slice aI m.codes.length cI) nsV nsV nsV nsV) 51 w' va (m.elements.take i))) (fun _ Aq _ => m.elements.length - (intOf Aq).toNat)
 case atStart => exact ⟨0, _, nzQ _, rfl, HS.o.bg, Go.Proofs.YtejgninpjhcgnaaGreatDoor.zK _ _ _ _ _, Fr.refl _ _⟩
 obtain ⟨i, va, hi, rfl, hV⟩ := hrel
 have aW := qh (HS.o.ext hV.o.2.2)
 obtain ⟨aN, aw, az, rfl⟩ := hV.o.2.1.shape
 by_cases ah : i < m.elements.length
 ·obtain ⟨b, o, ax, cx, ay, cy, rfl, e0, e1, e2, r0, r1, hr⟩ := Lay.elem_at2 H.o.1.elements i ah
  have ei := qh (H.o.2.2.elements _ (List.getElem_mem ah))
  have aX := qh (show m.elements.take (i + 1) = _ from tsQ ah)
  generalize m.elements[i] = x at *
  replace e0 := aW.o.c e0
  replace e1 := aW.o.c e1
  replace e2 := aW.o.c e2
  have hr := qh hr
  have r0 := qh r0
  have r1 := qh r1
  go_wp2_with fail
  have cg := qh (zk wr #[.int .u32 (x.index.toNat : Int), .slice ax x.off.length cx, .slice ay x.ids.length cy] 71)
  have bl := qh (za wr (.cells #[.int .u32 (x.index.toNat : Int), .slice ax x.off.length cx, .slice ay x.ids.length cy] 71))
  generalize (wr.alloc (.cells #[.int .u32 (x.index.toNat : Int), .slice ax x.off.length cx, .slice ay x.ids.length cy] 71)) = W4 at *
  obtain ⟨ge, aZ⟩ := exQ (wr.heap.size)
  rw [aZ] at cg ⊢
  clear aZ e0 e1 e2
  refine zi JS [kT 0, kT 1, kT 2, kT 3, kT 4, kT 5, kT 7, kT 8, kR 6, kT 9, kR 10, kL 11, kT 12, kL 13] (by kernel_rfl) (by kernel_rfl) ?_
  simp only [zy, gzQ, gsQ]
  have HC := qh (fun W' (h : Ext W4.drew W') => anQ (cg.o.ext (Ext.trans (zb _) h)).cell (hV.o.1.ext (Ext.trans bl.o (Ext.trans (zb _) h))).cell)
  have bQ := qh (Ext.trans bl.o (zb W4))
  generalize W4.drew = W5 at *
  repeat (apply item_take; rfl; rfl; rfl; rfl; exact fun _ _ _ _ h => h; (intro W e _ k; have q := HC.o W e; go_simp; exact k))
  apply ze; rfl; intro K hK; go_simp
  refine (j5 n x.off ax x.off.length cx A W5 (HS.o.rd (Ext.trans aW.o bQ.o) r0.o) (HS.o.lt (Ext.trans aW.o bQ.o)) ei.o.1 ei.o.2).mono ?_
  rintro e w6 ⟨v6, rfl, o6, x6⟩
  refine hK _ _ x6 ?_
  obtain ⟨y1, y3, rfl, -, -⟩ := o6.form
  have H6 := qh (anQ (Ext.trans bQ.o x6) o6.slice)
  clear hK K x6 o6 cg
  repeat (apply item_take; rfl; rfl; rfl; rfl; exact fun _ _ _ _ h => h; (intro _ _ _ k; go_simp; exact k))
  apply ze; rfl; intro K hK; go_simp
  refine hK _ _ (za _ _) ?_
  clear hK K
  apply zu; rfl; intro K hK
  refine HS.o.app hV.o H6.o.1 w6.heap.size rfl (.tmp 94) (.tmp 103) _ _ 56 rfl Tryz.underlying44 (YV n) rfl (by omega) (Nat.succ_pos _) x _ rfl rfl ⟨[_], [_, _], rfl, rfl, [_], [_], rfl, Lay.mono _ H6.o.2 (HS.o.new hV.o.2.1 hV.o.2.2.size bQ.o.size), Lay.mono _ (HS.o.rd (Ext.trans aW.o H6.o.1) r1.o) (HS.o.old hV.o.2.1 (Ext.trans aW.o H6.o.1))⟩ (by have := H.o.2.2.len_elements; rw [ltQ]; omega) 8 aX.o ?_
  intro aR aV aU w2 bN hst
  refine hK _ _ ?_
  clear hK K
  have hst := qh hst
  have db := bN.cell
  have dj := bN.frz
  clear bN HC
  repeat (apply item_take; rfl; rfl; rfl; rfl; exact fun _ _ _ _ h => h; (intro _ _ _ k; go_simp; exact k))
  apply zu; rfl; intro K hK; go_simp
  refine hK _ _ ?_
  clear hK K
  apply zl
  clear db dj
  go_wp2
  go_roundw
  case rel => exact ⟨i + 1, _, by omega, by go_num, qh (by simpa using hst.o)⟩
  case measure => simp [intOf]; omega
 obtain rfl : i = m.elements.length := by omega
 have bk := hV.o
 rw [tlQ] at bk
 obtain ⟨zF, hz⟩ : ∃ z, z = Value.slice aN aw az := ⟨_, rfl⟩
 rw [← hz] at bk
 replace HS := qh (HS.o.next bk fun _ _ h k => h.set_elements k)
 clear hV bk hz ao hi ah aW aN aw az
 generalize wr = xN at *
 have ag := HS.o.bm.cell
 have ao : (m.globals.length : Int) ≤ 9223372036854775807 := by have := lG.o; simp only [maxLen] at this; omega
 go_wp2_with fail
 clear ag
 go_loopw [11, 110] (fun nN rH w' => ∃ (i : Nat) (va : Value), i ≤ m.globals.length ∧ rH = .int .i64 i ∧ Hd (CV (Lay.glob n) 113 g gr (fun _ => False) xN (om (.int .u32 (m.version.toNat : Int)) m zA zB (.slice aC m.functions.length cC) nsV nsV zF va nsV (.slice aI m.codes.length cI) nsV nsV nsV nsV) 51 w' va (m.globals.take i))) (fun _ rH _ => m.globals.length - (intOf rH).toNat)
 case atStart => exact ⟨0, _, nzQ _, rfl, HS.o.bg, Go.Proofs.YtejgninpjhcgnaaGreatDoor.zK _ _ _ _ _, Fr.refl _ _⟩
 obtain ⟨i, va, hi, rfl, hV⟩ := hrel
 have aW := qh (HS.o.ext hV.o.2.2)
 obtain ⟨aN, aw, az, rfl⟩ := hV.o.2.1.shape
 by_cases ah : i < m.globals.length
 ·obtain ⟨b, o, ax, cx, rfl, e0, e1, e2, r0, r1, hr⟩ := Lay.glob_at2 H.o.1.globals i ah
  have ei := qh (H.o.2.2.globals _ (List.getElem_mem ah))
  have aX := qh (show m.globals.take (i + 1) = _ from tsQ ah)
  generalize m.globals[i] = x at *
  replace e0 := aW.o.c e0
  replace e1 := aW.o.c e1
  replace e2 := aW.o.c e2
  have hr := qh hr
  have r0 := qh r0
  have r1 := qh r1
  go_wp2_with fail
  have cg := qh (zk wr #[.int .i64 x.ty, .bool x.mtb, .slice ax x.init.length cx] 69)
  have bl := qh (za wr (.cells #[.int .i64 x.ty, .bool x.mtb, .slice ax x.init.length cx] 69))
  generalize (wr.alloc (.cells #[.int .i64 x.ty, .bool x.mtb, .slice ax x.init.length cx] 69)) = W4 at *
  obtain ⟨ge, aZ⟩ := exQ (wr.heap.size)
  rw [aZ] at cg ⊢
  clear aZ e0 e1 e2
  refine zi JS [kT 0, kT 1, kT 2, kT 3, kT 4, kT 5, kT 6, kT 7, kR 8, kT 9, kR 10, kL 11, kT 12, kL 13] (by kernel_rfl) (by kernel_rfl) ?_
  simp only [zy, gzQ, gsQ]
  have HC := qh (fun W' (h : Ext W4.drew W') => anQ (cg.o.ext (Ext.trans (zb _) h)).cell (hV.o.1.ext (Ext.trans bl.o (Ext.trans (zb _) h))).cell)
  have bQ := qh (Ext.trans bl.o (zb W4))
  generalize W4.drew = W5 at *
  repeat (apply item_take; rfl; rfl; rfl; rfl; exact fun _ _ _ _ h => h; (intro W e _ k; have q := HC.o W e; go_simp; exact k))
  apply ze; rfl; intro K hK; go_simp
  refine (j5 n x.init ax x.init.length cx A W5 (HS.o.rd (Ext.trans aW.o bQ.o) r1.o) (HS.o.lt (Ext.trans aW.o bQ.o)) ei.o.1 ei.o.2).mono ?_
  rintro e w6 ⟨v6, rfl, o6, x6⟩
  refine hK _ _ x6 ?_
  obtain ⟨y1, y3, rfl, -, -⟩ := o6.form
  have H6 := qh (anQ (Ext.trans bQ.o x6) o6.slice)
  clear hK K x6 o6 cg
  repeat (apply item_take; rfl; rfl; rfl; rfl; exact fun _ _ _ _ h => h; (intro _ _ _ k; go_simp; exact k))
  apply ze; rfl; intro K hK; go_simp
  refine hK _ _ (za _ _) ?_
  clear hK K
  apply zu; rfl; intro K hK
  refine HS.o.app hV.o H6.o.1 w6.heap.size rfl (.tmp 115) (.tmp 124) _ _ 40 rfl Tryz.underlying45 (zak n) rfl (by omega) (Nat.succ_pos _) x _ rfl rfl ⟨[_], [_, _], rfl, ⟨rfl, r0.o⟩, [_], [_], rfl, rfl, Lay.mono _ H6.o.2 (HS.o.new hV.o.2.1 hV.o.2.2.size bQ.o.size)⟩ (by have := H.o.2.2.len_globals; rw [ltQ]; omega) 9 aX.o ?_
  intro aR aV aU w2 bN hst
  refine hK _ _ ?_
  clear hK K
  have hst := qh hst
  have db := bN.cell
  have dj := bN.frz
  clear bN HC
  repeat (apply item_take; rfl; rfl; rfl; rfl; exact fun _ _ _ _ h => h; (intro _ _ _ k; go_simp; exact k))
  apply zu; rfl; intro K hK; go_simp
  refine hK _ _ ?_
  clear hK K
  apply zl
  clear db dj
  go_wp2
  go_roundw
  case rel => exact ⟨i + 1, _, by omega, by go_num, qh (by simpa using hst.o)⟩
  case measure => simp [intOf]; omega
 obtain rfl : i = m.globals.length := by omega
 have bk := hV.o
 rw [tlQ] at bk
 obtain ⟨zG, hz⟩ : ∃ z, z = Value.slice aN aw az := ⟨_, rfl⟩
 rw [← hz] at bk
 replace HS := qh (HS.o.next bk fun _ _ h k => h.set_globals k)
 clear hV bk hz ao hi ah aW aN aw az
 generalize wr = xa at *
 have ag := HS.o.bm.cell
 have ao : (m.exports.length : Int) ≤ 9223372036854775807 := by have := lH.o; simp only [maxLen] at this; omega
 go_wp2_with fail
 clear ag
 go_loopw [13, 131] (fun fX pT w' => ∃ (i : Nat) (va : Value), i ≤ m.exports.length ∧ pT = .int .i64 i ∧ Hd (CV Lay.expo 114 g gr (fun _ => False) xa (om (.int .u32 (m.version.toNat : Int)) m zA zB (.slice aC m.functions.length cC) nsV nsV zF zG va (.slice aI m.codes.length cI) nsV nsV nsV nsV) 51 w' va (m.exports.take i))) (fun _ pT _ => m.exports.length - (intOf pT).toNat)
 case atStart => exact ⟨0, _, nzQ _, rfl, HS.o.bg, Go.Proofs.YtejgninpjhcgnaaGreatDoor.zK _ _ _ _ _, Fr.refl _ _⟩
 obtain ⟨i, va, hi, rfl, hV⟩ := hrel
 have aW := qh (HS.o.ext hV.o.2.2)
 obtain ⟨aN, aw, az, rfl⟩ := hV.o.2.1.shape
 by_cases ah : i < m.exports.length
 ·obtain ⟨b, o, rfl, e0, e1, e2, r0, r1, hr⟩ := Lay.expo_at2 H.o.1.exports i ah
  have aX := qh (show m.exports.take (i + 1) = _ from tsQ ah)
  generalize m.exports[i] = x at *
  replace e0 := aW.o.c e0
  replace e1 := aW.o.c e1
  replace e2 := aW.o.c e2
  have hr := qh hr
  have r0 := qh r0
  have r1 := qh r1
  have fg := hV.o.1.ext (za wr (.cells #[.string (zc x.name), .int .i64 x.kind, .int .u32 (x.index.toNat : Int)] 98))
  have dY := fg.cell
  have fx := fg.frz
  clear fg
  go_wp2_with (at_builtin; refine Hd.o ?_)
  refine HS.o.appL hV.o (za _ _) (wr.heap.size + 1) (by simp) rfl (.tmp 136) (.tmp 144) _ _ 32 rfl Tryz.underlying46 zal rfl (by omega) (Nat.succ_pos _) x _ rfl rfl (Lay.mono _ (HS.o.rd (Ext.trans aW.o (za _ _)) hr.o) (HS.o.old hV.o.2.1 (Ext.trans aW.o (za _ _)))) (by have := H.o.2.2.len_exports; rw [ltQ]; omega) 10 aX.o ?_
  intro aR aV aU w2 bN hst
  have hst := qh hst
  have db := bN.cell
  have dj := bN.frz
  clear bN dY fx e0 e1 e2
  go_wp2_with fail
  clear db dj
  go_roundw
  case rel => exact ⟨i + 1, _, by omega, by go_num, qh (by simpa using hst.o)⟩
  case measure => simp [intOf]; omega
 obtain rfl : i = m.exports.length := by omega
 have bk := hV.o
 rw [tlQ] at bk
 obtain ⟨zH, hz⟩ : ∃ z, z = Value.slice aN aw az := ⟨_, rfl⟩
 rw [← hz] at bk
 replace HS := qh (HS.o.next bk fun _ _ h k => h.set_exports k)
 clear hV bk hz ao hi ah aW aN aw az
 generalize wr = Az at *
 have ag := HS.o.bm.cell
 have ao : (m.datas.length : Int) ≤ 9223372036854775807 := by have := lJ.o; simp only [maxLen] at this; omega
 go_wp2_with fail
 clear ag
 go_loopw [15, 151] (fun ra rg w' => ∃ (i : Nat) (va : Value), i ≤ m.datas.length ∧ rg = .int .i64 i ∧ Hd (CV (Lay.dat n) 116 g gr (fun _ => False) Az (om (.int .u32 (m.version.toNat : Int)) m zA zB (.slice aC m.functions.length cC) nsV nsV zF zG zH (.slice aI m.codes.length cI) va nsV nsV nsV) 51 w' va (m.datas.take i))) (fun _ rg _ => m.datas.length - (intOf rg).toNat)
 case atStart => exact ⟨0, _, nzQ _, rfl, HS.o.bg, Go.Proofs.YtejgninpjhcgnaaGreatDoor.zK _ _ _ _ _, Fr.refl _ _⟩
 obtain ⟨i, va, hi, rfl, hV⟩ := hrel
 have aW := qh (HS.o.ext hV.o.2.2)
 obtain ⟨aN, aw, az, rfl⟩ := hV.o.2.1.shape
 by_cases ah : i < m.datas.length
 ·obtain ⟨b, o, ax, cx, ay, cy, rfl, e0, e1, e2, r0, r1, hr⟩ := Lay.dat_at2 H.o.1.datas i ah
  have ei := qh (H.o.2.2.datas _ (List.getElem_mem ah))
  have aX := qh (show m.datas.take (i + 1) = _ from tsQ ah)
  generalize m.datas[i] = x at *
  replace e0 := aW.o.c e0
  replace e1 := aW.o.c e1
  replace e2 := aW.o.c e2
  have hr := qh hr
  have r0 := qh r0
  have r1 := qh r1
  go_wp2_with fail
  have cg := qh (zk wr #[.int .u32 (x.index.toNat : Int), .slice ax x.off.length cx, .slice ay x.init.length cy] 73)
  have bl := qh (za wr (.cells #[.int .u32 (x.index.toNat : Int), .slice ax x.off.length cx, .slice ay x.init.length cy] 73))
  generalize (wr.alloc (.cells #[.int .u32 (x.index.toNat : Int), .slice ax x.off.length cx, .slice ay x.init.length cy] 73)) = W4 at *
  obtain ⟨ge, aZ⟩ := exQ (wr.heap.size)
  rw [aZ] at cg ⊢
  clear aZ e0 e1 e2
  refine zi JS [kT 0, kT 1, kT 2, kT 3, kT 4, kT 5, kT 7, kT 8, kR 6, kT 9, kR 10, kL 11, kT 12, kL 13] (by kernel_rfl) (by kernel_rfl) ?_
  simp only [zy, gzQ, gsQ]
  have HC := qh (fun W' (h : Ext W4.drew W') => anQ (cg.o.ext (Ext.trans (zb _) h)).cell (hV.o.1.ext (Ext.trans bl.o (Ext.trans (zb _) h))).cell)
  have bQ := qh (Ext.trans bl.o (zb W4))
  generalize W4.drew = W5 at *
  repeat (apply item_take; rfl; rfl; rfl; rfl; exact fun _ _ _ _ h => h; (intro W e _ k; have q := HC.o W e; go_simp; exact k))
  apply ze; rfl; intro K hK; go_simp
  refine (j5 n x.off ax x.off.length cx A W5 (HS.o.rd (Ext.trans aW.o bQ.o) r0.o) (HS.o.lt (Ext.trans aW.o bQ.o)) ei.o.1 ei.o.2).mono ?_
  rintro e w6 ⟨v6, rfl, o6, x6⟩
  refine hK _ _ x6 ?_
  obtain ⟨y1, y3, rfl, -, -⟩ := o6.form
  have H6 := qh (anQ (Ext.trans bQ.o x6) o6.slice)
  clear hK K x6 o6 cg
  repeat (apply item_take; rfl; rfl; rfl; rfl; exact fun _ _ _ _ h => h; (intro _ _ _ k; go_simp; exact k))
  apply ze; rfl; intro K hK; go_simp
  refine hK _ _ (za _ _) ?_
  clear hK K
  apply zu; rfl; intro K hK
  refine HS.o.app hV.o H6.o.1 w6.heap.size rfl (.tmp 156) (.tmp 165) _ _ 56 rfl Tryz.underlying47 (zbF n) rfl (by omega) (Nat.succ_pos _) x _ rfl rfl ⟨[_], [_, _], rfl, rfl, [_], [_], rfl, Lay.mono _ H6.o.2 (HS.o.new hV.o.2.1 hV.o.2.2.size bQ.o.size), Lay.mono _ (HS.o.rd (Ext.trans aW.o H6.o.1) r1.o) (HS.o.old hV.o.2.1 (Ext.trans aW.o H6.o.1))⟩ (by have := H.o.2.2.len_datas; rw [ltQ]; omega) 12 aX.o ?_
  intro aR aV aU w2 bN hst
  refine hK _ _ ?_
  clear hK K
  have hst := qh hst
  have db := bN.cell
  have dj := bN.frz
  clear bN HC
  repeat (apply item_take; rfl; rfl; rfl; rfl; exact fun _ _ _ _ h => h; (intro _ _ _ k; go_simp; exact k))
  apply zu; rfl; intro K hK; go_simp
  refine hK _ _ ?_
  clear hK K
  apply zl
  clear db dj
  go_wp2
  go_roundw
  case rel => exact ⟨i + 1, _, by omega, by go_num, qh (by simpa using hst.o)⟩
  case measure => simp [intOf]; omega
 obtain rfl : i = m.datas.length := by omega
 have bk := hV.o
 rw [tlQ] at bk
 obtain ⟨zJ, hz⟩ : ∃ z, z = Value.slice aN aw az := ⟨_, rfl⟩
 rw [← hz] at bk
 replace HS := qh (HS.o.next bk fun _ _ h k => h.set_datas k)
 clear hV bk hz ao hi ah aW aN aw az
 generalize wr = tO at *
 have ag := HS.o.bm.cell
 have ao : (m.customs.length : Int) ≤ 9223372036854775807 := by have := lK.o; simp only [maxLen] at this; omega
 go_wp2_with fail
 clear ag
 go_loopw [17, 172] (fun xk fT w' => ∃ (i : Nat) (va : Value), i ≤ m.customs.length ∧ fT = .int .i64 i ∧ Hd (CV Lay.cus 117 g gr (fun _ => False) tO (om (.int .u32 (m.version.toNat : Int)) m zA zB (.slice aC m.functions.length cC) nsV nsV zF zG zH (.slice aI m.codes.length cI) zJ va nsV nsV) 51 w' va (m.customs.take i))) (fun _ fT _ => m.customs.length - (intOf fT).toNat)
 case atStart => exact ⟨0, _, nzQ _, rfl, HS.o.bg, Go.Proofs.YtejgninpjhcgnaaGreatDoor.zK _ _ _ _ _, Fr.refl _ _⟩
 obtain ⟨i, va, hi, rfl, hV⟩ := hrel
 have aW := qh (HS.o.ext hV.o.2.2)
 obtain ⟨aN, aw, az, rfl⟩ := hV.o.2.1.shape
 by_cases ah : i < m.customs.length
 ·obtain ⟨b, o, ay, cy, rfl, e0, e1, r0, r1, hr⟩ := Lay.cus_at2 H.o.1.customs i ah
  have aX := qh (show m.customs.take (i + 1) = _ from tsQ ah)
  generalize m.customs[i] = x at *
  replace e0 := aW.o.c e0
  replace e1 := aW.o.c e1
  have hr := qh hr
  have r0 := qh r0
  have r1 := qh r1
  have fg := hV.o.1.ext (za wr (.cells #[.string (zc x.name), .slice ay x.data.length cy] 100))
  have dY := fg.cell
  have fx := fg.frz
  clear fg
  go_wp2_with (at_builtin; refine Hd.o ?_)
  refine HS.o.appL hV.o (za _ _) (wr.heap.size + 1) (by simp) rfl (.tmp 177) (.tmp 183) _ _ 40 rfl Tryz.underlying48 zam rfl (by omega) (Nat.succ_pos _) x _ rfl rfl (Lay.mono _ (HS.o.rd (Ext.trans aW.o (za _ _)) hr.o) (HS.o.old hV.o.2.1 (Ext.trans aW.o (za _ _)))) (by have := H.o.2.2.len_customs; rw [ltQ]; omega) 13 aX.o ?_
  intro aR aV aU w2 bN hst
  have hst := qh hst
  have db := bN.cell
  have dj := bN.frz
  clear bN dY fx e0 e1
  go_wp2_with fail
  clear db dj
  go_roundw
  case rel => exact ⟨i + 1, _, by omega, by go_num, qh (by simpa using hst.o)⟩
  case measure => simp [intOf]; omega
 obtain rfl : i = m.customs.length := by omega
 have bk := hV.o
 rw [tlQ] at bk
 obtain ⟨zK, hz⟩ : ∃ z, z = Value.slice aN aw az := ⟨_, rfl⟩
 rw [← hz] at bk
 replace HS := qh (HS.o.next bk fun _ _ h k => h.set_customs k)
 clear hV bk hz ao hi ah aW aN aw az
 generalize wr = uC at *
 have ag := HS.o.bm.cell
 have ao : (m.funcs.length : Int) ≤ 9223372036854775807 := by have := lL.o; simp only [maxLen] at this; omega
 go_wp2_with fail
 clear ag
 go_loopw [19, 190] (fun xp ru w' => ∃ (i : Nat) (va : Value), i ≤ m.funcs.length ∧ ru = .int .i64 i ∧ Hd (CV Lay.nam 119 g gr (fun _ => False) uC (om (.int .u32 (m.version.toNat : Int)) m zA zB (.slice aC m.functions.length cC) nsV nsV zF zG zH (.slice aI m.codes.length cI) zJ zK va nsV) 51 w' va (m.funcs.take i))) (fun _ ru _ => m.funcs.length - (intOf ru).toNat)
 case atStart => exact ⟨0, _, nzQ _, rfl, HS.o.bg, Go.Proofs.YtejgninpjhcgnaaGreatDoor.zK _ _ _ _ _, Fr.refl _ _⟩
 obtain ⟨i, va, hi, rfl, hV⟩ := hrel
 have aW := qh (HS.o.ext hV.o.2.2)
 obtain ⟨aN, aw, az, rfl⟩ := hV.o.2.1.shape
 by_cases ah : i < m.funcs.length
 ·obtain ⟨b, o, rfl, e0, e1, e2, r0, hr⟩ := Lay.nam_at2 H.o.1.funcs i ah
  have aX := qh (show m.funcs.take (i + 1) = _ from tsQ ah)
  generalize m.funcs[i] = x at *
  replace e0 := aW.o.c e0
  replace e1 := aW.o.c e1
  replace e2 := aW.o.c e2
  have hr := qh hr
  have r0 := qh r0
  have fg := hV.o.1.ext (za wr (.cells #[.int .u32 (x.fn.toNat : Int), .int .u32 (x.idx.toNat : Int), .string (zc x.name)] 120))
  have dY := fg.cell
  have fx := fg.frz
  clear fg
  go_wp2_with (at_builtin; refine Hd.o ?_)
  refine HS.o.appL hV.o (za _ _) (wr.heap.size + 1) (by simp) rfl (.tmp 195) (.tmp 203) _ _ 24 rfl Tryz.underlying49 Z6 rfl (by omega) (Nat.succ_pos _) x _ rfl rfl (Lay.mono _ (HS.o.rd (Ext.trans aW.o (za _ _)) hr.o) (HS.o.old hV.o.2.1 (Ext.trans aW.o (za _ _)))) (by have := H.o.2.2.len_funcs; rw [ltQ]; omega) 15 aX.o ?_
  intro aR aV aU w2 bN hst
  have hst := qh hst
  have db := bN.cell
  have dj := bN.frz
  clear bN dY fx e0 e1 e2
  go_wp2_with fail
  clear db dj
  go_roundw
  case rel => exact ⟨i + 1, _, by omega, by go_num, qh (by simpa using hst.o)⟩
  case measure => simp [intOf]; omega
 obtain rfl : i = m.funcs.length := by omega
 have bk := hV.o
 rw [tlQ] at bk
 obtain ⟨zL, hz⟩ : ∃ z, z = Value.slice aN aw az := ⟨_, rfl⟩
 rw [← hz] at bk
 replace HS := qh (HS.o.next bk fun _ _ h k => h.set_funcs k)
 clear hV bk hz ao hi ah aW aN aw az
 generalize wr = ux at *
 have ag := HS.o.bm.cell
 have ao : (m.locals.length : Int) ≤ 9223372036854775807 := by have := lM.o; simp only [maxLen] at this; omega
 go_wp2_with fail
 clear ag
 go_loopw [21, 210] (fun rW ke w' => ∃ (i : Nat) (va : Value), i ≤ m.locals.length ∧ ke = .int .i64 i ∧ Hd (CV Lay.nam 119 g gr (fun _ => False) ux (om (.int .u32 (m.version.toNat : Int)) m zA zB (.slice aC m.functions.length cC) nsV nsV zF zG zH (.slice aI m.codes.length cI) zJ zK zL va) 51 w' va (m.locals.take i))) (fun _ ke _ => m.locals.length - (intOf ke).toNat)
 case atStart => exact ⟨0, _, nzQ _, rfl, HS.o.bg, Go.Proofs.YtejgninpjhcgnaaGreatDoor.zK _ _ _ _ _, Fr.refl _ _⟩
 obtain ⟨i, va, hi, rfl, hV⟩ := hrel
 have aW := qh (HS.o.ext hV.o.2.2)
 obtain ⟨aN, aw, az, rfl⟩ := hV.o.2.1.shape
 by_cases ah : i < m.locals.length
 ·obtain ⟨b, o, rfl, e0, e1, e2, r0, hr⟩ := Lay.nam_at2 H.o.1.locals i ah
  have aX := qh (show m.locals.take (i + 1) = _ from tsQ ah)
  generalize m.locals[i] = x at *
  replace e0 := aW.o.c e0
  replace e1 := aW.o.c e1
  replace e2 := aW.o.c e2
  have hr := qh hr
  have r0 := qh r0
  have fg := hV.o.1.ext (za wr (.cells #[.int .u32 (x.fn.toNat : Int), .int .u32 (x.idx.toNat : Int), .string (zc x.name)] 120))
  have dY := fg.cell
  have fx := fg.frz
  clear fg
  go_wp2_with (at_builtin; refine Hd.o ?_)
  refine HS.o.appL hV.o (za _ _) (wr.heap.size + 1) (by simp) rfl (.tmp 215) (.tmp 223) _ _ 24 rfl Tryz.underlying49 Z6 rfl (by omega) (Nat.succ_pos _) x _ rfl rfl (Lay.mono _ (HS.o.rd (Ext.trans aW.o (za _ _)) hr.o) (HS.o.old hV.o.2.1 (Ext.trans aW.o (za _ _)))) (by have := H.o.2.2.len_locals; rw [ltQ]; omega) 16 aX.o ?_
  intro aR aV aU w2 bN hst
  have hst := qh hst
  have db := bN.cell
  have dj := bN.frz
  clear bN dY fx e0 e1 e2
  go_wp2_with fail
  clear db dj
  go_roundw
  case rel => exact ⟨i + 1, _, by omega, by go_num, qh (by simpa using hst.o)⟩
  case measure => simp [intOf]; omega
 obtain rfl : i = m.locals.length := by omega
 have bk := hV.o
 rw [tlQ] at bk
 obtain ⟨zM, hz⟩ : ∃ z, z = Value.slice aN aw az := ⟨_, rfl⟩
 rw [← hz] at bk
 replace HS := qh (HS.o.next bk fun _ _ h k => h.set_locals k)
 clear hV bk hz ao hi ah aW aN aw az
 generalize wr = tL at *
 have ag := HS.o.bm.cell
 have ao : (m.tables.length : Int) ≤ 9223372036854775807 := by have := lD.o; simp only [maxLen] at this; omega
 go_wp2_with fail
 clear ag
 go_loopw [23, 230] (fun Bb rz w' => ∃ (i : Nat) (va : Value), i ≤ m.tables.length ∧ rz = .int .i64 i ∧ Hd (CV Lay.lim 104 g gr (fun _ => False) tL (om (.int .u32 (m.version.toNat : Int)) m zA zB (.slice aC m.functions.length cC) va nsV zF zG zH (.slice aI m.codes.length cI) zJ zK zL zM) 51 w' va (m.tables.take i))) (fun _ rz _ => m.tables.length - (intOf rz).toNat)
 case atStart => exact ⟨0, _, nzQ _, rfl, HS.o.bg, Go.Proofs.YtejgninpjhcgnaaGreatDoor.zK _ _ _ _ _, Fr.refl _ _⟩
 obtain ⟨i, va, hi, rfl, hV⟩ := hrel
 have aW := qh (HS.o.ext hV.o.2.2)
 obtain ⟨aN, aw, az, rfl⟩ := hV.o.2.1.shape
 by_cases ah : i < m.tables.length
 ·obtain ⟨b, o, rfl, e0, e1, e2, hr⟩ := Lay.lim_at2 H.o.1.tables i ah
  have aX := qh (show m.tables.take (i + 1) = _ from tsQ ah)
  generalize m.tables[i] = x at *
  replace e0 := aW.o.c e0
  replace e1 := aW.o.c e1
  replace e2 := aW.o.c e2
  have hr := qh hr
  go_wp2_with fail
  have cg := qh (zk wr #[.int .u32 (x.min.toNat : Int), .bool x.bounded, .int .u32 (x.max.toNat : Int)] 63)
  have bl := qh (za wr (.cells #[.int .u32 (x.min.toNat : Int), .bool x.bounded, .int .u32 (x.max.toNat : Int)] 63))
  generalize (wr.alloc (.cells #[.int .u32 (x.min.toNat : Int), .bool x.bounded, .int .u32 (x.max.toNat : Int)] 63)) = W4 at *
  obtain ⟨ge, aZ⟩ := exQ (wr.heap.size)
  rw [aZ] at cg ⊢
  clear aZ e0 e1 e2
  refine zi JS [kT 0, kT 1, kT 2, kR 3, kR 4, kL 5, kT 6, kL 7] (by kernel_rfl) (by kernel_rfl) ?_
  simp only [zy, gzQ, gsQ]
  have HC := qh (fun W' (h : Ext W4.drew W') => anQ (cg.o.ext (Ext.trans (zb _) h)).cell (hV.o.1.ext (Ext.trans bl.o (Ext.trans (zb _) h))).cell)
  have bQ := qh (Ext.trans bl.o (zb W4))
  generalize W4.drew = W5 at *
  repeat (apply item_take; rfl; rfl; rfl; rfl; exact fun _ _ _ _ h => h; (intro W e _ k; have q := HC.o W e; go_simp; exact k))
  apply ze; rfl; intro K hK; go_simp
  refine (j6 x W5).mono ?_
  rintro e w6 ⟨rfl, x6⟩
  refine hK _ _ x6 ?_
  have H6 := qh (anQ (Ext.trans bQ.o x6) trivial)
  clear hK K x6 cg
  repeat (apply item_take; rfl; rfl; rfl; rfl; exact fun _ _ _ _ h => h; (intro _ _ _ k; go_simp; exact k))
  apply ze; rfl; intro K hK; go_simp
  refine hK _ _ (za _ _) ?_
  clear hK K
  apply zu; rfl; intro K hK
  refine HS.o.app hV.o H6.o.1 w6.heap.size rfl (.tmp 235) (.tmp 238) _ _ 12 rfl Tryz.underlying43 ZO rfl (by omega) (Nat.succ_pos _) x _ rfl rfl (Lay.mono _ (HS.o.rd (Ext.trans aW.o H6.o.1) hr.o) (HS.o.old hV.o.2.1 (Ext.trans aW.o H6.o.1))) (by have := H.o.2.2.len_tables; rw [ltQ]; omega) 6 aX.o ?_
  intro aR aV aU w2 bN hst
  refine hK _ _ ?_
  clear hK K
  have hst := qh hst
  have db := bN.cell
  have dj := bN.frz
  clear bN HC
  repeat (apply item_take; rfl; rfl; rfl; rfl; exact fun _ _ _ _ h => h; (intro _ _ _ k; go_simp; exact k))
  apply zu; rfl; intro K hK; go_simp
  refine hK _ _ ?_
  clear hK K
  apply zl
  clear db dj
  go_wp2
  go_roundw
  case rel => exact ⟨i + 1, _, by omega, by go_num, qh (by simpa using hst.o)⟩
  case measure => simp [intOf]; omega
 obtain rfl : i = m.tables.length := by omega
 have bk := hV.o
 rw [tlQ] at bk
 obtain ⟨zD, hz⟩ : ∃ z, z = Value.slice aN aw az := ⟨_, rfl⟩
 rw [← hz] at bk
 replace HS := qh (HS.o.next bk fun _ _ h k => h.set_tables k)
 clear hV bk hz ao hi ah aW aN aw az
 generalize wr = mZ at *
 have ag := HS.o.bm.cell
 have ao : (m.memories.length : Int) ≤ 9223372036854775807 := by have := lE.o; simp only [maxLen] at this; omega
 go_wp2_with fail
 clear ag
 go_loopw [25, 245] (fun AO rp w' => ∃ (i : Nat) (va : Value), i ≤ m.memories.length ∧ rp = .int .i64 i ∧ Hd (CV Lay.lim 104 g gr (fun _ => False) mZ (om (.int .u32 (m.version.toNat : Int)) m zA zB (.slice aC m.functions.length cC) zD va zF zG zH (.slice aI m.codes.length cI) zJ zK zL zM) 51 w' va (m.memories.take i))) (fun _ rp _ => m.memories.length - (intOf rp).toNat)
 case atStart => exact ⟨0, _, nzQ _, rfl, HS.o.bg, Go.Proofs.YtejgninpjhcgnaaGreatDoor.zK _ _ _ _ _, Fr.refl _ _⟩
 obtain ⟨i, va, hi, rfl, hV⟩ := hrel
 have aW := qh (HS.o.ext hV.o.2.2)
 obtain ⟨aN, aw, az, rfl⟩ := hV.o.2.1.shape
 by_cases ah : i < m.memories.length
 ·obtain ⟨b, o, rfl, e0, e1, e2, hr⟩ := Lay.lim_at2 H.o.1.memories i ah
  have aX := qh (show m.memories.take (i + 1) = _ from tsQ ah)
  generalize m.memories[i] = x at *
  replace e0 := aW.o.c e0
  replace e1 := aW.o.c e1
  replace e2 := aW.o.c e2
  have hr := qh hr
  go_wp2_with fail
  have cg := qh (zk wr #[.int .u32 (x.min.toNat : Int), .bool x.bounded, .int .u32 (x.max.toNat : Int)] 63)
  have bl := qh (za wr (.cells #[.int .u32 (x.min.toNat : Int), .bool x.bounded, .int .u32 (x.max.toNat : Int)] 63))
  generalize (wr.alloc (.cells #[.int .u32 (x.min.toNat : Int), .bool x.bounded, .int .u32 (x.max.toNat : Int)] 63)) = W4 at *
  obtain ⟨ge, aZ⟩ := exQ (wr.heap.size)
  rw [aZ] at cg ⊢
  clear aZ e0 e1 e2
  refine zi JS [kT 0, kT 1, kT 2, kR 3, kR 4, kL 5, kT 6, kL 7] (by kernel_rfl) (by kernel_rfl) ?_
  simp only [zy, gzQ, gsQ]
  have HC := qh (fun W' (h : Ext W4.drew W') => anQ (cg.o.ext (Ext.trans (zb _) h)).cell (hV.o.1.ext (Ext.trans bl.o (Ext.trans (zb _) h))).cell)
  have bQ := qh (Ext.trans bl.o (zb W4))
  generalize W4.drew = W5 at *
  repeat (apply item_take; rfl; rfl; rfl; rfl; exact fun _ _ _ _ h => h; (intro W e _ k; have q := HC.o W e; go_simp; exact k))
  apply ze; rfl; intro K hK; go_simp
  refine (j6 x W5).mono ?_
  rintro e w6 ⟨rfl, x6⟩
  refine hK _ _ x6 ?_
  have H6 := qh (anQ (Ext.trans bQ.o x6) trivial)
  clear hK K x6 cg
  repeat (apply item_take; rfl; rfl; rfl; rfl; exact fun _ _ _ _ h => h; (intro _ _ _ k; go_simp; exact k))
  apply ze; rfl; intro K hK; go_simp
  refine hK _ _ (za _ _) ?_
  clear hK K
  apply zu; rfl; intro K hK
  refine HS.o.app hV.o H6.o.1 w6.heap.size rfl (.tmp 250) (.tmp 253) _ _ 12 rfl Tryz.underlying43 ZO rfl (by omega) (Nat.succ_pos _) x _ rfl rfl (Lay.mono _ (HS.o.rd (Ext.trans aW.o H6.o.1) hr.o) (HS.o.old hV.o.2.1 (Ext.trans aW.o H6.o.1))) (by have := H.o.2.2.len_memories; rw [ltQ]; omega) 7 aX.o ?_
  intro aR aV aU w2 bN hst
  refine hK _ _ ?_
  clear hK K
  have hst := qh hst
  have db := bN.cell
  have dj := bN.frz
  clear bN HC
  repeat (apply item_take; rfl; rfl; rfl; rfl; exact fun _ _ _ _ h => h; (intro _ _ _ k; go_simp; exact k))
  apply zu; rfl; intro K hK; go_simp
  refine hK _ _ ?_
  clear hK K
  apply zl
  clear db dj
  go_wp2
  go_roundw
  case rel => exact ⟨i + 1, _, by omega, by go_num, qh (by simpa using hst.o)⟩
  case measure => simp [intOf]; omega
 obtain rfl : i = m.memories.length := by omega
 have bk := hV.o
 rw [tlQ] at bk
 obtain ⟨zE, hz⟩ : ∃ z, z = Value.slice aN aw az := ⟨_, rfl⟩
 rw [← hz] at bk
 replace HS := qh (HS.o.next bk fun _ _ h k => h.set_memories k)
 clear hV bk hz ao hi ah aW aN aw az
 generalize wr = i7 at *
 have ag := HS.o.bm.cell
 clear ag
 go_upto_region 57 with fail
 refine wp_region_lit ?_
 refine HS.o.bg.wpList_load rfl 51 (.tmp 3) rfl rfl _ Tryz.underlying51 rfl (by kernel_rfl) ?_
 refine HS.o.br.wpList_store rfl 51 (.tmp 2) (.tmp 257) rfl rfl rfl (by kernel_rfl) rfl ?_ ?_
 ·have oA := Lay.slice_one HS.o.md.types
  have oB := Lay.slice_one HS.o.md.imports
  have oC := Lay.slice_one HS.o.md.functions
  have oD := Lay.slice_one HS.o.md.tables
  have oE := Lay.slice_one HS.o.md.memories
  have oF := Lay.slice_one HS.o.md.elements
  have oG := Lay.slice_one HS.o.md.globals
  have oH := Lay.slice_one HS.o.md.exports
  have oI := Lay.slice_one HS.o.md.codes
  have oJ := Lay.slice_one HS.o.md.datas
  have oK := Lay.slice_one HS.o.md.customs
  have oL := Lay.slice_one HS.o.md.funcs
  have oM := Lay.slice_one HS.o.md.locals
  show List.all [.int .u32 (m.version.toNat : Int), .bool m.hasStart, .int .u32 (m.start.toNat : Int), zA, zB, .slice aC m.functions.length cC, zD, zE, zF, zG, zH, .slice aI m.codes.length cI, zJ, zK, .string (zc m.named), zL, zM] (·.oneCell') = true
  simp only [List.all_cons, List.all_nil, oA, oB, oC, oD, oE, oF, oG, oH, oI, oJ, oK, oL, oM]
  rfl
 refine wpList_nil ?_
 go_wp2
 have hs := yE i7 gr #[.int .u32 (m.version.toNat : Int), .bool m.hasStart, .int .u32 (m.start.toNat : Int), zA, zB, .slice aC m.functions.length cC, zD, zE, zF, zG, zH, .slice aI m.codes.length cI, zJ, zK, .string (zc m.named), zL, zM]
 have dG := HS.o.br.setRow #[.int .u32 (m.version.toNat : Int), .bool m.hasStart, .int .u32 (m.start.toNat : Int), zA, zB, .slice aC m.functions.length cC, zD, zE, zF, zG, zH, .slice aI m.codes.length cI, zJ, zK, .string (zc m.named), zL, zM]
 have hX := qh (Fr.new (Ext.fr HS.o.x hs) (fun k e => by have e' : k = gr := e; have := HS.o.lo; omega))
 have ai := qh (show ModAt n (fun k => k < (i7.setRow gr #[.int .u32 (m.version.toNat : Int), .bool m.hasStart, .int .u32 (m.start.toNat : Int), zA, zB, .slice aC m.functions.length cC, zD, zE, zF, zG, zH, .slice aI m.codes.length cI, zJ, zK, .string (zc m.named), zL, zM]).heap.size) (i7.setRow gr #[.int .u32 (m.version.toNat : Int), .bool m.hasStart, .int .u32 (m.start.toNat : Int), zA, zB, .slice aC m.functions.length cC, zD, zE, zF, zG, zH, .slice aI m.codes.length cI, zJ, zK, .string (zc m.named), zL, zM]) m ⟨zA, zB, .slice aC m.functions.length cC, zD, zE, zF, zG, zH, .slice aI m.codes.length cI, zJ, zK, zL, zM⟩ from
  (HS.o.md.fr hs (fun k hk => ⟨hk.2, fun e => hk.1 (.inr (.inl e))⟩)).mono (fun k hk => nqQ hk.2 hs.size))
 exact bodyPost_ret (v := .agg #[.int .u32 (m.version.toNat : Int), .bool m.hasStart, .int .u32 (m.start.toNat : Int), zA, zB, .slice aC m.functions.length cC, zD, zE, zF, zG, zH, .slice aI m.codes.length cI, zJ, zK, .string (zc m.named), zL, zM]) (jG Tryz.results15 _ rfl dG _ Tryz.underlying51 rfl (by kernel_rfl)) rfl ⟨⟨zA, zB, .slice aC m.functions.length cC, zD, zE, zF, zG, zH, .slice aI m.codes.length cI, zJ, zK, zL, zM⟩, rfl, ai.o, hX.o⟩
theorem Fr.cB {v : Value} (h : Ext w w') (e : w.cell? p = some v) : w'.cell? p = some v := h.cell e (fun q => q)
variable {A' : Nat → Prop}
theorem zdL.mono {hs : Bool} {st : UInt32} {q : Option Addr} (h : zdL A w hs st q) (hf : ∀ k, A k → A' k) : zdL A' w hs st q := by
 rcases h with h | ⟨h, b, o, bO, T, fz, e, hA, r⟩
 ·exact .inl h
 ·exact .inr ⟨h, b, o, bO, T, fz, e, hf b hA, r⟩
variable {v : WV}
theorem WAt.fr {S : Nat → Prop} (h : WAt n A w m v) (hf : Fr S w w') (ha : ∀ k, A k → k < w.heap.size ∧ ¬ S k) : WAt n A w' m v :=
 ⟨by obtain ⟨q, e, k⟩ := h.start; exact ⟨q, e, k.fr hf ha⟩, Lay.fr h.types hf ha, Lay.fr h.imports hf ha, Lay.fr h.functions hf ha, Lay.fr h.tables hf ha, Lay.fr h.memories hf ha, Lay.fr h.elements hf ha, Lay.fr h.globals hf ha, Lay.fr h.exports hf ha, Lay.fr h.codes hf ha, Lay.fr h.datas hf ha, Lay.fr h.customs hf ha, Lay.fr h.funcs hf ha, Lay.fr h.locals hf ha⟩
theorem WAt.mono (h : WAt n A w m v) (hf : ∀ k, A k → A' k) : WAt n A' w m v :=
 ⟨by obtain ⟨q, e, k⟩ := h.start; exact ⟨q, e, k.mono hf⟩, Lay.mono _ h.types hf, Lay.mono _ h.imports hf, Lay.mono _ h.functions hf, Lay.mono _ h.tables hf, Lay.mono _ h.memories hf, Lay.mono _ h.elements hf, Lay.mono _ h.globals hf, Lay.mono _ h.exports hf, Lay.mono _ h.codes hf, Lay.mono _ h.datas hf, Lay.mono _ h.customs hf, Lay.mono _ h.funcs hf, Lay.mono _ h.locals hf⟩
variable {x : Value}
theorem WAt.set_types (h : WAt n A w m v) {xs : List FT} (hx : Lay.ft.slice.rd A w [x] xs) : WAt n A w { m with types := xs } { v with types := x } := { h with types := hx }
theorem WAt.set_imports (h : WAt n A w m v) {xs : List Imp} (hx : Lay.wimp.slice.rd A w [x] xs) : WAt n A w { m with imports := xs } { v with imports := x } := { h with imports := hx }
theorem WAt.set_functions (h : WAt n A w m v) {xs : List UInt32} (hx : Lay.u32.slice.rd A w [x] xs) : WAt n A w { m with functions := xs } { v with functions := x } := { h with functions := hx }
variable {xs : List Lim}
theorem WAt.set_tables (h : WAt n A w m v) (hx : Lay.wtab.slice.rd A w [x] xs) : WAt n A w { m with tables := xs } { v with tables := x } := { h with tables := hx }
theorem WAt.set_memories (h : WAt n A w m v) (hx : Lay.wlim.slice.rd A w [x] xs) : WAt n A w { m with memories := xs } { v with memories := x } := { h with memories := hx }
theorem WAt.set_elements (h : WAt n A w m v) {xs : List Elem} (hx : (Lay.welem n).slice.rd A w [x] xs) : WAt n A w { m with elements := xs } { v with elements := x } := { h with elements := hx }
theorem WAt.set_globals (h : WAt n A w m v) {xs : List Glob} (hx : (Lay.wglob n).slice.rd A w [x] xs) : WAt n A w { m with globals := xs } { v with globals := x } := { h with globals := hx }
theorem WAt.set_exports (h : WAt n A w m v) {xs : List Expo} (hx : Lay.expo.slice.rd A w [x] xs) : WAt n A w { m with exports := xs } { v with exports := x } := { h with exports := hx }
theorem WAt.set_codes (h : WAt n A w m v) {xs : List (List UInt8)} (hx : Lay.wraw.slice.rd A w [x] xs) : WAt n A w { m with codes := xs } { v with codes := x } := { h with codes := hx }
theorem WAt.set_datas (h : WAt n A w m v) {xs : List Dat} (hx : (Lay.wdat n).slice.rd A w [x] xs) : WAt n A w { m with datas := xs } { v with datas := x } := { h with datas := hx }
theorem WAt.set_customs (h : WAt n A w m v) {xs : List Cus} (hx : Lay.cus.slice.rd A w [x] xs) : WAt n A w { m with customs := xs } { v with customs := x } := { h with customs := hx }
theorem WAt.set_funcs (h : WAt n A w m v) {xs : List Nam} (hx : Lay.wnam.slice.rd A w [x] xs) : WAt n A w { m with funcs := xs } { v with funcs := x } := { h with funcs := hx }
theorem WAt.set_locals (h : WAt n A w m v) {xs : List Nam} (hx : Lay.nam.slice.rd A w [x] xs) : WAt n A w { m with locals := xs } { v with locals := x } := { h with locals := hx }
structure BS (w : World) (A X : Nat → Prop) (gm g : Nat) (MC OC : Array Value) (Tm T : TypeId) (n : Nat) (W : World) (m : Mod) (v : WV) : Prop where
 bm : Blk W gm MC Tm
 bg : Blk W g OC T
 md : WAt n (fun k => ¬ (k = g ∨ X k) ∧ k < W.heap.size) W m v
 x : Ext w W
 lo : w.heap.size ≤ gm ∧ gm < g
 hA : ∀ k, A k → k < w.heap.size
 hX : ∀ k, X k → k < w.heap.size ∧ ¬ A k
abbrev BV {α : Type} (l : Lay α) (e : TypeId) (g : Nat) (X : Nat → Prop) (W0 : World) (OC : Array Value) (T : TypeId) (W : World) (va : Value) (xs : List α) : Prop :=
 Blk W g OC T ∧ OwnG l e W0.heap.size (fun k => k = g ∨ X k) W va xs ∧ Fr (fun k => k = g) W0 W
section
variable {w : World} {A X : Nat → Prop} {gm g : Nat} {MC OC ga : Array Value} {Tm T : TypeId} {n : Nat} {W W' W0 W1 : World} {m m1 : Mod} {v v1 : WV} {α : Type} {l : Lay α} {e : TypeId} {va : Value} {xs lp : List α} {Y : Nat → Prop}
theorem BS.rd (h : BS w A X gm g MC OC Tm T n W0 m v) {β : Type} {k : Lay β} {cs : List Value} {y : β} (hx : Ext w W) (r : k.rd A w cs y) : k.rd A W cs y := Lay.fr r hx (fun j hj => ⟨h.hA j hj, fun q => q⟩)
theorem BS.lt (h : BS w A X gm g MC OC Tm T n W0 m v) (hx : Ext w W) : ∀ k, A k → k < W.heap.size := fun k hk => nqQ (h.hA k hk) hx.size
theorem BS.ext (h : BS w A X gm g MC OC Tm T n W0 m v) (hf : Fr (fun k => k = g) W0 W) : Ext w W := Fr.new (Ext.fr h.x hf) (fun k q => by have q' : k = g := q; have := h.lo; omega)
theorem BS.old (h : BS w A X gm g MC OC Tm T n W0 m v) (hO : OwnG l e W0.heap.size Y W1 va xs) (hx : Ext w W) : ∀ k, A k → ¬ (k = g ∨ X k) ∧ k < W.heap.size ∧ some k ≠ va.ownBlock := fun k hk => by
 have h1 := h.hA k hk
 have h2 := h.lo
 have h3 := h.x.size
 have h4 := hx.size
 refine ⟨fun q => ?_, by omega, fun q => by have := (hO.lt k q.symm).1; omega⟩
 rcases q with q | q
 ·omega
 ·exact (h.hX k q).2 hk
theorem BS.new (h : BS w A X gm g MC OC Tm T n W0 m v) (hO : OwnG l e W0.heap.size Y W1 va xs) (h0 : W0.heap.size ≤ W1.heap.size) (h1 : W1.heap.size ≤ W.heap.size) : ∀ k, W.heap.size ≤ k ∧ k < W'.heap.size → ¬ (k = g ∨ X k) ∧ k < W'.heap.size ∧ some k ≠ va.ownBlock := fun k hk => by
 have h2 := h.bg.lt
 have h4 := h.x.size
 refine ⟨fun q => ?_, hk.2, fun q => by have := (hO.lt k q.symm).2; omega⟩
 rcases q with q | q
 ·omega
 ·have := (h.hX k q).1; omega
theorem BS.next (h : BS w A X gm g MC OC Tm T n W0 m v) (hV : BV l e g X W0 ga T W va xs) (gG : ∀ (B : Nat → Prop) (W : World), WAt n B W m v → l.slice.rd B W [va] xs → WAt n B W m1 v1) : BS w A X gm g MC ga Tm T n W m1 v1 := by
 have hs := hV.2.2.size
 have h2 := h.bg.lt
 have h4 := h.x.size
 refine ⟨h.bm.fr hV.2.2 (fun q => by have q' : gm = g := q; have := h.lo; omega), hV.1, gG _ _ ((h.md.fr hV.2.2 (fun k hk => ⟨hk.2, fun q => hk.1 (.inl q)⟩)).mono (fun k hk => ⟨hk.1, nqQ hk.2 hs⟩)) (hV.2.1.slice (fun k hk q => ?_)), h.ext hV.2.2, h.lo, h.hA, h.hX⟩
 rcases q with q | q
 ·omega
 ·have := (h.hX k q).1; omega
theorem BS.store (h : BS w A X gm g MC OC Tm T n W m v) (f : Nat) (x : Value) (gG : ∀ (B : Nat → Prop) (W : World), (∀ k, A k → B k) → Ext w W → WAt n B W m v → WAt n B W m1 v1) : BS w A X gm g MC (OC.setIfInBounds f x) Tm T n (W.setCell ⟨g, f, none⟩ x) m1 v1 := by
 have hf : Fr (fun k => k = g) W (W.setCell ⟨g, f, none⟩ x) := zh W ⟨g, f, none⟩ x
 have hx := h.ext hf
 have hs := hf.size
 refine ⟨h.bm.fr hf (fun q => by have q' : gm = g := q; have := h.lo; omega), h.bg.set f x, gG _ _ (fun k hk => ?_) hx ((h.md.fr hf (fun k hk => ⟨hk.2, fun q => hk.1 (.inl q)⟩)).mono (fun k hk => ⟨hk.1, nqQ hk.2 hs⟩)), hx, h.lo, h.hA, h.hX⟩
 have h1 := h.hA k hk
 have h2 := h.lo
 have h3 := hx.size
 refine ⟨fun q => ?_, by omega⟩
 rcases q with q | q
 ·omega
 ·exact (h.hX k q).2 hk
theorem BS.step (h : BS w A X gm g MC OC Tm T n W0 m v) {W1 W2 : World} {v1 : Value} (hV : BV l e g X W0 ga T W va xs) (hx : Ext W W1) (f : Nat) (h1 : OwnG l e W0.heap.size (fun k => k = g ∨ X k) W2 v1 lp) (h2 : Fr (fun k => some k = va.ownBlock) W1 W2) :
 Blk W2 g ga T ∧ BV l e g X W0 (ga.setIfInBounds f v1) T (W2.setCell ⟨g, f, none⟩ v1) v1 lp :=
 ze1 (f := f) (hV.1.ext hx) (hV.2.1.ext hx) (hV.2.2.ext hx) (.inl rfl) h.bg.lt rfl h1 h2
section
variable {P : Program} {ar : Array Oper} {rest : List Oper} {o : Oper} {a : Act} {Q : Exit → Act → World → Prop} {K : Act → World → Prop}
theorem BS.app (h : BS w A X gm g MC OC Tm T n W0 m v) (hV : BV l e g X W0 ga T W va xs) (hx : Ext W W1) (k : Nat) (hn : W1.heap.size = k) (s x : Operand) (t : TypeId) (z : Value) (bytes : Nat)
 (ho : o.op = .call { callee := .builtin .append, args := #[s, x], argTypes := #[t, t] }) (ht : P.underlying t = some (.slice e)) (bj : (P.info? e).map (fun i => (i.zero, i.size, i.bytes)) = some (some z, l.size, bytes)) (hz : z.cells.size = l.size) (ct : 0 < bytes) (dr : 0 < l.size)
 (y : α) (cs : Array Value) (hs : a.eval s = va) (qi : a.eval x = .slice (some ⟨k, 0, none⟩) 1 1) (HY : l.rd (fun k => ¬ (k = g ∨ X k) ∧ k < W1.heap.size ∧ some k ≠ va.ownBlock) W1 cs.toList y)
 (hl : (xs.length + 1) * bytes ≤ 140737488355328) (f : Nat) (pV : lp = xs ++ [y])
 (hc : ∀ v1 v2 v3 w1, Blk w1 g ga T → BV l e g X W0 (ga.setIfInBounds f (.slice v1 v2 v3)) T (w1.setCell ⟨g, f, none⟩ (.slice v1 v2 v3)) (.slice v1 v2 v3) lp → Fr (fun k => W0.heap.size ≤ k ∧ k < W.heap.size) (W1.alloc (.cells cs e)) w1 → K (a.put o.dst (.slice v1 v2 v3)) w1) : o.wp P a (W1.alloc (.cells cs e)) K Q := by
 subst hn
 refine zY l W0.heap.size s x t e z bytes ho ht bj hz ct dr va xs y cs hs qi (hV.2.1.ext hx) HY (nlQ hV.2.2.size hx.size) hl ?_
 intro u w1 h1 h2 h5 _
 obtain ⟨u1, u2, u3, rfl⟩ := h1.shape
 obtain ⟨h3, h4⟩ := h.step hV hx f h1 h2
 rw [← pV] at h4
 exact hc _ _ _ _ h3 h4 (h5.mono fun k _ e => hV.2.1.lt k e.symm)
theorem BS.appL (h : BS w A X gm g MC OC Tm T n W0 m v) (hV : BV l e g X W0 ga T W va xs) (hx : Ext W W1) (k : Nat) (hn : W1.heap.size = k) (ir : o.guard = none) (s x : Operand) (t : TypeId) (z : Value) (bytes : Nat)
 (ho : o.op = .call { callee := .builtin .append, args := #[s, x], argTypes := #[t, t] }) (ht : P.underlying t = some (.slice e)) (bj : (P.info? e).map (fun i => (i.zero, i.size, i.bytes)) = some (some z, l.size, bytes)) (hz : z.cells.size = l.size) (ct : 0 < bytes) (dr : 0 < l.size)
 (y : α) (cs : Array Value) (hs : a.eval s = va) (qi : a.eval x = .slice (some ⟨k, 0, none⟩) 1 1) (HY : l.rd (fun k => ¬ (k = g ∨ X k) ∧ k < W1.heap.size ∧ some k ≠ va.ownBlock) W1 cs.toList y)
 (hl : (xs.length + 1) * bytes ≤ 140737488355328) (f : Nat) (pV : lp = xs ++ [y])
 (hc : ∀ v1 v2 v3 w1, Blk w1 g ga T → BV l e g X W0 (ga.setIfInBounds f (.slice v1 v2 v3)) T (w1.setCell ⟨g, f, none⟩ (.slice v1 v2 v3)) (.slice v1 v2 v3) lp → Fr (fun k => W0.heap.size ≤ k ∧ k < W.heap.size) (W1.alloc (.cells cs e)) w1 → wpList P ar Q rest (a.put o.dst (.slice v1 v2 v3)) w1) : wpList P ar Q (o :: rest) a (W1.alloc (.cells cs e)) :=
 wpList_plain ir fun _ hK => h.app hV hx k hn s x t z bytes ho ht bj hz ct dr y cs hs qi HY hl f pV fun v1 v2 v3 w1 h1 h2 h3 => hK _ _ (hc v1 v2 v3 w1 h1 h2 h3)
end
end
abbrev nsW : Value := .slice none 0 0
abbrev wom (m : Mod) (q : Value) (v2 v3 v4 v5 v6 v7 v8 v9 u4 vu vr : Value) (nm : List UInt8) (Cp ez : Value) : Array Value := #[.int .u32 (m.version.toNat : Int), q, v2, v3, v4, v5, v6, v7, v8, v9, u4, vu, vr, .string (zc nm), Cp, ez]
end Go.Proofs.YtejgninpjhcgnaaGreatDoor
