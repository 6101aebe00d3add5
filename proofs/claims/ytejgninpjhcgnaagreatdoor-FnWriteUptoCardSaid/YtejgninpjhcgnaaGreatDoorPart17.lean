/- Texts of this proof, one behind the other. -/
import Derived.Test.YtejgninpjhcgnaaGreatDoorPart16
import Derived.Test.YtejgninpjhcgnaaGreatDoorPart14
namespace Go.Proofs.YtejgninpjhcgnaaGreatDoor
open Go.RowKit
set_option linter.unusedSimpArgs false
set_option linter.unusedVariables false
set_option maxRecDepth 100000
set_option maxHeartbeats 16000000
def kq0 (_ : Mod) : List UInt8 := []
def kq1 (m : Mod) : List UInt8 := kq0 m ++ (j7 m)
def kq2 (m : Mod) : List UInt8 := kq1 m ++ (uleb m.types.length ++ m.types.flatMap JI)
def kq3 (m : Mod) : List UInt8 := kq2 m ++ (uleb m.imports.length ++ m.imports.flatMap yR)
def kq4 (m : Mod) : List UInt8 := kq3 m ++ (Zl m.functions)
def kq5 (m : Mod) : List UInt8 := kq4 m ++ (jD m.tables)
def kq6 (m : Mod) : List UInt8 := kq5 m ++ (jD m.memories)
def kq7 (m : Mod) : List UInt8 := kq6 m ++ (uleb m.elements.length ++ m.elements.flatMap yF)
def kq8 (m : Mod) : List UInt8 := kq7 m ++ (uleb m.globals.length ++ m.globals.flatMap yG)
def kq9 (m : Mod) : List UInt8 := kq8 m ++ (uleb m.exports.length ++ m.exports.flatMap ym)
def kq10 (m : Mod) : List UInt8 := kq9 m ++ (uleb m.codes.length ++ m.codes.flatMap zw)
def kq11 (m : Mod) : List UInt8 := kq10 m ++ (uleb m.datas.length ++ m.datas.flatMap jf)
def kq12 (m : Mod) : List UInt8 := kq11 m ++ (uleb m.customs.length ++ m.customs.flatMap y8)
def kq13 (m : Mod) : List UInt8 := kq12 m ++ (zw m.named)
def kq14 (m : Mod) : List UInt8 := kq13 m ++ (jX m.funcs)
def kq15 (m : Mod) : List UInt8 := kq14 m ++ (jX (Jw m.locals))
theorem yy (m : Mod) : kq15 m = yn m := by simp only [kq0, kq1, kq2, kq3, kq4, kq5, kq6, kq7, kq8, kq9, kq10, kq11, kq12, kq13, kq14, kq15, yn, List.nil_append]
variable {m : Mod}
theorem kcap0 (h : (yn m).length ≤ 2147483648) : (kq1 m).length ≤ 2147483648 := by
 rw [← yy] at h
 simp only [kq2, kq3, kq4, kq5, kq6, kq7, kq8, kq9, kq10, kq11, kq12, kq13, kq14, kq15, laQ] at h
 omega
theorem kcap1 (h : (yn m).length ≤ 2147483648) : (kq2 m).length ≤ 2147483648 := by
 rw [← yy] at h
 simp only [kq3, kq4, kq5, kq6, kq7, kq8, kq9, kq10, kq11, kq12, kq13, kq14, kq15, laQ] at h
 omega
theorem kcap2 (h : (yn m).length ≤ 2147483648) : (kq3 m).length ≤ 2147483648 := by
 rw [← yy] at h
 simp only [kq4, kq5, kq6, kq7, kq8, kq9, kq10, kq11, kq12, kq13, kq14, kq15, laQ] at h
 omega
theorem kcap3 (h : (yn m).length ≤ 2147483648) : (kq4 m).length ≤ 2147483648 := by
 rw [← yy] at h
 simp only [kq5, kq6, kq7, kq8, kq9, kq10, kq11, kq12, kq13, kq14, kq15, laQ] at h
 omega
theorem kcap4 (h : (yn m).length ≤ 2147483648) : (kq5 m).length ≤ 2147483648 := by
 rw [← yy] at h
 simp only [kq6, kq7, kq8, kq9, kq10, kq11, kq12, kq13, kq14, kq15, laQ] at h
 omega
theorem kcap5 (h : (yn m).length ≤ 2147483648) : (kq6 m).length ≤ 2147483648 := by
 rw [← yy] at h
 simp only [kq7, kq8, kq9, kq10, kq11, kq12, kq13, kq14, kq15, laQ] at h
 omega
theorem kcap6 (h : (yn m).length ≤ 2147483648) : (kq7 m).length ≤ 2147483648 := by
 rw [← yy] at h
 simp only [kq8, kq9, kq10, kq11, kq12, kq13, kq14, kq15, laQ] at h
 omega
theorem kcap7 (h : (yn m).length ≤ 2147483648) : (kq8 m).length ≤ 2147483648 := by
 rw [← yy] at h
 simp only [kq9, kq10, kq11, kq12, kq13, kq14, kq15, laQ] at h
 omega
theorem kcap8 (h : (yn m).length ≤ 2147483648) : (kq9 m).length ≤ 2147483648 := by
 rw [← yy] at h
 simp only [kq10, kq11, kq12, kq13, kq14, kq15, laQ] at h
 omega
theorem kcap9 (h : (yn m).length ≤ 2147483648) : (kq10 m).length ≤ 2147483648 := by
 rw [← yy] at h
 simp only [kq11, kq12, kq13, kq14, kq15, laQ] at h
 omega
theorem zks (h : (yn m).length ≤ 2147483648) : (kq11 m).length ≤ 2147483648 := by
 rw [← yy] at h
 simp only [kq12, kq13, kq14, kq15, laQ] at h
 omega
theorem zkt (h : (yn m).length ≤ 2147483648) : (kq12 m).length ≤ 2147483648 := by
 rw [← yy] at h
 simp only [kq13, kq14, kq15, laQ] at h
 omega
theorem zku (h : (yn m).length ≤ 2147483648) : (kq13 m).length ≤ 2147483648 := by
 rw [← yy] at h
 simp only [kq14, kq15, laQ] at h
 omega
theorem zkv (h : (yn m).length ≤ 2147483648) : (kq14 m).length ≤ 2147483648 := by
 rw [← yy] at h
 simp only [kq15, laQ] at h
 omega
theorem zkw (h : (yn m).length ≤ 2147483648) : (kq15 m).length ≤ 2147483648 := by rw [yy]; exact h
theorem zdU (n : Nat) : 1 ≤ (uleb n).length := by
 by_cases h : n < 128
 ·rw [jF h]; simp
 ·rw [Zy (by omega), List.length_cons]; omega
theorem zhh (l : List Int) : l.length ≤ (l.flatMap Jc).length := by
 induction l with
 | nil => simp
 | cons x xs ih => have : 1 ≤ (Jc x).length := zdU _; simp only [List.flatMap_cons, laQ, List.length_cons]; omega
theorem zfS (t : FT) : t.ps.length + t.rs.length ≤ (JI t).length := by
 have h1 := zhh t.ps
 have h2 := zhh t.rs
 simp only [JI, zw, J4, Z3, laQ]
 omega
theorem zjD (l : List Nam) : l.length ≤ (jX l).length := by
 have key : ∀ l : List Nam, l.length ≤ (l.flatMap yM).length := by
  intro l
  induction l with
  | nil => simp
  | cons x xs ih => have h := zdU x.fn.toNat; simp only [List.flatMap_cons, yM, laQ, List.length_cons] at *; omega
 have := key l
 simp only [jX, laQ]
 omega
variable {w : World} {g : Nat}
theorem zjE {x : Lim} {T : TypeId} (h : Blk w g #[.int .u32 (x.min.toNat : Int), .bool x.bounded, .int .u32 (x.max.toNat : Int)] T) : Lay.lim.slice.rd (fun k => k = g) w [.slice (some ⟨g, 0, none⟩) 1 1] [x] :=
 ⟨_, 1, rfl, Nat.le_refl _, by decide, fun _ => ⟨g, 0, _, T, (0, 0), [.int .u32 (x.min.toNat : Int), .bool x.bounded, .int .u32 (x.max.toNat : Int)], rfl, rfl, h, Lay.all_single ⟨[_], [_, _], rfl, rfl, [_], [_], rfl, rfl, rfl⟩, fun j hj => by simp⟩⟩
variable {A : Nat → Prop}
theorem KSt.away {lo : Nat} {pre : List UInt8} {wc : World} {bx : List (Nat × Array Value × TypeId)} (h : KSt w lo g pre wc bx) (hw : w.heap.size ≤ lo) (hA : ∀ k, A k → k < w.heap.size) : Away yx g wc A :=
 fun k hk => ⟨nqQ (hA k hk) h.ext.size, fun hf => by have := (yx.lt h.is k hf).1; have := hA k hk; omega⟩
variable {n : Nat} {v : ModV}
theorem zai (hM : ModAt n A w m v) (hA : ∀ k, A k → k < w.heap.size) (hl : (yn m).length ≤ 2147483648) :
 Calls Tryz.prog 9 #[.agg (zs m v)] w fun e w' => e = .returned (.string (zc (yn m))) ∧ Ext w w' := by
 obtain ⟨vA, vB, vC, vD, vE, vF, vG, vH, vI, vJ, vK, vL, vM⟩ := v
 obtain ⟨aA, cA, e, h1, h2⟩ := Lay.slice_form2 hM.types
 have lA := qh (nlQ h1 h2)
 obtain rfl : vA = .slice aA m.types.length cA := by simpa using e
 clear e h1 h2
 obtain ⟨aB, cB, e, h1, h2⟩ := Lay.slice_form2 hM.imports
 have lB := qh (nlQ h1 h2)
 obtain rfl : vB = .slice aB m.imports.length cB := by simpa using e
 clear e h1 h2
 obtain ⟨aC, cC, e, h1, h2⟩ := Lay.slice_form2 hM.functions
 have lC := qh (nlQ h1 h2)
 obtain rfl : vC = .slice aC m.functions.length cC := by simpa using e
 clear e h1 h2
 obtain ⟨aD, cD, e, h1, h2⟩ := Lay.slice_form2 hM.tables
 have lD := qh (nlQ h1 h2)
 obtain rfl : vD = .slice aD m.tables.length cD := by simpa using e
 clear e h1 h2
 obtain ⟨aE, cE, e, h1, h2⟩ := Lay.slice_form2 hM.memories
 have lE := qh (nlQ h1 h2)
 obtain rfl : vE = .slice aE m.memories.length cE := by simpa using e
 clear e h1 h2
 obtain ⟨aF, cF, e, h1, h2⟩ := Lay.slice_form2 hM.elements
 have lF := qh (nlQ h1 h2)
 obtain rfl : vF = .slice aF m.elements.length cF := by simpa using e
 clear e h1 h2
 obtain ⟨aG, cG, e, h1, h2⟩ := Lay.slice_form2 hM.globals
 have lG := qh (nlQ h1 h2)
 obtain rfl : vG = .slice aG m.globals.length cG := by simpa using e
 clear e h1 h2
 obtain ⟨aH, cH, e, h1, h2⟩ := Lay.slice_form2 hM.exports
 have lH := qh (nlQ h1 h2)
 obtain rfl : vH = .slice aH m.exports.length cH := by simpa using e
 clear e h1 h2
 obtain ⟨aI, cI, e, h1, h2⟩ := Lay.slice_form2 hM.codes
 have lI := qh (nlQ h1 h2)
 obtain rfl : vI = .slice aI m.codes.length cI := by simpa using e
 clear e h1 h2
 obtain ⟨aJ, cJ, e, h1, h2⟩ := Lay.slice_form2 hM.datas
 have lJ := qh (nlQ h1 h2)
 obtain rfl : vJ = .slice aJ m.datas.length cJ := by simpa using e
 clear e h1 h2
 obtain ⟨aK, cK, e, h1, h2⟩ := Lay.slice_form2 hM.customs
 have lK := qh (nlQ h1 h2)
 obtain rfl : vK = .slice aK m.customs.length cK := by simpa using e
 clear e h1 h2
 obtain ⟨aL, cL, e, h1, h2⟩ := Lay.slice_form2 hM.funcs
 have lL := qh (nlQ h1 h2)
 obtain rfl : vL = .slice aL m.funcs.length cL := by simpa using e
 clear e h1 h2
 obtain ⟨aM, cM, e, h1, h2⟩ := Lay.slice_form2 hM.locals
 have lM := qh (nlQ h1 h2)
 obtain rfl : vM = .slice aM m.locals.length cM := by simpa using e
 clear e h1 h2
 have H := qh (anQ hM (anQ hA hl))
 clear hM hA hl
 unfold zs
 dsimp only
 go_enter Tryz.func9, Tryz.ntmps9
 go_wp2_with fail
 have cU := za w (.cells (kmc m aA cA aB cB aC cC aD cD aE cE aF cF aG cG aH cH aI cI aJ cJ aK cK aL cL aM cM) 37)
 have hB := zk w (kmc m aA cA aB cB aC cC aD cD aE cE aF cF aG cG aH cH aI cI aJ cJ aK cK aL cL aM cM) 37
 have dJ : (w.alloc (.cells (kmc m aA cA aB cB aC cC aD cD aE cE aF cF aG cG aH cH aI cI aJ cJ aK cK aL cL aM cM) 37)).heap.size = w.heap.size + 1 := by simp
 generalize (w.alloc (.cells (kmc m aA cA aB cB aC cC aD cD aE cE aF cF aG cG aH cH aI cI aJ cJ aK cK aL cL aM cM) 37)) = W0 at *
 have HK := qh (show KSt w (w.heap.size + 1) (w.heap.size + 1) (kq0 m) (W0.alloc (.cells #[.slice none 0 0] 86)) [(w.heap.size, (kmc m aA cA aB cB aC cC aD cD aE cE aF cF aG cG aH cH aI cI aJ cJ aK cK aL cL aM cM), 37)] from by
  have cN := za W0 (.cells #[.slice none 0 0] 86)
  refine ⟨zgl 86 W0 _ dJ, by rw [← dJ]; exact cN.size, Ext.trans cU cN, fun b hb => ?_⟩
  obtain rfl := List.mem_singleton.1 hb
  refine ⟨hB.ext cN, ?_⟩
  rintro (e | ⟨v', hc, hk⟩)
  ·have e' : w.heap.size = w.heap.size + 1 := e; omega
  ·rw [← dJ, (zk W0 _ _).cell 0] at hc
   simp at hc
   subst hc
   simp [Value.ownBlock] at hk)
 obtain ⟨g, hg⟩ := exQ (w.heap.size + 1)
 have bT := qh (show w.heap.size ≤ g from by omega)
 have xz := qh (show ∀ k, A k → k < g from fun k hk => by have := H.o.2.1 k hk; omega)
 rw [hg]
 rw [hg] at HK
 clear cU hB dJ hg
 generalize (W0.alloc (.cells #[.slice none 0 0] 86)) = W1 at *
 have ag := HK.o.box0
 have aj := qh (show (kq0 m).length + (j7 m).length ≤ 2147483648 from by have := kcap0 H.o.2.2; simpa [kq1] using this)
 have sx := m.start.toNat_lt
 have Bf := yj m.start.toNat (by omega)
 have qL := qh (show m.start.toNat < 18446744073709551616 by omega)
 refine (jq _ _ m.hasStart _ _ HK.o.is HK.o.lo (by have := aj.o; simp only [j7, j0, zH, kq0, laQ, List.length_nil] at *; omega)).mono ?_
 rintro e w2 ⟨rfl, hR⟩
 replace HK := qh (HK.o.step bT.o hR)
 clear hR ag
 have ag := HK.o.box0
 obtain ⟨hs, Cf⟩ := exQ (m.hasStart)
 have uF := qh Cf
 unfold kmc at ag
 rw [Cf] at ag ⊢
 have pj : Hd (∃ w3, w3 = w2) := ⟨w2, rfl⟩
 clear pj
 cases hs
 case' true =>
  have pc := qh (show (kq0 m).length + ((uleb 1).length + (uleb m.start.toNat).length) ≤ 2147483648 from by have := aj.o; simpa [j7, j0, uF.o] using this)
  replace HK := qh (HK.o.conv (pre' := kq0 m ++ uleb 1) (by simp [uF.o]))
  go_wp2_with fail
  refine (zg _ _ m.start.toNat qL.o _ w2 HK.o.is HK.o.lo (by have := pc.o; simp only [laQ, zH] at *; omega)).mono ?_
  rintro e w3 ⟨rfl, hR⟩
  replace HK := qh (HK.o.step bT.o hR)
  clear hR ag
  have ag := HK.o.box0
  replace HK := qh (HK.o.conv (pre' := kq1 m) (by simp [kq0, kq1, j7, j0, uF.o]))
  clear aj pc sx Bf qL
 case' false =>
  replace HK := qh (HK.o.conv (pre' := kq1 m) (by simp [kq0, kq1, j7, j0, uF.o]))
  clear aj sx Bf qL
  obtain ⟨w3, rfl⟩ : ∃ w3, w3 = w2 := ⟨_, rfl⟩
 all_goals
  go_wp2_with fail
  have aj := qh (show (kq1 m).length + ((uleb m.types.length).length + (m.types.flatMap JI).length) ≤ 2147483648 from by have := kcap1 H.o.2.2; simpa [kq2] using this)
  have ao : (m.types.length : Int) ≤ 9223372036854775807 := by have := lA.o; simp only [maxLen] at this; omega
  have gf := yj m.types.length (by omega)
  have di := qh (show m.types.length < 18446744073709551616 by omega)
  rw [gf]
  refine (zg _ _ m.types.length di.o _ w3 HK.o.is HK.o.lo (by have := aj.o; simp only [laQ, List.length_nil, zH] at *; omega)).mono ?_
  rintro e w4 ⟨rfl, hR⟩
  replace HK := qh (HK.o.step bT.o hR)
  clear hR ag
  have ag := HK.o.box0
  replace HK := qh (HK.o.conv (pre' := kq1 m ++ uleb m.types.length ++ (m.types.take 0).flatMap JI) (by simp))
  go_wp2_with fail
  clear ag
  go_loopw [5, 37] (fun s5 wU w' => ∃ (i : Nat), i ≤ m.types.length ∧ wU = .int .i64 i ∧ Hd (KSt w g g (kq1 m ++ uleb m.types.length ++ (m.types.take i).flatMap JI) w' [(w.heap.size, (kmc m aA cA aB cB aC cC aD cD aE cE aF cF aG cG aH cH aI cI aJ cJ aK cK aL cL aM cM), 37)])) (fun _ wU _ => m.types.length - (intOf wU).toNat)
  case atStart => exact ⟨0, nzQ _, rfl, HK.o⟩
  clear HK
  obtain ⟨i, hi, rfl, HK⟩ := hrel
  by_cases ah : i < m.types.length
  ·obtain ⟨b, o, ax, cx, ay, cy, rfl, e0, e1, r0, r1⟩ := Lay.ft_at H.o.1.types i ah
   have aX := qh (yr (f := JI) ah)
   obtain ⟨rest, dL⟩ := jv (f := JI) ah
   generalize m.types[i] = x at *
   replace e0 := HK.o.ext.cell e0 (fun h => h)
   replace e1 := HK.o.ext.cell e1 (fun h => h)
   have r0 := qh r0
   have r1 := qh r1
   have cX := qh (show (kq1 m).length + (uleb m.types.length).length + ((m.types.take i).flatMap JI).length + (JI x).length ≤ 2147483648 from by have := aj.o; rw [dL] at this; simp only [laQ] at this; omega)
   clear dL
   have ag := HK.o.box0
   go_wp2_with fail
   replace HK := qh (HK.o.push #[.slice ax x.ps.length cx, .slice ay x.rs.length cy] 91)
   clear e0 e1 ag
   generalize (wr.alloc (.cells #[.slice ax x.ps.length cx, .slice ay x.rs.length cy] 91)) = W2 at *
   obtain ⟨ge, aZ⟩ := exQ (wr.heap.size)
   rw [aZ] at HK ⊢
   clear aZ
   have ag := HK.o.box1
   have bt := HK.o.box0
   go_wp2_with fail
   have fq : x.ps.length + x.rs.length ≤ 4294967296 := by have h := zfS x; have := cX.o; omega
   refine (zcN (x.ps, x.rs) _ _ A W2 (HK.o.rd r0.o H.o.2.1) (HK.o.rd r1.o H.o.2.1) (fun k hk => nqQ (H.o.2.1 k hk) HK.o.ext.size) fq).mono ?_
   rintro e w5 ⟨rfl, hR⟩
   replace HK := qh (HK.o.grow hR)
   clear fq
   clear hR ag bt
   have ag := HK.o.box1
   have bt := HK.o.box0
   go_wp2_with fail
   refine (yc _ _ (zc (J4 (x.ps, x.rs))) _ w5 HK.o.is HK.o.lo (by have := cX.o; simp only [JI, zw, zB, zA, laQ, zH] at *; omega)).mono ?_
   rintro e w6 ⟨rfl, hR⟩
   replace HK := qh (HK.o.step bT.o hR)
   clear hR ag bt
   have ag := HK.o.box1
   have bt := HK.o.box0
   have bf := qh (HK.o.pop.conv (pre' := kq1 m ++ uleb m.types.length ++ (m.types.take (i + 1)).flatMap JI) (by rw [aX.o]; simp only [JI, zA]; simp [List.append_assoc]))
   clear ag bt HK
   go_wp2
   go_roundw
   case rel => exact ⟨i + 1, by omega, by go_num, bf⟩
   case measure => simp [intOf]; omega
  obtain rfl : i = m.types.length := by omega
  replace HK := qh (HK.o.conv (pre' := kq2 m) (by rw [tlQ]; simp [kq2, List.append_assoc]))
  have ag := HK.o.box0
  clear ao gf di aj hi ah
  generalize wr = tK at *
  go_wp2_with fail
  have aj := qh (show (kq2 m).length + ((uleb m.imports.length).length + (m.imports.flatMap yR).length) ≤ 2147483648 from by have := kcap2 H.o.2.2; simpa [kq3] using this)
  have ao : (m.imports.length : Int) ≤ 9223372036854775807 := by have := lB.o; simp only [maxLen] at this; omega
  have gf := yj m.imports.length (by omega)
  have di := qh (show m.imports.length < 18446744073709551616 by omega)
  rw [gf]
  refine (zg _ _ m.imports.length di.o _ tK HK.o.is HK.o.lo (by have := aj.o; simp only [laQ, List.length_nil, zH] at *; omega)).mono ?_
  rintro e w7 ⟨rfl, hR⟩
  replace HK := qh (HK.o.step bT.o hR)
  clear hR ag
  have ag := HK.o.box0
  replace HK := qh (HK.o.conv (pre' := kq2 m ++ uleb m.imports.length ++ (m.imports.take 0).flatMap yR) (by simp))
  go_wp2_with fail
  clear ag
  go_loopw [7, 53] (fun s7 wC w' => ∃ (i : Nat), i ≤ m.imports.length ∧ wC = .int .i64 i ∧ Hd (KSt w g g (kq2 m ++ uleb m.imports.length ++ (m.imports.take i).flatMap yR) w' [(w.heap.size, (kmc m aA cA aB cB aC cC aD cD aE cE aF cF aG cG aH cH aI cI aJ cJ aK cK aL cL aM cM), 37)])) (fun _ wC _ => m.imports.length - (intOf wC).toNat)
  case atStart => exact ⟨0, nzQ _, rfl, HK.o⟩
  clear HK
  obtain ⟨i, hi, rfl, HK⟩ := hrel
  by_cases ah : i < m.imports.length
  ·obtain ⟨b, o, rfl, e0, e1, e2, e3, e4, e5, e6, e7, e8, -, -, -, -⟩ := Lay.imp_at H.o.1.imports i ah
   have aX := qh (yr (f := yR) ah)
   obtain ⟨rest, dL⟩ := jv (f := yR) ah
   generalize m.imports[i] = x at *
   replace e0 := HK.o.ext.cell e0 (fun h => h)
   replace e1 := HK.o.ext.cell e1 (fun h => h)
   replace e2 := HK.o.ext.cell e2 (fun h => h)
   replace e3 := HK.o.ext.cell e3 (fun h => h)
   replace e4 := HK.o.ext.cell e4 (fun h => h)
   replace e5 := HK.o.ext.cell e5 (fun h => h)
   replace e6 := HK.o.ext.cell e6 (fun h => h)
   replace e7 := HK.o.ext.cell e7 (fun h => h)
   replace e8 := HK.o.ext.cell e8 (fun h => h)
   have cX := qh (show (kq2 m).length + (uleb m.imports.length).length + ((m.imports.take i).flatMap yR).length + (yR x).length ≤ 2147483648 from by have := aj.o; rw [dL] at this; simp only [laQ] at this; omega)
   clear dL
   have ag := HK.o.box0
   obtain ⟨n1, dJ, eu, dH⟩ := Zj x.kind
   have eu := qh eu
   have dH := qh dH
   have qO := x.index.toNat_lt
   have dQ := yj x.index.toNat (by omega)
   have bY := qh (show x.index.toNat < 18446744073709551616 by omega)
   obtain ⟨n3, rO, uy, ld⟩ := Zj x.ty
   have uy := qh uy
   have ld := qh ld
   go_wp2_with fail
   replace HK := qh (HK.o.push #[.string (zc x.mdl), .string (zc x.name), .int .i64 x.kind, .int .u32 (x.index.toNat : Int), .int .u32 (x.lim.min.toNat : Int), .bool x.lim.bounded, .int .u32 (x.lim.max.toNat : Int), .int .i64 x.ty, .bool x.mtb] 65)
   clear e0 e1 e2 e3 e4 e5 e6 e7 e8 ag
   generalize (wr.alloc (.cells #[.string (zc x.mdl), .string (zc x.name), .int .i64 x.kind, .int .u32 (x.index.toNat : Int), .int .u32 (x.lim.min.toNat : Int), .bool x.lim.bounded, .int .u32 (x.lim.max.toNat : Int), .int .i64 x.ty, .bool x.mtb] 65)) = W2 at *
   obtain ⟨ge, aZ⟩ := exQ (wr.heap.size)
   rw [aZ] at HK ⊢
   clear aZ
   have ag := HK.o.box1
   have bt := HK.o.box0
   go_wp2_with fail
   refine (yc _ _ (zc x.mdl) _ W2 HK.o.is HK.o.lo (by have := cX.o; simp only [yR, zw, zB, zA, dH.o, ld.o, j0, laQ, zH] at *; omega)).mono ?_
   rintro e w8 ⟨rfl, hR⟩
   replace HK := qh (HK.o.step bT.o hR)
   clear hR ag bt
   have ag := HK.o.box1
   have bt := HK.o.box0
   go_wp2_with fail
   refine (yc _ _ (zc x.name) _ w8 HK.o.is HK.o.lo (by have := cX.o; simp only [yR, zw, zB, zA, dH.o, ld.o, j0, laQ, zH] at *; omega)).mono ?_
   rintro e w9 ⟨rfl, hR⟩
   replace HK := qh (HK.o.step bT.o hR)
   clear hR ag bt
   have ag := HK.o.box1
   have bt := HK.o.box0
   go_wp2_with fail
   refine (zg _ _ n1 eu.o _ w9 HK.o.is HK.o.lo (by have := cX.o; simp only [yR, zw, zB, zA, dH.o, ld.o, j0, laQ, zH] at *; omega)).mono ?_
   rintro e pK ⟨rfl, hR⟩
   replace HK := qh (HK.o.step bT.o hR)
   clear hR ag bt
   have ag := HK.o.box1
   have bt := HK.o.box0
   go_wp2_with fail
   refine (zg _ _ x.index.toNat bY.o _ pK HK.o.is HK.o.lo (by have := cX.o; simp only [yR, zw, zB, zA, dH.o, ld.o, j0, laQ, zH] at *; omega)).mono ?_
   rintro e pE ⟨rfl, hR⟩
   replace HK := qh (HK.o.step bT.o hR)
   clear hR ag bt
   have ag := HK.o.box1
   have bt := HK.o.box0
   go_wp2_with fail
   replace HK := qh (HK.o.push #[.int .u32 (x.lim.min.toNat : Int), .bool x.lim.bounded, .int .u32 (x.lim.max.toNat : Int)] 63)
   clear ag bt
   generalize (pE.alloc (.cells #[.int .u32 (x.lim.min.toNat : Int), .bool x.lim.bounded, .int .u32 (x.lim.max.toNat : Int)] 63)) = W3 at *
   obtain ⟨gl, cj⟩ := exQ (pE.heap.size)
   rw [cj] at HK ⊢
   clear cj
   refine (Jk _ _ [x.lim] (some ⟨gl, 0, none⟩) 1 1 (fun k => k = gl) _ W3 HK.o.is (zjE (HK.o.box _ (.head _)).1) (fun k hk => by obtain rfl : k = gl := hk; exact ⟨(HK.o.box _ (.head _)).1.lt, (HK.o.box _ (.head _)).2⟩) HK.o.lo (by have := cX.o; simp only [yR, zw, zB, zA, dH.o, ld.o, j0, laQ, zH] at *; omega)).mono ?_
   rintro e tW ⟨rfl, hR⟩
   replace HK := qh (HK.o.step bT.o hR).pop
   clear hR
   have ag := HK.o.box1
   have bt := HK.o.box0
   go_wp2_with fail
   refine (zg _ _ n3 uy.o _ tW HK.o.is HK.o.lo (by have := cX.o; simp only [yR, zw, zB, zA, dH.o, ld.o, j0, laQ, zH] at *; omega)).mono ?_
   rintro e xT ⟨rfl, hR⟩
   replace HK := qh (HK.o.step bT.o hR)
   clear hR ag bt
   have ag := HK.o.box1
   have bt := HK.o.box0
   go_wp2_with fail
   refine (jq _ _ x.mtb _ xT HK.o.is HK.o.lo (by have := cX.o; simp only [yR, zw, zB, zA, dH.o, ld.o, j0, laQ, zH] at *; omega)).mono ?_
   rintro e CO ⟨rfl, hR⟩
   replace HK := qh (HK.o.step bT.o hR)
   clear hR ag bt
   have ag := HK.o.box1
   have bt := HK.o.box0
   have pR := anQ dH.o ld.o
   have bf := qh (HK.o.pop.conv (pre' := kq2 m ++ uleb m.imports.length ++ (m.imports.take (i + 1)).flatMap yR) (by rw [aX.o]; simp only [yR, zA, jD, j0, pR]; simp [List.append_assoc]))
   clear ag bt HK
   go_wp2
   go_roundw
   case rel => exact ⟨i + 1, by omega, by go_num, bf⟩
   case measure => simp [intOf]; omega
  obtain rfl : i = m.imports.length := by omega
  replace HK := qh (HK.o.conv (pre' := kq3 m) (by rw [tlQ]; simp [kq3, List.append_assoc]))
  have ag := HK.o.box0
  clear ao gf di aj hi ah
  generalize wr = tu at *
  go_wp2_with fail
  have aj := qh (show (kq3 m).length + (Zl m.functions).length ≤ 2147483648 from by have := kcap3 H.o.2.2; simpa [kq4] using this)
  refine (Zu _ _ m.functions aC m.functions.length cC A _ tu HK.o.is (HK.o.rd H.o.1.functions H.o.2.1) (HK.o.away bT.o H.o.2.1) HK.o.lo (by have := aj.o; simp only [laQ, List.length_nil, zH] at *; omega)).mono ?_
  rintro e DX ⟨rfl, hR⟩
  replace HK := qh (HK.o.step bT.o hR)
  clear hR ag
  have ag := HK.o.box0
  clear aj
  replace HK := qh (HK.o.conv (pre' := kq4 m) (by simp [kq4, List.append_assoc]))
  go_wp2_with fail
  have aj := qh (show (kq4 m).length + (jD m.tables).length ≤ 2147483648 from by have := kcap4 H.o.2.2; simpa [kq5] using this)
  refine (Jk _ _ m.tables aD m.tables.length cD A _ DX HK.o.is (HK.o.rd H.o.1.tables H.o.2.1) (HK.o.away bT.o H.o.2.1) HK.o.lo (by have := aj.o; simp only [laQ, List.length_nil, zH] at *; omega)).mono ?_
  rintro e CW ⟨rfl, hR⟩
  replace HK := qh (HK.o.step bT.o hR)
  clear hR ag
  have ag := HK.o.box0
  clear aj
  replace HK := qh (HK.o.conv (pre' := kq5 m) (by simp [kq5, List.append_assoc]))
  go_wp2_with fail
  have aj := qh (show (kq5 m).length + (jD m.memories).length ≤ 2147483648 from by have := kcap5 H.o.2.2; simpa [kq6] using this)
  refine (Jk _ _ m.memories aE m.memories.length cE A _ CW HK.o.is (HK.o.rd H.o.1.memories H.o.2.1) (HK.o.away bT.o H.o.2.1) HK.o.lo (by have := aj.o; simp only [laQ, List.length_nil, zH] at *; omega)).mono ?_
  rintro e Ck ⟨rfl, hR⟩
  replace HK := qh (HK.o.step bT.o hR)
  clear hR ag
  have ag := HK.o.box0
  clear aj
  replace HK := qh (HK.o.conv (pre' := kq6 m) (by simp [kq6, List.append_assoc]))
  go_wp2_with fail
  have aj := qh (show (kq6 m).length + ((uleb m.elements.length).length + (m.elements.flatMap yF).length) ≤ 2147483648 from by have := kcap6 H.o.2.2; simpa [kq7] using this)
  have ao : (m.elements.length : Int) ≤ 9223372036854775807 := by have := lF.o; simp only [maxLen] at this; omega
  have gf := yj m.elements.length (by omega)
  have di := qh (show m.elements.length < 18446744073709551616 by omega)
  rw [gf]
  refine (zg _ _ m.elements.length di.o _ Ck HK.o.is HK.o.lo (by have := aj.o; simp only [laQ, List.length_nil, zH] at *; omega)).mono ?_
  rintro e ES ⟨rfl, hR⟩
  replace HK := qh (HK.o.step bT.o hR)
  clear hR ag
  have ag := HK.o.box0
  replace HK := qh (HK.o.conv (pre' := kq6 m ++ uleb m.elements.length ++ (m.elements.take 0).flatMap yF) (by simp))
  go_wp2_with fail
  clear ag
  go_loopw [9, 100] (fun s9 i6 w' => ∃ (i : Nat), i ≤ m.elements.length ∧ i6 = .int .i64 i ∧ Hd (KSt w g g (kq6 m ++ uleb m.elements.length ++ (m.elements.take i).flatMap yF) w' [(w.heap.size, (kmc m aA cA aB cB aC cC aD cD aE cE aF cF aG cG aH cH aI cI aJ cJ aK cK aL cL aM cM), 37)])) (fun _ i6 _ => m.elements.length - (intOf i6).toNat)
  case atStart => exact ⟨0, nzQ _, rfl, HK.o⟩
  clear HK
  obtain ⟨i, hi, rfl, HK⟩ := hrel
  by_cases ah : i < m.elements.length
  ·obtain ⟨b, o, ax, cx, ay, cy, rfl, e0, e1, e2, r0, r1⟩ := Lay.elem_at H.o.1.elements i ah
   have aX := qh (yr (f := yF) ah)
   obtain ⟨rest, dL⟩ := jv (f := yF) ah
   generalize m.elements[i] = x at *
   replace e0 := HK.o.ext.cell e0 (fun h => h)
   replace e1 := HK.o.ext.cell e1 (fun h => h)
   replace e2 := HK.o.ext.cell e2 (fun h => h)
   have r0 := qh r0
   have r1 := qh r1
   have cX := qh (show (kq6 m).length + (uleb m.elements.length).length + ((m.elements.take i).flatMap yF).length + (yF x).length ≤ 2147483648 from by have := aj.o; rw [dL] at this; simp only [laQ] at this; omega)
   clear dL
   have ag := HK.o.box0
   have pr := x.index.toNat_lt
   have dN := yj x.index.toNat (by omega)
   have cN := qh (show x.index.toNat < 18446744073709551616 by omega)
   go_wp2_with fail
   replace HK := qh (HK.o.push #[.int .u32 (x.index.toNat : Int), .slice ax x.off.length cx, .slice ay x.ids.length cy] 71)
   clear e0 e1 e2 ag
   generalize (wr.alloc (.cells #[.int .u32 (x.index.toNat : Int), .slice ax x.off.length cx, .slice ay x.ids.length cy] 71)) = W2 at *
   obtain ⟨ge, aZ⟩ := exQ (wr.heap.size)
   rw [aZ] at HK ⊢
   clear aZ
   have ag := HK.o.box1
   have bt := HK.o.box0
   go_wp2_with fail
   refine (zg _ _ x.index.toNat cN.o _ W2 HK.o.is HK.o.lo (by have := cX.o; simp only [yF, zw, zB, zA, laQ, zH] at *; omega)).mono ?_
   rintro e CF ⟨rfl, hR⟩
   replace HK := qh (HK.o.step bT.o hR)
   clear hR ag bt
   have ag := HK.o.box1
   have bt := HK.o.box0
   go_wp2_with fail
   refine (Jj n x.off _ _ ax x.off.length cx A _ CF HK.o.is (HK.o.rd r0.o H.o.2.1) xz.o HK.o.lo (by have := cX.o; simp only [yF, zw, zB, zA, laQ, zH] at *; omega)).mono ?_
   rintro e C1 ⟨rfl, hR⟩
   replace HK := qh (HK.o.step bT.o hR)
   clear hR ag bt
   have ag := HK.o.box1
   have bt := HK.o.box0
   go_wp2_with fail
   refine (Zu _ _ x.ids ay x.ids.length cy A _ C1 HK.o.is (HK.o.rd r1.o H.o.2.1) (HK.o.away bT.o H.o.2.1) HK.o.lo (by have := cX.o; simp only [yF, zw, zB, zA, laQ, zH] at *; omega)).mono ?_
   rintro e EC ⟨rfl, hR⟩
   replace HK := qh (HK.o.step bT.o hR)
   clear hR ag bt
   have ag := HK.o.box1
   have bt := HK.o.box0
   have bf := qh (HK.o.pop.conv (pre' := kq6 m ++ uleb m.elements.length ++ (m.elements.take (i + 1)).flatMap yF) (by rw [aX.o]; simp only [yF]; simp [List.append_assoc]))
   clear ag bt HK
   go_wp2
   go_roundw
   case rel => exact ⟨i + 1, by omega, by go_num, bf⟩
   case measure => simp [intOf]; omega
  obtain rfl : i = m.elements.length := by omega
  replace HK := qh (HK.o.conv (pre' := kq7 m) (by rw [tlQ]; simp [kq7, List.append_assoc]))
  have ag := HK.o.box0
  clear ao gf di aj hi ah
  generalize wr = tO at *
  go_wp2_with fail
  have aj := qh (show (kq7 m).length + ((uleb m.globals.length).length + (m.globals.flatMap yG).length) ≤ 2147483648 from by have := kcap7 H.o.2.2; simpa [kq8] using this)
  have ao : (m.globals.length : Int) ≤ 9223372036854775807 := by have := lG.o; simp only [maxLen] at this; omega
  have gf := yj m.globals.length (by omega)
  have di := qh (show m.globals.length < 18446744073709551616 by omega)
  rw [gf]
  refine (zg _ _ m.globals.length di.o _ tO HK.o.is HK.o.lo (by have := aj.o; simp only [laQ, List.length_nil, zH] at *; omega)).mono ?_
  rintro e EM ⟨rfl, hR⟩
  replace HK := qh (HK.o.step bT.o hR)
  clear hR ag
  have ag := HK.o.box0
  replace HK := qh (HK.o.conv (pre' := kq7 m ++ uleb m.globals.length ++ (m.globals.take 0).flatMap yG) (by simp))
  go_wp2_with fail
  clear ag
  go_loopw [11, 123] (fun nN qv w' => ∃ (i : Nat), i ≤ m.globals.length ∧ qv = .int .i64 i ∧ Hd (KSt w g g (kq7 m ++ uleb m.globals.length ++ (m.globals.take i).flatMap yG) w' [(w.heap.size, (kmc m aA cA aB cB aC cC aD cD aE cE aF cF aG cG aH cH aI cI aJ cJ aK cK aL cL aM cM), 37)])) (fun _ qv _ => m.globals.length - (intOf qv).toNat)
  case atStart => exact ⟨0, nzQ _, rfl, HK.o⟩
  clear HK
  obtain ⟨i, hi, rfl, HK⟩ := hrel
  by_cases ah : i < m.globals.length
  ·obtain ⟨b, o, ax, cx, rfl, e0, e1, e2, -, r0⟩ := Lay.glob_at H.o.1.globals i ah
   have aX := qh (yr (f := yG) ah)
   obtain ⟨rest, dL⟩ := jv (f := yG) ah
   generalize m.globals[i] = x at *
   replace e0 := HK.o.ext.cell e0 (fun h => h)
   replace e1 := HK.o.ext.cell e1 (fun h => h)
   replace e2 := HK.o.ext.cell e2 (fun h => h)
   have r0 := qh r0
   have cX := qh (show (kq7 m).length + (uleb m.globals.length).length + ((m.globals.take i).flatMap yG).length + (yG x).length ≤ 2147483648 from by have := aj.o; rw [dL] at this; simp only [laQ] at this; omega)
   clear dL
   have ag := HK.o.box0
   obtain ⟨n1, dJ, eu, dH⟩ := Zj x.ty
   have eu := qh eu
   have dH := qh dH
   go_wp2_with fail
   replace HK := qh (HK.o.push #[.int .i64 x.ty, .bool x.mtb, .slice ax x.init.length cx] 69)
   clear e0 e1 e2 ag
   generalize (wr.alloc (.cells #[.int .i64 x.ty, .bool x.mtb, .slice ax x.init.length cx] 69)) = W2 at *
   obtain ⟨ge, aZ⟩ := exQ (wr.heap.size)
   rw [aZ] at HK ⊢
   clear aZ
   have ag := HK.o.box1
   have bt := HK.o.box0
   go_wp2_with fail
   refine (zg _ _ n1 eu.o _ W2 HK.o.is HK.o.lo (by have := cX.o; simp only [yG, zw, zB, zA, dH.o, j0, laQ, zH] at *; omega)).mono ?_
   rintro e CN ⟨rfl, hR⟩
   replace HK := qh (HK.o.step bT.o hR)
   clear hR ag bt
   have ag := HK.o.box1
   have bt := HK.o.box0
   go_wp2_with fail
   refine (jq _ _ x.mtb _ CN HK.o.is HK.o.lo (by have := cX.o; simp only [yG, zw, zB, zA, dH.o, j0, laQ, zH] at *; omega)).mono ?_
   rintro e CK ⟨rfl, hR⟩
   replace HK := qh (HK.o.step bT.o hR)
   clear hR ag bt
   have ag := HK.o.box1
   have bt := HK.o.box0
   go_wp2_with fail
   refine (Jj n x.init _ _ ax x.init.length cx A _ CK HK.o.is (HK.o.rd r0.o H.o.2.1) xz.o HK.o.lo (by have := cX.o; simp only [yG, zw, zB, zA, dH.o, j0, laQ, zH] at *; omega)).mono ?_
   rintro e ED ⟨rfl, hR⟩
   replace HK := qh (HK.o.step bT.o hR)
   clear hR ag bt
   have ag := HK.o.box1
   have bt := HK.o.box0
   have pR := dH.o
   have bf := qh (HK.o.pop.conv (pre' := kq7 m ++ uleb m.globals.length ++ (m.globals.take (i + 1)).flatMap yG) (by rw [aX.o]; simp only [yG, j0, pR]; simp [List.append_assoc]))
   clear ag bt HK
   go_wp2
   go_roundw
   case rel => exact ⟨i + 1, by omega, by go_num, bf⟩
   case measure => simp [intOf]; omega
  obtain rfl : i = m.globals.length := by omega
  replace HK := qh (HK.o.conv (pre' := kq8 m) (by rw [tlQ]; simp [kq8, List.append_assoc]))
  have ag := HK.o.box0
  clear ao gf di aj hi ah
  generalize wr = uC at *
  go_wp2_with fail
  have aj := qh (show (kq8 m).length + ((uleb m.exports.length).length + (m.exports.flatMap ym).length) ≤ 2147483648 from by have := kcap8 H.o.2.2; simpa [kq9] using this)
  have ao : (m.exports.length : Int) ≤ 9223372036854775807 := by have := lH.o; simp only [maxLen] at this; omega
  have gf := yj m.exports.length (by omega)
  have di := qh (show m.exports.length < 18446744073709551616 by omega)
  rw [gf]
  refine (zg _ _ m.exports.length di.o _ uC HK.o.is HK.o.lo (by have := aj.o; simp only [laQ, List.length_nil, zH] at *; omega)).mono ?_
  rintro e Ey ⟨rfl, hR⟩
  replace HK := qh (HK.o.step bT.o hR)
  clear hR ag
  have ag := HK.o.box0
  replace HK := qh (HK.o.conv (pre' := kq8 m ++ uleb m.exports.length ++ (m.exports.take 0).flatMap ym) (by simp))
  go_wp2_with fail
  clear ag
  go_loopw [13, 146] (fun fX rB w' => ∃ (i : Nat), i ≤ m.exports.length ∧ rB = .int .i64 i ∧ Hd (KSt w g g (kq8 m ++ uleb m.exports.length ++ (m.exports.take i).flatMap ym) w' [(w.heap.size, (kmc m aA cA aB cB aC cC aD cD aE cE aF cF aG cG aH cH aI cI aJ cJ aK cK aL cL aM cM), 37)])) (fun _ rB _ => m.exports.length - (intOf rB).toNat)
  case atStart => exact ⟨0, nzQ _, rfl, HK.o⟩
  clear HK
  obtain ⟨i, hi, rfl, HK⟩ := hrel
  by_cases ah : i < m.exports.length
  ·obtain ⟨b, o, rfl, e0, e1, e2, -, -⟩ := Lay.expo_at H.o.1.exports i ah
   have aX := qh (yr (f := ym) ah)
   obtain ⟨rest, dL⟩ := jv (f := ym) ah
   generalize m.exports[i] = x at *
   replace e0 := HK.o.ext.cell e0 (fun h => h)
   replace e1 := HK.o.ext.cell e1 (fun h => h)
   replace e2 := HK.o.ext.cell e2 (fun h => h)
   have cX := qh (show (kq8 m).length + (uleb m.exports.length).length + ((m.exports.take i).flatMap ym).length + (ym x).length ≤ 2147483648 from by have := aj.o; rw [dL] at this; simp only [laQ] at this; omega)
   clear dL
   have ag := HK.o.box0
   obtain ⟨n1, dJ, eu, dH⟩ := Zj x.kind
   have eu := qh eu
   have dH := qh dH
   have qO := x.index.toNat_lt
   have dQ := yj x.index.toNat (by omega)
   have bY := qh (show x.index.toNat < 18446744073709551616 by omega)
   go_wp2_with fail
   replace HK := qh (HK.o.push #[.string (zc x.name), .int .i64 x.kind, .int .u32 (x.index.toNat : Int)] 98)
   clear e0 e1 e2 ag
   generalize (wr.alloc (.cells #[.string (zc x.name), .int .i64 x.kind, .int .u32 (x.index.toNat : Int)] 98)) = W2 at *
   obtain ⟨ge, aZ⟩ := exQ (wr.heap.size)
   rw [aZ] at HK ⊢
   clear aZ
   have ag := HK.o.box1
   have bt := HK.o.box0
   go_wp2_with fail
   refine (yc _ _ (zc x.name) _ W2 HK.o.is HK.o.lo (by have := cX.o; simp only [ym, zw, zB, zA, dH.o, laQ, zH] at *; omega)).mono ?_
   rintro e C6 ⟨rfl, hR⟩
   replace HK := qh (HK.o.step bT.o hR)
   clear hR ag bt
   have ag := HK.o.box1
   have bt := HK.o.box0
   go_wp2_with fail
   refine (zg _ _ n1 eu.o _ C6 HK.o.is HK.o.lo (by have := cX.o; simp only [ym, zw, zB, zA, dH.o, laQ, zH] at *; omega)).mono ?_
   rintro e DR ⟨rfl, hR⟩
   replace HK := qh (HK.o.step bT.o hR)
   clear hR ag bt
   have ag := HK.o.box1
   have bt := HK.o.box0
   go_wp2_with fail
   refine (zg _ _ x.index.toNat bY.o _ DR HK.o.is HK.o.lo (by have := cX.o; simp only [ym, zw, zB, zA, dH.o, laQ, zH] at *; omega)).mono ?_
   rintro e EK ⟨rfl, hR⟩
   replace HK := qh (HK.o.step bT.o hR)
   clear hR ag bt
   have ag := HK.o.box1
   have bt := HK.o.box0
   have pR := dH.o
   have bf := qh (HK.o.pop.conv (pre' := kq8 m ++ uleb m.exports.length ++ (m.exports.take (i + 1)).flatMap ym) (by rw [aX.o]; simp only [ym, zA, pR]; simp [List.append_assoc]))
   clear ag bt HK
   go_wp2
   go_roundw
   case rel => exact ⟨i + 1, by omega, by go_num, bf⟩
   case measure => simp [intOf]; omega
  obtain rfl : i = m.exports.length := by omega
  replace HK := qh (HK.o.conv (pre' := kq9 m) (by rw [tlQ]; simp [kq9, List.append_assoc]))
  have ag := HK.o.box0
  clear ao gf di aj hi ah
  generalize wr = ux at *
  go_wp2_with fail
  have aj := qh (show (kq9 m).length + ((uleb m.codes.length).length + (m.codes.flatMap zw).length) ≤ 2147483648 from by have := kcap9 H.o.2.2; simpa [kq10] using this)
  have ao : (m.codes.length : Int) ≤ 9223372036854775807 := by have := lI.o; simp only [maxLen] at this; omega
  have gf := yj m.codes.length (by omega)
  have di := qh (show m.codes.length < 18446744073709551616 by omega)
  rw [gf]
  refine (zg _ _ m.codes.length di.o _ ux HK.o.is HK.o.lo (by have := aj.o; simp only [laQ, List.length_nil, zH] at *; omega)).mono ?_
  rintro e Ex ⟨rfl, hR⟩
  replace HK := qh (HK.o.step bT.o hR)
  clear hR ag
  have ag := HK.o.box0
  replace HK := qh (HK.o.conv (pre' := kq9 m ++ uleb m.codes.length ++ (m.codes.take 0).flatMap zw) (by simp))
  go_wp2_with fail
  clear ag
  go_loopw [15, 170] (fun ra rv w' => ∃ (i : Nat), i ≤ m.codes.length ∧ rv = .int .i64 i ∧ Hd (KSt w g g (kq9 m ++ uleb m.codes.length ++ (m.codes.take i).flatMap zw) w' [(w.heap.size, (kmc m aA cA aB cB aC cC aD cD aE cE aF cF aG cG aH cH aI cI aJ cJ aK cK aL cL aM cM), 37)])) (fun _ rv _ => m.codes.length - (intOf rv).toNat)
  case atStart => exact ⟨0, nzQ _, rfl, HK.o⟩
  clear HK
  obtain ⟨i, hi, rfl, HK⟩ := hrel
  by_cases ah : i < m.codes.length
  ·obtain ⟨b, o, es, er, rfl, -, -, r0, hc⟩ := Lay.slice_at H.o.1.codes i ah
   have e0 := hc 0 (by decide)
   have aX := qh (yr (f := zw) ah)
   obtain ⟨rest, dL⟩ := jv (f := zw) ah
   generalize m.codes[i] = x at *
   obtain ⟨ax, cx, rfl, -, -⟩ := Lay.slice_form2 r0
   rw [show o + i * Lay.u8.slice.size + 0 = o + i from by show o + i * 1 + 0 = o + i; omega] at e0
   replace e0 := HK.o.ext.cell (v := .slice ax x.length cx) e0 (fun h => h)
   have eN := Zx r0 H.o.2.1 22 9 5 Tryz.underlying22 Tryz.underlying5 Tryz.underlying9 wr HK.o.ext
   clear r0 hc er
   have cX := qh (show (kq9 m).length + (uleb m.codes.length).length + ((m.codes.take i).flatMap zw).length + (zw x).length ≤ 2147483648 from by have := aj.o; rw [dL] at this; simp only [laQ] at this; omega)
   clear dL
   have ag := HK.o.box0
   go_wp2_with fail
   refine (yc _ _ (zc x) _ wr HK.o.is HK.o.lo (by have := cX.o; simp only [zw, zB, zA, laQ, zH] at *; omega)).mono ?_
   rintro e EU ⟨rfl, hR⟩
   replace HK := qh (HK.o.step bT.o hR)
   clear hR ag
   have ag := HK.o.box0
   clear eN e0
   have bf := qh (HK.o.conv (pre' := kq9 m ++ uleb m.codes.length ++ (m.codes.take (i + 1)).flatMap zw) (by rw [aX.o]; simp only [zA]; simp [List.append_assoc]))
   clear ag HK
   go_wp2
   go_roundw
   case rel => exact ⟨i + 1, by omega, by go_num, bf⟩
   case measure => simp [intOf]; omega
  obtain rfl : i = m.codes.length := by omega
  replace HK := qh (HK.o.conv (pre' := kq10 m) (by rw [tlQ]; simp [kq10, List.append_assoc]))
  have ag := HK.o.box0
  clear ao gf di aj hi ah
  generalize wr = tL at *
  go_wp2_with fail
  have aj := qh (show (kq10 m).length + ((uleb m.datas.length).length + (m.datas.flatMap jf).length) ≤ 2147483648 from by have := zks H.o.2.2; simpa [kq11] using this)
  have ao : (m.datas.length : Int) ≤ 9223372036854775807 := by have := lJ.o; simp only [maxLen] at this; omega
  have gf := yj m.datas.length (by omega)
  have di := qh (show m.datas.length < 18446744073709551616 by omega)
  rw [gf]
  refine (zg _ _ m.datas.length di.o _ tL HK.o.is HK.o.lo (by have := aj.o; simp only [laQ, List.length_nil, zH] at *; omega)).mono ?_
  rintro e EN ⟨rfl, hR⟩
  replace HK := qh (HK.o.step bT.o hR)
  clear hR ag
  have ag := HK.o.box0
  replace HK := qh (HK.o.conv (pre' := kq10 m ++ uleb m.datas.length ++ (m.datas.take 0).flatMap jf) (by simp))
  go_wp2_with fail
  clear ag
  go_loopw [17, 186] (fun xk qm w' => ∃ (i : Nat), i ≤ m.datas.length ∧ qm = .int .i64 i ∧ Hd (KSt w g g (kq10 m ++ uleb m.datas.length ++ (m.datas.take i).flatMap jf) w' [(w.heap.size, (kmc m aA cA aB cB aC cC aD cD aE cE aF cF aG cG aH cH aI cI aJ cJ aK cK aL cL aM cM), 37)])) (fun _ qm _ => m.datas.length - (intOf qm).toNat)
  case atStart => exact ⟨0, nzQ _, rfl, HK.o⟩
  clear HK
  obtain ⟨i, hi, rfl, HK⟩ := hrel
  by_cases ah : i < m.datas.length
  ·obtain ⟨b, o, ax, cx, ay, cy, rfl, e0, e1, e2, r0, r1⟩ := Lay.dat_at H.o.1.datas i ah
   have aX := qh (yr (f := jf) ah)
   obtain ⟨rest, dL⟩ := jv (f := jf) ah
   generalize m.datas[i] = x at *
   replace e0 := HK.o.ext.cell e0 (fun h => h)
   replace e1 := HK.o.ext.cell e1 (fun h => h)
   replace e2 := HK.o.ext.cell e2 (fun h => h)
   have r0 := qh r0
   have r1 := qh r1
   have cX := qh (show (kq10 m).length + (uleb m.datas.length).length + ((m.datas.take i).flatMap jf).length + (jf x).length ≤ 2147483648 from by have := aj.o; rw [dL] at this; simp only [laQ] at this; omega)
   clear dL
   have ag := HK.o.box0
   have pr := x.index.toNat_lt
   have dN := yj x.index.toNat (by omega)
   have cN := qh (show x.index.toNat < 18446744073709551616 by omega)
   go_wp2_with fail
   replace HK := qh (HK.o.push #[.int .u32 (x.index.toNat : Int), .slice ax x.off.length cx, .slice ay x.init.length cy] 73)
   clear e0 e1 e2 ag
   generalize (wr.alloc (.cells #[.int .u32 (x.index.toNat : Int), .slice ax x.off.length cx, .slice ay x.init.length cy] 73)) = W2 at *
   obtain ⟨ge, aZ⟩ := exQ (wr.heap.size)
   rw [aZ] at HK ⊢
   clear aZ
   have ag := HK.o.box1
   have bt := HK.o.box0
   go_wp2_with fail
   refine (zg _ _ x.index.toNat cN.o _ W2 HK.o.is HK.o.lo (by have := cX.o; simp only [jf, zw, zB, zA, laQ, zH] at *; omega)).mono ?_
   rintro e Ct ⟨rfl, hR⟩
   replace HK := qh (HK.o.step bT.o hR)
   clear hR ag bt
   have ag := HK.o.box1
   have bt := HK.o.box0
   go_wp2_with fail
   refine (Jj n x.off _ _ ax x.off.length cx A _ Ct HK.o.is (HK.o.rd r0.o H.o.2.1) xz.o HK.o.lo (by have := cX.o; simp only [jf, zw, zB, zA, laQ, zH] at *; omega)).mono ?_
   rintro e BJ ⟨rfl, hR⟩
   replace HK := qh (HK.o.step bT.o hR)
   clear hR ag bt
   have ag := HK.o.box1
   have bt := HK.o.box0
   have eN := Zx (HK.o.rd r1.o H.o.2.1) (fun k hk => nqQ (H.o.2.1 k hk) HK.o.ext.size) 22 9 5 Tryz.underlying22 Tryz.underlying5 Tryz.underlying9 BJ (Fr.refl _ _)
   go_wp2_with fail
   refine (yc _ _ (zc x.init) _ BJ HK.o.is HK.o.lo (by have := cX.o; simp only [jf, zw, zB, zA, laQ, zH] at *; omega)).mono ?_
   rintro e EY ⟨rfl, hR⟩
   replace HK := qh (HK.o.step bT.o hR)
   clear hR ag bt
   have ag := HK.o.box1
   have bt := HK.o.box0
   clear eN
   have bf := qh (HK.o.pop.conv (pre' := kq10 m ++ uleb m.datas.length ++ (m.datas.take (i + 1)).flatMap jf) (by rw [aX.o]; simp only [jf, zA]; simp [List.append_assoc]))
   clear ag bt HK
   go_wp2
   go_roundw
   case rel => exact ⟨i + 1, by omega, by go_num, bf⟩
   case measure => simp [intOf]; omega
  obtain rfl : i = m.datas.length := by omega
  replace HK := qh (HK.o.conv (pre' := kq11 m) (by rw [tlQ]; simp [kq11, List.append_assoc]))
  have ag := HK.o.box0
  clear ao gf di aj hi ah
  generalize wr = mZ at *
  go_wp2_with fail
  have aj := qh (show (kq11 m).length + ((uleb m.customs.length).length + (m.customs.flatMap y8).length) ≤ 2147483648 from by have := zkt H.o.2.2; simpa [kq12] using this)
  have ao : (m.customs.length : Int) ≤ 9223372036854775807 := by have := lK.o; simp only [maxLen] at this; omega
  have gf := yj m.customs.length (by omega)
  have di := qh (show m.customs.length < 18446744073709551616 by omega)
  rw [gf]
  refine (zg _ _ m.customs.length di.o _ mZ HK.o.is HK.o.lo (by have := aj.o; simp only [laQ, List.length_nil, zH] at *; omega)).mono ?_
  rintro e EI ⟨rfl, hR⟩
  replace HK := qh (HK.o.step bT.o hR)
  clear hR ag
  have ag := HK.o.box0
  replace HK := qh (HK.o.conv (pre' := kq11 m ++ uleb m.customs.length ++ (m.customs.take 0).flatMap y8) (by simp))
  go_wp2_with fail
  clear ag
  go_loopw [19, 210] (fun xp ke w' => ∃ (i : Nat), i ≤ m.customs.length ∧ ke = .int .i64 i ∧ Hd (KSt w g g (kq11 m ++ uleb m.customs.length ++ (m.customs.take i).flatMap y8) w' [(w.heap.size, (kmc m aA cA aB cB aC cC aD cD aE cE aF cF aG cG aH cH aI cI aJ cJ aK cK aL cL aM cM), 37)])) (fun _ ke _ => m.customs.length - (intOf ke).toNat)
  case atStart => exact ⟨0, nzQ _, rfl, HK.o⟩
  clear HK
  obtain ⟨i, hi, rfl, HK⟩ := hrel
  by_cases ah : i < m.customs.length
  ·obtain ⟨b, o, ay, cy, rfl, e0, e1, -, r1⟩ := Lay.cus_at H.o.1.customs i ah
   have aX := qh (yr (f := y8) ah)
   obtain ⟨rest, dL⟩ := jv (f := y8) ah
   generalize m.customs[i] = x at *
   replace e0 := HK.o.ext.cell e0 (fun h => h)
   replace e1 := HK.o.ext.cell e1 (fun h => h)
   have r1 := qh r1
   have cX := qh (show (kq11 m).length + (uleb m.customs.length).length + ((m.customs.take i).flatMap y8).length + (y8 x).length ≤ 2147483648 from by have := aj.o; rw [dL] at this; simp only [laQ] at this; omega)
   clear dL
   have ag := HK.o.box0
   go_wp2_with fail
   replace HK := qh (HK.o.push #[.string (zc x.name), .slice ay x.data.length cy] 100)
   clear e0 e1 ag
   generalize (wr.alloc (.cells #[.string (zc x.name), .slice ay x.data.length cy] 100)) = W2 at *
   obtain ⟨ge, aZ⟩ := exQ (wr.heap.size)
   rw [aZ] at HK ⊢
   clear aZ
   have ag := HK.o.box1
   have bt := HK.o.box0
   go_wp2_with fail
   refine (yc _ _ (zc x.name) _ W2 HK.o.is HK.o.lo (by have := cX.o; simp only [y8, zw, zB, zA, laQ, zH] at *; omega)).mono ?_
   rintro e A6 ⟨rfl, hR⟩
   replace HK := qh (HK.o.step bT.o hR)
   clear hR ag bt
   have ag := HK.o.box1
   have bt := HK.o.box0
   have eN := Zx (HK.o.rd r1.o H.o.2.1) (fun k hk => nqQ (H.o.2.1 k hk) HK.o.ext.size) 22 9 5 Tryz.underlying22 Tryz.underlying5 Tryz.underlying9 A6 (Fr.refl _ _)
   go_wp2_with fail
   refine (yc _ _ (zc x.data) _ A6 HK.o.is HK.o.lo (by have := cX.o; simp only [y8, zw, zB, zA, laQ, zH] at *; omega)).mono ?_
   rintro e E6 ⟨rfl, hR⟩
   replace HK := qh (HK.o.step bT.o hR)
   clear hR ag bt
   have ag := HK.o.box1
   have bt := HK.o.box0
   clear eN
   have bf := qh (HK.o.pop.conv (pre' := kq11 m ++ uleb m.customs.length ++ (m.customs.take (i + 1)).flatMap y8) (by rw [aX.o]; simp only [y8, zA]; simp [List.append_assoc]))
   clear ag bt HK
   go_wp2
   go_roundw
   case rel => exact ⟨i + 1, by omega, by go_num, bf⟩
   case measure => simp [intOf]; omega
  obtain rfl : i = m.customs.length := by omega
  replace HK := qh (HK.o.conv (pre' := kq12 m) (by rw [tlQ]; simp [kq12, List.append_assoc]))
  have ag := HK.o.box0
  clear ao gf di aj hi ah
  generalize wr = i7 at *
  go_wp2_with fail
  have aj := qh (show (kq12 m).length + (zw m.named).length ≤ 2147483648 from by have := zku H.o.2.2; simpa [kq13] using this)
  refine (yc _ _ (zc m.named) _ i7 HK.o.is HK.o.lo (by have := aj.o; simp only [zw, zB, zA, laQ, List.length_nil, zH] at *; omega)).mono ?_
  rintro e Ep ⟨rfl, hR⟩
  replace HK := qh (HK.o.step bT.o hR)
  clear hR ag
  have ag := HK.o.box0
  clear aj
  replace HK := qh (HK.o.conv (pre' := kq13 m) (by rw [zA]; rfl))
  go_wp2_with fail
  have aj := qh (show (kq13 m).length + (jX m.funcs).length ≤ 2147483648 from by have := zkv H.o.2.2; simpa [kq14] using this)
  refine (Z5 _ _ m.funcs aL m.funcs.length cL A _ Ep HK.o.is (HK.o.rd H.o.1.funcs H.o.2.1) (HK.o.away bT.o H.o.2.1) HK.o.lo (by have := aj.o; simp only [laQ, List.length_nil, zH] at *; omega)).mono ?_
  rintro e BX ⟨rfl, hR⟩
  replace HK := qh (HK.o.step bT.o hR)
  clear hR ag
  have ag := HK.o.box0
  clear aj
  replace HK := qh (HK.o.conv (pre' := kq14 m) (by simp [kq14, List.append_assoc]))
  go_wp2_with fail
  have aj := qh (show (kq14 m).length + (jX (Jw m.locals)).length ≤ 2147483648 from by have := zkw H.o.2.2; simpa [kq15] using this)
  have tF : m.locals.length ≤ 4294967296 := by have h := zjD (Jw m.locals); have := aj.o; rw [zdS] at h; omega
  refine (zdT m.locals aM m.locals.length cM A BX (HK.o.rd H.o.1.locals H.o.2.1) (fun k hk => nqQ (H.o.2.1 k hk) HK.o.ext.size) tF).mono ?_
  rintro e wB ⟨vs, rfl, hO, hx⟩
  obtain ⟨ay, cy, rfl, -, -⟩ := hO.form
  have HA := qh (show Away yx g wB (fun k => BX.heap.size ≤ k ∧ k < wB.heap.size) from fun k hk => ⟨hk.2, fun hf => by have h1 := ((yx.frame HK.o.is hx (fun _ _ h => h)).2 k).1 hf; have := (yx.lt HK.o.is k h1).2; omega⟩)
  have HO := qh hO.slice
  replace HK := qh (HK.o.grow hx)
  clear hO hx ag tF
  have ag := HK.o.box0
  go_wp2_with fail
  refine (Z5 _ _ (Jw m.locals) ay _ cy _ _ wB HK.o.is HO.o HA.o HK.o.lo (by have := aj.o; simp only [laQ, List.length_nil, zH] at *; omega)).mono ?_
  rintro e C7 ⟨rfl, hR⟩
  replace HK := qh (HK.o.step bT.o hR)
  clear hR ag
  have ag := HK.o.box0
  clear aj
  replace HK := qh (HK.o.conv (pre' := yn m) (by rw [← yy]; rfl))
  obtain ⟨cj, vk, lR, dK, -⟩ := HK.o.is
  have D8 := lR.cell 0
  simp only [List.getElem?_toArray, List.getElem?_cons_zero] at D8
  have eN := Zx dK.slice (fun _ hk => hk.2) 86 9 5 Tryz.underlying86 Tryz.underlying5 Tryz.underlying9 C7 (Fr.refl _ _)
  obtain ⟨ax, mx, cx, e1⟩ := dK.shape
  subst e1
  have HX := qh HK.o.ext
  clear lR dK ag HK
  go_wp2
  go_ret
  exact ⟨rfl, HX.o⟩
theorem zeN (hM : ModAt n A w m v) (hA : ∀ k, A k → k < w.heap.size) :
 Calls Tryz.prog 38 #[.agg (zs m v), .int .i64 65536] w fun e w' => ∃ b : Bool, e = .returned (.bool b) ∧ Ext w w' := by
 obtain ⟨vA, vB, vC, vD, vE, vF, vG, vH, vI, vJ, vK, vL, vM⟩ := v
 obtain ⟨aA, cA, e, h1, h2⟩ := Lay.slice_form2 hM.types
 obtain rfl : vA = .slice aA m.types.length cA := by simpa using e
 have lA : (m.types.length : Int) ≤ 9223372036854775807 := by simp only [maxLen] at h2; omega
 clear e h1 h2
 obtain ⟨aB, cB, e, h1, h2⟩ := Lay.slice_form2 hM.imports
 obtain rfl : vB = .slice aB m.imports.length cB := by simpa using e
 have lB : (m.imports.length : Int) ≤ 9223372036854775807 := by simp only [maxLen] at h2; omega
 clear e h1 h2
 obtain ⟨aC, cC, e, h1, h2⟩ := Lay.slice_form2 hM.functions
 obtain rfl : vC = .slice aC m.functions.length cC := by simpa using e
 have lC : (m.functions.length : Int) ≤ 9223372036854775807 := by simp only [maxLen] at h2; omega
 clear e h1 h2
 obtain ⟨aD, cD, e, h1, h2⟩ := Lay.slice_form2 hM.tables
 obtain rfl : vD = .slice aD m.tables.length cD := by simpa using e
 have lD : (m.tables.length : Int) ≤ 9223372036854775807 := by simp only [maxLen] at h2; omega
 clear e h1 h2
 obtain ⟨aE, cE, e, h1, h2⟩ := Lay.slice_form2 hM.memories
 obtain rfl : vE = .slice aE m.memories.length cE := by simpa using e
 have lE : (m.memories.length : Int) ≤ 9223372036854775807 := by simp only [maxLen] at h2; omega
 clear e h1 h2
 obtain ⟨aF, cF, e, h1, h2⟩ := Lay.slice_form2 hM.elements
 obtain rfl : vF = .slice aF m.elements.length cF := by simpa using e
 have lF : (m.elements.length : Int) ≤ 9223372036854775807 := by simp only [maxLen] at h2; omega
 clear e h1 h2
 obtain ⟨aG, cG, e, h1, h2⟩ := Lay.slice_form2 hM.globals
 obtain rfl : vG = .slice aG m.globals.length cG := by simpa using e
 have lG : (m.globals.length : Int) ≤ 9223372036854775807 := by simp only [maxLen] at h2; omega
 clear e h1 h2
 obtain ⟨aH, cH, e, h1, h2⟩ := Lay.slice_form2 hM.exports
 obtain rfl : vH = .slice aH m.exports.length cH := by simpa using e
 have lH : (m.exports.length : Int) ≤ 9223372036854775807 := by simp only [maxLen] at h2; omega
 clear e h1 h2
 obtain ⟨aI, cI, e, h1, h2⟩ := Lay.slice_form2 hM.codes
 obtain rfl : vI = .slice aI m.codes.length cI := by simpa using e
 have lI : (m.codes.length : Int) ≤ 9223372036854775807 := by simp only [maxLen] at h2; omega
 clear e h1 h2
 obtain ⟨aJ, cJ, e, h1, h2⟩ := Lay.slice_form2 hM.datas
 obtain rfl : vJ = .slice aJ m.datas.length cJ := by simpa using e
 have lJ : (m.datas.length : Int) ≤ 9223372036854775807 := by simp only [maxLen] at h2; omega
 clear e h1 h2
 obtain ⟨aK, cK, e, h1, h2⟩ := Lay.slice_form2 hM.customs
 obtain rfl : vK = .slice aK m.customs.length cK := by simpa using e
 have lK : (m.customs.length : Int) ≤ 9223372036854775807 := by simp only [maxLen] at h2; omega
 clear e h1 h2
 obtain ⟨aL, cL, e, h1, h2⟩ := Lay.slice_form2 hM.funcs
 obtain rfl : vL = .slice aL m.funcs.length cL := by simpa using e
 have lL : (m.funcs.length : Int) ≤ 9223372036854775807 := by simp only [maxLen] at h2; omega
 clear e h1 h2
 obtain ⟨aM, cM, e, h1, h2⟩ := Lay.slice_form2 hM.locals
 obtain rfl : vM = .slice aM m.locals.length cM := by simpa using e
 have lM : (m.locals.length : Int) ≤ 9223372036854775807 := by simp only [maxLen] at h2; omega
 clear e h1 h2
 have H := qh (anQ hM hA)
 have ct := (zk w (smc m aA cA aB cB aC cC aD cD aE cE aF cF aG cG aH cH aI cI aJ cJ aK cK aL cL aM cM) 37).ext (za _ (.cells #[.int .i64 65536] 3))
 have dw := zk (w.alloc (.cells (smc m aA cA aB cB aC cC aD cD aE cE aF cF aG cG aH cH aI cI aJ cJ aK cK aL cL aM cM) 37)) #[.int .i64 65536] 3
 rw [show (w.alloc (.cells (smc m aA cA aB cB aC cC aD cD aE cE aF cF aG cG aH cH aI cI aJ cJ aK cK aL cL aM cM) 37)).heap.size = w.heap.size + 1 by simp] at dw
 have hB := qh (anQ ct (anQ dw (Ext.trans (za w (.cells (smc m aA cA aB cB aC cC aD cD aE cE aF cF aG cG aH cH aI cI aJ cJ aK cK aL cL aM cM) 37)) (za _ (.cells #[.int .i64 65536] 3)))))
 clear hM hA ct dw
 unfold zs
 dsimp only
 go_enter Tryz.func38, Tryz.ntmps38
 go_upto_region 1 with fail
 obtain ⟨W1, gm, g, fC, eA, hg⟩ : ∃ W1 gm g, ((w.alloc (.cells (smc m aA cA aB cB aC cC aD cD aE cE aF cF aG cG aH cH aI cI aJ cJ aK cK aL cL aM cM) 37)).alloc (.cells #[.int .i64 65536] 3)) = W1 ∧ w.heap.size = gm ∧ w.heap.size + 1 = g := ⟨_, _, _, rfl, rfl, rfl⟩
 rw [fC] at hB ⊢
 rw [hg] at hB ⊢
 rw [eA] at hB ⊢
 have HG := qh (show w.heap.size ≤ gm ∧ gm < g from by omega)
 clear fC eA hg
 have HB : Hd (Blk W1 gm (smc m aA cA aB cB aC cC aD cD aE cE aF cF aG cG aH cH aI cI aJ cJ aK cK aL cL aM cM) 37 ∧ (∃ left : Int, 0 ≤ left ∧ left ≤ 65536 ∧ Blk W1 g #[.int .i64 left] 3) ∧ Ext w W1) := ⟨hB.o.1, ⟨65536, by omega, by omega, hB.o.2.1⟩, hB.o.2.2⟩
 clear hB
 have ag := HB.o.1.cell
 go_wp2_with fail
 clear ag
 go_loopw [14] (fun pM w' => ∃ i : Nat, i ≤ m.globals.length ∧ pM = .int .i64 i ∧ Hd (Blk w' gm (smc m aA cA aB cB aC cC aD cD aE cE aF cF aG cG aH cH aI cI aJ cJ aK cK aL cL aM cM) 37 ∧ (∃ left : Int, 0 ≤ left ∧ left ≤ 65536 ∧ Blk w' g #[.int .i64 left] 3) ∧ Ext w w')) (fun pM _ => m.globals.length - (intOf pM).toNat)
 case atStart => exact ⟨0, nzQ _, rfl, HB.o⟩
 clear HB
 obtain ⟨i, hi, rfl, hV⟩ := hrel
 by_cases ah : i < m.globals.length
 ·obtain ⟨eu, ⟨left, dr, iU, iy⟩, hX⟩ := hV.o
  obtain ⟨b, o, ax, cx, rfl, e0, e1, e2, r0, r1, -⟩ := Lay.glob_at2 (Lay.fr H.o.1.globals hX (fun k hk => ⟨H.o.2 k hk, fun q => q⟩)) i ah
  generalize m.globals[i] = x at *
  have HV := qh (anQ eu (anQ iy (anQ hX r1)))
  clear eu iy hX hV r0
  go_wp2_with fail
  have bl := za wr (.cells #[.int .i64 x.ty, .bool x.mtb, .slice ax x.init.length cx] 69)
  refine (zag n x.init left ax x.init.length cx A g _ (Lay.fr HV.o.2.2.2 bl (fun k hk => ⟨nqQ (H.o.2 k hk) HV.o.2.2.1.size, fun q => q⟩)) (fun k hk => by have h1 := H.o.2 k hk; have h2 := HV.o.2.2.1.size; have h3 := bl.size; have h4 := HG.o; exact ⟨by omega, by omega⟩) (HV.o.2.1.ext bl) dr (by omega)).mono ?_
  rintro e w5 ⟨rfl, hf, hb⟩
  have HF := qh (anQ ((HV.o.1.ext bl).fr hf (fun e => by have e' : gm = g := e; have := HG.o; omega)) (anQ (show Ext w w5 from Fr.new (Ext.fr (Ext.trans HV.o.2.2.1 bl) hf) (fun k e => by have e' : k = g := e; have := HG.o; omega)) hb))
  clear hf hb bl e0 e1 e2
  by_cases dK : (z5 x.init : Int) ≤ left
  ·have hd : decide ((z5 x.init : Int) ≤ left) = true := decide_eq_true dK
   have HN := qh (anQ HF.o.1 (anQ (show ∃ left : Int, 0 ≤ left ∧ left ≤ 65536 ∧ Blk w5 g #[.int .i64 left] 3 from ⟨_, by omega, by omega, HF.o.2.2 dK⟩) HF.o.2.1))
   rw [hd]
   clear hd dK
   go_wp2
   go_roundw
   case rel => exact ⟨i + 1, by omega, by go_num, HN⟩
   case measure => simp [intOf]; omega
  ·have hd : decide ((z5 x.init : Int) ≤ left) = false := decide_eq_false dK
   rw [hd]
   clear hd dK
   go_wp2
   go_ret
   exact ⟨_, rfl, HF.o.2.1⟩
 obtain rfl : i = m.globals.length := by omega
 have HB := hV
 clear hV hi ah
 generalize wr = EA at *
 have ag := HB.o.1.cell
 go_wp2_with fail
 clear ag
 go_loopw [26] (fun u7 w' => ∃ i : Nat, i ≤ m.elements.length ∧ u7 = .int .i64 i ∧ Hd (Blk w' gm (smc m aA cA aB cB aC cC aD cD aE cE aF cF aG cG aH cH aI cI aJ cJ aK cK aL cL aM cM) 37 ∧ (∃ left : Int, 0 ≤ left ∧ left ≤ 65536 ∧ Blk w' g #[.int .i64 left] 3) ∧ Ext w w')) (fun u7 _ => m.elements.length - (intOf u7).toNat)
 case atStart => exact ⟨0, nzQ _, rfl, HB.o⟩
 clear HB
 obtain ⟨i, hi, rfl, hV⟩ := hrel
 by_cases ah : i < m.elements.length
 ·obtain ⟨eu, ⟨left, dr, iU, iy⟩, hX⟩ := hV.o
  obtain ⟨b, o, ax, cx, ay, cy, rfl, e0, e1, e2, r0, r1, -⟩ := Lay.elem_at2 (Lay.fr H.o.1.elements hX (fun k hk => ⟨H.o.2 k hk, fun q => q⟩)) i ah
  generalize m.elements[i] = x at *
  have HV := qh (anQ eu (anQ iy (anQ hX r0)))
  clear eu iy hX hV r1
  go_wp2_with fail
  have bl := za wr (.cells #[.int .u32 (x.index.toNat : Int), .slice ax x.off.length cx, .slice ay x.ids.length cy] 71)
  refine (zag n x.off left ax x.off.length cx A g _ (Lay.fr HV.o.2.2.2 bl (fun k hk => ⟨nqQ (H.o.2 k hk) HV.o.2.2.1.size, fun q => q⟩)) (fun k hk => by have h1 := H.o.2 k hk; have h2 := HV.o.2.2.1.size; have h3 := bl.size; have h4 := HG.o; exact ⟨by omega, by omega⟩) (HV.o.2.1.ext bl) dr (by omega)).mono ?_
  rintro e w5 ⟨rfl, hf, hb⟩
  have HF := qh (anQ ((HV.o.1.ext bl).fr hf (fun e => by have e' : gm = g := e; have := HG.o; omega)) (anQ (show Ext w w5 from Fr.new (Ext.fr (Ext.trans HV.o.2.2.1 bl) hf) (fun k e => by have e' : k = g := e; have := HG.o; omega)) hb))
  clear hf hb bl e0 e1 e2
  by_cases dK : (z5 x.off : Int) ≤ left
  ·have hd : decide ((z5 x.off : Int) ≤ left) = true := decide_eq_true dK
   have HN := qh (anQ HF.o.1 (anQ (show ∃ left : Int, 0 ≤ left ∧ left ≤ 65536 ∧ Blk w5 g #[.int .i64 left] 3 from ⟨_, by omega, by omega, HF.o.2.2 dK⟩) HF.o.2.1))
   rw [hd]
   clear hd dK
   go_wp2
   go_roundw
   case rel => exact ⟨i + 1, by omega, by go_num, HN⟩
   case measure => simp [intOf]; omega
  ·have hd : decide ((z5 x.off : Int) ≤ left) = false := decide_eq_false dK
   rw [hd]
   clear hd dK
   go_wp2
   go_ret
   exact ⟨_, rfl, HF.o.2.1⟩
 obtain rfl : i = m.elements.length := by omega
 have HB := hV
 clear hV hi ah
 generalize wr = C2 at *
 have ag := HB.o.1.cell
 go_wp2_with fail
 clear ag
 go_loopw [38] (fun wa w' => ∃ i : Nat, i ≤ m.datas.length ∧ wa = .int .i64 i ∧ Hd (Blk w' gm (smc m aA cA aB cB aC cC aD cD aE cE aF cF aG cG aH cH aI cI aJ cJ aK cK aL cL aM cM) 37 ∧ (∃ left : Int, 0 ≤ left ∧ left ≤ 65536 ∧ Blk w' g #[.int .i64 left] 3) ∧ Ext w w')) (fun wa _ => m.datas.length - (intOf wa).toNat)
 case atStart => exact ⟨0, nzQ _, rfl, HB.o⟩
 clear HB
 obtain ⟨i, hi, rfl, hV⟩ := hrel
 by_cases ah : i < m.datas.length
 ·obtain ⟨eu, ⟨left, dr, iU, iy⟩, hX⟩ := hV.o
  obtain ⟨b, o, ax, cx, ay, cy, rfl, e0, e1, e2, r0, r1, -⟩ := Lay.dat_at2 (Lay.fr H.o.1.datas hX (fun k hk => ⟨H.o.2 k hk, fun q => q⟩)) i ah
  generalize m.datas[i] = x at *
  have HV := qh (anQ eu (anQ iy (anQ hX r0)))
  clear eu iy hX hV r1
  go_wp2_with fail
  have bl := za wr (.cells #[.int .u32 (x.index.toNat : Int), .slice ax x.off.length cx, .slice ay x.init.length cy] 73)
  refine (zag n x.off left ax x.off.length cx A g _ (Lay.fr HV.o.2.2.2 bl (fun k hk => ⟨nqQ (H.o.2 k hk) HV.o.2.2.1.size, fun q => q⟩)) (fun k hk => by have h1 := H.o.2 k hk; have h2 := HV.o.2.2.1.size; have h3 := bl.size; have h4 := HG.o; exact ⟨by omega, by omega⟩) (HV.o.2.1.ext bl) dr (by omega)).mono ?_
  rintro e w5 ⟨rfl, hf, hb⟩
  have HF := qh (anQ ((HV.o.1.ext bl).fr hf (fun e => by have e' : gm = g := e; have := HG.o; omega)) (anQ (show Ext w w5 from Fr.new (Ext.fr (Ext.trans HV.o.2.2.1 bl) hf) (fun k e => by have e' : k = g := e; have := HG.o; omega)) hb))
  clear hf hb bl e0 e1 e2
  by_cases dK : (z5 x.off : Int) ≤ left
  ·have hd : decide ((z5 x.off : Int) ≤ left) = true := decide_eq_true dK
   have HN := qh (anQ HF.o.1 (anQ (show ∃ left : Int, 0 ≤ left ∧ left ≤ 65536 ∧ Blk w5 g #[.int .i64 left] 3 from ⟨_, by omega, by omega, HF.o.2.2 dK⟩) HF.o.2.1))
   rw [hd]
   clear hd dK
   go_wp2
   go_roundw
   case rel => exact ⟨i + 1, by omega, by go_num, HN⟩
   case measure => simp [intOf]; omega
  ·have hd : decide ((z5 x.off : Int) ≤ left) = false := decide_eq_false dK
   rw [hd]
   clear hd dK
   go_wp2
   go_ret
   exact ⟨_, rfl, HF.o.2.1⟩
 obtain rfl : i = m.datas.length := by omega
 have HB := hV
 clear hV hi ah
 generalize wr = ik at *
 go_wp2
 go_ret
 exact ⟨_, rfl, HB.o.2.2⟩
theorem zdV (hM : ModAt n A w m v) (hA : ∀ k, A k → k < w.heap.size) (hl : (yn m).length ≤ 2147483648) :
 Calls Tryz.prog 12 #[.agg (zs m v)] w fun e w' => ∃ b : Bool, e = .returned (.bool b) ∧ (b = true → (yn m).length ≤ 65536) ∧ Ext w w' := by
 obtain ⟨vA, vB, vC, vD, vE, vF, vG, vH, vI, vJ, vK, vL, vM⟩ := v
 obtain ⟨aA, cA, e, h1, h2⟩ := Lay.slice_form2 hM.types
 obtain rfl : vA = .slice aA m.types.length cA := by simpa using e
 have lA : (m.types.length : Int) ≤ 9223372036854775807 := by simp only [maxLen] at h2; omega
 clear e h1 h2
 obtain ⟨aB, cB, e, h1, h2⟩ := Lay.slice_form2 hM.imports
 obtain rfl : vB = .slice aB m.imports.length cB := by simpa using e
 have lB : (m.imports.length : Int) ≤ 9223372036854775807 := by simp only [maxLen] at h2; omega
 clear e h1 h2
 obtain ⟨aC, cC, e, h1, h2⟩ := Lay.slice_form2 hM.functions
 obtain rfl : vC = .slice aC m.functions.length cC := by simpa using e
 have lC : (m.functions.length : Int) ≤ 9223372036854775807 := by simp only [maxLen] at h2; omega
 clear e h1 h2
 obtain ⟨aD, cD, e, h1, h2⟩ := Lay.slice_form2 hM.tables
 obtain rfl : vD = .slice aD m.tables.length cD := by simpa using e
 have lD : (m.tables.length : Int) ≤ 9223372036854775807 := by simp only [maxLen] at h2; omega
 clear e h1 h2
 obtain ⟨aE, cE, e, h1, h2⟩ := Lay.slice_form2 hM.memories
 obtain rfl : vE = .slice aE m.memories.length cE := by simpa using e
 have lE : (m.memories.length : Int) ≤ 9223372036854775807 := by simp only [maxLen] at h2; omega
 clear e h1 h2
 obtain ⟨aF, cF, e, h1, h2⟩ := Lay.slice_form2 hM.elements
 obtain rfl : vF = .slice aF m.elements.length cF := by simpa using e
 have lF : (m.elements.length : Int) ≤ 9223372036854775807 := by simp only [maxLen] at h2; omega
 clear e h1 h2
 obtain ⟨aG, cG, e, h1, h2⟩ := Lay.slice_form2 hM.globals
 obtain rfl : vG = .slice aG m.globals.length cG := by simpa using e
 have lG : (m.globals.length : Int) ≤ 9223372036854775807 := by simp only [maxLen] at h2; omega
 clear e h1 h2
 obtain ⟨aH, cH, e, h1, h2⟩ := Lay.slice_form2 hM.exports
 obtain rfl : vH = .slice aH m.exports.length cH := by simpa using e
 have lH : (m.exports.length : Int) ≤ 9223372036854775807 := by simp only [maxLen] at h2; omega
 clear e h1 h2
 obtain ⟨aI, cI, e, h1, h2⟩ := Lay.slice_form2 hM.codes
 obtain rfl : vI = .slice aI m.codes.length cI := by simpa using e
 have lI : (m.codes.length : Int) ≤ 9223372036854775807 := by simp only [maxLen] at h2; omega
 clear e h1 h2
 obtain ⟨aJ, cJ, e, h1, h2⟩ := Lay.slice_form2 hM.datas
 obtain rfl : vJ = .slice aJ m.datas.length cJ := by simpa using e
 have lJ : (m.datas.length : Int) ≤ 9223372036854775807 := by simp only [maxLen] at h2; omega
 clear e h1 h2
 obtain ⟨aK, cK, e, h1, h2⟩ := Lay.slice_form2 hM.customs
 obtain rfl : vK = .slice aK m.customs.length cK := by simpa using e
 have lK : (m.customs.length : Int) ≤ 9223372036854775807 := by simp only [maxLen] at h2; omega
 clear e h1 h2
 obtain ⟨aL, cL, e, h1, h2⟩ := Lay.slice_form2 hM.funcs
 obtain rfl : vL = .slice aL m.funcs.length cL := by simpa using e
 have lL : (m.funcs.length : Int) ≤ 9223372036854775807 := by simp only [maxLen] at h2; omega
 clear e h1 h2
 obtain ⟨aM, cM, e, h1, h2⟩ := Lay.slice_form2 hM.locals
 obtain rfl : vM = .slice aM m.locals.length cM := by simpa using e
 have lM : (m.locals.length : Int) ≤ 9223372036854775807 := by simp only [maxLen] at h2; omega
 clear e h1 h2
 have H := qh (anQ hM (anQ hA hl))
 have hB := qh (anQ (zk w (smc m aA cA aB cB aC cC aD cD aE cE aF cF aG cG aH cH aI cI aJ cJ aK cK aL cL aM cM) 37) (za w (.cells (smc m aA cA aB cB aC cC aD cD aE cE aF cF aG cG aH cH aI cI aJ cJ aK cK aL cL aM cM) 37)))
 clear hM hA hl
 unfold zs
 dsimp only
 go_enter Tryz.func12, Tryz.ntmps12
 go_wp2_with (with_reducible refine Zc 37 ?_)
 refine qh ?_
 obtain ⟨W1, gm, fC, eA⟩ : ∃ W1 gm, (w.alloc (.cells (smc m aA cA aB cB aC cC aD cD aE cE aF cF aG cG aH cH aI cI aJ cJ aK cK aL cL aM cM) 37)) = W1 ∧ w.heap.size = gm := ⟨_, _, rfl, rfl⟩
 rw [fC] at hB ⊢
 rw [eA] at hB ⊢
 clear fC eA
 refine hB.o.1.wpList_load rfl 37 (.tmp 1) rfl rfl _ Tryz.underlying37 rfl (by kernel_rfl) ?_
 go_wp2_with fail
 refine (zeN (H.o.1.fr hB.o.2 (fun k hk => ⟨H.o.2.1 k hk, fun q => q⟩)) (fun k hk => nqQ (H.o.2.1 k hk) hB.o.2.size)).mono ?_
 rintro e w2 ⟨b2, rfl, k⟩
 have hB := qh (anQ (hB.o.1.ext k) (Ext.trans hB.o.2 k))
 clear k
 cases b2
 ·go_wp2
  go_ret
  exact ⟨_, rfl, fun h => (by cases h), hB.o.2⟩
 ·have ag := hB.o.1.cell
  go_wp2_with fail
  clear ag
  refine (zai (H.o.1.fr hB.o.2 (fun k hk => ⟨H.o.2.1 k hk, fun q => q⟩)) (fun k hk => nqQ (H.o.2.1 k hk) hB.o.2.size) H.o.2.2).mono ?_
  rintro e w3 ⟨rfl, k⟩
  have hX := qh (Ext.trans hB.o.2 k)
  clear k
  have cl := qh (strI (yn m))
  generalize (zc (yn m)) = sk at *
  go_wp2
  go_ret
  exact ⟨_, rfl, fun h => by have := cl.o; have h := of_decide_eq_true h; omega, hX.o⟩
end Go.Proofs.YtejgninpjhcgnaaGreatDoor
