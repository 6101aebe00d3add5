/- Texts of this proof, one behind the other. -/
import Derived.Test.YtejgninpjhcgnaaGreatDoorPart18
namespace Go.Proofs.YtejgninpjhcgnaaGreatDoor
open Go.RowKit
set_option linter.unusedSimpArgs false
set_option linter.unusedVariables false
set_option maxRecDepth 100000
set_option maxHeartbeats 16000000
def kq0 (_ : Mod) : List UInt8 := []
def kq1 (m : Mod) : List UInt8 := kq0 m ++ (jP m)
def kq2 (m : Mod) : List UInt8 := kq1 m ++ (uleb m.types.length ++ m.types.flatMap Zz)
def kq3 (m : Mod) : List UInt8 := kq2 m ++ (uleb m.imports.length ++ m.imports.flatMap jd)
def kq4 (m : Mod) : List UInt8 := kq3 m ++ (Zy m.functions)
def kq5 (m : Mod) : List UInt8 := kq4 m ++ (jj m.tables)
def kq6 (m : Mod) : List UInt8 := kq5 m ++ (jj m.memories)
def kq7 (m : Mod) : List UInt8 := kq6 m ++ (uleb m.elements.length ++ m.elements.flatMap yG)
def kq8 (m : Mod) : List UInt8 := kq7 m ++ (uleb m.globals.length ++ m.globals.flatMap yH)
def kq9 (m : Mod) : List UInt8 := kq8 m ++ (uleb m.exports.length ++ m.exports.flatMap yU)
def kq10 (m : Mod) : List UInt8 := kq9 m ++ (uleb m.codes.length ++ m.codes.flatMap zz)
def kq11 (m : Mod) : List UInt8 := kq10 m ++ (uleb m.datas.length ++ m.datas.flatMap jp)
def kq12 (m : Mod) : List UInt8 := kq11 m ++ (uleb m.customs.length ++ m.customs.flatMap j2)
def kq13 (m : Mod) : List UInt8 := kq12 m ++ (zz m.named)
def kq14 (m : Mod) : List UInt8 := kq13 m ++ (jK m.funcs)
def kq15 (m : Mod) : List UInt8 := kq14 m ++ (jK (Zj m.locals))
theorem yn (m : Mod) : kq15 m = yI m := by simp only [kq0, kq1, kq2, kq3, kq4, kq5, kq6, kq7, kq8, kq9, kq10, kq11, kq12, kq13, kq14, kq15, yI, List.nil_append]
variable {m : Mod}
theorem kcap0 (h : (yI m).length ≤ 2147483648) : (kq1 m).length ≤ 2147483648 := by
 rw [← yn] at h
 simp only [kq2, kq3, kq4, kq5, kq6, kq7, kq8, kq9, kq10, kq11, kq12, kq13, kq14, kq15, laQ] at h
 omega
theorem kcap1 (h : (yI m).length ≤ 2147483648) : (kq2 m).length ≤ 2147483648 := by
 rw [← yn] at h
 simp only [kq3, kq4, kq5, kq6, kq7, kq8, kq9, kq10, kq11, kq12, kq13, kq14, kq15, laQ] at h
 omega
theorem kcap2 (h : (yI m).length ≤ 2147483648) : (kq3 m).length ≤ 2147483648 := by
 rw [← yn] at h
 simp only [kq4, kq5, kq6, kq7, kq8, kq9, kq10, kq11, kq12, kq13, kq14, kq15, laQ] at h
 omega
theorem kcap3 (h : (yI m).length ≤ 2147483648) : (kq4 m).length ≤ 2147483648 := by
 rw [← yn] at h
 simp only [kq5, kq6, kq7, kq8, kq9, kq10, kq11, kq12, kq13, kq14, kq15, laQ] at h
 omega
theorem kcap4 (h : (yI m).length ≤ 2147483648) : (kq5 m).length ≤ 2147483648 := by
 rw [← yn] at h
 simp only [kq6, kq7, kq8, kq9, kq10, kq11, kq12, kq13, kq14, kq15, laQ] at h
 omega
theorem kcap5 (h : (yI m).length ≤ 2147483648) : (kq6 m).length ≤ 2147483648 := by
 rw [← yn] at h
 simp only [kq7, kq8, kq9, kq10, kq11, kq12, kq13, kq14, kq15, laQ] at h
 omega
theorem kcap6 (h : (yI m).length ≤ 2147483648) : (kq7 m).length ≤ 2147483648 := by
 rw [← yn] at h
 simp only [kq8, kq9, kq10, kq11, kq12, kq13, kq14, kq15, laQ] at h
 omega
theorem kcap7 (h : (yI m).length ≤ 2147483648) : (kq8 m).length ≤ 2147483648 := by
 rw [← yn] at h
 simp only [kq9, kq10, kq11, kq12, kq13, kq14, kq15, laQ] at h
 omega
theorem kcap8 (h : (yI m).length ≤ 2147483648) : (kq9 m).length ≤ 2147483648 := by
 rw [← yn] at h
 simp only [kq10, kq11, kq12, kq13, kq14, kq15, laQ] at h
 omega
theorem kcap9 (h : (yI m).length ≤ 2147483648) : (kq10 m).length ≤ 2147483648 := by
 rw [← yn] at h
 simp only [kq11, kq12, kq13, kq14, kq15, laQ] at h
 omega
theorem zjZ (h : (yI m).length ≤ 2147483648) : (kq11 m).length ≤ 2147483648 := by
 rw [← yn] at h
 simp only [kq12, kq13, kq14, kq15, laQ] at h
 omega
theorem zj0 (h : (yI m).length ≤ 2147483648) : (kq12 m).length ≤ 2147483648 := by
 rw [← yn] at h
 simp only [kq13, kq14, kq15, laQ] at h
 omega
theorem zj1 (h : (yI m).length ≤ 2147483648) : (kq13 m).length ≤ 2147483648 := by
 rw [← yn] at h
 simp only [kq14, kq15, laQ] at h
 omega
theorem zj2 (h : (yI m).length ≤ 2147483648) : (kq14 m).length ≤ 2147483648 := by
 rw [← yn] at h
 simp only [kq15, laQ] at h
 omega
theorem zj3 (h : (yI m).length ≤ 2147483648) : (kq15 m).length ≤ 2147483648 := by rw [yn]; exact h
theorem zdl (n : Nat) : 1 ≤ (uleb n).length := by
 by_cases h : n < 128
 ·rw [ZL h]; simp
 ·rw [zbV (by omega), List.length_cons]; omega
theorem zgX (l : List Int) : l.length ≤ (l.flatMap Jr).length := by
 induction l with
 | nil => simp
 | cons x xs ih => have : 1 ≤ (Jr x).length := zdl _; simp only [List.flatMap_cons, laQ, List.length_cons]; omega
theorem zfk (t : FT) : t.ps.length + t.rs.length ≤ (Zz t).length := by
 have h1 := zgX t.ps
 have h2 := zgX t.rs
 simp only [Zz, zz, Yd, Zh, laQ]
 omega
theorem zi6 (l : List Nam) : l.length ≤ (jK l).length := by
 have key : ∀ l : List Nam, l.length ≤ (l.flatMap jA).length := by
  intro l
  induction l with
  | nil => simp
  | cons x xs ih => have h := zdl x.fn.toNat; simp only [List.flatMap_cons, jA, laQ, List.length_cons] at *; omega
 have := key l
 simp only [jK, laQ]
 omega
variable {w : World} {g : Nat}
theorem zi7 {x : Lim} {T : TypeId} (h : Blk w g #[.int .u32 (x.min.toNat : Int), .bool x.bounded, .int .u32 (x.max.toNat : Int)] T) : Lay.lim.slice.rd (fun k => k = g) w [.slice (some ⟨g, 0, none⟩) 1 1] [x] :=
 ⟨_, 1, rfl, Nat.le_refl _, by decide, fun _ => ⟨g, 0, _, T, (0, 0), [.int .u32 (x.min.toNat : Int), .bool x.bounded, .int .u32 (x.max.toNat : Int)], rfl, rfl, h, Lay.all_single ⟨[_], [_, _], rfl, rfl, [_], [_], rfl, rfl, rfl⟩, fun j hj => by simp⟩⟩
variable {A : Nat → Prop}
theorem KSt.away {lo : Nat} {pre : List UInt8} {wc : World} {bx : List (Nat × Array Value × TypeId)} (h : KSt w lo g pre wc bx) (hw : w.heap.size ≤ lo) (hA : ∀ k, A k → k < w.heap.size) : Away ym g wc A :=
 fun k hk => ⟨nqQ (hA k hk) h.ext.size, fun hf => by have := (ym.lt h.is k hf).1; have := hA k hk; omega⟩
variable {n : Nat}
theorem zbP {v : ModV} (hM : ModAt n A w m v) (hA : ∀ k, A k → k < w.heap.size) (hl : (yI m).length ≤ 2147483648) :
 Calls Tryz.prog 9 #[.agg (zt m v)] w fun e w' => e = .returned (.string (zd (yI m))) ∧ Ext w w' := by
 obtain ⟨vA, vB, vC, vD, vE, vF, vG, vH, vI, vJ, vK, vL, vM⟩ := v
 obtain ⟨aA, cA, e, h1, h2⟩ := Lay.slice_form2 hM.types
 have lA := qh (nlQ h1 h2)
 obtain rfl : vA = .slice aA m.types.length cA := by simpa using e
 clear e h1 h2
 obtain ⟨aB, cB, e, h1, h2⟩ := Lay.slice_form2 hM.imports
 have lB := qh (nlQ h1 h2)
 obtain rfl : vB = .slice aB m.imports.length cB := by simpa using e
 clear e h1 h2
 obtain ⟨aC, cC, e, h1, h2⟩ := Lay.slice_form2 hM.functions
 have lC := qh (nlQ h1 h2)
 obtain rfl : vC = .slice aC m.functions.length cC := by simpa using e
 clear e h1 h2
 obtain ⟨aD, cD, e, h1, h2⟩ := Lay.slice_form2 hM.tables
 have lD := qh (nlQ h1 h2)
 obtain rfl : vD = .slice aD m.tables.length cD := by simpa using e
 clear e h1 h2
 obtain ⟨aE, cE, e, h1, h2⟩ := Lay.slice_form2 hM.memories
 have lE := qh (nlQ h1 h2)
 obtain rfl : vE = .slice aE m.memories.length cE := by simpa using e
 clear e h1 h2
 obtain ⟨aF, cF, e, h1, h2⟩ := Lay.slice_form2 hM.elements
 have lF := qh (nlQ h1 h2)
 obtain rfl : vF = .slice aF m.elements.length cF := by simpa using e
 clear e h1 h2
 obtain ⟨aG, cG, e, h1, h2⟩ := Lay.slice_form2 hM.globals
 have lG := qh (nlQ h1 h2)
 obtain rfl : vG = .slice aG m.globals.length cG := by simpa using e
 clear e h1 h2
 obtain ⟨aH, cH, e, h1, h2⟩ := Lay.slice_form2 hM.exports
 have lH := qh (nlQ h1 h2)
 obtain rfl : vH = .slice aH m.exports.length cH := by simpa using e
 clear e h1 h2
 obtain ⟨aI, cI, e, h1, h2⟩ := Lay.slice_form2 hM.codes
 have lI := qh (nlQ h1 h2)
 obtain rfl : vI = .slice aI m.codes.length cI := by simpa using e
 clear e h1 h2
 obtain ⟨aJ, cJ, e, h1, h2⟩ := Lay.slice_form2 hM.datas
 have lJ := qh (nlQ h1 h2)
 obtain rfl : vJ = .slice aJ m.datas.length cJ := by simpa using e
 clear e h1 h2
 obtain ⟨aK, cK, e, h1, h2⟩ := Lay.slice_form2 hM.customs
 have lK := qh (nlQ h1 h2)
 obtain rfl : vK = .slice aK m.customs.length cK := by simpa using e
 clear e h1 h2
 obtain ⟨aL, cL, e, h1, h2⟩ := Lay.slice_form2 hM.funcs
 have lL := qh (nlQ h1 h2)
 obtain rfl : vL = .slice aL m.funcs.length cL := by simpa using e
 clear e h1 h2
 obtain ⟨aM, cM, e, h1, h2⟩ := Lay.slice_form2 hM.locals
 have lM := qh (nlQ h1 h2)
 obtain rfl : vM = .slice aM m.locals.length cM := by simpa using e
 clear e h1 h2
 have H := qh (anQ hM (anQ hA hl))
 clear hM hA hl
 unfold zt
 dsimp only
 go_enter Tryz.func9, Tryz.ntmps9
 go_wp2_with fail
 have df := za w (.cells (kmc m aA cA aB cB aC cC aD cD aE cE aF cF aG cG aH cH aI cI aJ cJ aK cK aL cL aM cM) 37)
 have hB := zl w (kmc m aA cA aB cB aC cC aD cD aE cE aF cF aG cG aH cH aI cI aJ cJ aK cK aL cL aM cM) 37
 have eG : (w.alloc (.cells (kmc m aA cA aB cB aC cC aD cD aE cE aF cF aG cG aH cH aI cI aJ cJ aK cK aL cL aM cM) 37)).heap.size = w.heap.size + 1 := by simp
 generalize (w.alloc (.cells (kmc m aA cA aB cB aC cC aD cD aE cE aF cF aG cG aH cH aI cI aJ cJ aK cK aL cL aM cM) 37)) = W0 at *
 have HK := qh (show KSt w (w.heap.size + 1) (w.heap.size + 1) (kq0 m) (W0.alloc (.cells #[.slice none 0 0] 86)) [(w.heap.size, (kmc m aA cA aB cB aC cC aD cD aE cE aF cF aG cG aH cH aI cI aJ cJ aK cK aL cL aM cM), 37)] from by
  have eJ := za W0 (.cells #[.slice none 0 0] 86)
  refine ⟨zhV 86 W0 _ eG, by rw [← eG]; exact eJ.size, Ext.trans df eJ, fun b hb => ?_⟩
  obtain rfl := List.mem_singleton.1 hb
  refine ⟨hB.ext eJ, ?_⟩
  rintro (e | ⟨v', hc, hk⟩)
  ·have e' : w.heap.size = w.heap.size + 1 := e; omega
  ·rw [← eG, (zl W0 _ _).cell 0] at hc
   simp at hc
   subst hc
   simp [Value.ownBlock] at hk)
 obtain ⟨g, hg⟩ := exQ (w.heap.size + 1)
 have bX := qh (show w.heap.size ≤ g from by omega)
 have vp := qh (show ∀ k, A k → k < g from fun k hk => by have := H.o.2.1 k hk; omega)
 rw [hg]
 rw [hg] at HK
 clear df hB eG hg
 generalize (W0.alloc (.cells #[.slice none 0 0] 86)) = W1 at *
 have au := HK.o.box0
 have bd := qh (show (kq0 m).length + (jP m).length ≤ 2147483648 from by have := kcap0 H.o.2.2; simpa [kq1] using this)
 have ri := m.start.toNat_lt
 have Aq := yb m.start.toNat (by omega)
 have pU := qh (show m.start.toNat < 18446744073709551616 by omega)
 refine (jc _ _ m.hasStart _ _ HK.o.is HK.o.lo (by have := bd.o; simp only [jP, jU, zG, kq0, laQ, List.length_nil] at *; omega)).mono ?_
 rintro e w2 ⟨rfl, hR⟩
 replace HK := qh (HK.o.step bX.o hR)
 clear hR au
 have au := HK.o.box0
 obtain ⟨hs, AX⟩ := exQ (m.hasStart)
 have tX := qh AX
 unfold kmc at au
 rw [AX] at au ⊢
 have ph : Hq (∃ w3, w3 = w2) := ⟨w2, rfl⟩
 clear ph
 cases hs
 case' true =>
  have oX := qh (show (kq0 m).length + ((uleb 1).length + (uleb m.start.toNat).length) ≤ 2147483648 from by have := bd.o; simpa [jP, jU, tX.o] using this)
  replace HK := qh (HK.o.conv (pre' := kq0 m ++ uleb 1) (by simp [tX.o]))
  go_wp2_with fail
  refine (zh _ _ m.start.toNat pU.o _ w2 HK.o.is HK.o.lo (by have := oX.o; simp only [laQ, zG] at *; omega)).mono ?_
  rintro e w3 ⟨rfl, hR⟩
  replace HK := qh (HK.o.step bX.o hR)
  clear hR au
  have au := HK.o.box0
  replace HK := qh (HK.o.conv (pre' := kq1 m) (by simp [kq0, kq1, jP, jU, tX.o]))
  clear bd oX ri Aq pU
 case' false =>
  replace HK := qh (HK.o.conv (pre' := kq1 m) (by simp [kq0, kq1, jP, jU, tX.o]))
  clear bd ri Aq pU
  obtain ⟨w3, rfl⟩ : ∃ w3, w3 = w2 := ⟨_, rfl⟩
 all_goals
  go_wp2_with fail
  have bd := qh (show (kq1 m).length + ((uleb m.types.length).length + (m.types.flatMap Zz).length) ≤ 2147483648 from by have := kcap1 H.o.2.2; simpa [kq2] using this)
  have aT : (m.types.length : Int) ≤ 9223372036854775807 := by have := lA.o; simp only [maxLen] at this; omega
  have fx := yb m.types.length (by omega)
  have dV := qh (show m.types.length < 18446744073709551616 by omega)
  rw [fx]
  refine (zh _ _ m.types.length dV.o _ w3 HK.o.is HK.o.lo (by have := bd.o; simp only [laQ, List.length_nil, zG] at *; omega)).mono ?_
  rintro e w4 ⟨rfl, hR⟩
  replace HK := qh (HK.o.step bX.o hR)
  clear hR au
  have au := HK.o.box0
  replace HK := qh (HK.o.conv (pre' := kq1 m ++ uleb m.types.length ++ (m.types.take 0).flatMap Zz) (by simp))
  go_wp2_with fail
  clear au
  go_loopw [5, 37] (fun s5 uH w' => ∃ (i : Nat), i ≤ m.types.length ∧ uH = .int .i64 i ∧ Hq (KSt w g g (kq1 m ++ uleb m.types.length ++ (m.types.take i).flatMap Zz) w' [(w.heap.size, (kmc m aA cA aB cB aC cC aD cD aE cE aF cF aG cG aH cH aI cI aJ cJ aK cK aL cL aM cM), 37)])) (fun _ uH _ => m.types.length - (intOf uH).toNat)
  case atStart => exact ⟨0, nzQ _, rfl, HK.o⟩
  clear HK
  obtain ⟨i, hi, rfl, HK⟩ := hrel
  by_cases aj : i < m.types.length
  ·obtain ⟨b, o, ax, cx, ay, cy, rfl, e0, e1, r0, r1⟩ := Lay.ft_at H.o.1.types i aj
   have bU := qh (Jn (f := Zz) aj)
   obtain ⟨rest, em⟩ := jB (f := Zz) aj
   generalize m.types[i] = x at *
   replace e0 := HK.o.ext.cell e0 (fun h => h)
   replace e1 := HK.o.ext.cell e1 (fun h => h)
   have r0 := qh r0
   have r1 := qh r1
   have d4 := qh (show (kq1 m).length + (uleb m.types.length).length + ((m.types.take i).flatMap Zz).length + (Zz x).length ≤ 2147483648 from by have := bd.o; rw [em] at this; simp only [laQ] at this; omega)
   clear em
   have au := HK.o.box0
   go_wp2_with fail
   replace HK := qh (HK.o.push #[.slice ax x.ps.length cx, .slice ay x.rs.length cy] 91)
   clear e0 e1 au
   generalize (wr.alloc (.cells #[.slice ax x.ps.length cx, .slice ay x.rs.length cy] 91)) = W2 at *
   obtain ⟨ge, cm⟩ := exQ (wr.heap.size)
   rw [cm] at HK ⊢
   clear cm
   have au := HK.o.box1
   have co := HK.o.box0
   go_wp2_with fail
   have A8 : x.ps.length + x.rs.length ≤ 4294967296 := by have h := zfk x; have := d4.o; omega
   refine (zcf (x.ps, x.rs) _ _ A W2 (HK.o.rd r0.o H.o.2.1) (HK.o.rd r1.o H.o.2.1) (fun k hk => nqQ (H.o.2.1 k hk) HK.o.ext.size) A8).mono ?_
   rintro e w5 ⟨rfl, hR⟩
   replace HK := qh (HK.o.grow hR)
   clear A8
   clear hR au co
   have au := HK.o.box1
   have co := HK.o.box0
   go_wp2_with fail
   refine (z4 _ _ (zd (Yd (x.ps, x.rs))) _ w5 HK.o.is HK.o.lo (by have := d4.o; simp only [Zz, zz, zB, zA, laQ, zG] at *; omega)).mono ?_
   rintro e w6 ⟨rfl, hR⟩
   replace HK := qh (HK.o.step bX.o hR)
   clear hR au co
   have au := HK.o.box1
   have co := HK.o.box0
   have bO := qh (HK.o.pop.conv (pre' := kq1 m ++ uleb m.types.length ++ (m.types.take (i + 1)).flatMap Zz) (by rw [bU.o]; simp only [Zz, zA]; simp [List.append_assoc]))
   clear au co HK
   go_wp2
   go_roundw
   case rel => exact ⟨i + 1, by omega, by go_num, bO⟩
   case measure => simp [intOf]; omega
  obtain rfl : i = m.types.length := by omega
  replace HK := qh (HK.o.conv (pre' := kq2 m) (by rw [tlQ]; simp [kq2, List.append_assoc]))
  have au := HK.o.box0
  clear aT fx dV bd hi aj
  generalize wr = tp at *
  go_wp2_with fail
  have bd := qh (show (kq2 m).length + ((uleb m.imports.length).length + (m.imports.flatMap jd).length) ≤ 2147483648 from by have := kcap2 H.o.2.2; simpa [kq3] using this)
  have aT : (m.imports.length : Int) ≤ 9223372036854775807 := by have := lB.o; simp only [maxLen] at this; omega
  have fx := yb m.imports.length (by omega)
  have dV := qh (show m.imports.length < 18446744073709551616 by omega)
  rw [fx]
  refine (zh _ _ m.imports.length dV.o _ tp HK.o.is HK.o.lo (by have := bd.o; simp only [laQ, List.length_nil, zG] at *; omega)).mono ?_
  rintro e w7 ⟨rfl, hR⟩
  replace HK := qh (HK.o.step bX.o hR)
  clear hR au
  have au := HK.o.box0
  replace HK := qh (HK.o.conv (pre' := kq2 m ++ uleb m.imports.length ++ (m.imports.take 0).flatMap jd) (by simp))
  go_wp2_with fail
  clear au
  go_loopw [7, 53] (fun s7 xT w' => ∃ (i : Nat), i ≤ m.imports.length ∧ xT = .int .i64 i ∧ Hq (KSt w g g (kq2 m ++ uleb m.imports.length ++ (m.imports.take i).flatMap jd) w' [(w.heap.size, (kmc m aA cA aB cB aC cC aD cD aE cE aF cF aG cG aH cH aI cI aJ cJ aK cK aL cL aM cM), 37)])) (fun _ xT _ => m.imports.length - (intOf xT).toNat)
  case atStart => exact ⟨0, nzQ _, rfl, HK.o⟩
  clear HK
  obtain ⟨i, hi, rfl, HK⟩ := hrel
  by_cases aj : i < m.imports.length
  ·obtain ⟨b, o, rfl, e0, e1, e2, e3, e4, e5, e6, e7, e8, -, -, -, -⟩ := Lay.imp_at H.o.1.imports i aj
   have bU := qh (Jn (f := jd) aj)
   obtain ⟨rest, em⟩ := jB (f := jd) aj
   generalize m.imports[i] = x at *
   replace e0 := HK.o.ext.cell e0 (fun h => h)
   replace e1 := HK.o.ext.cell e1 (fun h => h)
   replace e2 := HK.o.ext.cell e2 (fun h => h)
   replace e3 := HK.o.ext.cell e3 (fun h => h)
   replace e4 := HK.o.ext.cell e4 (fun h => h)
   replace e5 := HK.o.ext.cell e5 (fun h => h)
   replace e6 := HK.o.ext.cell e6 (fun h => h)
   replace e7 := HK.o.ext.cell e7 (fun h => h)
   replace e8 := HK.o.ext.cell e8 (fun h => h)
   have d4 := qh (show (kq2 m).length + (uleb m.imports.length).length + ((m.imports.take i).flatMap jd).length + (jd x).length ≤ 2147483648 from by have := bd.o; rw [em] at this; simp only [laQ] at this; omega)
   clear em
   have au := HK.o.box0
   obtain ⟨n1, eG, gu, cV⟩ := JX x.kind
   have gu := qh gu
   have cV := qh cV
   have qN := x.index.toNat_lt
   have eW := yb x.index.toNat (by omega)
   have eQ := qh (show x.index.toNat < 18446744073709551616 by omega)
   obtain ⟨n3, pi, qU, fY⟩ := JX x.ty
   have qU := qh qU
   have fY := qh fY
   go_wp2_with fail
   replace HK := qh (HK.o.push #[.string (zd x.mdl), .string (zd x.name), .int .i64 x.kind, .int .u32 (x.index.toNat : Int), .int .u32 (x.lim.min.toNat : Int), .bool x.lim.bounded, .int .u32 (x.lim.max.toNat : Int), .int .i64 x.ty, .bool x.mtb] 65)
   clear e0 e1 e2 e3 e4 e5 e6 e7 e8 au
   generalize (wr.alloc (.cells #[.string (zd x.mdl), .string (zd x.name), .int .i64 x.kind, .int .u32 (x.index.toNat : Int), .int .u32 (x.lim.min.toNat : Int), .bool x.lim.bounded, .int .u32 (x.lim.max.toNat : Int), .int .i64 x.ty, .bool x.mtb] 65)) = W2 at *
   obtain ⟨ge, cm⟩ := exQ (wr.heap.size)
   rw [cm] at HK ⊢
   clear cm
   have au := HK.o.box1
   have co := HK.o.box0
   go_wp2_with fail
   refine (z4 _ _ (zd x.mdl) _ W2 HK.o.is HK.o.lo (by have := d4.o; simp only [jd, zz, zB, zA, cV.o, fY.o, jU, laQ, zG] at *; omega)).mono ?_
   rintro e w8 ⟨rfl, hR⟩
   replace HK := qh (HK.o.step bX.o hR)
   clear hR au co
   have au := HK.o.box1
   have co := HK.o.box0
   go_wp2_with fail
   refine (z4 _ _ (zd x.name) _ w8 HK.o.is HK.o.lo (by have := d4.o; simp only [jd, zz, zB, zA, cV.o, fY.o, jU, laQ, zG] at *; omega)).mono ?_
   rintro e w9 ⟨rfl, hR⟩
   replace HK := qh (HK.o.step bX.o hR)
   clear hR au co
   have au := HK.o.box1
   have co := HK.o.box0
   go_wp2_with fail
   refine (zh _ _ n1 gu.o _ w9 HK.o.is HK.o.lo (by have := d4.o; simp only [jd, zz, zB, zA, cV.o, fY.o, jU, laQ, zG] at *; omega)).mono ?_
   rintro e BR ⟨rfl, hR⟩
   replace HK := qh (HK.o.step bX.o hR)
   clear hR au co
   have au := HK.o.box1
   have co := HK.o.box0
   go_wp2_with fail
   refine (zh _ _ x.index.toNat eQ.o _ BR HK.o.is HK.o.lo (by have := d4.o; simp only [jd, zz, zB, zA, cV.o, fY.o, jU, laQ, zG] at *; omega)).mono ?_
   rintro e AU ⟨rfl, hR⟩
   replace HK := qh (HK.o.step bX.o hR)
   clear hR au co
   have au := HK.o.box1
   have co := HK.o.box0
   go_wp2_with fail
   replace HK := qh (HK.o.push #[.int .u32 (x.lim.min.toNat : Int), .bool x.lim.bounded, .int .u32 (x.lim.max.toNat : Int)] 63)
   clear au co
   generalize (AU.alloc (.cells #[.int .u32 (x.lim.min.toNat : Int), .bool x.lim.bounded, .int .u32 (x.lim.max.toNat : Int)] 63)) = W3 at *
   obtain ⟨gl, bo⟩ := exQ (AU.heap.size)
   rw [bo] at HK ⊢
   clear bo
   refine (jX _ _ [x.lim] (some ⟨gl, 0, none⟩) 1 1 (fun k => k = gl) _ W3 HK.o.is (zi7 (HK.o.box _ (.head _)).1) (fun k hk => by obtain rfl : k = gl := hk; exact ⟨(HK.o.box _ (.head _)).1.lt, (HK.o.box _ (.head _)).2⟩) HK.o.lo (by have := d4.o; simp only [jd, zz, zB, zA, cV.o, fY.o, jU, laQ, zG] at *; omega)).mono ?_
   rintro e Cn ⟨rfl, hR⟩
   replace HK := qh (HK.o.step bX.o hR).pop
   clear hR
   have au := HK.o.box1
   have co := HK.o.box0
   go_wp2_with fail
   refine (zh _ _ n3 qU.o _ Cn HK.o.is HK.o.lo (by have := d4.o; simp only [jd, zz, zB, zA, cV.o, fY.o, jU, laQ, zG] at *; omega)).mono ?_
   rintro e BL ⟨rfl, hR⟩
   replace HK := qh (HK.o.step bX.o hR)
   clear hR au co
   have au := HK.o.box1
   have co := HK.o.box0
   go_wp2_with fail
   refine (jc _ _ x.mtb _ BL HK.o.is HK.o.lo (by have := d4.o; simp only [jd, zz, zB, zA, cV.o, fY.o, jU, laQ, zG] at *; omega)).mono ?_
   rintro e Dk ⟨rfl, hR⟩
   replace HK := qh (HK.o.step bX.o hR)
   clear hR au co
   have au := HK.o.box1
   have co := HK.o.box0
   have pL := anQ cV.o fY.o
   have bO := qh (HK.o.pop.conv (pre' := kq2 m ++ uleb m.imports.length ++ (m.imports.take (i + 1)).flatMap jd) (by rw [bU.o]; simp only [jd, zA, jj, jU, pL]; simp [List.append_assoc]))
   clear au co HK
   go_wp2
   go_roundw
   case rel => exact ⟨i + 1, by omega, by go_num, bO⟩
   case measure => simp [intOf]; omega
  obtain rfl : i = m.imports.length := by omega
  replace HK := qh (HK.o.conv (pre' := kq3 m) (by rw [tlQ]; simp [kq3, List.append_assoc]))
  have au := HK.o.box0
  clear aT fx dV bd hi aj
  generalize wr = rm at *
  go_wp2_with fail
  have bd := qh (show (kq3 m).length + (Zy m.functions).length ≤ 2147483648 from by have := kcap3 H.o.2.2; simpa [kq4] using this)
  refine (J1 _ _ m.functions aC m.functions.length cC A _ rm HK.o.is (HK.o.rd H.o.1.functions H.o.2.1) (HK.o.away bX.o H.o.2.1) HK.o.lo (by have := bd.o; simp only [laQ, List.length_nil, zG] at *; omega)).mono ?_
  rintro e C2 ⟨rfl, hR⟩
  replace HK := qh (HK.o.step bX.o hR)
  clear hR au
  have au := HK.o.box0
  clear bd
  replace HK := qh (HK.o.conv (pre' := kq4 m) (by simp [kq4, List.append_assoc]))
  go_wp2_with fail
  have bd := qh (show (kq4 m).length + (jj m.tables).length ≤ 2147483648 from by have := kcap4 H.o.2.2; simpa [kq5] using this)
  refine (jX _ _ m.tables aD m.tables.length cD A _ C2 HK.o.is (HK.o.rd H.o.1.tables H.o.2.1) (HK.o.away bX.o H.o.2.1) HK.o.lo (by have := bd.o; simp only [laQ, List.length_nil, zG] at *; omega)).mono ?_
  rintro e Bw ⟨rfl, hR⟩
  replace HK := qh (HK.o.step bX.o hR)
  clear hR au
  have au := HK.o.box0
  clear bd
  replace HK := qh (HK.o.conv (pre' := kq5 m) (by simp [kq5, List.append_assoc]))
  go_wp2_with fail
  have bd := qh (show (kq5 m).length + (jj m.memories).length ≤ 2147483648 from by have := kcap5 H.o.2.2; simpa [kq6] using this)
  refine (jX _ _ m.memories aE m.memories.length cE A _ Bw HK.o.is (HK.o.rd H.o.1.memories H.o.2.1) (HK.o.away bX.o H.o.2.1) HK.o.lo (by have := bd.o; simp only [laQ, List.length_nil, zG] at *; omega)).mono ?_
  rintro e Ba ⟨rfl, hR⟩
  replace HK := qh (HK.o.step bX.o hR)
  clear hR au
  have au := HK.o.box0
  clear bd
  replace HK := qh (HK.o.conv (pre' := kq6 m) (by simp [kq6, List.append_assoc]))
  go_wp2_with fail
  have bd := qh (show (kq6 m).length + ((uleb m.elements.length).length + (m.elements.flatMap yG).length) ≤ 2147483648 from by have := kcap6 H.o.2.2; simpa [kq7] using this)
  have aT : (m.elements.length : Int) ≤ 9223372036854775807 := by have := lF.o; simp only [maxLen] at this; omega
  have fx := yb m.elements.length (by omega)
  have dV := qh (show m.elements.length < 18446744073709551616 by omega)
  rw [fx]
  refine (zh _ _ m.elements.length dV.o _ Ba HK.o.is HK.o.lo (by have := bd.o; simp only [laQ, List.length_nil, zG] at *; omega)).mono ?_
  rintro e Dn ⟨rfl, hR⟩
  replace HK := qh (HK.o.step bX.o hR)
  clear hR au
  have au := HK.o.box0
  replace HK := qh (HK.o.conv (pre' := kq6 m ++ uleb m.elements.length ++ (m.elements.take 0).flatMap yG) (by simp))
  go_wp2_with fail
  clear au
  go_loopw [9, 100] (fun s9 pM w' => ∃ (i : Nat), i ≤ m.elements.length ∧ pM = .int .i64 i ∧ Hq (KSt w g g (kq6 m ++ uleb m.elements.length ++ (m.elements.take i).flatMap yG) w' [(w.heap.size, (kmc m aA cA aB cB aC cC aD cD aE cE aF cF aG cG aH cH aI cI aJ cJ aK cK aL cL aM cM), 37)])) (fun _ pM _ => m.elements.length - (intOf pM).toNat)
  case atStart => exact ⟨0, nzQ _, rfl, HK.o⟩
  clear HK
  obtain ⟨i, hi, rfl, HK⟩ := hrel
  by_cases aj : i < m.elements.length
  ·obtain ⟨b, o, ax, cx, ay, cy, rfl, e0, e1, e2, r0, r1⟩ := Lay.elem_at H.o.1.elements i aj
   have bU := qh (Jn (f := yG) aj)
   obtain ⟨rest, em⟩ := jB (f := yG) aj
   generalize m.elements[i] = x at *
   replace e0 := HK.o.ext.cell e0 (fun h => h)
   replace e1 := HK.o.ext.cell e1 (fun h => h)
   replace e2 := HK.o.ext.cell e2 (fun h => h)
   have r0 := qh r0
   have r1 := qh r1
   have d4 := qh (show (kq6 m).length + (uleb m.elements.length).length + ((m.elements.take i).flatMap yG).length + (yG x).length ≤ 2147483648 from by have := bd.o; rw [em] at this; simp only [laQ] at this; omega)
   clear em
   have au := HK.o.box0
   have re := x.index.toNat_lt
   have lR := yb x.index.toNat (by omega)
   have eJ := qh (show x.index.toNat < 18446744073709551616 by omega)
   go_wp2_with fail
   replace HK := qh (HK.o.push #[.int .u32 (x.index.toNat : Int), .slice ax x.off.length cx, .slice ay x.ids.length cy] 71)
   clear e0 e1 e2 au
   generalize (wr.alloc (.cells #[.int .u32 (x.index.toNat : Int), .slice ax x.off.length cx, .slice ay x.ids.length cy] 71)) = W2 at *
   obtain ⟨ge, cm⟩ := exQ (wr.heap.size)
   rw [cm] at HK ⊢
   clear cm
   have au := HK.o.box1
   have co := HK.o.box0
   go_wp2_with fail
   refine (zh _ _ x.index.toNat eJ.o _ W2 HK.o.is HK.o.lo (by have := d4.o; simp only [yG, zz, zB, zA, laQ, zG] at *; omega)).mono ?_
   rintro e Cz ⟨rfl, hR⟩
   replace HK := qh (HK.o.step bX.o hR)
   clear hR au co
   have au := HK.o.box1
   have co := HK.o.box0
   go_wp2_with fail
   refine (jW n x.off _ _ ax x.off.length cx A _ Cz HK.o.is (HK.o.rd r0.o H.o.2.1) vp.o HK.o.lo (by have := d4.o; simp only [yG, zz, zB, zA, laQ, zG] at *; omega)).mono ?_
   rintro e Bb ⟨rfl, hR⟩
   replace HK := qh (HK.o.step bX.o hR)
   clear hR au co
   have au := HK.o.box1
   have co := HK.o.box0
   go_wp2_with fail
   refine (J1 _ _ x.ids ay x.ids.length cy A _ Bb HK.o.is (HK.o.rd r1.o H.o.2.1) (HK.o.away bX.o H.o.2.1) HK.o.lo (by have := d4.o; simp only [yG, zz, zB, zA, laQ, zG] at *; omega)).mono ?_
   rintro e Ds ⟨rfl, hR⟩
   replace HK := qh (HK.o.step bX.o hR)
   clear hR au co
   have au := HK.o.box1
   have co := HK.o.box0
   have bO := qh (HK.o.pop.conv (pre' := kq6 m ++ uleb m.elements.length ++ (m.elements.take (i + 1)).flatMap yG) (by rw [bU.o]; simp only [yG]; simp [List.append_assoc]))
   clear au co HK
   go_wp2
   go_roundw
   case rel => exact ⟨i + 1, by omega, by go_num, bO⟩
   case measure => simp [intOf]; omega
  obtain rfl : i = m.elements.length := by omega
  replace HK := qh (HK.o.conv (pre' := kq7 m) (by rw [tlQ]; simp [kq7, List.append_assoc]))
  have au := HK.o.box0
  clear aT fx dV bd hi aj
  generalize wr = rO at *
  go_wp2_with fail
  have bd := qh (show (kq7 m).length + ((uleb m.globals.length).length + (m.globals.flatMap yH).length) ≤ 2147483648 from by have := kcap7 H.o.2.2; simpa [kq8] using this)
  have aT : (m.globals.length : Int) ≤ 9223372036854775807 := by have := lG.o; simp only [maxLen] at this; omega
  have fx := yb m.globals.length (by omega)
  have dV := qh (show m.globals.length < 18446744073709551616 by omega)
  rw [fx]
  refine (zh _ _ m.globals.length dV.o _ rO HK.o.is HK.o.lo (by have := bd.o; simp only [laQ, List.length_nil, zG] at *; omega)).mono ?_
  rintro e DK ⟨rfl, hR⟩
  replace HK := qh (HK.o.step bX.o hR)
  clear hR au
  have au := HK.o.box0
  replace HK := qh (HK.o.conv (pre' := kq7 m ++ uleb m.globals.length ++ (m.globals.take 0).flatMap yH) (by simp))
  go_wp2_with fail
  clear au
  go_loopw [11, 123] (fun od pJ w' => ∃ (i : Nat), i ≤ m.globals.length ∧ pJ = .int .i64 i ∧ Hq (KSt w g g (kq7 m ++ uleb m.globals.length ++ (m.globals.take i).flatMap yH) w' [(w.heap.size, (kmc m aA cA aB cB aC cC aD cD aE cE aF cF aG cG aH cH aI cI aJ cJ aK cK aL cL aM cM), 37)])) (fun _ pJ _ => m.globals.length - (intOf pJ).toNat)
  case atStart => exact ⟨0, nzQ _, rfl, HK.o⟩
  clear HK
  obtain ⟨i, hi, rfl, HK⟩ := hrel
  by_cases aj : i < m.globals.length
  ·obtain ⟨b, o, ax, cx, rfl, e0, e1, e2, -, r0⟩ := Lay.glob_at H.o.1.globals i aj
   have bU := qh (Jn (f := yH) aj)
   obtain ⟨rest, em⟩ := jB (f := yH) aj
   generalize m.globals[i] = x at *
   replace e0 := HK.o.ext.cell e0 (fun h => h)
   replace e1 := HK.o.ext.cell e1 (fun h => h)
   replace e2 := HK.o.ext.cell e2 (fun h => h)
   have r0 := qh r0
   have d4 := qh (show (kq7 m).length + (uleb m.globals.length).length + ((m.globals.take i).flatMap yH).length + (yH x).length ≤ 2147483648 from by have := bd.o; rw [em] at this; simp only [laQ] at this; omega)
   clear em
   have au := HK.o.box0
   obtain ⟨n1, eG, gu, cV⟩ := JX x.ty
   have gu := qh gu
   have cV := qh cV
   go_wp2_with fail
   replace HK := qh (HK.o.push #[.int .i64 x.ty, .bool x.mtb, .slice ax x.init.length cx] 69)
   clear e0 e1 e2 au
   generalize (wr.alloc (.cells #[.int .i64 x.ty, .bool x.mtb, .slice ax x.init.length cx] 69)) = W2 at *
   obtain ⟨ge, cm⟩ := exQ (wr.heap.size)
   rw [cm] at HK ⊢
   clear cm
   have au := HK.o.box1
   have co := HK.o.box0
   go_wp2_with fail
   refine (zh _ _ n1 gu.o _ W2 HK.o.is HK.o.lo (by have := d4.o; simp only [yH, zz, zB, zA, cV.o, jU, laQ, zG] at *; omega)).mono ?_
   rintro e Bz ⟨rfl, hR⟩
   replace HK := qh (HK.o.step bX.o hR)
   clear hR au co
   have au := HK.o.box1
   have co := HK.o.box0
   go_wp2_with fail
   refine (jc _ _ x.mtb _ Bz HK.o.is HK.o.lo (by have := d4.o; simp only [yH, zz, zB, zA, cV.o, jU, laQ, zG] at *; omega)).mono ?_
   rintro e CL ⟨rfl, hR⟩
   replace HK := qh (HK.o.step bX.o hR)
   clear hR au co
   have au := HK.o.box1
   have co := HK.o.box0
   go_wp2_with fail
   refine (jW n x.init _ _ ax x.init.length cx A _ CL HK.o.is (HK.o.rd r0.o H.o.2.1) vp.o HK.o.lo (by have := d4.o; simp only [yH, zz, zB, zA, cV.o, jU, laQ, zG] at *; omega)).mono ?_
   rintro e DR ⟨rfl, hR⟩
   replace HK := qh (HK.o.step bX.o hR)
   clear hR au co
   have au := HK.o.box1
   have co := HK.o.box0
   have pL := cV.o
   have bO := qh (HK.o.pop.conv (pre' := kq7 m ++ uleb m.globals.length ++ (m.globals.take (i + 1)).flatMap yH) (by rw [bU.o]; simp only [yH, jU, pL]; simp [List.append_assoc]))
   clear au co HK
   go_wp2
   go_roundw
   case rel => exact ⟨i + 1, by omega, by go_num, bO⟩
   case measure => simp [intOf]; omega
  obtain rfl : i = m.globals.length := by omega
  replace HK := qh (HK.o.conv (pre' := kq8 m) (by rw [tlQ]; simp [kq8, List.append_assoc]))
  have au := HK.o.box0
  clear aT fx dV bd hi aj
  generalize wr = tL at *
  go_wp2_with fail
  have bd := qh (show (kq8 m).length + ((uleb m.exports.length).length + (m.exports.flatMap yU).length) ≤ 2147483648 from by have := kcap8 H.o.2.2; simpa [kq9] using this)
  have aT : (m.exports.length : Int) ≤ 9223372036854775807 := by have := lH.o; simp only [maxLen] at this; omega
  have fx := yb m.exports.length (by omega)
  have dV := qh (show m.exports.length < 18446744073709551616 by omega)
  rw [fx]
  refine (zh _ _ m.exports.length dV.o _ tL HK.o.is HK.o.lo (by have := bd.o; simp only [laQ, List.length_nil, zG] at *; omega)).mono ?_
  rintro e Dt ⟨rfl, hR⟩
  replace HK := qh (HK.o.step bX.o hR)
  clear hR au
  have au := HK.o.box0
  replace HK := qh (HK.o.conv (pre' := kq8 m ++ uleb m.exports.length ++ (m.exports.take 0).flatMap yU) (by simp))
  go_wp2_with fail
  clear au
  go_loopw [13, 146] (fun ib qp w' => ∃ (i : Nat), i ≤ m.exports.length ∧ qp = .int .i64 i ∧ Hq (KSt w g g (kq8 m ++ uleb m.exports.length ++ (m.exports.take i).flatMap yU) w' [(w.heap.size, (kmc m aA cA aB cB aC cC aD cD aE cE aF cF aG cG aH cH aI cI aJ cJ aK cK aL cL aM cM), 37)])) (fun _ qp _ => m.exports.length - (intOf qp).toNat)
  case atStart => exact ⟨0, nzQ _, rfl, HK.o⟩
  clear HK
  obtain ⟨i, hi, rfl, HK⟩ := hrel
  by_cases aj : i < m.exports.length
  ·obtain ⟨b, o, rfl, e0, e1, e2, -, -⟩ := Lay.expo_at H.o.1.exports i aj
   have bU := qh (Jn (f := yU) aj)
   obtain ⟨rest, em⟩ := jB (f := yU) aj
   generalize m.exports[i] = x at *
   replace e0 := HK.o.ext.cell e0 (fun h => h)
   replace e1 := HK.o.ext.cell e1 (fun h => h)
   replace e2 := HK.o.ext.cell e2 (fun h => h)
   have d4 := qh (show (kq8 m).length + (uleb m.exports.length).length + ((m.exports.take i).flatMap yU).length + (yU x).length ≤ 2147483648 from by have := bd.o; rw [em] at this; simp only [laQ] at this; omega)
   clear em
   have au := HK.o.box0
   obtain ⟨n1, eG, gu, cV⟩ := JX x.kind
   have gu := qh gu
   have cV := qh cV
   have qN := x.index.toNat_lt
   have eW := yb x.index.toNat (by omega)
   have eQ := qh (show x.index.toNat < 18446744073709551616 by omega)
   go_wp2_with fail
   replace HK := qh (HK.o.push #[.string (zd x.name), .int .i64 x.kind, .int .u32 (x.index.toNat : Int)] 98)
   clear e0 e1 e2 au
   generalize (wr.alloc (.cells #[.string (zd x.name), .int .i64 x.kind, .int .u32 (x.index.toNat : Int)] 98)) = W2 at *
   obtain ⟨ge, cm⟩ := exQ (wr.heap.size)
   rw [cm] at HK ⊢
   clear cm
   have au := HK.o.box1
   have co := HK.o.box0
   go_wp2_with fail
   refine (z4 _ _ (zd x.name) _ W2 HK.o.is HK.o.lo (by have := d4.o; simp only [yU, zz, zB, zA, cV.o, laQ, zG] at *; omega)).mono ?_
   rintro e Bi ⟨rfl, hR⟩
   replace HK := qh (HK.o.step bX.o hR)
   clear hR au co
   have au := HK.o.box1
   have co := HK.o.box0
   go_wp2_with fail
   refine (zh _ _ n1 gu.o _ Bi HK.o.is HK.o.lo (by have := d4.o; simp only [yU, zz, zB, zA, cV.o, laQ, zG] at *; omega)).mono ?_
   rintro e Ch ⟨rfl, hR⟩
   replace HK := qh (HK.o.step bX.o hR)
   clear hR au co
   have au := HK.o.box1
   have co := HK.o.box0
   go_wp2_with fail
   refine (zh _ _ x.index.toNat eQ.o _ Ch HK.o.is HK.o.lo (by have := d4.o; simp only [yU, zz, zB, zA, cV.o, laQ, zG] at *; omega)).mono ?_
   rintro e DP ⟨rfl, hR⟩
   replace HK := qh (HK.o.step bX.o hR)
   clear hR au co
   have au := HK.o.box1
   have co := HK.o.box0
   have pL := cV.o
   have bO := qh (HK.o.pop.conv (pre' := kq8 m ++ uleb m.exports.length ++ (m.exports.take (i + 1)).flatMap yU) (by rw [bU.o]; simp only [yU, zA, pL]; simp [List.append_assoc]))
   clear au co HK
   go_wp2
   go_roundw
   case rel => exact ⟨i + 1, by omega, by go_num, bO⟩
   case measure => simp [intOf]; omega
  obtain rfl : i = m.exports.length := by omega
  replace HK := qh (HK.o.conv (pre' := kq9 m) (by rw [tlQ]; simp [kq9, List.append_assoc]))
  have au := HK.o.box0
  clear aT fx dV bd hi aj
  generalize wr = tu at *
  go_wp2_with fail
  have bd := qh (show (kq9 m).length + ((uleb m.codes.length).length + (m.codes.flatMap zz).length) ≤ 2147483648 from by have := kcap9 H.o.2.2; simpa [kq10] using this)
  have aT : (m.codes.length : Int) ≤ 9223372036854775807 := by have := lI.o; simp only [maxLen] at this; omega
  have fx := yb m.codes.length (by omega)
  have dV := qh (show m.codes.length < 18446744073709551616 by omega)
  rw [fx]
  refine (zh _ _ m.codes.length dV.o _ tu HK.o.is HK.o.lo (by have := bd.o; simp only [laQ, List.length_nil, zG] at *; omega)).mono ?_
  rintro e DI ⟨rfl, hR⟩
  replace HK := qh (HK.o.step bX.o hR)
  clear hR au
  have au := HK.o.box0
  replace HK := qh (HK.o.conv (pre' := kq9 m ++ uleb m.codes.length ++ (m.codes.take 0).flatMap zz) (by simp))
  go_wp2_with fail
  clear au
  go_loopw [15, 170] (fun qE ql w' => ∃ (i : Nat), i ≤ m.codes.length ∧ ql = .int .i64 i ∧ Hq (KSt w g g (kq9 m ++ uleb m.codes.length ++ (m.codes.take i).flatMap zz) w' [(w.heap.size, (kmc m aA cA aB cB aC cC aD cD aE cE aF cF aG cG aH cH aI cI aJ cJ aK cK aL cL aM cM), 37)])) (fun _ ql _ => m.codes.length - (intOf ql).toNat)
  case atStart => exact ⟨0, nzQ _, rfl, HK.o⟩
  clear HK
  obtain ⟨i, hi, rfl, HK⟩ := hrel
  by_cases aj : i < m.codes.length
  ·obtain ⟨b, o, es, eY, rfl, -, -, r0, hc⟩ := Lay.slice_at H.o.1.codes i aj
   have e0 := hc 0 (by decide)
   have bU := qh (Jn (f := zz) aj)
   obtain ⟨rest, em⟩ := jB (f := zz) aj
   generalize m.codes[i] = x at *
   obtain ⟨ax, cx, rfl, -, -⟩ := Lay.slice_form2 r0
   rw [show o + i * Lay.u8.slice.size + 0 = o + i from by show o + i * 1 + 0 = o + i; omega] at e0
   replace e0 := HK.o.ext.cell (v := .slice ax x.length cx) e0 (fun h => h)
   have gI := Jt r0 H.o.2.1 22 9 5 Tryz.underlying22 Tryz.underlying5 Tryz.underlying9 wr HK.o.ext
   clear r0 hc eY
   have d4 := qh (show (kq9 m).length + (uleb m.codes.length).length + ((m.codes.take i).flatMap zz).length + (zz x).length ≤ 2147483648 from by have := bd.o; rw [em] at this; simp only [laQ] at this; omega)
   clear em
   have au := HK.o.box0
   go_wp2_with fail
   refine (z4 _ _ (zd x) _ wr HK.o.is HK.o.lo (by have := d4.o; simp only [zz, zB, zA, laQ, zG] at *; omega)).mono ?_
   rintro e DF ⟨rfl, hR⟩
   replace HK := qh (HK.o.step bX.o hR)
   clear hR au
   have au := HK.o.box0
   clear gI e0
   have bO := qh (HK.o.conv (pre' := kq9 m ++ uleb m.codes.length ++ (m.codes.take (i + 1)).flatMap zz) (by rw [bU.o]; simp only [zA]; simp [List.append_assoc]))
   clear au HK
   go_wp2
   go_roundw
   case rel => exact ⟨i + 1, by omega, by go_num, bO⟩
   case measure => simp [intOf]; omega
  obtain rfl : i = m.codes.length := by omega
  replace HK := qh (HK.o.conv (pre' := kq10 m) (by rw [tlQ]; simp [kq10, List.append_assoc]))
  have au := HK.o.box0
  clear aT fx dV bd hi aj
  generalize wr = r9 at *
  go_wp2_with fail
  have bd := qh (show (kq10 m).length + ((uleb m.datas.length).length + (m.datas.flatMap jp).length) ≤ 2147483648 from by have := zjZ H.o.2.2; simpa [kq11] using this)
  have aT : (m.datas.length : Int) ≤ 9223372036854775807 := by have := lJ.o; simp only [maxLen] at this; omega
  have fx := yb m.datas.length (by omega)
  have dV := qh (show m.datas.length < 18446744073709551616 by omega)
  rw [fx]
  refine (zh _ _ m.datas.length dV.o _ r9 HK.o.is HK.o.lo (by have := bd.o; simp only [laQ, List.length_nil, zG] at *; omega)).mono ?_
  rintro e DZ ⟨rfl, hR⟩
  replace HK := qh (HK.o.step bX.o hR)
  clear hR au
  have au := HK.o.box0
  replace HK := qh (HK.o.conv (pre' := kq10 m ++ uleb m.datas.length ++ (m.datas.take 0).flatMap jp) (by simp))
  go_wp2_with fail
  clear au
  go_loopw [17, 186] (fun qI pG w' => ∃ (i : Nat), i ≤ m.datas.length ∧ pG = .int .i64 i ∧ Hq (KSt w g g (kq10 m ++ uleb m.datas.length ++ (m.datas.take i).flatMap jp) w' [(w.heap.size, (kmc m aA cA aB cB aC cC aD cD aE cE aF cF aG cG aH cH aI cI aJ cJ aK cK aL cL aM cM), 37)])) (fun _ pG _ => m.datas.length - (intOf pG).toNat)
  case atStart => exact ⟨0, nzQ _, rfl, HK.o⟩
  clear HK
  obtain ⟨i, hi, rfl, HK⟩ := hrel
  by_cases aj : i < m.datas.length
  ·obtain ⟨b, o, ax, cx, ay, cy, rfl, e0, e1, e2, r0, r1⟩ := Lay.dat_at H.o.1.datas i aj
   have bU := qh (Jn (f := jp) aj)
   obtain ⟨rest, em⟩ := jB (f := jp) aj
   generalize m.datas[i] = x at *
   replace e0 := HK.o.ext.cell e0 (fun h => h)
   replace e1 := HK.o.ext.cell e1 (fun h => h)
   replace e2 := HK.o.ext.cell e2 (fun h => h)
   have r0 := qh r0
   have r1 := qh r1
   have d4 := qh (show (kq10 m).length + (uleb m.datas.length).length + ((m.datas.take i).flatMap jp).length + (jp x).length ≤ 2147483648 from by have := bd.o; rw [em] at this; simp only [laQ] at this; omega)
   clear em
   have au := HK.o.box0
   have re := x.index.toNat_lt
   have lR := yb x.index.toNat (by omega)
   have eJ := qh (show x.index.toNat < 18446744073709551616 by omega)
   go_wp2_with fail
   replace HK := qh (HK.o.push #[.int .u32 (x.index.toNat : Int), .slice ax x.off.length cx, .slice ay x.init.length cy] 73)
   clear e0 e1 e2 au
   generalize (wr.alloc (.cells #[.int .u32 (x.index.toNat : Int), .slice ax x.off.length cx, .slice ay x.init.length cy] 73)) = W2 at *
   obtain ⟨ge, cm⟩ := exQ (wr.heap.size)
   rw [cm] at HK ⊢
   clear cm
   have au := HK.o.box1
   have co := HK.o.box0
   go_wp2_with fail
   refine (zh _ _ x.index.toNat eJ.o _ W2 HK.o.is HK.o.lo (by have := d4.o; simp only [jp, zz, zB, zA, laQ, zG] at *; omega)).mono ?_
   rintro e BT ⟨rfl, hR⟩
   replace HK := qh (HK.o.step bX.o hR)
   clear hR au co
   have au := HK.o.box1
   have co := HK.o.box0
   go_wp2_with fail
   refine (jW n x.off _ _ ax x.off.length cx A _ BT HK.o.is (HK.o.rd r0.o H.o.2.1) vp.o HK.o.lo (by have := d4.o; simp only [jp, zz, zB, zA, laQ, zG] at *; omega)).mono ?_
   rintro e Ai ⟨rfl, hR⟩
   replace HK := qh (HK.o.step bX.o hR)
   clear hR au co
   have au := HK.o.box1
   have co := HK.o.box0
   have gI := Jt (HK.o.rd r1.o H.o.2.1) (fun k hk => nqQ (H.o.2.1 k hk) HK.o.ext.size) 22 9 5 Tryz.underlying22 Tryz.underlying5 Tryz.underlying9 Ai (Fr.refl _ _)
   go_wp2_with fail
   refine (z4 _ _ (zd x.init) _ Ai HK.o.is HK.o.lo (by have := d4.o; simp only [jp, zz, zB, zA, laQ, zG] at *; omega)).mono ?_
   rintro e DM ⟨rfl, hR⟩
   replace HK := qh (HK.o.step bX.o hR)
   clear hR au co
   have au := HK.o.box1
   have co := HK.o.box0
   clear gI
   have bO := qh (HK.o.pop.conv (pre' := kq10 m ++ uleb m.datas.length ++ (m.datas.take (i + 1)).flatMap jp) (by rw [bU.o]; simp only [jp, zA]; simp [List.append_assoc]))
   clear au co HK
   go_wp2
   go_roundw
   case rel => exact ⟨i + 1, by omega, by go_num, bO⟩
   case measure => simp [intOf]; omega
  obtain rfl : i = m.datas.length := by omega
  replace HK := qh (HK.o.conv (pre' := kq11 m) (by rw [tlQ]; simp [kq11, List.append_assoc]))
  have au := HK.o.box0
  clear aT fx dV bd hi aj
  generalize wr = mi at *
  go_wp2_with fail
  have bd := qh (show (kq11 m).length + ((uleb m.customs.length).length + (m.customs.flatMap j2).length) ≤ 2147483648 from by have := zj0 H.o.2.2; simpa [kq12] using this)
  have aT : (m.customs.length : Int) ≤ 9223372036854775807 := by have := lK.o; simp only [maxLen] at this; omega
  have fx := yb m.customs.length (by omega)
  have dV := qh (show m.customs.length < 18446744073709551616 by omega)
  rw [fx]
  refine (zh _ _ m.customs.length dV.o _ mi HK.o.is HK.o.lo (by have := bd.o; simp only [laQ, List.length_nil, zG] at *; omega)).mono ?_
  rintro e DT ⟨rfl, hR⟩
  replace HK := qh (HK.o.step bX.o hR)
  clear hR au
  have au := HK.o.box0
  replace HK := qh (HK.o.conv (pre' := kq11 m ++ uleb m.customs.length ++ (m.customs.take 0).flatMap j2) (by simp))
  go_wp2_with fail
  clear au
  go_loopw [19, 210] (fun Az i9 w' => ∃ (i : Nat), i ≤ m.customs.length ∧ i9 = .int .i64 i ∧ Hq (KSt w g g (kq11 m ++ uleb m.customs.length ++ (m.customs.take i).flatMap j2) w' [(w.heap.size, (kmc m aA cA aB cB aC cC aD cD aE cE aF cF aG cG aH cH aI cI aJ cJ aK cK aL cL aM cM), 37)])) (fun _ i9 _ => m.customs.length - (intOf i9).toNat)
  case atStart => exact ⟨0, nzQ _, rfl, HK.o⟩
  clear HK
  obtain ⟨i, hi, rfl, HK⟩ := hrel
  by_cases aj : i < m.customs.length
  ·obtain ⟨b, o, ay, cy, rfl, e0, e1, -, r1⟩ := Lay.cus_at H.o.1.customs i aj
   have bU := qh (Jn (f := j2) aj)
   obtain ⟨rest, em⟩ := jB (f := j2) aj
   generalize m.customs[i] = x at *
   replace e0 := HK.o.ext.cell e0 (fun h => h)
   replace e1 := HK.o.ext.cell e1 (fun h => h)
   have r1 := qh r1
   have d4 := qh (show (kq11 m).length + (uleb m.customs.length).length + ((m.customs.take i).flatMap j2).length + (j2 x).length ≤ 2147483648 from by have := bd.o; rw [em] at this; simp only [laQ] at this; omega)
   clear em
   have au := HK.o.box0
   go_wp2_with fail
   replace HK := qh (HK.o.push #[.string (zd x.name), .slice ay x.data.length cy] 100)
   clear e0 e1 au
   generalize (wr.alloc (.cells #[.string (zd x.name), .slice ay x.data.length cy] 100)) = W2 at *
   obtain ⟨ge, cm⟩ := exQ (wr.heap.size)
   rw [cm] at HK ⊢
   clear cm
   have au := HK.o.box1
   have co := HK.o.box0
   go_wp2_with fail
   refine (z4 _ _ (zd x.name) _ W2 HK.o.is HK.o.lo (by have := d4.o; simp only [j2, zz, zB, zA, laQ, zG] at *; omega)).mono ?_
   rintro e AP ⟨rfl, hR⟩
   replace HK := qh (HK.o.step bX.o hR)
   clear hR au co
   have au := HK.o.box1
   have co := HK.o.box0
   have gI := Jt (HK.o.rd r1.o H.o.2.1) (fun k hk => nqQ (H.o.2.1 k hk) HK.o.ext.size) 22 9 5 Tryz.underlying22 Tryz.underlying5 Tryz.underlying9 AP (Fr.refl _ _)
   go_wp2_with fail
   refine (z4 _ _ (zd x.data) _ AP HK.o.is HK.o.lo (by have := d4.o; simp only [j2, zz, zB, zA, laQ, zG] at *; omega)).mono ?_
   rintro e Dx ⟨rfl, hR⟩
   replace HK := qh (HK.o.step bX.o hR)
   clear hR au co
   have au := HK.o.box1
   have co := HK.o.box0
   clear gI
   have bO := qh (HK.o.pop.conv (pre' := kq11 m ++ uleb m.customs.length ++ (m.customs.take (i + 1)).flatMap j2) (by rw [bU.o]; simp only [j2, zA]; simp [List.append_assoc]))
   clear au co HK
   go_wp2
   go_roundw
   case rel => exact ⟨i + 1, by omega, by go_num, bO⟩
   case measure => simp [intOf]; omega
  obtain rfl : i = m.customs.length := by omega
  replace HK := qh (HK.o.conv (pre' := kq12 m) (by rw [tlQ]; simp [kq12, List.append_assoc]))
  have au := HK.o.box0
  clear aT fx dV bd hi aj
  generalize wr = i2 at *
  go_wp2_with fail
  have bd := qh (show (kq12 m).length + (zz m.named).length ≤ 2147483648 from by have := zj1 H.o.2.2; simpa [kq13] using this)
  refine (z4 _ _ (zd m.named) _ i2 HK.o.is HK.o.lo (by have := bd.o; simp only [zz, zB, zA, laQ, List.length_nil, zG] at *; omega)).mono ?_
  rintro e Bf ⟨rfl, hR⟩
  replace HK := qh (HK.o.step bX.o hR)
  clear hR au
  have au := HK.o.box0
  clear bd
  replace HK := qh (HK.o.conv (pre' := kq13 m) (by rw [zA]; rfl))
  go_wp2_with fail
  have bd := qh (show (kq13 m).length + (jK m.funcs).length ≤ 2147483648 from by have := zj2 H.o.2.2; simpa [kq14] using this)
  refine (ZJ _ _ m.funcs aL m.funcs.length cL A _ Bf HK.o.is (HK.o.rd H.o.1.funcs H.o.2.1) (HK.o.away bX.o H.o.2.1) HK.o.lo (by have := bd.o; simp only [laQ, List.length_nil, zG] at *; omega)).mono ?_
  rintro e x5 ⟨rfl, hR⟩
  replace HK := qh (HK.o.step bX.o hR)
  clear hR au
  have au := HK.o.box0
  clear bd
  replace HK := qh (HK.o.conv (pre' := kq14 m) (by simp [kq14, List.append_assoc]))
  go_wp2_with fail
  have bd := qh (show (kq14 m).length + (jK (Zj m.locals)).length ≤ 2147483648 from by have := zj3 H.o.2.2; simpa [kq15] using this)
  have tR : m.locals.length ≤ 4294967296 := by have h := zi6 (Zj m.locals); have := bd.o; rw [zc8] at h; omega
  refine (zc9 m.locals aM m.locals.length cM A x5 (HK.o.rd H.o.1.locals H.o.2.1) (fun k hk => nqQ (H.o.2.1 k hk) HK.o.ext.size) tR).mono ?_
  rintro e wP ⟨vs, rfl, hO, hx⟩
  obtain ⟨ay, cy, rfl, -, -⟩ := hO.form
  have HA := qh (show Away ym g wP (fun k => x5.heap.size ≤ k ∧ k < wP.heap.size) from fun k hk => ⟨hk.2, fun hf => by have h1 := ((ym.frame HK.o.is hx (fun _ _ h => h)).2 k).1 hf; have := (ym.lt HK.o.is k h1).2; omega⟩)
  have HO := qh hO.slice
  replace HK := qh (HK.o.grow hx)
  clear hO hx au tR
  have au := HK.o.box0
  go_wp2_with fail
  refine (ZJ _ _ (Zj m.locals) ay _ cy _ _ wP HK.o.is HO.o HA.o HK.o.lo (by have := bd.o; simp only [laQ, List.length_nil, zG] at *; omega)).mono ?_
  rintro e B0 ⟨rfl, hR⟩
  replace HK := qh (HK.o.step bX.o hR)
  clear hR au
  have au := HK.o.box0
  clear bd
  replace HK := qh (HK.o.conv (pre' := yI m) (by rw [← yn]; rfl))
  obtain ⟨bo, vk, lk, fS, -⟩ := HK.o.is
  have Bl := lk.cell 0
  simp only [List.getElem?_toArray, List.getElem?_cons_zero] at Bl
  have gI := Jt fS.slice (fun _ hk => hk.2) 86 9 5 Tryz.underlying86 Tryz.underlying5 Tryz.underlying9 B0 (Fr.refl _ _)
  obtain ⟨ax, mx, cx, e1⟩ := fS.shape
  subst e1
  have HX := qh HK.o.ext
  clear lk fS au HK
  go_wp2
  go_ret
  exact ⟨rfl, HX.o⟩
theorem zhJ : (Tryz.prog.info? 239).map (fun i => (i.zero, i.size, i.bytes)) = some (some (.agg #[.int .i64 0, .int .u64 0]), Lay.arg.size, 16) := by kernel_rfl
theorem zfl (n : Nat) : (Tryz.prog.info? 76).map (fun i => (i.zero, i.size, i.bytes)) = some (some (.agg #[.int .i64 0, .slice none 0 0, .bool false, .int .i64 0, .slice none 0 0]), (Lay.ins n).size, 72) := by rw [Lay.ins_size]; kernel_rfl
theorem zi8 {op ty : Int} {args : List (Int × UInt64)} {st : Bool} {body : List Ins} {v1 v2 : Value} (h1 : -9223372036854775808 ≤ op ∧ op ≤ 9223372036854775807) (h2 : -9223372036854775808 ≤ ty ∧ ty ≤ 9223372036854775807)
 (ha : Lay.arg.slice.rd A w [v1] args) (hb : (Lay.ins n).slice.rd A w [v2] body) : (Lay.ins (n + 1)).rd A w [.int .i64 op, v1, .bool st, .int .i64 ty, v2] (.mk op args st ty body) :=
 ⟨[_], _, rfl, ⟨rfl, h1⟩, [_], _, rfl, ha, [_], _, rfl, rfl, [_], _, rfl, ⟨rfl, h2⟩, hb⟩
theorem zfm : Lay.arg.flat := Lay.flat_arg
theorem yV (n : Nat) : ∀ (l : List Ins) (aa : Option Addr) (m c : Nat) (A : Nat → Prop) (w : World), (Lay.ins n).slice.rd A w [.slice aa m c] l → (∀ k, A k → k < w.heap.size) → l.length ≤ 1048576 → fitA l →
 Calls Tryz.prog 31 #[.slice aa m c] w fun e w' => ∃ v, e = .returned v ∧ Own (Lay.ins n) 76 w.heap.size w' v l ∧ Ext w w' := by
 induction n using Nat.strongRecOn with
 | ind n ih =>
  intro l aa m c A w hR hA iJ nt
  obtain ⟨a', c', e, dw, cn⟩ := Lay.slice_form hR
  obtain ⟨rfl, rfl, rfl⟩ : aa = a' ∧ m = l.length ∧ c = c' := by simpa using e
  have aT : (l.length : Int) ≤ 9223372036854775807 := by simp only [maxLen] at cn; omega
  have H := qh (anQ hR (anQ hA (anQ iJ (anQ nt ih))))
  clear hR hA ih iJ nt dw cn e
  go_enter Tryz.func31, Tryz.ntmps31
  go_wp2_with fail
  go_loopw [3, 11] (fun s3 od w' => ∃ (i : Nat), i ≤ l.length ∧ od = .int .i64 i ∧ Hq (Own (Lay.ins n) 76 w.heap.size w' s3 (l.take i)) ∧ Hq (Ext w w')) (fun _ od _ => l.length - (intOf od).toNat)
  case atStart => exact ⟨0, nzQ _, rfl, J3 _ _ _ _, Fr.refl _ _⟩
  case round =>
   obtain ⟨i, hi, rfl, hO, hX⟩ := hrel
   by_cases aj : i < l.length
   ·obtain ⟨hR, hA, iJ, nt, ih⟩ := H.o
    have kH := Lay.fr hR hX.o (fun k hk => ⟨hA k hk, fun h => h⟩)
    obtain ⟨k, b, o, a1, n1, c1, a2, n2, c2, rfl, rfl, li, e0, e1, e2, e3, e4, gS, gQ, ck, dC⟩ := Lay.ins_at kH i aj
    have bU := qh (show l.take (i + 1) = l.take i ++ [l[i]] from tsQ aj)
    have hf := zgA nt i aj
    generalize l[i] = x at *
    obtain ⟨op, args, st, ty, body⟩ := x
    simp only [Ins.op, Ins.args, Ins.st, Ins.ty, Ins.body] at e0 e1 e2 e3 e4 gS gQ ck dC
    obtain ⟨uj, t6, rT, mB, lZ⟩ := Lay.slice_form ck
    obtain ⟨rfl, rfl, rfl⟩ : a1 = uj ∧ n1 = args.length ∧ c1 = t6 := by simpa using rT
    obtain ⟨xt, xG, sq, p8, nv⟩ := Lay.slice_form dC
    obtain ⟨rfl, rfl, rfl⟩ : a2 = xt ∧ n2 = body.length ∧ c2 = xG := by simpa using sq
    have kI : (args.length : Int) ≤ 9223372036854775807 := by simp only [maxLen] at lZ; omega
    have HB := qh (anQ gS (anQ gQ (anQ ck (anQ dC hf))))
    clear hR hA iJ nt ih kH ck dC li rT sq mB lZ p8 nv gS gQ hf
    go_wp2_with fail
    refine zdv jQ (.fork [kT 0, kT 1, kT 2, kT 3, kT 4, kT 5, kT 6, kT 7] 8 10 (.seq [kT 9, kR 10, kL 11]) (.seq [kR 8, kT 9, kL 11])) (by kernel_rfl) (by kernel_rfl) ?_
    simp only [zcE, zx, gzQ, gsQ]
    have cz := zl wr #[.int .i64 op, .slice a1 args.length c1, .bool st, .int .i64 ty, .slice a2 body.length c2] 242
    have eJ := za wr (.cells #[.int .i64 op, .slice a1 args.length c1, .bool st, .int .i64 ty, .slice a2 body.length c2] 242)
    generalize (wr.alloc (.cells #[.int .i64 op, .slice a1 args.length c1, .bool st, .int .i64 ty, .slice a2 body.length c2] 242)) = W1 at *
    have bq := zb W1
    have bi := cz.ext bq
    have eQ := Ext.trans eJ bq
    generalize W1.drew = W2 at *
    have HC := qh (fun W' (h : Ext W2 W') => (bi.ext h).cell)
    have H2 := qh (anQ bi eQ)
    clear cz eJ bq bi eQ
    repeat (apply item_take; rfl; rfl; rfl; rfl; exact fun _ _ _ _ h => h; (intro W e _ k; have q := HC.o W e; go_simp; exact k))
    refine zfC rfl rfl ?_ ?_
    case' _ =>
     intro K hK; go_simp
     obtain ⟨gS, gQ, ck, dC, hf⟩ := HB.o
     obtain ⟨hR, hA, iJ, nt, ih⟩ := H.o
     refine (ih k (by omega) body a2 body.length c2 A W2 (Lay.fr dC H2.o.2 (fun k hk => ⟨nqQ (hA k hk) hX.o.size, fun h => h⟩)) (fun k hk => nqQ (hA k hk) (Ext.trans hX.o H2.o.2).size) hf.2.1 hf.2.2).mono ?_
     rintro e w3 ⟨v2, rfl, pR, kS⟩
     refine hK _ _ kS ?_
     clear hK K
     obtain ⟨ba, bn, bc, rfl⟩ := pR.shape
     have oN := qh (anQ pR kS)
     clear gS gQ ck dC hf hR hA iJ nt ih pR kS
     repeat (apply item_take; rfl; rfl; rfl; rfl; exact fun _ _ _ _ h => h; (intro _ _ _ k; go_simp; exact k))
     apply zg; rfl; intro K hK; go_simp
     refine hK _ _ (za _ _) ?_
     clear hK K
     apply zn; rfl; intro K hK; go_simp
     refine hK _ _ ?_
     clear hK K
     apply zm
     obtain ⟨W4, g, H4, da, hg⟩ : ∃ W4 g, Hq (Blk W4 g #[.int .i64 op, .slice none 0 0, .bool st, .int .i64 ty, .slice ba bn bc] 76 ∧ Ext W2 W4 ∧ (wr.heap.size < g ∧ W2.heap.size ≤ g) ∧ (Lay.ins k).slice.rd (fun k' => wr.heap.size < k' ∧ k' < W4.heap.size ∧ k' ≠ g) W4 [.slice ba bn bc] body) ∧ (w3.alloc (.cells #[.int .i64 op, .slice none 0 0, .bool st, .int .i64 ty, .slice ba bn bc] 76)) = W4 ∧ w3.heap.size = g := by
      refine ⟨_, _, ⟨zl _ _ _, Ext.trans oN.o.2 (za _ _), ?_, ?_⟩, rfl, rfl⟩
      ·have := H2.o.1.lt; have := oN.o.2.size; exact ⟨by omega, this⟩
      ·refine Lay.mono _ (Lay.fr oN.o.1.slice (za _ _) (fun k hk => ⟨hk.2, fun h => h⟩)) (fun k hk => ⟨by have := H2.o.1.lt; omega, by simp; omega, by omega⟩)
     rw [da, hg]
     clear oN da hg w3
    rotate_left
    case' _ =>
     intro K hK; go_simp
     refine hK _ _ (za _ _) ?_
     clear hK K
     apply zg; rfl; intro K hK; go_simp
     obtain ⟨gS, gQ, ck, dC, hf⟩ := HB.o
     obtain ⟨hR, hA, iJ, nt, ih⟩ := H.o
     have eQ := Ext.trans H2.o.2 (za W2 (.cells #[.int .i64 0, .slice none 0 0, .bool false, .int .i64 0, .slice none 0 0] 76))
     refine (ih k (by omega) body a2 body.length c2 A _ (Lay.fr dC eQ (fun k hk => ⟨nqQ (hA k hk) hX.o.size, fun h => h⟩)) (fun k hk => nqQ (hA k hk) (Ext.trans hX.o eQ).size) hf.2.1 hf.2.2).mono ?_
     rintro e w3 ⟨v2, rfl, pR, kS⟩
     refine hK _ _ kS ?_
     clear hK K
     obtain ⟨ba, bn, bc, rfl⟩ := pR.shape
     have oN := qh (anQ pR kS)
     have hG := (zl W2 #[.int .i64 0, .slice none 0 0, .bool false, .int .i64 0, .slice none 0 0] 76).ext kS
     have HG := qh hG
     have Bn := hG.cell
     have Df := hG.frz
     clear gS gQ ck dC hf hR hA iJ nt ih pR kS eQ hG
     repeat (apply item_take; rfl; rfl; rfl; rfl; exact fun _ _ _ _ h => h; (intro _ _ _ k; go_simp; exact k))
     apply zn; rfl; intro K hK; go_simp
     refine hK _ _ ?_
     clear hK K
     apply zm
     obtain ⟨W4, g, H4, da, hg⟩ : ∃ W4 g, Hq (Blk W4 g #[.int .i64 op, .slice none 0 0, .bool st, .int .i64 ty, .slice ba bn bc] 76 ∧ Ext W2 W4 ∧ (wr.heap.size < g ∧ W2.heap.size ≤ g) ∧ (Lay.ins k).slice.rd (fun k' => wr.heap.size < k' ∧ k' < W4.heap.size ∧ k' ≠ g) W4 [.slice ba bn bc] body) ∧ (((((w3.setCell ⟨W2.heap.size, 0, none⟩ (.int .i64 op)).setCell ⟨W2.heap.size, 1, none⟩ (.slice none 0 0)).setCell ⟨W2.heap.size, 2, none⟩ (.bool st)).setCell ⟨W2.heap.size, 3, none⟩ (.int .i64 ty)).setCell ⟨W2.heap.size, 4, none⟩ (.slice ba bn bc)) = W4 ∧ W2.heap.size = g := by
      have xb := Fr.setCell (Fr.setCell (Fr.setCell (Fr.setCell (Fr.setCell (Fr.refl (fun k => k = W2.heap.size) w3) (p := ⟨W2.heap.size, 0, none⟩) (.inl rfl) (.int .i64 op)) (p := ⟨W2.heap.size, 1, none⟩) (.inl rfl) (.slice none 0 0)) (p := ⟨W2.heap.size, 2, none⟩) (.inl rfl) (.bool st)) (p := ⟨W2.heap.size, 3, none⟩) (.inl rfl) (.int .i64 ty)) (p := ⟨W2.heap.size, 4, none⟩) (.inl rfl) (.slice ba bn bc)
      have gv := Ext.fr (Ext.trans (za _ _) oN.o.2) xb
      refine ⟨_, _, ⟨?_, gv.mono (fun k hk e => absurd hk (by omega)), ⟨H2.o.1.lt, Nat.le_refl _⟩, ?_⟩, rfl, rfl⟩
      ·have := ((((HG.o.set 0 (.int .i64 op)).set 1 (.slice none 0 0)).set 2 (.bool st)).set 3 (.int .i64 ty)).set 4 (.slice ba bn bc)
       simpa using this
      ·have hs := oN.o.1.slice
       refine Lay.mono _ (Lay.fr hs xb (fun k hk => ⟨hk.2, fun e => by have := hk.1; simp at this; omega⟩)) (fun k hk => ⟨by have := H2.o.1.lt; have := hk.1; simp at this; omega, nqQ hk.2 xb.size, by have := hk.1; simp at this; omega⟩)
     rw [da, hg]
     clear oN da hg Bn Df HG w3
    all_goals
     have gI := (H2.o.1.ext H4.o.2.1).cell
     have eq := H4.o.1.cell
     go_wp2_with fail
     clear gI eq
     obtain ⟨wo, rfl⟩ : ∃ wo : World, wo = wr := ⟨_, rfl⟩
     go_loopw [28] (fun qu w' => ∃ (j : Nat) (va : Value), j ≤ args.length ∧ qu = .int .i64 j ∧ Hq (Blk w' g #[.int .i64 op, va, .bool st, .int .i64 ty, .slice ba bn bc] 76 ∧ Own Lay.arg 239 W4.heap.size w' va (args.take j) ∧ Fr (fun k => k = g) W4 w')) (fun qu _ => args.length - (intOf qu).toNat)
     case atStart => exact ⟨0, _, nzQ _, rfl, H4.o.1, J3 _ _ _ _, Fr.refl _ _⟩
     case round =>
      obtain ⟨j, va, hj, rfl, hV⟩ := hrel
      have fe := H4.o.1.lt
      by_cases hjl : j < args.length
      ·have hA := H.o.2.1
       have rV := hX.o.size
       have ck := Lay.fr HB.o.2.2.1 (Ext.fr (Ext.trans H2.o.2 H4.o.2.1) hV.o.2.2) (fun k hk => ⟨nqQ (hA k hk) rV, fun e => by have := hA k hk; have := H4.o.2.2.1.1; omega⟩)
       obtain ⟨b3, o3, rfl, wG, g0, g1, Ab, Ao⟩ := zhO ck j hjl
       have nL := qh (anQ Ab Ao)
       have sZ := qh (show args.take (j + 1) = args.take j ++ [args[j]] from tsQ hjl)
       generalize args[j] = aq at *
       obtain ⟨ak, ab⟩ := aq
       simp only [] at g0 g1
       have eq := hV.o.1.cell
       have eO := hV.o.1.frz
       have Cd := hV.o.1.lt
       obtain ⟨ap, am, ar, rfl⟩ := hV.o.2.1.shape
       clear ck wG hA rV Ab Ao
       go_wp2_with (at_builtin; refine Hq.o ?_)
       have sG := za wr (.cells #[.int .i64 ak, .int .u64 ab.toNat] 243)
       refine jk Lay.arg W4.heap.size (wr.heap.size + 1) (by simp) rfl (.tmp 33) (.tmp 39) _ _ _ 16 rfl Tryz.underlying74 zhJ rfl (by omega) (by decide) (.slice ap am ar) (args.take j) (ak, ab) _ rfl rfl (hV.o.2.1.ext sG) ⟨[_], [_], rfl, ⟨rfl, nL.o⟩, rfl⟩ (nlQ hV.o.2.2.size sG.size) (by have := HB.o.2.2.2.2.1; rw [ltQ]; omega) ?_
       intro v1 w1 h1 h2 h3
       have ag : ∀ k', k' = g → ¬ some k' = (Value.slice ap am ar).ownBlock := fun k' e h => by have := (hV.o.2.1.lt k' h.symm).1; omega
       have nd := (hV.o.1.ext sG).fr h2 (ag g rfl)
       have iT := nd.cell
       have ly := nd.frz
       have mP : Own Lay.arg 239 W4.heap.size w1 v1 (args.take (j + 1)) := by rw [sZ.o]; exact h1
       have tw : Fr (fun k => k = g) W4 w1 := Fr.trans (hV.o.2.2.ext sG) h2 (fun _ _ h => h) (fun k hk e => absurd hk (by have := (hV.o.2.1.lt k e.symm).1; omega))
       obtain ⟨az, aR, aO, rfl⟩ := h1.shape
       have H5 := qh (anQ nd (anQ mP tw))
       clear h1 h2 h3 nd mP tw eq eO sG ag
       go_wp2_with fail
       have bO : Hq (Blk (w1.setCell ⟨g, 1, none⟩ (.slice az aR aO)) g #[.int .i64 op, .slice az aR aO, .bool st, .int .i64 ty, .slice ba bn bc] 76 ∧ Own Lay.arg 239 W4.heap.size (w1.setCell ⟨g, 1, none⟩ (.slice az aR aO)) (.slice az aR aO) (args.take (j + 1)) ∧ Fr (fun k => k = g) W4 (w1.setCell ⟨g, 1, none⟩ (.slice az aR aO))) := by
        refine ⟨?_, Own.only zfm H5.o.2.1 (zf _ _ _) (fun k' h e => by have := (H5.o.2.1.lt k' h).1; have e' : k' = g := e; omega), H5.o.2.2.setCell (.inl rfl) _⟩
        have := H5.o.1.set 1 (.slice az aR aO)
        simpa using this
       clear iT ly
       go_roundw
       case rel => exact ⟨j + 1, _, by omega, by go_num, bO⟩
       case measure => simp [intOf]; omega
      ·obtain rfl : j = args.length := by omega
       have eq := hV.o.1.cell
       obtain ⟨ap, am, ar, rfl⟩ := hV.o.2.1.shape
       go_wp2_with (at_builtin; refine Hq.o ?_)
       have mE : Ext wo wr := Ext.trans H2.o.2 (Fr.new (Ext.fr H4.o.2.1 hV.o.2.2) (fun k e => by have := H4.o.2.2.1.2; have e' : k = g := e; omega))
       refine jk (Lay.ins (k + 1)) w.heap.size wr.heap.size rfl rfl (.tmp 43) (.tmp 45) _ _ _ 72 rfl Tryz.underlying67 (zfl (k + 1)) (by rw [Lay.ins_size]; rfl) (by omega) (by rw [Lay.ins_size]; decide) u3 (l.take i) (.mk op args st ty body) _ rfl rfl (hO.o.ext mE) ?_ (nlQ hX.o.size mE.size) (by have := H.o.2.2.1; rw [ltQ]; omega) ?_
       ·have hu := hO.o.lt
        have gz := hX.o.size
        have qw := mE.size
        have wh := H4.o.2.1.size
        have BI := H2.o.1.lt
        have ha := hV.o.2.1.slice
        rw [tlQ] at ha
        refine zi8 HB.o.1 HB.o.2.1 (Lay.mono _ ha (fun k' hk => ⟨by omega, hk.2, fun e => by have := hu k' e.symm; omega⟩)) (Lay.mono _ (Lay.fr H4.o.2.2.2 hV.o.2.2 (fun k' hk => ⟨hk.2.1, fun e => hk.2.2 e⟩)) (fun k' hk => ⟨by omega, nqQ hk.2.1 hV.o.2.2.size, fun e => by have := hu k' e.symm; omega⟩))
       intro v1 w1 h1 h2 h3
       have mT : Hq (Own (Lay.ins (k + 1)) 76 w.heap.size w1 v1 (l.take (i + 1))) := by show Own _ _ _ _ _ _; rw [bU.o]; exact h1
       have kP : Hq (Ext w w1) := Fr.new (Ext.fr (Ext.trans hX.o mE) h2) (fun k' e => (hO.o.lt k' e.symm).1)
       clear h1 h2 h3 eq mE
       go_wp2
       go_roundw
       case rel => exact ⟨i + 1, by omega, by go_num, mT, kP⟩
       case measure => simp [intOf]; omega
   ·obtain rfl : i = l.length := by omega
    go_wp2
    go_ret
    have := hO.o
    rw [tlQ] at this
    exact ⟨_, rfl, this, hX.o⟩
end Go.Proofs.YtejgninpjhcgnaaGreatDoor
