/- Texts of this proof, one behind the other. -/
import Derived.Test.YtejgninpjhcgnaaGreatDoorPart19
import Derived.Test.YtejgninpjhcgnaaGreatDoorPart20
namespace Go.Proofs.YtejgninpjhcgnaaGreatDoor
open Go.RowKit
set_option linter.unusedSimpArgs false
set_option linter.unusedVariables false
set_option maxRecDepth 100000
set_option maxHeartbeats 8000000
theorem zjF : (Tryz.prog.info? 22).map (fun i => (i.zero, i.size, i.bytes)) = some (some (.slice none 0 0), Lay.u8.slice.size, 24) := by kernel_rfl
theorem zf8 (s : St) : (y7 s).2.b.length ≤ s.b.length := nlQ (jQ _ _) (zJ _)
theorem zeS (N : Nat) (D : Nat → Prop) (g gm : Nat) (lo : Bool) (s : St) (w : World) (q0 q1 q2 q3 q4 q5 q6 q7 q8 q9 bw bp bu bW bX bV : Value) (h : SpR D g lo s w) (hB : Blk w gm #[q0, q1, q2, q3, q4, q5, q6, q7, q8, q9, bw, .slice none 0 0, bp, bu, bW, bX, bV] 37) (aO : ¬ gm = g) (df : ∀ k, D k → ¬ k = gm) (hl : s.b.length ≤ 1048576) :
 Calls Tryz.prog 54 #[.pointer (some ⟨g, 0, none⟩), .int .i64 10, .pointer (some ⟨gm, 0, none⟩)] w fun e w' => e = .returned (.tuple #[]) ∧ (∃ v, Blk w' gm #[q0, q1, q2, q3, q4, q5, q6, q7, q8, q9, bw, v, bp, bu, bW, bX, bV] 37 ∧ Lay.u8.slice.slice.rd (aE D w w') w' [v] (zR y7 s).1) ∧ SpR D g lo (zR y7 s).2 w' ∧ Fr (fun k => k = g ∨ k = gm) w w' := by
 have H := qh (anQ h (anQ hl (anQ h.lt.1 (anQ hB (anQ aO df)))))
 clear h hl hB aO df
 go_enter Tryz.func54, Tryz.ntmps54
 go_wp2_with fail
 refine (ye H.o.1 (by have := H.o.2.1; omega)).mono ?_
 rintro e w1 ⟨rfl, k1, k2⟩
 have HR := qh (show zR y7 s = rVec y7 (zv s).1 (zv s).2 from rfl)
 have dh := yg s
 have bS := qh (show (zv s).2.b.length ≤ 33554432 from by have := H.o.2.1; omega)
 have mX : ((zv s).1 : Int) ≤ 1048576 := by have := H.o.2.1; omega
 generalize (zv s).1 = n at *
 generalize (zv s).2 = s1 at *
 have H1 := qh (anQ k1 (anQ (H.o.2.2.2.1.fr k2 H.o.2.2.2.2.1) k2))
 have b9 : Hd (gm < w1.heap.size ∧ g ≠ gm ∧ ∀ k, D k → k ≠ gm ∧ k < w1.heap.size) := ⟨H1.o.2.1.lt, fun e => H.o.2.2.2.2.1 e.symm, fun k hk => ⟨H.o.2.2.2.2.2 k hk, (H1.o.1.lt.2 k hk).1⟩⟩
 have fD : Hd ((¬ D g ∧ g < w1.heap.size) ∧ (¬ D gm ∧ gm < w1.heap.size)) := ⟨⟨fun q => (H1.o.1.lt.2 g q).2 rfl, H1.o.1.lt.1⟩, ⟨fun q => H.o.2.2.2.2.2 gm q rfl, H1.o.2.1.lt⟩⟩
 clear k1 k2 dh
 go_wp2_with fail
 go_loopw [158] (fun qZ w' => ∃ (i : Nat) (va : Value), i ≤ n ∧ qZ = .int .i64 i ∧ Hd (Blk w' gm #[q0, q1, q2, q3, q4, q5, q6, q7, q8, q9, bw, va, bp, bu, bW, bX, bV] 37 ∧ OwnG (Lay.u8.slice) 22 w1.heap.size (fun k => ¬ D k ∧ k < w1.heap.size) w' (va) (rVec y7 i s1).1 ∧ SpR D g lo (rVec y7 i s1).2 w' ∧ Fr (fun k => k = g ∨ k = gm) w1 w')) (fun qZ _ => n - (intOf qZ).toNat)
 case atStart => exact ⟨0, _, nzQ _, rfl, H1.o.2.1, zK _ _ _ _ _, H1.o.1, Fr.refl _ _⟩
 case round =>
  obtain ⟨i, va, hi, rfl, hV⟩ := hrel
  obtain ⟨aN, aw, az, rfl⟩ := hV.o.2.1.shape
  by_cases ah : i < n
  ·have hst := qh (yP y7 i s1)
   have gC := qh (jg y7 i s1)
   have cW := qh (show (rVec y7 i s1).2.b.length ≤ 33554432 from nlQ (yK y7 zf8 i s1) bS.o)
   obtain ⟨r2, bR⟩ := exQ (rVec y7 (i + 1) s1)
   have bR := qh bR
   rw [bR.o] at hst
   generalize (rVec y7 i s1).1 = xs at *
   generalize (rVec y7 i s1).2 = t0 at *
   have cj := qh (show g < w1.heap.size from (H1.o.1).lt.1)
   go_wp2_with fail
   refine zi (y4 (fun k => ¬ k = gm)) [kT 0, kT 1, kT 2, kT 3, kT 4, kT 5, kT 6, kR 7, kR 8, kR 9, kR 10, kT 11, kT 12, kL 13] (by kernel_rfl) (by kernel_rfl) ?_
   simp only [zy, gzQ, gsQ]
   have HC := qh (fun W' (h : Fr (fun k => ¬ k = gm) wr.drew W') => (hV.o.1.fr ((zb _).fr h) (fun e => e rfl)).cell)
   have bU : Hd (Blk wr.drew gm #[q0, q1, q2, q3, q4, q5, q6, q7, q8, q9, bw, (.slice aN aw az), bp, bu, bW, bX, bV] 37 ∧ OwnG (Lay.u8.slice) 22 w1.heap.size (fun k => ¬ D k ∧ k < w1.heap.size) wr.drew ((.slice aN aw az)) xs ∧ SpR D g lo t0 wr.drew ∧ Fr (fun k => k = g ∨ k = gm) w1 wr.drew) := ⟨hV.o.1.ext (zb _), hV.o.2.1.ext (zb _), hV.o.2.2.1.ext (zb _), hV.o.2.2.2.ext (zb _)⟩
   have au := qh (show ∀ k, (Value.slice aN aw az).ownBlock = some k → w1.heap.size ≤ k ∧ k < wr.drew.heap.size from bU.o.2.1.lt)
   have dF := qh (show g < wr.drew.heap.size ∧ gm < wr.drew.heap.size ∧ (∀ k, D k → k ≠ g ∧ k ≠ gm ∧ k < w1.heap.size) from ⟨bU.o.2.2.1.lt.1, bU.o.1.lt, fun k hk => ⟨(bU.o.2.2.1.lt.2 k hk).2, b9.o.2.2 k hk⟩⟩)
   clear hV
   have ll := qh bU.o.2.2.2.size
   generalize wr.drew = W0 at *
   have i2 := qh (show y7 t0 = ((zW (zd t0).1 (zd t0).2).1, (zW (zd t0).1 (zd t0).2).2) from rfl)
   repeat (apply item_take; rfl; rfl; rfl; rfl; exact fun _ _ _ _ h => h; (intro W e _ k; have q := HC.o W e; go_simp; exact k))
   apply ze; rfl; intro K hK; go_simp
   refine (zN D g lo t0 W0 bU.o.2.2.1 (by have := cW.o; omega)).mono ?_
   rintro e W1 ⟨rfl, ks, kf⟩
   have fR := qh kf.size
   refine hK _ _ (kf.mono (fun k _ e e2 => b9.o.2.1 (by have e1 : k = g := e; rw [← e1, e2]))) ?_
   have cU := qh (zX t0)
   have bS := qh (show (zd t0).2.b.length ≤ 33554432 from nlQ (zJ t0) cW.o)
   generalize (zd t0).1 = x0 at *
   generalize (zd t0).2 = t1 at *
   have bZ : Hd (Blk W1 gm #[q0, q1, q2, q3, q4, q5, q6, q7, q8, q9, bw, (.slice aN aw az), bp, bu, bW, bX, bV] 37 ∧ OwnG (Lay.u8.slice) 22 w1.heap.size (fun k => ¬ D k ∧ k < w1.heap.size) W1 ((.slice aN aw az)) xs ∧ SpR D g lo t1 W1 ∧ Fr (fun k => k = g ∨ k = gm) w1 W1) := ⟨bU.o.1.fr kf (fun e => b9.o.2.1 e.symm), bU.o.2.1.fr kf (fun k e => .inl (by have e' : k = g := e; rw [e']; exact fD.o.1)) (fun k hk e => by have e' : k = g := e; have := au.o k hk; have := cj.o; omega), ks, Fr.trans bU.o.2.2.2 kf (fun _ _ h => h) (fun _ _ h => .inl h)⟩
   clear hK K kf ks bU
   repeat (apply item_take; rfl; rfl; rfl; rfl; exact fun _ _ _ _ h => h; (intro _ _ _ k; go_simp; exact k))
   apply ze; rfl; intro K hK; go_simp
   refine (Jy x0 cU.o D g lo t1 W1 bZ.o.2.2.1 (by have := bS.o; omega)).mono ?_
   rintro e W2 ⟨xJ, Ad, Ai, rfl, kt, ks, kf⟩
   have mT := qh kf.size
   refine hK _ _ (kf.mono (fun k _ e e2 => b9.o.2.1 (by have e1 : k = g := e; rw [← e1, e2]))) ?_
   have fN := qh (show (zW x0 t1).2.b.length ≤ 33554432 from nlQ (jQ x0 t1) bS.o)
   generalize (zW x0 t1).1 = x1 at *
   generalize (zW x0 t1).2 = t2 at *
   have bf : Hd (Blk W2 gm #[q0, q1, q2, q3, q4, q5, q6, q7, q8, q9, bw, (.slice aN aw az), bp, bu, bW, bX, bV] 37 ∧ OwnG (Lay.u8.slice) 22 w1.heap.size (fun k => ¬ D k ∧ k < w1.heap.size) W2 ((.slice aN aw az)) xs ∧ SpR D g lo t2 W2 ∧ Fr (fun k => k = g ∨ k = gm) w1 W2 ∧ Lay.u8.slice.rd (aE D W0 W2) W2 [.slice xJ Ad Ai] x1) := ⟨bZ.o.1.fr kf (fun e => b9.o.2.1 e.symm), bZ.o.2.1.fr kf (fun k e => .inl (by have e' : k = g := e; rw [e']; exact fD.o.1)) (fun k hk e => by have e' : k = g := e; have := au.o k hk; have := cj.o; omega), ks, Fr.trans bZ.o.2.2.2 kf (fun _ _ h => h) (fun _ _ h => .inl h), Lay.mono _ kt (fun k hk => ⟨.inl hk, (ks.lt.2 k hk).1⟩)⟩
   clear hK K kf ks kt bZ
   repeat (apply item_take; rfl; rfl; rfl; rfl; exact fun _ _ _ _ h => h; (intro _ _ _ k; go_simp; exact k))
   apply ze; rfl; intro K hK; go_simp
   refine hK _ _ (za _ _).to ?_
   clear hK K
   apply ze; rfl; intro K hK
   refine zY (Lay.u8.slice) w1.heap.size (.tmp 164) (.tmp 169) _ _ _ 24 rfl Tryz.underlying32 zjF rfl (by omega) (by decide) (.slice aN aw az) xs x1 _ rfl rfl bf.o.2.1 ?_ bf.o.2.2.2.1.size (by rw [gC.o]; omega) ?_
   ·refine zb3 (W0 := W0) (wL := w1) ?_ ll.o (fun k hk => (dF.o.2.2 k hk).2.2) au.o
    exact bf.o.2.2.2.2
   intro v1 Wa h1 h2 h3 _
   refine hK _ _ (h3.mono (fun k _ e e2 => by have := (au.o k e.symm).1; have := b9.o.1; omega)) ?_
   clear hK K
   obtain ⟨aR, aV, aU, rfl⟩ := h1.shape
   have ch := jc (f := 11) bf.o.1 bf.o.2.1 bf.o.2.2.2.1 (X := (fun k => ¬ D k ∧ k < w1.heap.size)) (S := (fun k => k = g ∨ k = gm)) fD.o.2 (.inr rfl) b9.o.1 rfl h1 h2
   have h6 : Hd (Blk Wa gm #[q0, q1, q2, q3, q4, q5, q6, q7, q8, q9, bw, (.slice aN aw az), bp, bu, bW, bX, bV] 37 ∧ Blk (Wa.setCell ⟨gm, 11, none⟩ (.slice aR aV aU)) gm #[q0, q1, q2, q3, q4, q5, q6, q7, q8, q9, bw, (.slice aR aV aU), bp, bu, bW, bX, bV] 37 ∧ OwnG (Lay.u8.slice) 22 w1.heap.size (fun k => ¬ D k ∧ k < w1.heap.size) (Wa.setCell ⟨gm, 11, none⟩ (.slice aR aV aU)) ((.slice aR aV aU)) r2.1 ∧ SpR D g lo r2.2 (Wa.setCell ⟨gm, 11, none⟩ (.slice aR aV aU)) ∧ Fr (fun k => k = g ∨ k = gm) w1 (Wa.setCell ⟨gm, 11, none⟩ (.slice aR aV aU))) := by
    rw [hst.o, i2.o]
    have gL := bf.o.2.2.1.fr h2 (fun e => by have := au.o g e.symm; have := cj.o; omega) (fun k hk e => by have := au.o k e.symm; have := dF.o.2.2 k hk; omega)
    refine ⟨ch.1, ?_, ch.2.2.1, gL.fr (zh _ _ _) (fun e => b9.o.2.1 e) (fun k hk e => (dF.o.2.2 k hk).2.1 e), ch.2.2.2⟩
    have := ch.2.1
    simpa using this
   have fV := h6.o.1.cell
   have dV := h6.o.1.frz
   clear h1 h2 h3 ch bf
   repeat (apply item_take; rfl; rfl; rfl; rfl; exact fun _ _ _ _ h => h; (intro _ _ _ k; go_simp; exact k))
   apply zu; rfl; intro K hK; go_simp
   refine hK _ _ ?_
   clear hK K fV dV
   apply zl
   have dy := qh h6.o.2
   go_wp2
   go_roundw
   case rel => exact ⟨i + 1, _, by omega, by go_num, by rw [bR.o]; exact dy.o⟩
   case measure => simp [intOf]; omega
  ·obtain rfl : i = n := by omega
   go_wp2
   go_end0
   refine ⟨rfl, ⟨_, hV.o.1, ?_⟩, ?_, ?_⟩
   ·rw [HR.o]; exact hV.o.2.1.sliceE H1.o.2.2.size
   ·rw [HR.o]; exact hV.o.2.2.1
   ·exact Fr.trans H1.o.2.2 hV.o.2.2.2 (fun _ _ e => .inl e) (fun _ _ e => e)
theorem ziz : (Tryz.prog.info? 73).map (fun i => (i.zero, i.size, i.bytes)) = some (some (.agg #[.int .u32 0, .slice none 0 0, .slice none 0 0]), (Lay.dat 1).size, 56) := by kernel_rfl
theorem ziA (s : St) : (rDat s).2.b.length ≤ s.b.length := nlQ (nlQ (jQ _ _) (zJ _)) (nlQ (JA _) (Yb _))
theorem zeT (N : Nat) (D : Nat → Prop) (g gm : Nat) (lo : Bool) (s : St) (w : World) (q0 q1 q2 q3 q4 q5 q6 q7 q8 q9 bw bo bu bW bX bV : Value) (h : SpR D g lo s w) (hB : Blk w gm #[q0, q1, q2, q3, q4, q5, q6, q7, q8, q9, bw, bo, .slice none 0 0, bu, bW, bX, bV] 37) (aO : ¬ gm = g) (df : ∀ k, D k → ¬ k = gm) (hl : s.b.length ≤ 1048576) :
 Calls Tryz.prog 54 #[.pointer (some ⟨g, 0, none⟩), .int .i64 11, .pointer (some ⟨gm, 0, none⟩)] w fun e w' => e = .returned (.tuple #[]) ∧ (∃ v, Blk w' gm #[q0, q1, q2, q3, q4, q5, q6, q7, q8, q9, bw, bo, v, bu, bW, bX, bV] 37 ∧ (Lay.dat (N + 1)).slice.rd (aE D w w') w' [v] (zR rDat s).1) ∧ SpR D g lo (zR rDat s).2 w' ∧ Fr (fun k => k = g ∨ k = gm) w w' := by
 have H := qh (anQ h (anQ hl (anQ h.lt.1 (anQ hB (anQ aO df)))))
 clear h hl hB aO df
 go_enter Tryz.func54, Tryz.ntmps54
 go_wp2_with fail
 refine (ye H.o.1 (by have := H.o.2.1; omega)).mono ?_
 rintro e w1 ⟨rfl, k1, k2⟩
 have HR := qh (show zR rDat s = rVec rDat (zv s).1 (zv s).2 from rfl)
 have dh := yg s
 have bS := qh (show (zv s).2.b.length ≤ 33554432 from by have := H.o.2.1; omega)
 have mX : ((zv s).1 : Int) ≤ 1048576 := by have := H.o.2.1; omega
 generalize (zv s).1 = n at *
 generalize (zv s).2 = s1 at *
 have H1 := qh (anQ k1 (anQ (H.o.2.2.2.1.fr k2 H.o.2.2.2.2.1) k2))
 have b9 : Hd (gm < w1.heap.size ∧ g ≠ gm ∧ ∀ k, D k → k ≠ gm ∧ k < w1.heap.size) := ⟨H1.o.2.1.lt, fun e => H.o.2.2.2.2.1 e.symm, fun k hk => ⟨H.o.2.2.2.2.2 k hk, (H1.o.1.lt.2 k hk).1⟩⟩
 have fD : Hd ((¬ D g ∧ g < w1.heap.size) ∧ (¬ D gm ∧ gm < w1.heap.size)) := ⟨⟨fun q => (H1.o.1.lt.2 g q).2 rfl, H1.o.1.lt.1⟩, ⟨fun q => H.o.2.2.2.2.2 gm q rfl, H1.o.2.1.lt⟩⟩
 clear k1 k2 dh
 go_wp2_with fail
 go_loopw [178] (fun rA w' => ∃ (i : Nat) (va : Value), i ≤ n ∧ rA = .int .i64 i ∧ Hd (Blk w' gm #[q0, q1, q2, q3, q4, q5, q6, q7, q8, q9, bw, bo, va, bu, bW, bX, bV] 37 ∧ OwnG ((Lay.dat (N + 1))) 73 w1.heap.size (fun k => ¬ D k ∧ k < w1.heap.size) w' (va) (rVec rDat i s1).1 ∧ SpR D g lo (rVec rDat i s1).2 w' ∧ Fr (fun k => k = g ∨ k = gm) w1 w')) (fun rA _ => n - (intOf rA).toNat)
 case atStart => exact ⟨0, _, nzQ _, rfl, H1.o.2.1, zK _ _ _ _ _, H1.o.1, Fr.refl _ _⟩
 case round =>
  obtain ⟨i, va, hi, rfl, hV⟩ := hrel
  obtain ⟨aN, aw, az, rfl⟩ := hV.o.2.1.shape
  by_cases ah : i < n
  ·have hst := qh (yP rDat i s1)
   have gC := qh (jg rDat i s1)
   have cW := qh (show (rVec rDat i s1).2.b.length ≤ 33554432 from nlQ (yK rDat ziA i s1) bS.o)
   obtain ⟨r2, bR⟩ := exQ (rVec rDat (i + 1) s1)
   have bR := qh bR
   rw [bR.o] at hst
   generalize (rVec rDat i s1).1 = xs at *
   generalize (rVec rDat i s1).2 = t0 at *
   have cj := qh (show g < w1.heap.size from (H1.o.1).lt.1)
   go_wp2_with fail
   refine zi (y4 (fun k => ¬ k = gm)) [kT 0, kT 1, kT 2, kT 3, kT 4, kT 5, kT 7, kT 9, kT 10, kR 6, kR 8, kR 11, kR 12, kT 13, kR 14, kR 15, kT 16, kT 17, kL 18] (by kernel_rfl) (by kernel_rfl) ?_
   simp only [zy, gzQ, gsQ]
   have HC := qh (fun W' (h : Fr (fun k => ¬ k = gm) wr.drew W') => (hV.o.1.fr ((zb _).fr h) (fun e => e rfl)).cell)
   have bU : Hd (Blk wr.drew gm #[q0, q1, q2, q3, q4, q5, q6, q7, q8, q9, bw, bo, (.slice aN aw az), bu, bW, bX, bV] 37 ∧ OwnG ((Lay.dat (N + 1))) 73 w1.heap.size (fun k => ¬ D k ∧ k < w1.heap.size) wr.drew ((.slice aN aw az)) xs ∧ SpR D g lo t0 wr.drew ∧ Fr (fun k => k = g ∨ k = gm) w1 wr.drew) := ⟨hV.o.1.ext (zb _), hV.o.2.1.ext (zb _), hV.o.2.2.1.ext (zb _), hV.o.2.2.2.ext (zb _)⟩
   have au := qh (show ∀ k, (Value.slice aN aw az).ownBlock = some k → w1.heap.size ≤ k ∧ k < wr.drew.heap.size from bU.o.2.1.lt)
   have dF := qh (show g < wr.drew.heap.size ∧ gm < wr.drew.heap.size ∧ (∀ k, D k → k ≠ g ∧ k ≠ gm ∧ k < w1.heap.size) from ⟨bU.o.2.2.1.lt.1, bU.o.1.lt, fun k hk => ⟨(bU.o.2.2.1.lt.2 k hk).2, b9.o.2.2 k hk⟩⟩)
   clear hV
   have ll := qh bU.o.2.2.2.size
   generalize wr.drew = W0 at *
   have i2 := qh (show rDat t0 = (⟨UInt32.ofNat (zd t0).1, (yH (zd t0).2).1, (zW (zd (yH (zd t0).2).2).1 (zd (yH (zd t0).2).2).2).1⟩, (zW (zd (yH (zd t0).2).2).1 (zd (yH (zd t0).2).2).2).2) from rfl)
   repeat (apply item_take; rfl; rfl; rfl; rfl; exact fun _ _ _ _ h => h; (intro W e _ k; have q := HC.o W e; go_simp; exact k))
   apply ze; rfl; intro K hK; go_simp
   refine (zN D g lo t0 W0 bU.o.2.2.1 (by have := cW.o; omega)).mono ?_
   rintro e W1 ⟨rfl, ks, kf⟩
   have fR := qh kf.size
   refine hK _ _ (kf.mono (fun k _ e e2 => b9.o.2.1 (by have e1 : k = g := e; rw [← e1, e2]))) ?_
   have cU := qh (zX t0)
   have bS := qh (show (zd t0).2.b.length ≤ 33554432 from nlQ (zJ t0) cW.o)
   generalize (zd t0).1 = x0 at *
   generalize (zd t0).2 = t1 at *
   have bZ : Hd (Blk W1 gm #[q0, q1, q2, q3, q4, q5, q6, q7, q8, q9, bw, bo, (.slice aN aw az), bu, bW, bX, bV] 37 ∧ OwnG ((Lay.dat (N + 1))) 73 w1.heap.size (fun k => ¬ D k ∧ k < w1.heap.size) W1 ((.slice aN aw az)) xs ∧ SpR D g lo t1 W1 ∧ Fr (fun k => k = g ∨ k = gm) w1 W1) := ⟨bU.o.1.fr kf (fun e => b9.o.2.1 e.symm), bU.o.2.1.fr kf (fun k e => .inl (by have e' : k = g := e; rw [e']; exact fD.o.1)) (fun k hk e => by have e' : k = g := e; have := au.o k hk; have := cj.o; omega), ks, Fr.trans bU.o.2.2.2 kf (fun _ _ h => h) (fun _ _ h => .inl h)⟩
   clear hK K kf ks bU
   repeat (apply item_take; rfl; rfl; rfl; rfl; exact fun _ _ _ _ h => h; (intro _ _ _ k; go_simp; exact k))
   apply ze; rfl; intro K hK; go_simp
   refine (J3 N D g lo t1 W1 bZ.o.2.2.1 (by have := bS.o; omega)).mono ?_
   rintro e W2 ⟨cv, rfl, kc, ks, kf⟩
   have mT := qh kf.size
   obtain ⟨pH, pB, pC, rfl⟩ := jh kc
   refine hK _ _ (kf.mono (fun k _ e e2 => b9.o.2.1 (by have e1 : k = g := e; rw [← e1, e2]))) ?_
   have fN := qh (show (yH t1).2.b.length ≤ 33554432 from nlQ (JA t1) bS.o)
   generalize (yH t1).1 = x1 at *
   generalize (yH t1).2 = t2 at *
   have bf : Hd (Blk W2 gm #[q0, q1, q2, q3, q4, q5, q6, q7, q8, q9, bw, bo, (.slice aN aw az), bu, bW, bX, bV] 37 ∧ OwnG ((Lay.dat (N + 1))) 73 w1.heap.size (fun k => ¬ D k ∧ k < w1.heap.size) W2 ((.slice aN aw az)) xs ∧ SpR D g lo t2 W2 ∧ Fr (fun k => k = g ∨ k = gm) w1 W2 ∧ (Lay.ins (N + 1)).slice.rd (aE D W0 W2) W2 [.slice pH pB pC] x1) := ⟨bZ.o.1.fr kf (fun e => b9.o.2.1 e.symm), bZ.o.2.1.fr kf (fun k e => .inl (by have e' : k = g := e; rw [e']; exact fD.o.1)) (fun k hk e => by have e' : k = g := e; have := au.o k hk; have := cj.o; omega), ks, Fr.trans bZ.o.2.2.2 kf (fun _ _ h => h) (fun _ _ h => .inl h), Lay.mono _ kc (fun k hk => ⟨.inr (by have := hk.1; have := fR.o; omega), hk.2⟩)⟩
   clear hK K kf ks kc bZ
   repeat (apply item_take; rfl; rfl; rfl; rfl; exact fun _ _ _ _ h => h; (intro _ _ _ k; go_simp; exact k))
   apply ze; rfl; intro K hK; go_simp
   refine (zN D g lo t2 W2 bf.o.2.2.1 (by have := fN.o; omega)).mono ?_
   rintro e W3 ⟨rfl, ks, kf⟩
   have rj := qh kf.size
   refine hK _ _ (kf.mono (fun k _ e e2 => b9.o.2.1 (by have e1 : k = g := e; rw [← e1, e2]))) ?_
   have bY := qh (zX t2)
   have ly := qh (show (zd t2).2.b.length ≤ 33554432 from nlQ (zJ t2) fN.o)
   generalize (zd t2).1 = x2 at *
   generalize (zd t2).2 = t3 at *
   have dW : Hd (Blk W3 gm #[q0, q1, q2, q3, q4, q5, q6, q7, q8, q9, bw, bo, (.slice aN aw az), bu, bW, bX, bV] 37 ∧ OwnG ((Lay.dat (N + 1))) 73 w1.heap.size (fun k => ¬ D k ∧ k < w1.heap.size) W3 ((.slice aN aw az)) xs ∧ SpR D g lo t3 W3 ∧ Fr (fun k => k = g ∨ k = gm) w1 W3 ∧ (Lay.ins (N + 1)).slice.rd (aE D W0 W3) W3 [.slice pH pB pC] x1) := ⟨bf.o.1.fr kf (fun e => b9.o.2.1 e.symm), bf.o.2.1.fr kf (fun k e => .inl (by have e' : k = g := e; rw [e']; exact fD.o.1)) (fun k hk e => by have e' : k = g := e; have := au.o k hk; have := cj.o; omega), ks, Fr.trans bf.o.2.2.2.1 kf (fun _ _ h => h) (fun _ _ h => .inl h), zgC bf.o.2.2.2.2 dF.o.1 (fun k hk => (dF.o.2.2 k hk).1) kf⟩
   clear hK K kf ks bf
   repeat (apply item_take; rfl; rfl; rfl; rfl; exact fun _ _ _ _ h => h; (intro _ _ _ k; go_simp; exact k))
   apply ze; rfl; intro K hK; go_simp
   refine (Jy x2 bY.o D g lo t3 W3 dW.o.2.2.1 (by have := ly.o; omega)).mono ?_
   rintro e W4 ⟨xJ, Ad, Ai, rfl, kt, ks, kf⟩
   have AC := qh kf.size
   refine hK _ _ (kf.mono (fun k _ e e2 => b9.o.2.1 (by have e1 : k = g := e; rw [← e1, e2]))) ?_
   have Cm := qh (show (zW x2 t3).2.b.length ≤ 33554432 from nlQ (jQ x2 t3) ly.o)
   generalize (zW x2 t3).1 = x3 at *
   generalize (zW x2 t3).2 = t4 at *
   have nZ : Hd (Blk W4 gm #[q0, q1, q2, q3, q4, q5, q6, q7, q8, q9, bw, bo, (.slice aN aw az), bu, bW, bX, bV] 37 ∧ OwnG ((Lay.dat (N + 1))) 73 w1.heap.size (fun k => ¬ D k ∧ k < w1.heap.size) W4 ((.slice aN aw az)) xs ∧ SpR D g lo t4 W4 ∧ Fr (fun k => k = g ∨ k = gm) w1 W4 ∧ (Lay.ins (N + 1)).slice.rd (aE D W0 W4) W4 [.slice pH pB pC] x1 ∧ Lay.u8.slice.rd (aE D W0 W4) W4 [.slice xJ Ad Ai] x3) := ⟨dW.o.1.fr kf (fun e => b9.o.2.1 e.symm), dW.o.2.1.fr kf (fun k e => .inl (by have e' : k = g := e; rw [e']; exact fD.o.1)) (fun k hk e => by have e' : k = g := e; have := au.o k hk; have := cj.o; omega), ks, Fr.trans dW.o.2.2.2.1 kf (fun _ _ h => h) (fun _ _ h => .inl h), zgC dW.o.2.2.2.2 dF.o.1 (fun k hk => (dF.o.2.2 k hk).1) kf, Lay.mono _ kt (fun k hk => ⟨.inl hk, (ks.lt.2 k hk).1⟩)⟩
   clear hK K kf ks kt dW
   repeat (apply item_take; rfl; rfl; rfl; rfl; exact fun _ _ _ _ h => h; (intro _ _ _ k; go_simp; exact k))
   apply ze; rfl; intro K hK; go_simp
   refine hK _ _ (za _ _).to ?_
   clear hK K
   apply ze; rfl; intro K hK
   refine zY ((Lay.dat (N + 1))) w1.heap.size (.tmp 184) (.tmp 194) _ _ _ 56 rfl Tryz.underlying33 ziz rfl (by omega) (show 0 < 3 by decide) (.slice aN aw az) xs ⟨UInt32.ofNat x0, x1, x3⟩ _ rfl rfl nZ.o.2.1 ?_ nZ.o.2.2.2.1.size (by rw [gC.o]; omega) ?_
   ·refine zb3 (W0 := W0) (wL := w1) ?_ ll.o (fun k hk => (dF.o.2.2 k hk).2.2) au.o
    refine ⟨[_], _, rfl, ?_, [_], [_], rfl, nZ.o.2.2.2.2.1, nZ.o.2.2.2.2.2⟩
    show [Value.int .u32 _] = [Value.int .u32 ((UInt32.ofNat x0).toNat : Int)]
    rw [Jh cU.o]
   intro v1 Wa h1 h2 h3 _
   refine hK _ _ (h3.mono (fun k _ e e2 => by have := (au.o k e.symm).1; have := b9.o.1; omega)) ?_
   clear hK K
   obtain ⟨aR, aV, aU, rfl⟩ := h1.shape
   have ch := jc (f := 12) nZ.o.1 nZ.o.2.1 nZ.o.2.2.2.1 (X := (fun k => ¬ D k ∧ k < w1.heap.size)) (S := (fun k => k = g ∨ k = gm)) fD.o.2 (.inr rfl) b9.o.1 rfl h1 h2
   have h6 : Hd (Blk Wa gm #[q0, q1, q2, q3, q4, q5, q6, q7, q8, q9, bw, bo, (.slice aN aw az), bu, bW, bX, bV] 37 ∧ Blk (Wa.setCell ⟨gm, 12, none⟩ (.slice aR aV aU)) gm #[q0, q1, q2, q3, q4, q5, q6, q7, q8, q9, bw, bo, (.slice aR aV aU), bu, bW, bX, bV] 37 ∧ OwnG ((Lay.dat (N + 1))) 73 w1.heap.size (fun k => ¬ D k ∧ k < w1.heap.size) (Wa.setCell ⟨gm, 12, none⟩ (.slice aR aV aU)) ((.slice aR aV aU)) r2.1 ∧ SpR D g lo r2.2 (Wa.setCell ⟨gm, 12, none⟩ (.slice aR aV aU)) ∧ Fr (fun k => k = g ∨ k = gm) w1 (Wa.setCell ⟨gm, 12, none⟩ (.slice aR aV aU))) := by
    rw [hst.o, i2.o]
    have gL := nZ.o.2.2.1.fr h2 (fun e => by have := au.o g e.symm; have := cj.o; omega) (fun k hk e => by have := au.o k e.symm; have := dF.o.2.2 k hk; omega)
    refine ⟨ch.1, ?_, ch.2.2.1, gL.fr (zh _ _ _) (fun e => b9.o.2.1 e) (fun k hk e => (dF.o.2.2 k hk).2.1 e), ch.2.2.2⟩
    have := ch.2.1
    simpa using this
   have fV := h6.o.1.cell
   have dV := h6.o.1.frz
   clear h1 h2 h3 ch nZ
   repeat (apply item_take; rfl; rfl; rfl; rfl; exact fun _ _ _ _ h => h; (intro _ _ _ k; go_simp; exact k))
   apply zu; rfl; intro K hK; go_simp
   refine hK _ _ ?_
   clear hK K fV dV
   apply zl
   have dy := qh h6.o.2
   go_wp2
   go_roundw
   case rel => exact ⟨i + 1, _, by omega, by go_num, by rw [bR.o]; exact dy.o⟩
   case measure => simp [intOf]; omega
  ·obtain rfl : i = n := by omega
   go_wp2
   go_end0
   refine ⟨rfl, ⟨_, hV.o.1, ?_⟩, ?_, ?_⟩
   ·rw [HR.o]; exact hV.o.2.1.sliceE H1.o.2.2.size
   ·rw [HR.o]; exact hV.o.2.2.1
   ·exact Fr.trans H1.o.2.2 hV.o.2.2.2 (fun _ _ e => .inl e) (fun _ _ e => e)
abbrev zdY (m : Mod) : Mod := { m with customs := [] }
abbrev zaQ (v : ModV) : ModV := { v with customs := .slice none 0 0 }
structure FreshV (last : Nat) (v : ModV) : Prop where
 tables : last < 4 → v.tables = .slice none 0 0
 memories : last < 5 → v.memories = .slice none 0 0
 globals : last < 6 → v.globals = .slice none 0 0
 exports : last < 7 → v.exports = .slice none 0 0
 elements : last < 9 → v.elements = .slice none 0 0
 codes : last < 10 → v.codes = .slice none 0 0
 datas : last < 11 → v.datas = .slice none 0 0
theorem FreshV.mono {a b : Nat} {v : ModV} (h : FreshV a v) (pv : a ≤ b) : FreshV b v := ⟨fun k => h.tables (by omega), fun k => h.memories (by omega), fun k => h.globals (by omega), fun k => h.exports (by omega), fun k => h.elements (by omega), fun k => h.codes (by omega), fun k => h.datas (by omega)⟩
abbrev aSec (A D : Nat → Prop) (w W : World) : Nat → Prop := fun k => (A k ∨ D k ∨ w.heap.size ≤ k) ∧ k < W.heap.size
theorem zda {N id : Nat} (h1 : 1 ≤ id) (h2 : id ≤ 11) (D A : Nat → Prop) (g gm : Nat) (lo : Bool) (s : St) (M : Mod) (v : ModV) (w : World) (h : SpR D g lo s w) (hB : Blk w gm (zs M v) 37) (aO : ¬ gm = g) (df : ∀ k, D k → ¬ k = gm) (hl : s.b.length ≤ 1048576)
 (hM : ModAt (N + 1) A w (zdY M) (zaQ v)) (hA : ∀ k, A k → k < w.heap.size ∧ ¬ (k = g ∨ k = gm)) (hF : FreshV (id - 1) v) :
 Calls Tryz.prog 54 #[.pointer (some ⟨g, 0, none⟩), .int .i64 (id : Int), .pointer (some ⟨gm, 0, none⟩)] w fun e w' => e = .returned (.tuple #[]) ∧ ∃ v', Blk w' gm (zs (zO id M s).1 v') 37 ∧ ModAt (N + 1) (aSec A D w w') w' (zdY (zO id M s).1) (zaQ v') ∧ v'.customs = v.customs ∧ FreshV id v' ∧
  (zO id M s).1.customs = M.customs ∧ SpR D g lo (zO id M s).2 w' ∧ Fr (fun k => k = g ∨ k = gm) w w' := by
 have kQ : ∀ (w' : World), Fr (fun k => k = g ∨ k = gm) w w' → ModAt (N + 1) (aSec A D w w') w' (zdY M) (zaQ v) := fun w' hf => (hM.fr hf (fun k hk => hA k hk)).mono (fun k hk => ⟨.inl hk, nqQ (hA k hk).1 hf.size⟩)
 have hE : ∀ (w' : World) k, aE D w w' k → aSec A D w w' k := fun w' k hk => ⟨.inr hk.1, hk.2⟩
 have : id = 1 ∨ id = 2 ∨ id = 3 ∨ id = 4 ∨ id = 5 ∨ id = 6 ∨ id = 7 ∨ id = 8 ∨ id = 9 ∨ id = 10 ∨ id = 11 := by omega
 rcases this with rfl | rfl | rfl | rfl | rfl | rfl | rfl | rfl | rfl | rfl | rfl
 ·refine (zfZ N D g gm lo s w v.types (.int .u32 (M.version.toNat : Int)) (.bool M.hasStart) (.int .u32 (M.start.toNat : Int)) v.imports v.functions v.tables v.memories v.elements v.globals v.exports v.codes v.datas v.customs (.string (zc M.named)) v.funcs v.locals h hB aO df hl).mono ?_
  rintro e w' ⟨rfl, ⟨x, k1, k0⟩, k2, k3⟩
  rw [zhl]
  exact ⟨rfl, { v with types := x }, k1, (kQ w' k3).set_types (Lay.mono _ k0 (hE w')), rfl, ⟨fun k => hF.tables (by omega), fun k => hF.memories (by omega), fun k => hF.globals (by omega), fun k => hF.exports (by omega), fun k => hF.elements (by omega), fun k => hF.codes (by omega), fun k => hF.datas (by omega)⟩, rfl, k2, k3⟩
 ·refine (zf0 N D g gm lo s w v.imports (.int .u32 (M.version.toNat : Int)) (.bool M.hasStart) (.int .u32 (M.start.toNat : Int)) v.types v.functions v.tables v.memories v.elements v.globals v.exports v.codes v.datas v.customs (.string (zc M.named)) v.funcs v.locals h hB aO df hl).mono ?_
  rintro e w' ⟨rfl, ⟨x, k1, k0⟩, k2, k3⟩
  rw [zhm]
  exact ⟨rfl, { v with imports := x }, k1, (kQ w' k3).set_imports (Lay.mono _ k0 (hE w')), rfl, ⟨fun k => hF.tables (by omega), fun k => hF.memories (by omega), fun k => hF.globals (by omega), fun k => hF.exports (by omega), fun k => hF.elements (by omega), fun k => hF.codes (by omega), fun k => hF.datas (by omega)⟩, rfl, k2, k3⟩
 ·refine (zf1 N D g gm lo s w v.functions (.int .u32 (M.version.toNat : Int)) (.bool M.hasStart) (.int .u32 (M.start.toNat : Int)) v.types v.imports v.tables v.memories v.elements v.globals v.exports v.codes v.datas v.customs (.string (zc M.named)) v.funcs v.locals h hB aO df hl).mono ?_
  rintro e w' ⟨rfl, ⟨x, k1, k0⟩, k2, k3⟩
  rw [zhn]
  exact ⟨rfl, { v with functions := x }, k1, (kQ w' k3).set_functions (Lay.mono _ k0 (hE w')), rfl, ⟨fun k => hF.tables (by omega), fun k => hF.memories (by omega), fun k => hF.globals (by omega), fun k => hF.exports (by omega), fun k => hF.elements (by omega), fun k => hF.codes (by omega), fun k => hF.datas (by omega)⟩, rfl, k2, k3⟩
 ·have hz := hF.tables (by omega)
  rw [show zs M v = zs M { v with tables := .slice none 0 0 } from by rw [← hz]] at hB
  refine (zf2 N D g gm lo s w (.int .u32 (M.version.toNat : Int)) (.bool M.hasStart) (.int .u32 (M.start.toNat : Int)) v.types v.imports v.functions v.memories v.elements v.globals v.exports v.codes v.datas v.customs (.string (zc M.named)) v.funcs v.locals h hB aO df hl).mono ?_
  rintro e w' ⟨rfl, ⟨x, k1, k0⟩, k2, k3⟩
  rw [zho]
  exact ⟨rfl, { v with tables := x }, k1, (kQ w' k3).set_tables (Lay.mono _ k0 (hE w')), rfl, ⟨fun k => absurd k (by decide), fun k => hF.memories (by omega), fun k => hF.globals (by omega), fun k => hF.exports (by omega), fun k => hF.elements (by omega), fun k => hF.codes (by omega), fun k => hF.datas (by omega)⟩, rfl, k2, k3⟩
 ·have hz := hF.memories (by omega)
  rw [show zs M v = zs M { v with memories := .slice none 0 0 } from by rw [← hz]] at hB
  refine (zf3 N D g gm lo s w (.int .u32 (M.version.toNat : Int)) (.bool M.hasStart) (.int .u32 (M.start.toNat : Int)) v.types v.imports v.functions v.tables v.elements v.globals v.exports v.codes v.datas v.customs (.string (zc M.named)) v.funcs v.locals h hB aO df hl).mono ?_
  rintro e w' ⟨rfl, ⟨x, k1, k0⟩, k2, k3⟩
  rw [zhp]
  exact ⟨rfl, { v with memories := x }, k1, (kQ w' k3).set_memories (Lay.mono _ k0 (hE w')), rfl, ⟨fun k => hF.tables (by omega), fun k => absurd k (by decide), fun k => hF.globals (by omega), fun k => hF.exports (by omega), fun k => hF.elements (by omega), fun k => hF.codes (by omega), fun k => hF.datas (by omega)⟩, rfl, k2, k3⟩
 ·have hz := hF.globals (by omega)
  rw [show zs M v = zs M { v with globals := .slice none 0 0 } from by rw [← hz]] at hB
  refine (zf4 N D g gm lo s w (.int .u32 (M.version.toNat : Int)) (.bool M.hasStart) (.int .u32 (M.start.toNat : Int)) v.types v.imports v.functions v.tables v.memories v.elements v.exports v.codes v.datas v.customs (.string (zc M.named)) v.funcs v.locals h hB aO df hl).mono ?_
  rintro e w' ⟨rfl, ⟨x, k1, k0⟩, k2, k3⟩
  rw [zhq]
  exact ⟨rfl, { v with globals := x }, k1, (kQ w' k3).set_globals (Lay.mono _ k0 (hE w')), rfl, ⟨fun k => hF.tables (by omega), fun k => hF.memories (by omega), fun k => absurd k (by decide), fun k => hF.exports (by omega), fun k => hF.elements (by omega), fun k => hF.codes (by omega), fun k => hF.datas (by omega)⟩, rfl, k2, k3⟩
 ·have hz := hF.exports (by omega)
  rw [show zs M v = zs M { v with exports := .slice none 0 0 } from by rw [← hz]] at hB
  refine (zf5 h hB aO df hl).mono ?_
  rintro e w' ⟨rfl, ⟨x, k1, k0⟩, k2, k3⟩
  rw [zhr]
  exact ⟨rfl, { v with exports := x }, k1, (kQ w' k3).set_exports (Lay.mono _ k0 (hE w')), rfl, ⟨fun k => hF.tables (by omega), fun k => hF.memories (by omega), fun k => hF.globals (by omega), fun k => absurd k (by decide), fun k => hF.elements (by omega), fun k => hF.codes (by omega), fun k => hF.datas (by omega)⟩, rfl, k2, k3⟩
 ·refine (zf6 h hB aO df hl).mono ?_
  rintro e w' ⟨rfl, k1, k2, k3⟩
  rw [zhs]
  have hm := kQ w' k3
  exact ⟨rfl, v, k1, ⟨hm.types, hm.imports, hm.functions, hm.tables, hm.memories, hm.elements, hm.globals, hm.exports, hm.codes, hm.datas, hm.customs, hm.funcs, hm.locals, hm.named⟩, rfl, ⟨fun k => hF.tables (by omega), fun k => hF.memories (by omega), fun k => hF.globals (by omega), fun k => hF.exports (by omega), fun k => hF.elements (by omega), fun k => hF.codes (by omega), fun k => hF.datas (by omega)⟩, rfl, k2, k3⟩
 ·have hz := hF.elements (by omega)
  rw [show zs M v = zs M { v with elements := .slice none 0 0 } from by rw [← hz]] at hB
  refine (zf7 N D g gm lo s w (.int .u32 (M.version.toNat : Int)) (.bool M.hasStart) (.int .u32 (M.start.toNat : Int)) v.types v.imports v.functions v.tables v.memories v.globals v.exports v.codes v.datas v.customs (.string (zc M.named)) v.funcs v.locals h hB aO df hl).mono ?_
  rintro e w' ⟨rfl, ⟨x, k1, k0⟩, k2, k3⟩
  rw [zht]
  exact ⟨rfl, { v with elements := x }, k1, (kQ w' k3).set_elements (Lay.mono _ k0 (hE w')), rfl, ⟨fun k => hF.tables (by omega), fun k => hF.memories (by omega), fun k => hF.globals (by omega), fun k => hF.exports (by omega), fun k => absurd k (by decide), fun k => hF.codes (by omega), fun k => hF.datas (by omega)⟩, rfl, k2, k3⟩
 ·have hz := hF.codes (by omega)
  rw [show zs M v = zs M { v with codes := .slice none 0 0 } from by rw [← hz]] at hB
  refine (zeS N D g gm lo s w (.int .u32 (M.version.toNat : Int)) (.bool M.hasStart) (.int .u32 (M.start.toNat : Int)) v.types v.imports v.functions v.tables v.memories v.elements v.globals v.exports v.datas v.customs (.string (zc M.named)) v.funcs v.locals h hB aO df hl).mono ?_
  rintro e w' ⟨rfl, ⟨x, k1, k0⟩, k2, k3⟩
  rw [zfX]
  exact ⟨rfl, { v with codes := x }, k1, (kQ w' k3).set_codes (Lay.mono _ k0 (hE w')), rfl, ⟨fun k => hF.tables (by omega), fun k => hF.memories (by omega), fun k => hF.globals (by omega), fun k => hF.exports (by omega), fun k => hF.elements (by omega), fun k => absurd k (by decide), fun k => hF.datas (by omega)⟩, rfl, k2, k3⟩
 ·have hz := hF.datas (by omega)
  rw [show zs M v = zs M { v with datas := .slice none 0 0 } from by rw [← hz]] at hB
  refine (zeT N D g gm lo s w (.int .u32 (M.version.toNat : Int)) (.bool M.hasStart) (.int .u32 (M.start.toNat : Int)) v.types v.imports v.functions v.tables v.memories v.elements v.globals v.exports v.codes v.customs (.string (zc M.named)) v.funcs v.locals h hB aO df hl).mono ?_
  rintro e w' ⟨rfl, ⟨x, k1, k0⟩, k2, k3⟩
  rw [zfY]
  exact ⟨rfl, { v with datas := x }, k1, (kQ w' k3).set_datas (Lay.mono _ k0 (hE w')), rfl, ⟨fun k => hF.tables (by omega), fun k => hF.memories (by omega), fun k => hF.globals (by omega), fun k => hF.exports (by omega), fun k => hF.elements (by omega), fun k => hF.codes (by omega), fun k => absurd k (by decide)⟩, rfl, k2, k3⟩
theorem Yo (lo : Bool) : ∀ (f : Nat) (m : Mod) (last : Nat) (s : St), (zx lo f m last s).1.customs = m.customs
 | 0, m, _, _ => rfl
 | f + 1, m, last, s => by
  unfold zx
  split
  ·dsimp only
   split
   ·rfl
   ·refine (Yo lo f _ _ _).trans ?_
    unfold JN
    split
    ·rfl
    ·split <;> rfl
  ·rfl
theorem zaY (id : Nat) (m : Mod) (s : St) : (zO id m s).1.customs = m.customs := by
 unfold zO
 by_cases h1 : id = 1
 ·subst h1; rfl
 by_cases h2 : id = 2
 ·subst h2; rfl
 by_cases h3 : id = 3
 ·subst h3; rfl
 by_cases h4 : id = 4
 ·subst h4; rfl
 by_cases h5 : id = 5
 ·subst h5; rfl
 by_cases h6 : id = 6
 ·subst h6; rfl
 by_cases h7 : id = 7
 ·subst h7; rfl
 by_cases h8 : id = 8
 ·subst h8; rfl
 by_cases h9 : id = 9
 ·subst h9; rfl
 by_cases tQ : id = 10
 ·subst tQ; rfl
 by_cases pL : id = 11
 ·subst pL; rfl
 rw [if_neg h1, if_neg h2, if_neg h3, if_neg h4, if_neg h5, if_neg h6, if_neg h7, if_neg h8, if_neg h9, if_neg tQ, if_neg pL]
def mS1 (t0 : St) : St := if t0.b = [] then t0.fail 2 else t0
def mS3 (c x : Nat) (s2 : St) : St := if s2.v = 0 ∧ (x = 0 ∨ s2.b = [] ∨ (c = 0 ∧ s2.b.length < x)) then s2.fail 2 else s2
def zbV (t2 q : St) : St := if (Zg q).v ≠ 0 then t2.fail (Zg q).v else t2
def mEnd (lo : Bool) (p : ModSt) (c : Nat) (t : List UInt8 × St) : ModSt × Bool := if t.2.v ≠ 0 then ({ p with s := t.2 }, false) else ({ secQ lo c p t.1 with s := zbV t.2 (secQ lo c p t.1).s }, true)
theorem ziB (lo : Bool) (p : ModSt) : YJ lo p = mEnd lo p (zn p.s).1 (zW (zd (mS1 (zn p.s).2)).1 (mS3 (zn p.s).1 (zd (mS1 (zn p.s).2)).1 (Zg (zd (mS1 (zn p.s).2)).2))) := by
 obtain ⟨id, lQ⟩ := exQ (zn p.s)
 unfold YJ
 rw [lQ]
 dsimp only
 obtain ⟨s1, cZ⟩ := exQ (mS1 id.2)
 rw [show (if id.2.b = [] then id.2.fail 2 else id.2) = s1 from cZ, cZ]
 obtain ⟨n, hn⟩ := exQ (zd s1)
 rw [hn]
 obtain ⟨s2, fI⟩ := exQ (Zg n.2)
 rw [fI]
 obtain ⟨s3, lX⟩ := exQ (mS3 id.1 n.1 s2)
 rw [show (if s2.v = 0 ∧ (n.1 = 0 ∨ s2.b = [] ∨ (id.1 = 0 ∧ s2.b.length < n.1)) then s2.fail 2 else s2) = s3 from lX, lX]
 obtain ⟨t, ht⟩ := exQ (zW n.1 s3)
 rw [ht]
 rfl
def zdZ (s : St) : St := if s.v = 3 then { s with v := 1 } else s
def zd0 (m : Mod) (s : St) : St := if s.v = 0 ∧ m.functions.length ≠ m.codes.length then s.fail 2 else s
def mFin (R : ModSt) : Mod × Nat := (R.m, (zd0 R.m (zdZ R.s)).v)
theorem zhA (lo : Bool) (b : List UInt8) : yl lo b = if b.take 8 ≠ YK then (Mod.none, 1) else mFin (Yg lo b.length ⟨{ Mod.none with version := 1 }, 0, false, ⟨b.drop 8, 0⟩⟩) := rfl
theorem zd1 (lo : Bool) (m : Mod) (seen : Bool) (s : St) : (zz lo m seen s).1.hasStart = m.hasStart ∧ (zz lo m seen s).1.start = m.start := by
 have hp : ∀ (id : Nat) (m : Mod) (s : St), (JN lo id m s).1.hasStart = m.hasStart ∧ (JN lo id m s).1.start = m.start := fun id m s => by
  unfold JN
  split
  ·exact ⟨rfl, rfl⟩
  ·split <;> exact ⟨rfl, rfl⟩
 have hn : ∀ (f : Nat) (m : Mod) (last : Nat) (s : St), (zx lo f m last s).1.hasStart = m.hasStart ∧ (zx lo f m last s).1.start = m.start := by
  intro f
  induction f with
  | zero => exact fun _ _ _ => ⟨rfl, rfl⟩
  | succ f ih =>
   intro m last s
   unfold zx
   split
   ·dsimp only
    split
    ·exact ⟨rfl, rfl⟩
    ·exact ⟨(ih _ _ _).1.trans (hp _ _ _).1, (ih _ _ _).2.trans (hp _ _ _).2⟩
   ·exact ⟨rfl, rfl⟩
 unfold zz
 dsimp only
 split
 ·exact ⟨rfl, rfl⟩
 ·split
  ·exact ⟨rfl, rfl⟩
  ·exact hn _ _ _ _
theorem zjG (s : St) : (mS1 s).b.length ≤ s.b.length := by
 unfold mS1; split
 ·exact nzQ _
 ·exact Nat.le_refl _
theorem zjH (c x : Nat) (s : St) : (mS3 c x s).b.length ≤ s.b.length := by
 unfold mS3; split
 ·exact nzQ _
 ·exact Nat.le_refl _
theorem zhB (s : St) : (Zg s).b.length ≤ s.b.length := by
 unfold Zg; split <;> exact Nat.le_refl _
theorem zd2 (lo : Bool) (c : Nat) (p : ModSt) (t : List UInt8) : (secQ lo c p t).m.customs.length ≤ p.m.customs.length + 1 := by
 unfold secQ
 split
 ·dsimp only
  unfold zz
  dsimp only
  split
  ·exact Nat.le_succ _
  ·split
   ·show (p.m.customs ++ [_]).length ≤ _
    rw [laQ]; exact Nat.le_refl _
   ·rw [Yo]; omega
 ·split
  ·dsimp only; omega
  ·dsimp only
   rw [zaY]; omega
theorem ZK : (Tryz.prog.info? 120).map (fun i => (i.zero, i.size, i.bytes)) = some (some (.agg #[.int .u32 0, .int .u32 0, .string ⟨#[]⟩]), Lay.nam.size, 24) := by kernel_rfl
theorem zeU (f : UInt32) (p : List Nam × St) : (yb f p).2.b.length ≤ p.2.b.length := by
 have h := nlQ (jR (rNum p.2).2) (Yb p.2)
 show (if _ then _ else _ : St).b.length ≤ _
 split
 ·exact nzQ _
 ·exact h
theorem zcl {σ : Type} (step : σ → σ) (m : σ → Nat) (h : ∀ p, m (step p) ≤ m p) : ∀ (n : Nat) (p : σ), m (yN step n p) ≤ m p
 | 0, _ => Nat.le_refl _
 | n + 1, p => nlQ (h _) (zcl step m h n p)
theorem J7 (f : UInt32) : ∀ (n : Nat) (s : St), (yN (yb f) n ([], s)).1.length = n
 | 0, _ => rfl
 | n + 1, s => by
  show ((yN (yb f) n ([], s)).1 ++ [_]).length = n + 1
  rw [laQ, J7 f n s]; rfl
theorem zf9 (l : List Nam) (i : UInt32) (h : 0 < l.length) : zdx l i = decide (i.toNat ≤ (l[l.length - 1]'(by omega)).idx.toNat) := by
 unfold zdx
 rw [List.getLast?_eq_getElem?, List.getElem?_eq_getElem (by omega)]
theorem JL (f : UInt32) (D : Nat → Prop) (g : Nat) (lo : Bool) (s : St) (w : World) (h : SpR D g lo s w) (hl : s.b.length ≤ 1048576) :
 Calls Tryz.prog 122 #[.pointer (some ⟨g, 0, none⟩), .int .u32 (f.toNat : Int)] w fun e w' => ∃ v, e = .returned v ∧ OwnG Lay.nam 120 w.heap.size (fun k => k = g) w' v (ya f s).1 ∧ SpR D g lo (ya f s).2 w' ∧ Fr (fun k => k = g) w w' := by
 have H := qh (anQ h (anQ hl h.lt.1))
 have dh := qh (yg s)
 clear h hl
 go_enter Tryz.func122, Tryz.ntmps122
 go_wp2_with fail
 refine (ye H.o.1 (by have := H.o.2.1; omega)).mono ?_
 rintro e w1 ⟨rfl, k1, k2⟩
 have HR := qh (show ya f s = yN (yb f) (zv s).1 ([], (zv s).2) from rfl)
 generalize (zv s).1 = n at *
 generalize (zv s).2 = s1 at *
 have H1 := qh (anQ k1 k2)
 clear k1 k2
 have mX : (n : Int) ≤ 1048576 := by have := H.o.2.1; have := dh.o.1; omega
 go_wp2_with fail
 go_loopw [4, 8] (fun s4 s8 w' => ∃ (i : Nat), i ≤ n ∧ s8 = .int .i64 i ∧ Hd (OwnG Lay.nam 120 w.heap.size (fun k => k = g) w' s4 (yN (yb f) i ([], s1)).1 ∧ SpR D g lo (yN (yb f) i ([], s1)).2 w' ∧ Fr (fun k => k = g) w w')) (fun _ s8 _ => n - (intOf s8).toNat)
 case atStart => exact ⟨0, nzQ _, rfl, zK _ _ _ _ _, H1.o⟩
 case round =>
  obtain ⟨i, hi, rfl, hV⟩ := hrel
  obtain ⟨va, aw, vc, rfl⟩ := hV.o.1.shape
  have xi := J7 f i s1
  have cW := qh (show (yN (yb f) i ([], s1)).2.b.length ≤ 1048576 from nlQ (zcl (yb f) (fun p => p.2.b.length) (zeU f) i ([], s1)) (nlQ dh.o.2 H.o.2.1))
  by_cases ah : i < n
  ·obtain ⟨r2, bR⟩ := exQ (yN (yb f) (i + 1) ([], s1))
   have bR := qh bR
   have hst := qh (show r2 = ((yN (yb f) i ([], s1)).1 ++ [⟨f, UInt32.ofNat (zd (yN (yb f) i ([], s1)).2).1, (zF (zd (yN (yb f) i ([], s1)).2).2).1⟩], if zdx (yN (yb f) i ([], s1)).1 (UInt32.ofNat (zd (yN (yb f) i ([], s1)).2).1) then (zF (zd (yN (yb f) i ([], s1)).2).2).2.fail 2 else (zF (zd (yN (yb f) i ([], s1)).2).2).2) from by rw [← bR.o]; rfl)
   generalize (yN (yb f) i ([], s1)).1 = xs at *
   generalize (yN (yb f) i ([], s1)).2 = t0 at *
   obtain ⟨_, _, DV, Dv, DU⟩ := hV.o.1.form
   injection DV with hvf1 hvf2 hvf3
   subst hvf1 hvf2 hvf3
   obtain rfl : i = xs.length := xi.symm
   have au := qh (show ∀ k, (Value.slice va xs.length vc).ownBlock = some k → w.heap.size ≤ k ∧ k < wr.heap.size from hV.o.1.lt)
   have dI : Hd (∀ k, (Value.slice va xs.length vc).ownBlock = some k → ¬ k = g) := fun k hk e => by have := (au.o k hk).1; have := H.o.2.2; omega
   go_wp2_with fail
   refine (zN D g lo t0 wr hV.o.2.1 (by have := cW.o; omega)).mono ?_
   rintro e w2 ⟨rfl, k1, k2⟩
   have fd := zX t0
   have bS := qh (show (zd t0).2.b.length ≤ 1048576 from nlQ (zJ t0) cW.o)
   generalize (zd t0).1 = x at *
   generalize (zd t0).2 = t1 at *
   have bZ : Hd (OwnG Lay.nam 120 w.heap.size (fun k => k = g) w2 (.slice va xs.length vc) xs ∧ SpR D g lo t1 w2 ∧ Fr (fun k => k = g) w w2) := ⟨hV.o.1.fr k2 (fun k e => .inl e) dI.o, k1, Fr.trans hV.o.2.2 k2 (fun _ _ h => h) (fun _ _ h => h)⟩
   clear k1 k2 hV
   go_wp2_with fail
   refine (Jz bZ.o.2.1 (by have := bS.o; omega)).mono ?_
   rintro e w3 ⟨rfl, k1, k2⟩
   have fh := qh (JB t1)
   generalize (zF t1).1 = nm at *
   generalize (zF t1).2 = t2 at *
   have bf : Hd (OwnG Lay.nam 120 w.heap.size (fun k => k = g) w3 (.slice va xs.length vc) xs ∧ SpR D g lo t2 w3 ∧ Fr (fun k => k = g) w w3) := ⟨bZ.o.1.fr k2 (fun k e => .inl e) dI.o, k1, Fr.trans bZ.o.2.2 k2 (fun _ _ h => h) (fun _ _ h => h)⟩
   clear k1 k2 bZ
   have kX := OwnG.sliceF yW (bf.o.1.ext (za w3 (.cells #[.int .u32 (f.toNat : Int), .int .u32 (x : Int), .string (zc nm)] 120)))
   go_wp2_with fail
   obtain ⟨ge, aZ⟩ := exQ (w3.heap.size)
   obtain ⟨W4, cT⟩ : ∃ W4, w3.alloc (.cells #[.int .u32 (f.toNat : Int), .int .u32 (x : Int), .string (zc nm)] 120) = W4 := ⟨_, rfl⟩
   have HG : Hd (OwnG Lay.nam 120 w.heap.size (fun k => k = g) W4 (.slice va xs.length vc) xs ∧ SpR D g lo t2 W4 ∧ Fr (fun k => k = g) w W4) := by
    subst cT
    exact ⟨bf.o.1.ext (za _ _), bf.o.2.1.ext (za _ _), bf.o.2.2.ext (za _ _)⟩
   have HE : Hd (Blk W4 ge #[.int .u32 (f.toNat : Int), .int .u32 (x : Int), .string (zc nm)] 120) := by subst cT; rw [← aZ]; exact zk _ _ _
   have aO := qh (show ¬ ge = g from by have := bf.o.2.1.lt.1; omega)
   have bt := HE.o.cell
   rw [cT] at kX
   rw [cT, aZ]
   clear cT aZ bf
   by_cases h0 : 0 < xs.length
   ·have dr : decide ((0 : Int) < (xs.length : Int)) = true := decide_eq_true (by omega)
    have xH : decide (0 < xs.length) = true := decide_eq_true h0
    have qQ : wrap64 ((xs.length : Int) - 1) = ((xs.length - 1 : Nat) : Int) := by unfold wrap64; omega
    have kH : IntKind.i64.wrap ((xs.length : Int) - 1) = ((xs.length - 1 : Nat) : Int) := by rw [IntKind.wrap_i64]; omega
    obtain ⟨b, o, Dw, f0, f1, f2, -⟩ := Lay.nam_at kX (xs.length - 1) (by omega)
    have lR := qh (zf9 xs (UInt32.ofNat x) h0)
    subst Dw
    generalize hy : (xs[xs.length - 1]'(by omega)).idx = y at *
    rw [Jh fd] at lR
    clear kX
    by_cases hb : x ≤ y.toNat
    ·have dl : decide ((x : Int) ≤ (y.toNat : Int)) = true := decide_eq_true (by omega)
     have lR := qh (lR.o.trans (decide_eq_true hb))
     go_wp2_with fail
     go_quiet (fail)
     have nj : Hd (OwnG Lay.nam 120 w.heap.size (fun k => k = g) (W4.drewN nq) (.slice (some ⟨b, o, none⟩) xs.length vc) xs ∧ SpR D g lo t2 (W4.drewN nq) ∧ Fr (fun k => k = g) w (W4.drewN nq)) := ⟨HG.o.1.ext (yO _ _), HG.o.2.1.ext (yO _ _), HG.o.2.2.ext (yO _ _)⟩
     have rM := qh (HE.o.ext (yO W4 nq))
     clear bt HG HE f0 f1 f2
     generalize W4.drewN nq = W5 at *
     have bt := rM.o.cell
     go_wp2_with fail
     refine (zr D g lo t2 2 W5 nj.o.2.1).mono ?_
     rintro e WW ⟨rfl, k1, k2⟩
     have HT : Hd (OwnG Lay.nam 120 w.heap.size (fun k => k = g) WW (.slice (some ⟨b, o, none⟩) xs.length vc) xs ∧ SpR D g lo (t2.fail 2) WW ∧ Fr (fun k => k = g) w WW) := ⟨nj.o.1.fr k2 (fun k e => .inl e) dI.o, k1, Fr.trans nj.o.2.2 k2 (fun _ _ h => h) (fun _ _ h => h)⟩
     have Ch := rM.o.fr k2 aO.o
     clear bt
     have bt := Ch.cell
     clear k1 k2 nj Ch
     go_wp2_with (at_builtin; refine Hd.o ?_)
     clear bt
     refine yB Lay.nam w.heap.size WW.heap.size rfl rfl (.tmp 33) (.tmp 35) _ _ _ 24 rfl Tryz.underlying35 ZK rfl (by omega) (by decide) (.slice (some ⟨b, o, none⟩) xs.length vc) xs ⟨f, UInt32.ofNat x, nm⟩ _ rfl rfl HT.o.1 ?_ HT.o.2.2.size (by omega) ?_
     ·refine ⟨[_], _, rfl, rfl, [_], [_], rfl, ?_, ⟨rfl, yv (by have := fh.o; have := bS.o; dsimp only; omega)⟩⟩
      show [Value.int .u32 _] = [Value.int .u32 ((UInt32.ofNat x).toNat : Int)]
      rw [Jh fd]
     ·intro v1 w8 h1 h2 h3
      have dy : Hd (OwnG Lay.nam 120 w.heap.size (fun k => k = g) w8 v1 r2.1 ∧ SpR D g lo r2.2 w8 ∧ Fr (fun k => k = g) w w8) := by
       rw [hst.o]
       refine ⟨h1, ?_, ?_⟩
       ·have := HT.o.2.1.fr h2 (fun e => dI.o g e.symm rfl) (fun k hk e => by have := (au.o k e.symm).1; have := (H.o.1.lt.2 k hk).1; omega)
        rw [if_pos lR.o]; exact this
       ·exact Fr.trans HT.o.2.2 h2 (fun _ _ h => h) (fun k hk e => absurd hk (by have := (au.o k e.symm).1; omega))
      obtain ⟨aR, aV, aU, rfl⟩ := h1.shape
      clear h1 h2 h3
      go_wp2
      go_roundw
      case rel => exact ⟨xs.length + 1, by omega, by go_num, by rw [bR.o]; exact dy.o⟩
      case measure => simp [intOf]; omega
    ·have dl : decide ((x : Int) ≤ (y.toNat : Int)) = false := decide_eq_false (by omega)
     have lR := qh (lR.o.trans (decide_eq_false hb))
     go_wp2_with fail
     go_quiet (fail)
     have nj : Hd (OwnG Lay.nam 120 w.heap.size (fun k => k = g) (W4.drewN nq) (.slice (some ⟨b, o, none⟩) xs.length vc) xs ∧ SpR D g lo t2 (W4.drewN nq) ∧ Fr (fun k => k = g) w (W4.drewN nq)) := ⟨HG.o.1.ext (yO _ _), HG.o.2.1.ext (yO _ _), HG.o.2.2.ext (yO _ _)⟩
     have rM := qh (HE.o.ext (yO W4 nq))
     clear bt HG HE f0 f1 f2
     generalize W4.drewN nq = W5 at *
     have bt := rM.o.cell
     obtain ⟨WW, rfl⟩ : ∃ WW, WW = W5 := ⟨_, rfl⟩
     have HT := nj
     clear nj
     go_wp2_with (at_builtin; refine Hd.o ?_)
     clear bt
     refine yB Lay.nam w.heap.size WW.heap.size rfl rfl (.tmp 33) (.tmp 35) _ _ _ 24 rfl Tryz.underlying35 ZK rfl (by omega) (by decide) (.slice (some ⟨b, o, none⟩) xs.length vc) xs ⟨f, UInt32.ofNat x, nm⟩ _ rfl rfl HT.o.1 ?_ HT.o.2.2.size (by omega) ?_
     ·refine ⟨[_], _, rfl, rfl, [_], [_], rfl, ?_, ⟨rfl, yv (by have := fh.o; have := bS.o; dsimp only; omega)⟩⟩
      show [Value.int .u32 _] = [Value.int .u32 ((UInt32.ofNat x).toNat : Int)]
      rw [Jh fd]
     ·intro v1 w8 h1 h2 h3
      have dy : Hd (OwnG Lay.nam 120 w.heap.size (fun k => k = g) w8 v1 r2.1 ∧ SpR D g lo r2.2 w8 ∧ Fr (fun k => k = g) w w8) := by
       rw [hst.o]
       refine ⟨h1, ?_, ?_⟩
       ·have := HT.o.2.1.fr h2 (fun e => dI.o g e.symm rfl) (fun k hk e => by have := (au.o k e.symm).1; have := (H.o.1.lt.2 k hk).1; omega)
        rw [if_neg (by rw [lR.o]; exact Bool.false_ne_true)]; exact this
       ·exact Fr.trans HT.o.2.2 h2 (fun _ _ h => h) (fun k hk e => absurd hk (by have := (au.o k e.symm).1; omega))
      obtain ⟨aR, aV, aU, rfl⟩ := h1.shape
      clear h1 h2 h3
      go_wp2
      go_roundw
      case rel => exact ⟨xs.length + 1, by omega, by go_num, by rw [bR.o]; exact dy.o⟩
      case measure => simp [intOf]; omega
   ·have dr : decide ((0 : Int) < (xs.length : Int)) = false := decide_eq_false (by omega)
    have xH : decide (0 < xs.length) = false := decide_eq_false h0
    have lR := qh (show zdx xs (UInt32.ofNat x) = false from by rw [List.eq_nil_of_length_eq_zero (show xs.length = 0 by omega)]; rfl)
    clear kX
    go_wp2_with fail
    go_quiet (fail)
    have nj : Hd (OwnG Lay.nam 120 w.heap.size (fun k => k = g) (W4.drewN nq) (.slice va xs.length vc) xs ∧ SpR D g lo t2 (W4.drewN nq) ∧ Fr (fun k => k = g) w (W4.drewN nq)) := ⟨HG.o.1.ext (yO _ _), HG.o.2.1.ext (yO _ _), HG.o.2.2.ext (yO _ _)⟩
    have rM := qh (HE.o.ext (yO W4 nq))
    clear bt HG HE
    generalize W4.drewN nq = W5 at *
    have bt := rM.o.cell
    obtain ⟨WW, rfl⟩ : ∃ WW, WW = W5 := ⟨_, rfl⟩
    have HT := nj
    clear nj
    go_wp2_with (at_builtin; refine Hd.o ?_)
    clear bt
    refine yB Lay.nam w.heap.size WW.heap.size rfl rfl (.tmp 33) (.tmp 35) _ _ _ 24 rfl Tryz.underlying35 ZK rfl (by omega) (by decide) (.slice va xs.length vc) xs ⟨f, UInt32.ofNat x, nm⟩ _ rfl rfl HT.o.1 ?_ HT.o.2.2.size (by omega) ?_
    ·refine ⟨[_], _, rfl, rfl, [_], [_], rfl, ?_, ⟨rfl, yv (by have := fh.o; have := bS.o; dsimp only; omega)⟩⟩
     show [Value.int .u32 _] = [Value.int .u32 ((UInt32.ofNat x).toNat : Int)]
     rw [Jh fd]
    ·intro v1 w8 h1 h2 h3
     have dy : Hd (OwnG Lay.nam 120 w.heap.size (fun k => k = g) w8 v1 r2.1 ∧ SpR D g lo r2.2 w8 ∧ Fr (fun k => k = g) w w8) := by
      rw [hst.o]
      refine ⟨h1, ?_, ?_⟩
      ·have := HT.o.2.1.fr h2 (fun e => dI.o g e.symm rfl) (fun k hk e => by have := (au.o k e.symm).1; have := (H.o.1.lt.2 k hk).1; omega)
       rw [if_neg (by rw [lR.o]; exact Bool.false_ne_true)]; exact this
      ·exact Fr.trans HT.o.2.2 h2 (fun _ _ h => h) (fun k hk e => absurd hk (by have := (au.o k e.symm).1; omega))
     obtain ⟨aR, aV, aU, rfl⟩ := h1.shape
     clear h1 h2 h3
     go_wp2
     go_roundw
     case rel => exact ⟨xs.length + 1, by omega, by go_num, by rw [bR.o]; exact dy.o⟩
     case measure => simp [intOf]; omega
  ·obtain rfl : i = n := by omega
   have lS := qh (show OwnG Lay.nam 120 w.heap.size (fun k => k = g) wr (.slice va aw vc) (ya f s).1 ∧ SpR D g lo (ya f s).2 wr ∧ Fr (fun k => k = g) w wr from by rw [HR.o]; exact hV.o)
   clear hV
   go_wp2
   go_ret
   exact ⟨_, rfl, lS.o⟩
end Go.Proofs.YtejgninpjhcgnaaGreatDoor
