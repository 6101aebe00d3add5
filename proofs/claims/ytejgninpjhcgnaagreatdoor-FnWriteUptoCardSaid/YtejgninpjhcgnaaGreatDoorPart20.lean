/- Texts of this proof, one behind the other. -/
import Derived.Test.YtejgninpjhcgnaaGreatDoorPart7
namespace Go.Proofs.YtejgninpjhcgnaaGreatDoor
open Go.RowKit
set_option linter.unusedSimpArgs false
set_option linter.unusedVariables false
set_option maxRecDepth 100000
set_option maxHeartbeats 8000000
theorem zfZ (N : Nat) (D : Nat → Prop) (g gm : Nat) (lo : Bool) (s : St) (w : World) (q3 q0 q1 q2 q4 q5 q6 q7 q8 q9 bw bo bp bu bW bX bV : Value) (h : SpR D g lo s w) (hB : Blk w gm #[q0, q1, q2, q3, q4, q5, q6, q7, q8, q9, bw, bo, bp, bu, bW, bX, bV] 37) (aO : ¬ gm = g) (df : ∀ k, D k → ¬ k = gm) (hl : s.b.length ≤ 1048576) :
 Calls Tryz.prog 54 #[.pointer (some ⟨g, 0, none⟩), .int .i64 1, .pointer (some ⟨gm, 0, none⟩)] w fun e w' => e = .returned (.tuple #[]) ∧ (∃ v, Blk w' gm #[q0, q1, q2, v, q4, q5, q6, q7, q8, q9, bw, bo, bp, bu, bW, bX, bV] 37 ∧ Lay.ft.slice.rd (aE D w w') w' [v] (yI s).1) ∧ SpR D g lo (yI s).2 w' ∧ Fr (fun k => k = g ∨ k = gm) w w' := by
 have H := qh (anQ h (anQ hl (anQ h.lt.1 (anQ hB (anQ aO df)))))
 clear h hl hB aO df
 go_enter Tryz.func54, Tryz.ntmps54
 go_wp2_with fail
 refine (zbl H.o.1 (by have := H.o.2.1; omega)).mono ?_
 rintro e w1 ⟨v, rfl, k0, k1, k2⟩
 have hr := qh (show Lay.ft.slice.rd (fun k => w.heap.size ≤ k ∧ k < w1.heap.size) w1 [v] (yI s).1 from Lay.mono _ (k0.slice (fun k hk q => by omega)) (fun k hk => ⟨by have := hk.1; omega, hk.2⟩))
 obtain ⟨a1, a2, a3, rfl⟩ := jh hr.o
 have cY := H.o.2.2.2.1.fr k2 H.o.2.2.2.2.1
 have ag := cY.cell
 have eL := cY.frz
 have H1 := qh (anQ k1 (anQ k2 cY))
 clear k1 k2 cY k0
 go_wp2
 go_end0
 have hs := zh w1 ⟨gm, 3, none⟩ (.slice a1 a2 a3)
 refine ⟨rfl, ⟨.slice a1 a2 a3, ?_, ?_⟩, H1.o.1.fr hs (fun e => H.o.2.2.2.2.1 e.symm) (fun k hk e => H.o.2.2.2.2.2 k hk e), Fr.trans H1.o.2.1 hs (fun _ _ e => .inl e) (fun _ _ e => .inr e)⟩
 ·simpa using H1.o.2.2.set 3 (.slice a1 a2 a3)
 ·have hz : (w1.setCell ⟨gm, 3, none⟩ (.slice a1 a2 a3)).heap.size = w1.heap.size := by simp
  exact Lay.mono _ (Lay.fr hr.o hs (fun k hk => ⟨hk.2, fun e => by have e' : k = gm := e; have := H.o.2.2.2.1.lt; omega⟩)) (fun k hk => ⟨.inr hk.1, by rw [hz]; exact hk.2⟩)
theorem zf0 (N : Nat) (D : Nat → Prop) (g gm : Nat) (lo : Bool) (s : St) (w : World) (q4 q0 q1 q2 q3 q5 q6 q7 q8 q9 bw bo bp bu bW bX bV : Value) (h : SpR D g lo s w) (hB : Blk w gm #[q0, q1, q2, q3, q4, q5, q6, q7, q8, q9, bw, bo, bp, bu, bW, bX, bV] 37) (aO : ¬ gm = g) (df : ∀ k, D k → ¬ k = gm) (hl : s.b.length ≤ 1048576) :
 Calls Tryz.prog 54 #[.pointer (some ⟨g, 0, none⟩), .int .i64 2, .pointer (some ⟨gm, 0, none⟩)] w fun e w' => e = .returned (.tuple #[]) ∧ (∃ v, Blk w' gm #[q0, q1, q2, q3, v, q5, q6, q7, q8, q9, bw, bo, bp, bu, bW, bX, bV] 37 ∧ Lay.imp.slice.rd (aE D w w') w' [v] (ju s).1) ∧ SpR D g lo (ju s).2 w' ∧ Fr (fun k => k = g ∨ k = gm) w w' := by
 have H := qh (anQ h (anQ hl (anQ h.lt.1 (anQ hB (anQ aO df)))))
 clear h hl hB aO df
 go_enter Tryz.func54, Tryz.ntmps54
 go_wp2_with fail
 refine (zcI H.o.1 H.o.2.1).mono ?_
 rintro e w1 ⟨v, rfl, k0, k1, k2⟩
 have hr := qh (show Lay.imp.slice.rd (fun k => w.heap.size ≤ k ∧ k < w1.heap.size) w1 [v] (ju s).1 from OwnG.sliceF zjc k0)
 obtain ⟨a1, a2, a3, rfl⟩ := jh hr.o
 have cY := H.o.2.2.2.1.fr k2 H.o.2.2.2.2.1
 have ag := cY.cell
 have eL := cY.frz
 have H1 := qh (anQ k1 (anQ k2 cY))
 clear k1 k2 cY k0
 go_wp2
 go_end0
 have hs := zh w1 ⟨gm, 4, none⟩ (.slice a1 a2 a3)
 refine ⟨rfl, ⟨.slice a1 a2 a3, ?_, ?_⟩, H1.o.1.fr hs (fun e => H.o.2.2.2.2.1 e.symm) (fun k hk e => H.o.2.2.2.2.2 k hk e), Fr.trans H1.o.2.1 hs (fun _ _ e => .inl e) (fun _ _ e => .inr e)⟩
 ·simpa using H1.o.2.2.set 4 (.slice a1 a2 a3)
 ·have hz : (w1.setCell ⟨gm, 4, none⟩ (.slice a1 a2 a3)).heap.size = w1.heap.size := by simp
  exact Lay.mono _ (Lay.fr hr.o hs (fun k hk => ⟨hk.2, fun e => by have e' : k = gm := e; have := H.o.2.2.2.1.lt; omega⟩)) (fun k hk => ⟨.inr hk.1, by rw [hz]; exact hk.2⟩)
theorem zf1 (N : Nat) (D : Nat → Prop) (g gm : Nat) (lo : Bool) (s : St) (w : World) (q5 q0 q1 q2 q3 q4 q6 q7 q8 q9 bw bo bp bu bW bX bV : Value) (h : SpR D g lo s w) (hB : Blk w gm #[q0, q1, q2, q3, q4, q5, q6, q7, q8, q9, bw, bo, bp, bu, bW, bX, bV] 37) (aO : ¬ gm = g) (df : ∀ k, D k → ¬ k = gm) (hl : s.b.length ≤ 1048576) :
 Calls Tryz.prog 54 #[.pointer (some ⟨g, 0, none⟩), .int .i64 3, .pointer (some ⟨gm, 0, none⟩)] w fun e w' => e = .returned (.tuple #[]) ∧ (∃ v, Blk w' gm #[q0, q1, q2, q3, q4, v, q6, q7, q8, q9, bw, bo, bp, bu, bW, bX, bV] 37 ∧ Lay.u32.slice.rd (aE D w w') w' [v] (yp s).1) ∧ SpR D g lo (yp s).2 w' ∧ Fr (fun k => k = g ∨ k = gm) w w' := by
 have H := qh (anQ h (anQ hl (anQ h.lt.1 (anQ hB (anQ aO df)))))
 clear h hl hB aO df
 go_enter Tryz.func54, Tryz.ntmps54
 go_wp2_with fail
 refine (YI H.o.1 (by have := H.o.2.1; omega)).mono ?_
 rintro e w1 ⟨v, rfl, k0, k1, k2⟩
 have hr := qh (show Lay.u32.slice.rd (fun k => w.heap.size ≤ k ∧ k < w1.heap.size) w1 [v] (yp s).1 from k0.slice)
 obtain ⟨a1, a2, a3, rfl⟩ := jh hr.o
 have cY := H.o.2.2.2.1.fr k2 H.o.2.2.2.2.1
 have ag := cY.cell
 have eL := cY.frz
 have H1 := qh (anQ k1 (anQ k2 cY))
 clear k1 k2 cY k0
 go_wp2
 go_end0
 have hs := zh w1 ⟨gm, 5, none⟩ (.slice a1 a2 a3)
 refine ⟨rfl, ⟨.slice a1 a2 a3, ?_, ?_⟩, H1.o.1.fr hs (fun e => H.o.2.2.2.2.1 e.symm) (fun k hk e => H.o.2.2.2.2.2 k hk e), Fr.trans H1.o.2.1 hs (fun _ _ e => .inl e) (fun _ _ e => .inr e)⟩
 ·simpa using H1.o.2.2.set 5 (.slice a1 a2 a3)
 ·have hz : (w1.setCell ⟨gm, 5, none⟩ (.slice a1 a2 a3)).heap.size = w1.heap.size := by simp
  exact Lay.mono _ (Lay.fr hr.o hs (fun k hk => ⟨hk.2, fun e => by have e' : k = gm := e; have := H.o.2.2.2.1.lt; omega⟩)) (fun k hk => ⟨.inr hk.1, by rw [hz]; exact hk.2⟩)
theorem ziy : (Tryz.prog.info? 63).map (fun i => (i.zero, i.size, i.bytes)) = some (some (.agg #[.int .u32 0, .bool false, .int .u32 0]), Lay.lim.size, 12) := by kernel_rfl
theorem zf2 (N : Nat) (D : Nat → Prop) (g gm : Nat) (lo : Bool) (s : St) (w : World) (q0 q1 q2 q3 q4 q5 q7 q8 q9 bw bo bp bu bW bX bV : Value) (h : SpR D g lo s w) (hB : Blk w gm #[q0, q1, q2, q3, q4, q5, .slice none 0 0, q7, q8, q9, bw, bo, bp, bu, bW, bX, bV] 37) (aO : ¬ gm = g) (df : ∀ k, D k → ¬ k = gm) (hl : s.b.length ≤ 1048576) :
 Calls Tryz.prog 54 #[.pointer (some ⟨g, 0, none⟩), .int .i64 4, .pointer (some ⟨gm, 0, none⟩)] w fun e w' => e = .returned (.tuple #[]) ∧ (∃ v, Blk w' gm #[q0, q1, q2, q3, q4, q5, v, q7, q8, q9, bw, bo, bp, bu, bW, bX, bV] 37 ∧ Lay.lim.slice.rd (aE D w w') w' [v] (zR z6 s).1) ∧ SpR D g lo (zR z6 s).2 w' ∧ Fr (fun k => k = g ∨ k = gm) w w' := by
 have H := qh (anQ h (anQ hl (anQ h.lt.1 (anQ hB (anQ aO df)))))
 clear h hl hB aO df
 go_enter Tryz.func54, Tryz.ntmps54
 go_wp2_with fail
 refine (ye H.o.1 (by have := H.o.2.1; omega)).mono ?_
 rintro e w1 ⟨rfl, k1, k2⟩
 have HR := qh (show zR z6 s = rVec z6 (zv s).1 (zv s).2 from rfl)
 have dh := yg s
 have bS := qh (show (zv s).2.b.length ≤ 33554432 from by have := H.o.2.1; omega)
 have mX : ((zv s).1 : Int) ≤ 1048576 := by have := H.o.2.1; omega
 generalize (zv s).1 = n at *
 generalize (zv s).2 = s1 at *
 have H1 := qh (anQ k1 (anQ (H.o.2.2.2.1.fr k2 H.o.2.2.2.2.1) k2))
 have b9 : Hd (gm < w1.heap.size ∧ g ≠ gm ∧ ∀ k, D k → k ≠ gm ∧ k < w1.heap.size) := ⟨H1.o.2.1.lt, fun e => H.o.2.2.2.2.1 e.symm, fun k hk => ⟨H.o.2.2.2.2.2 k hk, (H1.o.1.lt.2 k hk).1⟩⟩
 have fD : Hd ((¬ D g ∧ g < w1.heap.size) ∧ (¬ D gm ∧ gm < w1.heap.size)) := ⟨⟨fun q => (H1.o.1.lt.2 g q).2 rfl, H1.o.1.lt.1⟩, ⟨fun q => H.o.2.2.2.2.2 gm q rfl, H1.o.2.1.lt⟩⟩
 clear k1 k2 dh
 go_wp2_with fail
 go_loopw [33] (fun i9 w' => ∃ (i : Nat) (va : Value), i ≤ n ∧ i9 = .int .i64 i ∧ Hd (Blk w' gm #[q0, q1, q2, q3, q4, q5, va, q7, q8, q9, bw, bo, bp, bu, bW, bX, bV] 37 ∧ OwnG (Lay.lim) 63 w1.heap.size (fun k => ¬ D k ∧ k < w1.heap.size) w' (va) (rVec z6 i s1).1 ∧ SpR D g lo (rVec z6 i s1).2 w' ∧ Fr (fun k => k = g ∨ k = gm) w1 w')) (fun i9 _ => n - (intOf i9).toNat)
 case atStart => exact ⟨0, _, nzQ _, rfl, H1.o.2.1, zK _ _ _ _ _, H1.o.1, Fr.refl _ _⟩
 case round =>
  obtain ⟨i, va, hi, rfl, hV⟩ := hrel
  obtain ⟨aN, aw, az, rfl⟩ := hV.o.2.1.shape
  by_cases ah : i < n
  ·have hst := qh (yP z6 i s1)
   have gC := qh (jg z6 i s1)
   have cW := qh (show (rVec z6 i s1).2.b.length ≤ 33554432 from nlQ (yK z6 Y6 i s1) bS.o)
   obtain ⟨r2, bR⟩ := exQ (rVec z6 (i + 1) s1)
   have bR := qh bR
   rw [bR.o] at hst
   generalize (rVec z6 i s1).1 = xs at *
   generalize (rVec z6 i s1).2 = t0 at *
   have cj := qh (show g < w1.heap.size from (H1.o.1).lt.1)
   go_wp2_with fail
   refine zi (y4 (fun k => ¬ k = gm)) [kT 0, kT 1, kT 2, kT 3, kT 4, kT 5, kR 6, kR 7, kR 8, kT 9, kT 10, kL 11] (by kernel_rfl) (by kernel_rfl) ?_
   simp only [zy, gzQ, gsQ]
   have HC := qh (fun W' (h : Fr (fun k => ¬ k = gm) wr.drew W') => (hV.o.1.fr ((zb _).fr h) (fun e => e rfl)).cell)
   have bU : Hd (Blk wr.drew gm #[q0, q1, q2, q3, q4, q5, (.slice aN aw az), q7, q8, q9, bw, bo, bp, bu, bW, bX, bV] 37 ∧ OwnG (Lay.lim) 63 w1.heap.size (fun k => ¬ D k ∧ k < w1.heap.size) wr.drew ((.slice aN aw az)) xs ∧ SpR D g lo t0 wr.drew ∧ Fr (fun k => k = g ∨ k = gm) w1 wr.drew) := ⟨hV.o.1.ext (zb _), hV.o.2.1.ext (zb _), hV.o.2.2.1.ext (zb _), hV.o.2.2.2.ext (zb _)⟩
   have au := qh (show ∀ k, (Value.slice aN aw az).ownBlock = some k → w1.heap.size ≤ k ∧ k < wr.drew.heap.size from bU.o.2.1.lt)
   have dF := qh (show g < wr.drew.heap.size ∧ gm < wr.drew.heap.size ∧ (∀ k, D k → k ≠ g ∧ k ≠ gm ∧ k < w1.heap.size) from ⟨bU.o.2.2.1.lt.1, bU.o.1.lt, fun k hk => ⟨(bU.o.2.2.1.lt.2 k hk).2, b9.o.2.2 k hk⟩⟩)
   clear hV
   have ll := qh bU.o.2.2.2.size
   generalize wr.drew = W0 at *
   have i2 := qh (show z6 t0 = ((z6 t0).1, (z6 t0).2) from rfl)
   repeat (apply item_take; rfl; rfl; rfl; rfl; exact fun _ _ _ _ h => h; (intro W e _ k; have q := HC.o W e; go_simp; exact k))
   apply ze; rfl; intro K hK; go_simp
   refine (zbi bU.o.2.2.1 (by have := cW.o; omega)).mono ?_
   rintro e W1 ⟨rfl, ks, kf⟩
   have fR := qh kf.size
   refine hK _ _ (kf.mono (fun k _ e e2 => b9.o.2.1 (by have e1 : k = g := e; rw [← e1, e2]))) ?_
   have bS := qh (show (z6 t0).2.b.length ≤ 33554432 from nlQ (Y6 t0) cW.o)
   generalize (z6 t0).1 = x0 at *
   generalize (z6 t0).2 = t1 at *
   have bZ : Hd (Blk W1 gm #[q0, q1, q2, q3, q4, q5, (.slice aN aw az), q7, q8, q9, bw, bo, bp, bu, bW, bX, bV] 37 ∧ OwnG (Lay.lim) 63 w1.heap.size (fun k => ¬ D k ∧ k < w1.heap.size) W1 ((.slice aN aw az)) xs ∧ SpR D g lo t1 W1 ∧ Fr (fun k => k = g ∨ k = gm) w1 W1) := ⟨bU.o.1.fr kf (fun e => b9.o.2.1 e.symm), bU.o.2.1.fr kf (fun k e => .inl (by have e' : k = g := e; rw [e']; exact fD.o.1)) (fun k hk e => by have e' : k = g := e; have := au.o k hk; have := cj.o; omega), ks, Fr.trans bU.o.2.2.2 kf (fun _ _ h => h) (fun _ _ h => .inl h)⟩
   clear hK K kf ks bU
   repeat (apply item_take; rfl; rfl; rfl; rfl; exact fun _ _ _ _ h => h; (intro _ _ _ k; go_simp; exact k))
   apply ze; rfl; intro K hK; go_simp
   refine hK _ _ (za _ _).to ?_
   clear hK K
   apply ze; rfl; intro K hK
   refine zY (Lay.lim) w1.heap.size (.tmp 39) (.tmp 42) _ _ _ 12 rfl Tryz.underlying28 ziy rfl (by omega) (by decide) (.slice aN aw az) xs x0 _ rfl rfl bZ.o.2.1 ?_ bZ.o.2.2.2.size (by rw [gC.o]; omega) ?_
   ·refine zb3 (W0 := W0) (wL := w1) ?_ ll.o (fun k hk => (dF.o.2.2 k hk).2.2) au.o
    exact ⟨[_], _, rfl, rfl, [_], _, rfl, rfl, rfl⟩
   intro v1 Wa h1 h2 h3 _
   refine hK _ _ (h3.mono (fun k _ e e2 => by have := (au.o k e.symm).1; have := b9.o.1; omega)) ?_
   clear hK K
   obtain ⟨aR, aV, aU, rfl⟩ := h1.shape
   have ch := jc (f := 6) bZ.o.1 bZ.o.2.1 bZ.o.2.2.2 (X := (fun k => ¬ D k ∧ k < w1.heap.size)) (S := (fun k => k = g ∨ k = gm)) fD.o.2 (.inr rfl) b9.o.1 rfl h1 h2
   have h6 : Hd (Blk Wa gm #[q0, q1, q2, q3, q4, q5, (.slice aN aw az), q7, q8, q9, bw, bo, bp, bu, bW, bX, bV] 37 ∧ Blk (Wa.setCell ⟨gm, 6, none⟩ (.slice aR aV aU)) gm #[q0, q1, q2, q3, q4, q5, (.slice aR aV aU), q7, q8, q9, bw, bo, bp, bu, bW, bX, bV] 37 ∧ OwnG (Lay.lim) 63 w1.heap.size (fun k => ¬ D k ∧ k < w1.heap.size) (Wa.setCell ⟨gm, 6, none⟩ (.slice aR aV aU)) ((.slice aR aV aU)) r2.1 ∧ SpR D g lo r2.2 (Wa.setCell ⟨gm, 6, none⟩ (.slice aR aV aU)) ∧ Fr (fun k => k = g ∨ k = gm) w1 (Wa.setCell ⟨gm, 6, none⟩ (.slice aR aV aU))) := by
    rw [hst.o]
    have gL := bZ.o.2.2.1.fr h2 (fun e => by have := au.o g e.symm; have := cj.o; omega) (fun k hk e => by have := au.o k e.symm; have := dF.o.2.2 k hk; omega)
    refine ⟨ch.1, ?_, ch.2.2.1, gL.fr (zh _ _ _) (fun e => b9.o.2.1 e) (fun k hk e => (dF.o.2.2 k hk).2.1 e), ch.2.2.2⟩
    have := ch.2.1
    simpa using this
   have fV := h6.o.1.cell
   have dV := h6.o.1.frz
   clear h1 h2 h3 ch bZ
   repeat (apply item_take; rfl; rfl; rfl; rfl; exact fun _ _ _ _ h => h; (intro _ _ _ k; go_simp; exact k))
   apply zu; rfl; intro K hK; go_simp
   refine hK _ _ ?_
   clear hK K fV dV
   apply zl
   have dy := qh h6.o.2
   go_wp2
   go_roundw
   case rel => exact ⟨i + 1, _, by omega, by go_num, by rw [bR.o]; exact dy.o⟩
   case measure => simp [intOf]; omega
  ·obtain rfl : i = n := by omega
   go_wp2
   go_end0
   refine ⟨rfl, ⟨_, hV.o.1, ?_⟩, ?_, ?_⟩
   ·rw [HR.o]; exact hV.o.2.1.sliceE H1.o.2.2.size
   ·rw [HR.o]; exact hV.o.2.2.1
   ·exact Fr.trans H1.o.2.2 hV.o.2.2.2 (fun _ _ e => .inl e) (fun _ _ e => e)
theorem zhu : (Tryz.prog.info? 63).map (fun i => (i.zero, i.size, i.bytes)) = some (some (.agg #[.int .u32 0, .bool false, .int .u32 0]), Lay.lim.size, 12) := by kernel_rfl
theorem zf3 (N : Nat) (D : Nat → Prop) (g gm : Nat) (lo : Bool) (s : St) (w : World) (q0 q1 q2 q3 q4 q5 q6 q8 q9 bw bo bp bu bW bX bV : Value) (h : SpR D g lo s w) (hB : Blk w gm #[q0, q1, q2, q3, q4, q5, q6, .slice none 0 0, q8, q9, bw, bo, bp, bu, bW, bX, bV] 37) (aO : ¬ gm = g) (df : ∀ k, D k → ¬ k = gm) (hl : s.b.length ≤ 1048576) :
 Calls Tryz.prog 54 #[.pointer (some ⟨g, 0, none⟩), .int .i64 5, .pointer (some ⟨gm, 0, none⟩)] w fun e w' => e = .returned (.tuple #[]) ∧ (∃ v, Blk w' gm #[q0, q1, q2, q3, q4, q5, q6, v, q8, q9, bw, bo, bp, bu, bW, bX, bV] 37 ∧ Lay.lim.slice.rd (aE D w w') w' [v] (zR zE s).1) ∧ SpR D g lo (zR zE s).2 w' ∧ Fr (fun k => k = g ∨ k = gm) w w' := by
 have H := qh (anQ h (anQ hl (anQ h.lt.1 (anQ hB (anQ aO df)))))
 clear h hl hB aO df
 go_enter Tryz.func54, Tryz.ntmps54
 go_wp2_with fail
 refine (ye H.o.1 (by have := H.o.2.1; omega)).mono ?_
 rintro e w1 ⟨rfl, k1, k2⟩
 have HR := qh (show zR zE s = rVec zE (zv s).1 (zv s).2 from rfl)
 have dh := yg s
 have bS := qh (show (zv s).2.b.length ≤ 33554432 from by have := H.o.2.1; omega)
 have mX : ((zv s).1 : Int) ≤ 1048576 := by have := H.o.2.1; omega
 generalize (zv s).1 = n at *
 generalize (zv s).2 = s1 at *
 have H1 := qh (anQ k1 (anQ (H.o.2.2.2.1.fr k2 H.o.2.2.2.2.1) k2))
 have b9 : Hd (gm < w1.heap.size ∧ g ≠ gm ∧ ∀ k, D k → k ≠ gm ∧ k < w1.heap.size) := ⟨H1.o.2.1.lt, fun e => H.o.2.2.2.2.1 e.symm, fun k hk => ⟨H.o.2.2.2.2.2 k hk, (H1.o.1.lt.2 k hk).1⟩⟩
 have fD : Hd ((¬ D g ∧ g < w1.heap.size) ∧ (¬ D gm ∧ gm < w1.heap.size)) := ⟨⟨fun q => (H1.o.1.lt.2 g q).2 rfl, H1.o.1.lt.1⟩, ⟨fun q => H.o.2.2.2.2.2 gm q rfl, H1.o.2.1.lt⟩⟩
 clear k1 k2 dh
 go_wp2_with fail
 go_loopw [51] (fun lj w' => ∃ (i : Nat) (va : Value), i ≤ n ∧ lj = .int .i64 i ∧ Hd (Blk w' gm #[q0, q1, q2, q3, q4, q5, q6, va, q8, q9, bw, bo, bp, bu, bW, bX, bV] 37 ∧ OwnG (Lay.lim) 63 w1.heap.size (fun k => ¬ D k ∧ k < w1.heap.size) w' (va) (rVec zE i s1).1 ∧ SpR D g lo (rVec zE i s1).2 w' ∧ Fr (fun k => k = g ∨ k = gm) w1 w')) (fun lj _ => n - (intOf lj).toNat)
 case atStart => exact ⟨0, _, nzQ _, rfl, H1.o.2.1, zK _ _ _ _ _, H1.o.1, Fr.refl _ _⟩
 case round =>
  obtain ⟨i, va, hi, rfl, hV⟩ := hrel
  obtain ⟨aN, aw, az, rfl⟩ := hV.o.2.1.shape
  by_cases ah : i < n
  ·have hst := qh (yP zE i s1)
   have gC := qh (jg zE i s1)
   have cW := qh (show (rVec zE i s1).2.b.length ≤ 33554432 from nlQ (yK zE Yc i s1) bS.o)
   obtain ⟨r2, bR⟩ := exQ (rVec zE (i + 1) s1)
   have bR := qh bR
   rw [bR.o] at hst
   generalize (rVec zE i s1).1 = xs at *
   generalize (rVec zE i s1).2 = t0 at *
   have cj := qh (show g < w1.heap.size from (H1.o.1).lt.1)
   go_wp2_with fail
   refine zi (y4 (fun k => ¬ k = gm)) [kT 0, kT 1, kT 2, kT 3, kT 4, kT 5, kR 6, kR 7, kR 8, kT 9, kT 10, kL 11] (by kernel_rfl) (by kernel_rfl) ?_
   simp only [zy, gzQ, gsQ]
   have HC := qh (fun W' (h : Fr (fun k => ¬ k = gm) wr.drew W') => (hV.o.1.fr ((zb _).fr h) (fun e => e rfl)).cell)
   have bU : Hd (Blk wr.drew gm #[q0, q1, q2, q3, q4, q5, q6, (.slice aN aw az), q8, q9, bw, bo, bp, bu, bW, bX, bV] 37 ∧ OwnG (Lay.lim) 63 w1.heap.size (fun k => ¬ D k ∧ k < w1.heap.size) wr.drew ((.slice aN aw az)) xs ∧ SpR D g lo t0 wr.drew ∧ Fr (fun k => k = g ∨ k = gm) w1 wr.drew) := ⟨hV.o.1.ext (zb _), hV.o.2.1.ext (zb _), hV.o.2.2.1.ext (zb _), hV.o.2.2.2.ext (zb _)⟩
   have au := qh (show ∀ k, (Value.slice aN aw az).ownBlock = some k → w1.heap.size ≤ k ∧ k < wr.drew.heap.size from bU.o.2.1.lt)
   have dF := qh (show g < wr.drew.heap.size ∧ gm < wr.drew.heap.size ∧ (∀ k, D k → k ≠ g ∧ k ≠ gm ∧ k < w1.heap.size) from ⟨bU.o.2.2.1.lt.1, bU.o.1.lt, fun k hk => ⟨(bU.o.2.2.1.lt.2 k hk).2, b9.o.2.2 k hk⟩⟩)
   clear hV
   have ll := qh bU.o.2.2.2.size
   generalize wr.drew = W0 at *
   have i2 := qh (show zE t0 = ((zE t0).1, (zE t0).2) from rfl)
   repeat (apply item_take; rfl; rfl; rfl; rfl; exact fun _ _ _ _ h => h; (intro W e _ k; have q := HC.o W e; go_simp; exact k))
   apply ze; rfl; intro K hK; go_simp
   refine (ZB D g lo t0 W0 bU.o.2.2.1 (by have := cW.o; omega)).mono ?_
   rintro e W1 ⟨rfl, ks, kf⟩
   have fR := qh kf.size
   refine hK _ _ (kf.mono (fun k _ e e2 => b9.o.2.1 (by have e1 : k = g := e; rw [← e1, e2]))) ?_
   have bS := qh (show (zE t0).2.b.length ≤ 33554432 from nlQ (Yc t0) cW.o)
   generalize (zE t0).1 = x0 at *
   generalize (zE t0).2 = t1 at *
   have bZ : Hd (Blk W1 gm #[q0, q1, q2, q3, q4, q5, q6, (.slice aN aw az), q8, q9, bw, bo, bp, bu, bW, bX, bV] 37 ∧ OwnG (Lay.lim) 63 w1.heap.size (fun k => ¬ D k ∧ k < w1.heap.size) W1 ((.slice aN aw az)) xs ∧ SpR D g lo t1 W1 ∧ Fr (fun k => k = g ∨ k = gm) w1 W1) := ⟨bU.o.1.fr kf (fun e => b9.o.2.1 e.symm), bU.o.2.1.fr kf (fun k e => .inl (by have e' : k = g := e; rw [e']; exact fD.o.1)) (fun k hk e => by have e' : k = g := e; have := au.o k hk; have := cj.o; omega), ks, Fr.trans bU.o.2.2.2 kf (fun _ _ h => h) (fun _ _ h => .inl h)⟩
   clear hK K kf ks bU
   repeat (apply item_take; rfl; rfl; rfl; rfl; exact fun _ _ _ _ h => h; (intro _ _ _ k; go_simp; exact k))
   apply ze; rfl; intro K hK; go_simp
   refine hK _ _ (za _ _).to ?_
   clear hK K
   apply ze; rfl; intro K hK
   refine zY (Lay.lim) w1.heap.size (.tmp 57) (.tmp 60) _ _ _ 12 rfl Tryz.underlying28 zhu rfl (by omega) (by decide) (.slice aN aw az) xs x0 _ rfl rfl bZ.o.2.1 ?_ bZ.o.2.2.2.size (by rw [gC.o]; omega) ?_
   ·refine zb3 (W0 := W0) (wL := w1) ?_ ll.o (fun k hk => (dF.o.2.2 k hk).2.2) au.o
    exact ⟨[_], _, rfl, rfl, [_], _, rfl, rfl, rfl⟩
   intro v1 Wa h1 h2 h3 _
   refine hK _ _ (h3.mono (fun k _ e e2 => by have := (au.o k e.symm).1; have := b9.o.1; omega)) ?_
   clear hK K
   obtain ⟨aR, aV, aU, rfl⟩ := h1.shape
   have ch := jc (f := 7) bZ.o.1 bZ.o.2.1 bZ.o.2.2.2 (X := (fun k => ¬ D k ∧ k < w1.heap.size)) (S := (fun k => k = g ∨ k = gm)) fD.o.2 (.inr rfl) b9.o.1 rfl h1 h2
   have h6 : Hd (Blk Wa gm #[q0, q1, q2, q3, q4, q5, q6, (.slice aN aw az), q8, q9, bw, bo, bp, bu, bW, bX, bV] 37 ∧ Blk (Wa.setCell ⟨gm, 7, none⟩ (.slice aR aV aU)) gm #[q0, q1, q2, q3, q4, q5, q6, (.slice aR aV aU), q8, q9, bw, bo, bp, bu, bW, bX, bV] 37 ∧ OwnG (Lay.lim) 63 w1.heap.size (fun k => ¬ D k ∧ k < w1.heap.size) (Wa.setCell ⟨gm, 7, none⟩ (.slice aR aV aU)) ((.slice aR aV aU)) r2.1 ∧ SpR D g lo r2.2 (Wa.setCell ⟨gm, 7, none⟩ (.slice aR aV aU)) ∧ Fr (fun k => k = g ∨ k = gm) w1 (Wa.setCell ⟨gm, 7, none⟩ (.slice aR aV aU))) := by
    rw [hst.o]
    have gL := bZ.o.2.2.1.fr h2 (fun e => by have := au.o g e.symm; have := cj.o; omega) (fun k hk e => by have := au.o k e.symm; have := dF.o.2.2 k hk; omega)
    refine ⟨ch.1, ?_, ch.2.2.1, gL.fr (zh _ _ _) (fun e => b9.o.2.1 e) (fun k hk e => (dF.o.2.2 k hk).2.1 e), ch.2.2.2⟩
    have := ch.2.1
    simpa using this
   have fV := h6.o.1.cell
   have dV := h6.o.1.frz
   clear h1 h2 h3 ch bZ
   repeat (apply item_take; rfl; rfl; rfl; rfl; exact fun _ _ _ _ h => h; (intro _ _ _ k; go_simp; exact k))
   apply zu; rfl; intro K hK; go_simp
   refine hK _ _ ?_
   clear hK K fV dV
   apply zl
   have dy := qh h6.o.2
   go_wp2
   go_roundw
   case rel => exact ⟨i + 1, _, by omega, by go_num, by rw [bR.o]; exact dy.o⟩
   case measure => simp [intOf]; omega
  ·obtain rfl : i = n := by omega
   go_wp2
   go_end0
   refine ⟨rfl, ⟨_, hV.o.1, ?_⟩, ?_, ?_⟩
   ·rw [HR.o]; exact hV.o.2.1.sliceE H1.o.2.2.size
   ·rw [HR.o]; exact hV.o.2.2.1
   ·exact Fr.trans H1.o.2.2 hV.o.2.2.2 (fun _ _ e => .inl e) (fun _ _ e => e)
theorem zhv : (Tryz.prog.info? 69).map (fun i => (i.zero, i.size, i.bytes)) = some (some (.agg #[.int .i64 0, .bool false, .slice none 0 0]), (Lay.glob 1).size, 40) := by kernel_rfl
theorem zhw (s : St) : (Ju s).2.b.length ≤ s.b.length := nlQ (JA _) (nlQ (zbn _) (yD _))
theorem zf4 (N : Nat) (D : Nat → Prop) (g gm : Nat) (lo : Bool) (s : St) (w : World) (q0 q1 q2 q3 q4 q5 q6 q7 q8 bw bo bp bu bW bX bV : Value) (h : SpR D g lo s w) (hB : Blk w gm #[q0, q1, q2, q3, q4, q5, q6, q7, q8, .slice none 0 0, bw, bo, bp, bu, bW, bX, bV] 37) (aO : ¬ gm = g) (df : ∀ k, D k → ¬ k = gm) (hl : s.b.length ≤ 1048576) :
 Calls Tryz.prog 54 #[.pointer (some ⟨g, 0, none⟩), .int .i64 6, .pointer (some ⟨gm, 0, none⟩)] w fun e w' => e = .returned (.tuple #[]) ∧ (∃ v, Blk w' gm #[q0, q1, q2, q3, q4, q5, q6, q7, q8, v, bw, bo, bp, bu, bW, bX, bV] 37 ∧ (Lay.glob (N + 1)).slice.rd (aE D w w') w' [v] (zR Ju s).1) ∧ SpR D g lo (zR Ju s).2 w' ∧ Fr (fun k => k = g ∨ k = gm) w w' := by
 have H := qh (anQ h (anQ hl (anQ h.lt.1 (anQ hB (anQ aO df)))))
 clear h hl hB aO df
 go_enter Tryz.func54, Tryz.ntmps54
 go_wp2_with fail
 refine (ye H.o.1 (by have := H.o.2.1; omega)).mono ?_
 rintro e w1 ⟨rfl, k1, k2⟩
 have HR := qh (show zR Ju s = rVec Ju (zv s).1 (zv s).2 from rfl)
 have dh := yg s
 have bS := qh (show (zv s).2.b.length ≤ 33554432 from by have := H.o.2.1; omega)
 have mX : ((zv s).1 : Int) ≤ 1048576 := by have := H.o.2.1; omega
 generalize (zv s).1 = n at *
 generalize (zv s).2 = s1 at *
 have H1 := qh (anQ k1 (anQ (H.o.2.2.2.1.fr k2 H.o.2.2.2.2.1) k2))
 have b9 : Hd (gm < w1.heap.size ∧ g ≠ gm ∧ ∀ k, D k → k ≠ gm ∧ k < w1.heap.size) := ⟨H1.o.2.1.lt, fun e => H.o.2.2.2.2.1 e.symm, fun k hk => ⟨H.o.2.2.2.2.2 k hk, (H1.o.1.lt.2 k hk).1⟩⟩
 have fD : Hd ((¬ D g ∧ g < w1.heap.size) ∧ (¬ D gm ∧ gm < w1.heap.size)) := ⟨⟨fun q => (H1.o.1.lt.2 g q).2 rfl, H1.o.1.lt.1⟩, ⟨fun q => H.o.2.2.2.2.2 gm q rfl, H1.o.2.1.lt⟩⟩
 clear k1 k2 dh
 go_wp2_with fail
 go_loopw [69] (fun wJ w' => ∃ (i : Nat) (va : Value), i ≤ n ∧ wJ = .int .i64 i ∧ Hd (Blk w' gm #[q0, q1, q2, q3, q4, q5, q6, q7, q8, va, bw, bo, bp, bu, bW, bX, bV] 37 ∧ OwnG ((Lay.glob (N + 1))) 69 w1.heap.size (fun k => ¬ D k ∧ k < w1.heap.size) w' (va) (rVec Ju i s1).1 ∧ SpR D g lo (rVec Ju i s1).2 w' ∧ Fr (fun k => k = g ∨ k = gm) w1 w')) (fun wJ _ => n - (intOf wJ).toNat)
 case atStart => exact ⟨0, _, nzQ _, rfl, H1.o.2.1, zK _ _ _ _ _, H1.o.1, Fr.refl _ _⟩
 case round =>
  obtain ⟨i, va, hi, rfl, hV⟩ := hrel
  obtain ⟨aN, aw, az, rfl⟩ := hV.o.2.1.shape
  by_cases ah : i < n
  ·have hst := qh (yP Ju i s1)
   have gC := qh (jg Ju i s1)
   have cW := qh (show (rVec Ju i s1).2.b.length ≤ 33554432 from nlQ (yK Ju zhw i s1) bS.o)
   obtain ⟨r2, bR⟩ := exQ (rVec Ju (i + 1) s1)
   have bR := qh bR
   rw [bR.o] at hst
   generalize (rVec Ju i s1).1 = xs at *
   generalize (rVec Ju i s1).2 = t0 at *
   have cj := qh (show g < w1.heap.size from (H1.o.1).lt.1)
   go_wp2_with fail
   refine zi (y4 (fun k => ¬ k = gm)) [kT 0, kT 1, kT 2, kT 3, kT 4, kT 5, kT 7, kT 9, kR 6, kR 8, kR 10, kT 11, kR 12, kR 13, kT 14, kT 15, kL 16] (by kernel_rfl) (by kernel_rfl) ?_
   simp only [zy, gzQ, gsQ]
   have HC := qh (fun W' (h : Fr (fun k => ¬ k = gm) wr.drew W') => (hV.o.1.fr ((zb _).fr h) (fun e => e rfl)).cell)
   have bU : Hd (Blk wr.drew gm #[q0, q1, q2, q3, q4, q5, q6, q7, q8, (.slice aN aw az), bw, bo, bp, bu, bW, bX, bV] 37 ∧ OwnG ((Lay.glob (N + 1))) 69 w1.heap.size (fun k => ¬ D k ∧ k < w1.heap.size) wr.drew ((.slice aN aw az)) xs ∧ SpR D g lo t0 wr.drew ∧ Fr (fun k => k = g ∨ k = gm) w1 wr.drew) := ⟨hV.o.1.ext (zb _), hV.o.2.1.ext (zb _), hV.o.2.2.1.ext (zb _), hV.o.2.2.2.ext (zb _)⟩
   have au := qh (show ∀ k, (Value.slice aN aw az).ownBlock = some k → w1.heap.size ≤ k ∧ k < wr.drew.heap.size from bU.o.2.1.lt)
   have dF := qh (show g < wr.drew.heap.size ∧ gm < wr.drew.heap.size ∧ (∀ k, D k → k ≠ g ∧ k ≠ gm ∧ k < w1.heap.size) from ⟨bU.o.2.2.1.lt.1, bU.o.1.lt, fun k hk => ⟨(bU.o.2.2.1.lt.2 k hk).2, b9.o.2.2 k hk⟩⟩)
   clear hV
   have ll := qh bU.o.2.2.2.size
   generalize wr.drew = W0 at *
   have i2 := qh (show Ju t0 = (⟨(zj t0).1, (Zf (zj t0).2).1, (yH (Zf (zj t0).2).2).1⟩, (yH (Zf (zj t0).2).2).2) from rfl)
   repeat (apply item_take; rfl; rfl; rfl; rfl; exact fun _ _ _ _ h => h; (intro W e _ k; have q := HC.o W e; go_simp; exact k))
   apply ze; rfl; intro K hK; go_simp
   refine (jP bU.o.2.2.1).mono ?_
   rintro e W1 ⟨rfl, ks, kf⟩
   have fR := qh kf.size
   refine hK _ _ (kf.mono (fun k _ e e2 => b9.o.2.1 (by have e1 : k = g := e; rw [← e1, e2]))) ?_
   have cU := qh (Jt t0)
   have bS := qh (show (zj t0).2.b.length ≤ 33554432 from nlQ (yD t0) cW.o)
   generalize (zj t0).1 = x0 at *
   generalize (zj t0).2 = t1 at *
   have bZ : Hd (Blk W1 gm #[q0, q1, q2, q3, q4, q5, q6, q7, q8, (.slice aN aw az), bw, bo, bp, bu, bW, bX, bV] 37 ∧ OwnG ((Lay.glob (N + 1))) 69 w1.heap.size (fun k => ¬ D k ∧ k < w1.heap.size) W1 ((.slice aN aw az)) xs ∧ SpR D g lo t1 W1 ∧ Fr (fun k => k = g ∨ k = gm) w1 W1) := ⟨bU.o.1.fr kf (fun e => b9.o.2.1 e.symm), bU.o.2.1.fr kf (fun k e => .inl (by have e' : k = g := e; rw [e']; exact fD.o.1)) (fun k hk e => by have e' : k = g := e; have := au.o k hk; have := cj.o; omega), ks, Fr.trans bU.o.2.2.2 kf (fun _ _ h => h) (fun _ _ h => .inl h)⟩
   clear hK K kf ks bU
   repeat (apply item_take; rfl; rfl; rfl; rfl; exact fun _ _ _ _ h => h; (intro _ _ _ k; go_simp; exact k))
   apply ze; rfl; intro K hK; go_simp
   refine (zb1 bZ.o.2.2.1).mono ?_
   rintro e W2 ⟨rfl, ks, kf⟩
   have mT := qh kf.size
   refine hK _ _ (kf.mono (fun k _ e e2 => b9.o.2.1 (by have e1 : k = g := e; rw [← e1, e2]))) ?_
   have fN := qh (show (Zf t1).2.b.length ≤ 33554432 from nlQ (zbn t1) bS.o)
   generalize (Zf t1).1 = x1 at *
   generalize (Zf t1).2 = t2 at *
   have bf : Hd (Blk W2 gm #[q0, q1, q2, q3, q4, q5, q6, q7, q8, (.slice aN aw az), bw, bo, bp, bu, bW, bX, bV] 37 ∧ OwnG ((Lay.glob (N + 1))) 69 w1.heap.size (fun k => ¬ D k ∧ k < w1.heap.size) W2 ((.slice aN aw az)) xs ∧ SpR D g lo t2 W2 ∧ Fr (fun k => k = g ∨ k = gm) w1 W2) := ⟨bZ.o.1.fr kf (fun e => b9.o.2.1 e.symm), bZ.o.2.1.fr kf (fun k e => .inl (by have e' : k = g := e; rw [e']; exact fD.o.1)) (fun k hk e => by have e' : k = g := e; have := au.o k hk; have := cj.o; omega), ks, Fr.trans bZ.o.2.2.2 kf (fun _ _ h => h) (fun _ _ h => .inl h)⟩
   clear hK K kf ks bZ
   repeat (apply item_take; rfl; rfl; rfl; rfl; exact fun _ _ _ _ h => h; (intro _ _ _ k; go_simp; exact k))
   apply ze; rfl; intro K hK; go_simp
   refine (J3 N D g lo t2 W2 bf.o.2.2.1 (by have := fN.o; omega)).mono ?_
   rintro e W3 ⟨cv, rfl, kc, ks, kf⟩
   have rj := qh kf.size
   obtain ⟨pH, pB, pC, rfl⟩ := jh kc
   refine hK _ _ (kf.mono (fun k _ e e2 => b9.o.2.1 (by have e1 : k = g := e; rw [← e1, e2]))) ?_
   have ly := qh (show (yH t2).2.b.length ≤ 33554432 from nlQ (JA t2) fN.o)
   generalize (yH t2).1 = x2 at *
   generalize (yH t2).2 = t3 at *
   have dW : Hd (Blk W3 gm #[q0, q1, q2, q3, q4, q5, q6, q7, q8, (.slice aN aw az), bw, bo, bp, bu, bW, bX, bV] 37 ∧ OwnG ((Lay.glob (N + 1))) 69 w1.heap.size (fun k => ¬ D k ∧ k < w1.heap.size) W3 ((.slice aN aw az)) xs ∧ SpR D g lo t3 W3 ∧ Fr (fun k => k = g ∨ k = gm) w1 W3 ∧ (Lay.ins (N + 1)).slice.rd (aE D W0 W3) W3 [.slice pH pB pC] x2) := ⟨bf.o.1.fr kf (fun e => b9.o.2.1 e.symm), bf.o.2.1.fr kf (fun k e => .inl (by have e' : k = g := e; rw [e']; exact fD.o.1)) (fun k hk e => by have e' : k = g := e; have := au.o k hk; have := cj.o; omega), ks, Fr.trans bf.o.2.2.2 kf (fun _ _ h => h) (fun _ _ h => .inl h), Lay.mono _ kc (fun k hk => ⟨.inr (by have := hk.1; have := fR.o; have := mT.o; omega), hk.2⟩)⟩
   clear hK K kf ks kc bf
   repeat (apply item_take; rfl; rfl; rfl; rfl; exact fun _ _ _ _ h => h; (intro _ _ _ k; go_simp; exact k))
   apply ze; rfl; intro K hK; go_simp
   refine hK _ _ (za _ _).to ?_
   clear hK K
   apply ze; rfl; intro K hK
   refine zY ((Lay.glob (N + 1))) w1.heap.size (.tmp 75) (.tmp 83) _ _ _ 40 rfl Tryz.underlying30 zhv rfl (by omega) (show 0 < 3 by decide) (.slice aN aw az) xs ⟨x0, x1, x2⟩ _ rfl rfl dW.o.2.1 ?_ dW.o.2.2.2.1.size (by rw [gC.o]; omega) ?_
   ·refine zb3 (W0 := W0) (wL := w1) ?_ ll.o (fun k hk => (dF.o.2.2 k hk).2.2) au.o
    exact ⟨[_], _, rfl, ⟨rfl, cU.o⟩, [_], _, rfl, rfl, dW.o.2.2.2.2⟩
   intro v1 Wa h1 h2 h3 _
   refine hK _ _ (h3.mono (fun k _ e e2 => by have := (au.o k e.symm).1; have := b9.o.1; omega)) ?_
   clear hK K
   obtain ⟨aR, aV, aU, rfl⟩ := h1.shape
   have ch := jc (f := 9) dW.o.1 dW.o.2.1 dW.o.2.2.2.1 (X := (fun k => ¬ D k ∧ k < w1.heap.size)) (S := (fun k => k = g ∨ k = gm)) fD.o.2 (.inr rfl) b9.o.1 rfl h1 h2
   have h6 : Hd (Blk Wa gm #[q0, q1, q2, q3, q4, q5, q6, q7, q8, (.slice aN aw az), bw, bo, bp, bu, bW, bX, bV] 37 ∧ Blk (Wa.setCell ⟨gm, 9, none⟩ (.slice aR aV aU)) gm #[q0, q1, q2, q3, q4, q5, q6, q7, q8, (.slice aR aV aU), bw, bo, bp, bu, bW, bX, bV] 37 ∧ OwnG ((Lay.glob (N + 1))) 69 w1.heap.size (fun k => ¬ D k ∧ k < w1.heap.size) (Wa.setCell ⟨gm, 9, none⟩ (.slice aR aV aU)) ((.slice aR aV aU)) r2.1 ∧ SpR D g lo r2.2 (Wa.setCell ⟨gm, 9, none⟩ (.slice aR aV aU)) ∧ Fr (fun k => k = g ∨ k = gm) w1 (Wa.setCell ⟨gm, 9, none⟩ (.slice aR aV aU))) := by
    rw [hst.o, i2.o]
    have gL := dW.o.2.2.1.fr h2 (fun e => by have := au.o g e.symm; have := cj.o; omega) (fun k hk e => by have := au.o k e.symm; have := dF.o.2.2 k hk; omega)
    refine ⟨ch.1, ?_, ch.2.2.1, gL.fr (zh _ _ _) (fun e => b9.o.2.1 e) (fun k hk e => (dF.o.2.2 k hk).2.1 e), ch.2.2.2⟩
    have := ch.2.1
    simpa using this
   have fV := h6.o.1.cell
   have dV := h6.o.1.frz
   clear h1 h2 h3 ch dW
   repeat (apply item_take; rfl; rfl; rfl; rfl; exact fun _ _ _ _ h => h; (intro _ _ _ k; go_simp; exact k))
   apply zu; rfl; intro K hK; go_simp
   refine hK _ _ ?_
   clear hK K fV dV
   apply zl
   have dy := qh h6.o.2
   go_wp2
   go_roundw
   case rel => exact ⟨i + 1, _, by omega, by go_num, by rw [bR.o]; exact dy.o⟩
   case measure => simp [intOf]; omega
  ·obtain rfl : i = n := by omega
   go_wp2
   go_end0
   refine ⟨rfl, ⟨_, hV.o.1, ?_⟩, ?_, ?_⟩
   ·rw [HR.o]; exact hV.o.2.1.sliceE H1.o.2.2.size
   ·rw [HR.o]; exact hV.o.2.2.1
   ·exact Fr.trans H1.o.2.2 hV.o.2.2.2 (fun _ _ e => .inl e) (fun _ _ e => e)
theorem zbH : (Tryz.prog.info? 98).map (fun i => (i.zero, i.size, i.bytes)) = some (some (.agg #[.string ⟨#[]⟩, .int .i64 0, .int .u32 0]), Lay.expo.size, 32) := by kernel_rfl
theorem zhx (s : St) : (Ji s).2.b.length ≤ s.b.length := by
 have h := nlQ (Yb (zn (zF s).2).2) (nlQ (yu _) (jR s))
 unfold Ji
 dsimp only
 split
 ·exact nzQ _
 ·exact h
variable {D : Nat → Prop} {g gm : Nat} {lo : Bool} {s : St} {w : World} {q0 q1 q2 q3 q4 q5 q6 q7 q8 q9 bo bp bu bW bX bV : Value}
theorem zf5 (h : SpR D g lo s w) (hB : Blk w gm #[q0, q1, q2, q3, q4, q5, q6, q7, q8, q9, .slice none 0 0, bo, bp, bu, bW, bX, bV] 37) (aO : ¬ gm = g) (df : ∀ k, D k → ¬ k = gm) (hl : s.b.length ≤ 1048576) :
 Calls Tryz.prog 54 #[.pointer (some ⟨g, 0, none⟩), .int .i64 7, .pointer (some ⟨gm, 0, none⟩)] w fun e w' => e = .returned (.tuple #[]) ∧ (∃ v, Blk w' gm #[q0, q1, q2, q3, q4, q5, q6, q7, q8, q9, v, bo, bp, bu, bW, bX, bV] 37 ∧ Lay.expo.slice.rd (aE D w w') w' [v] (zR Ji s).1) ∧ SpR D g lo (zR Ji s).2 w' ∧ Fr (fun k => k = g ∨ k = gm) w w' := by
 have H := qh (anQ h (anQ hl (anQ h.lt.1 (anQ hB (anQ aO df)))))
 clear h hl hB aO df
 go_enter Tryz.func54, Tryz.ntmps54
 go_wp2_with fail
 refine (ye H.o.1 (by have := H.o.2.1; omega)).mono ?_
 rintro e w1 ⟨rfl, k1, k2⟩
 have HR := qh (show zR Ji s = rVec Ji (zv s).1 (zv s).2 from rfl)
 have dh := yg s
 have bS := qh (show (zv s).2.b.length ≤ 33554432 from by have := H.o.2.1; omega)
 have mX : ((zv s).1 : Int) ≤ 1048576 := by have := H.o.2.1; omega
 generalize (zv s).1 = n at *
 generalize (zv s).2 = s1 at *
 have H1 := qh (anQ k1 (anQ (H.o.2.2.2.1.fr k2 H.o.2.2.2.2.1) k2))
 have b9 : Hd (gm < w1.heap.size ∧ g ≠ gm ∧ (∀ k, D k → k ≠ gm ∧ k < w1.heap.size) ∧ g < w1.heap.size) := ⟨H1.o.2.1.lt, fun e => H.o.2.2.2.2.1 e.symm, fun k hk => ⟨H.o.2.2.2.2.2 k hk, (H1.o.1.lt.2 k hk).1⟩, H1.o.1.lt.1⟩
 clear k1 k2 dh
 go_wp2_with fail
 go_loopw [92] (fun qP w' => ∃ (i : Nat) (va : Value), i ≤ n ∧ qP = .int .i64 i ∧ Hd (Blk w' gm #[q0, q1, q2, q3, q4, q5, q6, q7, q8, q9, va, bo, bp, bu, bW, bX, bV] 37 ∧ OwnG Lay.expo 98 w1.heap.size (fun k => k = g ∨ k = gm) w' va ((rVec Ji i s1).1) ∧ SpR D g lo (rVec Ji i s1).2 w' ∧ Fr (fun k => k = g ∨ k = gm) w1 w')) (fun qP _ => n - (intOf qP).toNat)
 case atStart => exact ⟨0, _, nzQ _, rfl, H1.o.2.1, zK _ _ _ _ _, H1.o.1, Fr.refl _ _⟩
 case round =>
  obtain ⟨i, va, hi, rfl, hV⟩ := hrel
  obtain ⟨aN, aw, az, rfl⟩ := hV.o.2.1.shape
  by_cases ah : i < n
  ·have hst := qh (yP Ji i s1)
   have gC := qh (jg Ji i s1)
   have cW := qh (show (rVec Ji i s1).2.b.length ≤ 33554432 from nlQ (yK Ji zhx i s1) bS.o)
   obtain ⟨r2, bR⟩ := exQ (rVec Ji (i + 1) s1)
   have bR := qh bR
   rw [bR.o] at hst
   generalize (rVec Ji i s1).1 = xs at *
   generalize (rVec Ji i s1).2 = t0 at *
   have i2 := qh (show Ji t0 = (⟨(zF t0).1, ((zn (zF t0).2).1 : Int), UInt32.ofNat (zd (zn (zF t0).2).2).1⟩, if (zd (zn (zF t0).2).2).2.v = 0 ∧ 3 < (zn (zF t0).2).1 then (zd (zn (zF t0).2).2).2.fail 1 else (zd (zn (zF t0).2).2).2) from rfl)
   have au := qh (show ∀ k, (Value.slice aN aw az).ownBlock = some k → w1.heap.size ≤ k ∧ k < wr.heap.size from hV.o.2.1.lt)
   have dI : Hd (∀ k, (Value.slice aN aw az).ownBlock = some k → ¬ k = g ∧ ¬ k = gm) := fun k hk => ⟨fun e => by have := (au.o k hk).1; have := b9.o.2.2.2; omega, fun e => by have := (au.o k hk).1; have := b9.o.1; omega⟩
   go_wp2_with fail
   refine (Jz hV.o.2.2.1 (by have := cW.o; omega)).mono ?_
   rintro e w2 ⟨rfl, k1, k2⟩
   have fh := qh (JB t0)
   have fN := qh (show (zF t0).2.b.length ≤ 33554432 from nlQ (jR t0) cW.o)
   generalize (zF t0).1 = nm at *
   generalize (zF t0).2 = t1 at *
   have bZ : Hd (Blk w2 gm #[q0, q1, q2, q3, q4, q5, q6, q7, q8, q9, (.slice aN aw az), bo, bp, bu, bW, bX, bV] 37 ∧ OwnG Lay.expo 98 w1.heap.size (fun k => k = g ∨ k = gm) w2 (.slice aN aw az) (xs) ∧ SpR D g lo t1 w2 ∧ Fr (fun k => k = g ∨ k = gm) w1 w2) := ⟨hV.o.1.fr k2 (fun e => b9.o.2.1 e.symm), hV.o.2.1.fr k2 (fun k e => .inl (.inl e)) (fun k hk e => (dI.o k hk).1 e), k1, Fr.trans hV.o.2.2.2 k2 (fun _ _ h => h) (fun _ _ h => .inl h)⟩
   clear k1 k2 hV
   go_wp2_with fail
   refine (yo bZ.o.2.2.1).mono ?_
   rintro e w3 ⟨rfl, k1, k2⟩
   have ly := qh (show (zn t1).2.b.length ≤ 33554432 from nlQ (yu t1) fN.o)
   have sm := jr t1
   generalize (zn t1).1 = c at *
   generalize (zn t1).2 = t2 at *
   have bf : Hd (Blk w3 gm #[q0, q1, q2, q3, q4, q5, q6, q7, q8, q9, (.slice aN aw az), bo, bp, bu, bW, bX, bV] 37 ∧ OwnG Lay.expo 98 w1.heap.size (fun k => k = g ∨ k = gm) w3 (.slice aN aw az) (xs) ∧ SpR D g lo t2 w3 ∧ Fr (fun k => k = g ∨ k = gm) w1 w3) := ⟨bZ.o.1.fr k2 (fun e => b9.o.2.1 e.symm), bZ.o.2.1.fr k2 (fun k e => .inl (.inl e)) (fun k hk e => (dI.o k hk).1 e), k1, Fr.trans bZ.o.2.2.2 k2 (fun _ _ h => h) (fun _ _ h => .inl h)⟩
   clear k1 k2 bZ
   go_wp2_with fail
   refine (zN D g lo t2 w3 bf.o.2.2.1 (by have := ly.o; omega)).mono ?_
   rintro e w4 ⟨rfl, k1, k2⟩
   have fd := qh (zX t2)
   generalize (zd t2).1 = x at *
   generalize (zd t2).2 = t3 at *
   have dW : Hd (Blk w4 gm #[q0, q1, q2, q3, q4, q5, q6, q7, q8, q9, (.slice aN aw az), bo, bp, bu, bW, bX, bV] 37 ∧ OwnG Lay.expo 98 w1.heap.size (fun k => k = g ∨ k = gm) w4 (.slice aN aw az) (xs) ∧ SpR D g lo t3 w4 ∧ Fr (fun k => k = g ∨ k = gm) w1 w4) := ⟨bf.o.1.fr k2 (fun e => b9.o.2.1 e.symm), bf.o.2.1.fr k2 (fun k e => .inl (.inl e)) (fun k hk e => (dI.o k hk).1 e), k1, Fr.trans bf.o.2.2.2 k2 (fun _ _ h => h) (fun _ _ h => .inl h)⟩
   clear k1 k2 bf
   go_wp2_with fail
   obtain ⟨ge, aZ⟩ := exQ (w4.heap.size)
   obtain ⟨W4, cT⟩ : ∃ W4, w4.alloc (.cells #[.string (zc nm), .int .i64 (c : Int), .int .u32 (x : Int)] 98) = W4 := ⟨_, rfl⟩
   have HG : Hd (Blk W4 gm #[q0, q1, q2, q3, q4, q5, q6, q7, q8, q9, (.slice aN aw az), bo, bp, bu, bW, bX, bV] 37 ∧ OwnG Lay.expo 98 w1.heap.size (fun k => k = g ∨ k = gm) W4 (.slice aN aw az) (xs) ∧ SpR D g lo t3 W4 ∧ Fr (fun k => k = g ∨ k = gm) w1 W4) := by
    subst cT
    exact ⟨dW.o.1.ext (za _ _), dW.o.2.1.ext (za _ _), dW.o.2.2.1.ext (za _ _), dW.o.2.2.2.ext (za _ _)⟩
   have HE : Hd (Blk W4 ge #[.string (zc nm), .int .i64 (c : Int), .int .u32 (x : Int)] 98) := by subst cT; rw [← aZ]; exact zk _ _ _
   have aO : Hd (¬ ge = g ∧ (∀ k, D k → ¬ k = ge) ∧ w1.heap.size ≤ ge ∧ ¬ ge = gm ∧ ∀ k, (Value.slice aN aw az).ownBlock = some k → ¬ k = ge) := ⟨by have := dW.o.2.2.1.lt.1; omega, fun k hk => by have := (dW.o.2.2.1.lt.2 k hk).1; omega, by have := dW.o.2.2.2.size; omega, by have := dW.o.1.lt; omega, fun k hk => by have := (dW.o.2.1.lt k hk).2; omega⟩
   have bt := HE.o.cell
   rw [cT, aZ]
   clear cT aZ dW
   refine (yh HG.o.2.2.1).mono ?_
   rintro e W5 ⟨rfl, rfl⟩
   have gQ : Hd ((zc nm).size ≤ maxLen ∧ (c : Int) ≤ 9223372036854775807) := ⟨yv (by have := fh.o; have := cW.o; omega), by omega⟩
   by_cases hv : t3.v = 0
   case' neg =>
    rw [decide_eq_false hv]
    obtain ⟨WW, rfl⟩ : ∃ WW, WW = W5 := ⟨_, rfl⟩
    have HT : Hd (Blk WW gm #[q0, q1, q2, q3, q4, q5, q6, q7, q8, q9, (.slice aN aw az), bo, bp, bu, bW, bX, bV] 37 ∧ OwnG Lay.expo 98 w1.heap.size (fun k => k = g ∨ k = gm) WW (.slice aN aw az) (xs) ∧ SpR D g lo t3 WW ∧ Fr (fun k => k = g ∨ k = gm) w1 WW) := HG.o
    have pe := HE
    clear HG
    go_wp2_with fail
    clear bt
    refine zi (y4 (fun k => ¬ (k = gm ∨ k = ge))) [kT 0, kT 1, kT 2, kT 3, kT 4, kT 5, kR 6, kR 7, kT 8, kT 9, kL 10] (by kernel_rfl) (by kernel_rfl) ?_
    simp only [zy, gzQ, gsQ]
    have HC := qh (fun W' (h : Fr (fun k => ¬ (k = gm ∨ k = ge)) WW.drew W') => anQ (HT.o.1.fr ((zb _).fr h) (fun e => e (.inl rfl))).cell (pe.o.fr ((zb _).fr h) (fun e => e (.inr rfl))).cell)
    have gB : Hd (Blk WW.drew gm #[q0, q1, q2, q3, q4, q5, q6, q7, q8, q9, (.slice aN aw az), bo, bp, bu, bW, bX, bV] 37 ∧ OwnG Lay.expo 98 w1.heap.size (fun k => k = g ∨ k = gm) WW.drew (.slice aN aw az) (xs) ∧ SpR D g lo t3 WW.drew ∧ Fr (fun k => k = g ∨ k = gm) w1 WW.drew) := ⟨HT.o.1.ext (zb _), HT.o.2.1.ext (zb _), HT.o.2.2.1.ext (zb _), HT.o.2.2.2.ext (zb _)⟩
    clear HT pe
    generalize WW.drew = W0 at *
    repeat (apply item_take; rfl; rfl; rfl; rfl; exact fun _ _ _ _ h => h; (intro W e _ k; obtain ⟨q, q2⟩ := HC.o W e; go_simp; exact k))
    apply ze; rfl; intro K hK; go_simp
    refine hK _ _ (za _ _).to ?_
    clear hK K
    apply ze; rfl; intro K hK
    refine zY Lay.expo w1.heap.size (.tmp 114) (.tmp 116) _ _ _ 32 rfl Tryz.underlying31 zbH rfl (by omega) (by decide) (.slice aN aw az) xs ⟨nm, (c : Int), UInt32.ofNat x⟩ _ rfl rfl gB.o.2.1 ?_ gB.o.2.2.2.size (by rw [gC.o]; omega) ?_
    ·refine ⟨[_], _, rfl, ⟨rfl, gQ.o.1⟩, [_], _, rfl, ⟨rfl, by dsimp only; omega, gQ.o.2⟩, ?_⟩
     show [Value.int .u32 _] = [Value.int .u32 ((UInt32.ofNat x).toNat : Int)]
     rw [Jh fd.o]
    intro v1 Wa h1 h2 h3 _
    refine hK _ _ (h3.mono (fun k _ e e2 => by
     have := (au.o k e.symm).1
     have := b9.o.1
     rcases e2 with e2 | e2
     ·omega
     ·exact aO.o.2.2.2.2 k e.symm e2)) ?_
    clear hK K
    obtain ⟨aR, aV, aU, rfl⟩ := h1.shape
    have ch := jc (f := 10) gB.o.1 gB.o.2.1 gB.o.2.2.2 (X := (fun k => k = g ∨ k = gm)) (S := (fun k => k = g ∨ k = gm)) (.inr rfl) (.inr rfl) b9.o.1 rfl h1 h2
    have h6 : Hd (Blk Wa gm #[q0, q1, q2, q3, q4, q5, q6, q7, q8, q9, (.slice aN aw az), bo, bp, bu, bW, bX, bV] 37 ∧ Blk (Wa.setCell ⟨gm, 10, none⟩ (.slice aR aV aU)) gm #[q0, q1, q2, q3, q4, q5, q6, q7, q8, q9, (.slice aR aV aU), bo, bp, bu, bW, bX, bV] 37 ∧ OwnG Lay.expo 98 w1.heap.size (fun k => k = g ∨ k = gm) (Wa.setCell ⟨gm, 10, none⟩ (.slice aR aV aU)) (.slice aR aV aU) (r2.1) ∧ SpR D g lo r2.2 (Wa.setCell ⟨gm, 10, none⟩ (.slice aR aV aU)) ∧ Fr (fun k => k = g ∨ k = gm) w1 (Wa.setCell ⟨gm, 10, none⟩ (.slice aR aV aU))) := by
     rw [hst.o, i2.o]
     have gL := gB.o.2.2.1.fr h2 (fun e => (dI.o g e.symm).1 rfl) (fun k hk e => by have := (au.o k e.symm).1; have := (b9.o.2.2.1 k hk).2; omega)
     refine ⟨ch.1, ?_, ch.2.2.1, ?_, ch.2.2.2⟩
     ·have := ch.2.1
      simpa using this
     ·have := gL.fr (zh Wa ⟨gm, 10, none⟩ (.slice aR aV aU)) (fun e => b9.o.2.1 e) (fun k hk e => (b9.o.2.2.1 k hk).1 e)
      rw [if_neg (fun q => hv q.1)]; exact this
   case' pos =>
    rw [decide_eq_true hv]
    by_cases hc : 3 < c
    case' neg =>
     have dc : decide ((3 : Int) < (c : Int)) = false := decide_eq_false (by omega)
     obtain ⟨WW, rfl⟩ : ∃ WW, WW = W5 := ⟨_, rfl⟩
     have HT : Hd (Blk WW gm #[q0, q1, q2, q3, q4, q5, q6, q7, q8, q9, (.slice aN aw az), bo, bp, bu, bW, bX, bV] 37 ∧ OwnG Lay.expo 98 w1.heap.size (fun k => k = g ∨ k = gm) WW (.slice aN aw az) (xs) ∧ SpR D g lo t3 WW ∧ Fr (fun k => k = g ∨ k = gm) w1 WW) := HG.o
     have pe := HE
     clear HG
     go_wp2_with fail
     clear bt
     refine zi (y4 (fun k => ¬ (k = gm ∨ k = ge))) [kT 0, kT 1, kT 2, kT 3, kT 4, kT 5, kR 6, kR 7, kT 8, kT 9, kL 10] (by kernel_rfl) (by kernel_rfl) ?_
     simp only [zy, gzQ, gsQ]
     have HC := qh (fun W' (h : Fr (fun k => ¬ (k = gm ∨ k = ge)) WW.drew W') => anQ (HT.o.1.fr ((zb _).fr h) (fun e => e (.inl rfl))).cell (pe.o.fr ((zb _).fr h) (fun e => e (.inr rfl))).cell)
     have gB : Hd (Blk WW.drew gm #[q0, q1, q2, q3, q4, q5, q6, q7, q8, q9, (.slice aN aw az), bo, bp, bu, bW, bX, bV] 37 ∧ OwnG Lay.expo 98 w1.heap.size (fun k => k = g ∨ k = gm) WW.drew (.slice aN aw az) (xs) ∧ SpR D g lo t3 WW.drew ∧ Fr (fun k => k = g ∨ k = gm) w1 WW.drew) := ⟨HT.o.1.ext (zb _), HT.o.2.1.ext (zb _), HT.o.2.2.1.ext (zb _), HT.o.2.2.2.ext (zb _)⟩
     clear HT pe
     generalize WW.drew = W0 at *
     repeat (apply item_take; rfl; rfl; rfl; rfl; exact fun _ _ _ _ h => h; (intro W e _ k; obtain ⟨q, q2⟩ := HC.o W e; go_simp; exact k))
     apply ze; rfl; intro K hK; go_simp
     refine hK _ _ (za _ _).to ?_
     clear hK K
     apply ze; rfl; intro K hK
     refine zY Lay.expo w1.heap.size (.tmp 114) (.tmp 116) _ _ _ 32 rfl Tryz.underlying31 zbH rfl (by omega) (by decide) (.slice aN aw az) xs ⟨nm, (c : Int), UInt32.ofNat x⟩ _ rfl rfl gB.o.2.1 ?_ gB.o.2.2.2.size (by rw [gC.o]; omega) ?_
     ·refine ⟨[_], _, rfl, ⟨rfl, gQ.o.1⟩, [_], _, rfl, ⟨rfl, by dsimp only; omega, gQ.o.2⟩, ?_⟩
      show [Value.int .u32 _] = [Value.int .u32 ((UInt32.ofNat x).toNat : Int)]
      rw [Jh fd.o]
     intro v1 Wa h1 h2 h3 _
     refine hK _ _ (h3.mono (fun k _ e e2 => by
      have := (au.o k e.symm).1
      have := b9.o.1
      rcases e2 with e2 | e2
      ·omega
      ·exact aO.o.2.2.2.2 k e.symm e2)) ?_
     clear hK K
     obtain ⟨aR, aV, aU, rfl⟩ := h1.shape
     have ch := jc (f := 10) gB.o.1 gB.o.2.1 gB.o.2.2.2 (X := (fun k => k = g ∨ k = gm)) (S := (fun k => k = g ∨ k = gm)) (.inr rfl) (.inr rfl) b9.o.1 rfl h1 h2
     have h6 : Hd (Blk Wa gm #[q0, q1, q2, q3, q4, q5, q6, q7, q8, q9, (.slice aN aw az), bo, bp, bu, bW, bX, bV] 37 ∧ Blk (Wa.setCell ⟨gm, 10, none⟩ (.slice aR aV aU)) gm #[q0, q1, q2, q3, q4, q5, q6, q7, q8, q9, (.slice aR aV aU), bo, bp, bu, bW, bX, bV] 37 ∧ OwnG Lay.expo 98 w1.heap.size (fun k => k = g ∨ k = gm) (Wa.setCell ⟨gm, 10, none⟩ (.slice aR aV aU)) (.slice aR aV aU) (r2.1) ∧ SpR D g lo r2.2 (Wa.setCell ⟨gm, 10, none⟩ (.slice aR aV aU)) ∧ Fr (fun k => k = g ∨ k = gm) w1 (Wa.setCell ⟨gm, 10, none⟩ (.slice aR aV aU))) := by
      rw [hst.o, i2.o]
      have gL := gB.o.2.2.1.fr h2 (fun e => (dI.o g e.symm).1 rfl) (fun k hk e => by have := (au.o k e.symm).1; have := (b9.o.2.2.1 k hk).2; omega)
      refine ⟨ch.1, ?_, ch.2.2.1, ?_, ch.2.2.2⟩
      ·have := ch.2.1
       simpa using this
      ·have := gL.fr (zh Wa ⟨gm, 10, none⟩ (.slice aR aV aU)) (fun e => b9.o.2.1 e) (fun k hk e => (b9.o.2.2.1 k hk).1 e)
       rw [if_neg (fun q => by have := q.2; omega)]; exact this
    case' pos =>
     have dc : decide ((3 : Int) < (c : Int)) = true := decide_eq_true (by omega)
     go_wp2_with fail
     refine (zr D g lo t3 1 W5 HG.o.2.2.1).mono ?_
     rintro e WW ⟨rfl, k1, k2⟩
     have HT : Hd (Blk WW gm #[q0, q1, q2, q3, q4, q5, q6, q7, q8, q9, (.slice aN aw az), bo, bp, bu, bW, bX, bV] 37 ∧ OwnG Lay.expo 98 w1.heap.size (fun k => k = g ∨ k = gm) WW (.slice aN aw az) (xs) ∧ SpR D g lo (t3.fail 1) WW ∧ Fr (fun k => k = g ∨ k = gm) w1 WW) := ⟨HG.o.1.fr k2 (fun e => b9.o.2.1 e.symm), HG.o.2.1.fr k2 (fun k e => .inl (.inl e)) (fun k hk e => (dI.o k hk).1 e), k1, Fr.trans HG.o.2.2.2 k2 (fun _ _ h => h) (fun _ _ h => .inl h)⟩
     have pe := qh (HE.o.fr k2 aO.o.1)
     clear k1 k2 HG
     go_wp2_with fail
     clear bt
     refine zi (y4 (fun k => ¬ (k = gm ∨ k = ge))) [kT 0, kT 1, kT 2, kT 3, kT 4, kT 5, kR 6, kR 7, kT 8, kT 9, kL 10] (by kernel_rfl) (by kernel_rfl) ?_
     simp only [zy, gzQ, gsQ]
     have HC := qh (fun W' (h : Fr (fun k => ¬ (k = gm ∨ k = ge)) WW.drew W') => anQ (HT.o.1.fr ((zb _).fr h) (fun e => e (.inl rfl))).cell (pe.o.fr ((zb _).fr h) (fun e => e (.inr rfl))).cell)
     have gB : Hd (Blk WW.drew gm #[q0, q1, q2, q3, q4, q5, q6, q7, q8, q9, (.slice aN aw az), bo, bp, bu, bW, bX, bV] 37 ∧ OwnG Lay.expo 98 w1.heap.size (fun k => k = g ∨ k = gm) WW.drew (.slice aN aw az) (xs) ∧ SpR D g lo (t3.fail 1) WW.drew ∧ Fr (fun k => k = g ∨ k = gm) w1 WW.drew) := ⟨HT.o.1.ext (zb _), HT.o.2.1.ext (zb _), HT.o.2.2.1.ext (zb _), HT.o.2.2.2.ext (zb _)⟩
     clear HT pe
     generalize WW.drew = W0 at *
     repeat (apply item_take; rfl; rfl; rfl; rfl; exact fun _ _ _ _ h => h; (intro W e _ k; obtain ⟨q, q2⟩ := HC.o W e; go_simp; exact k))
     apply ze; rfl; intro K hK; go_simp
     refine hK _ _ (za _ _).to ?_
     clear hK K
     apply ze; rfl; intro K hK
     refine zY Lay.expo w1.heap.size (.tmp 114) (.tmp 116) _ _ _ 32 rfl Tryz.underlying31 zbH rfl (by omega) (by decide) (.slice aN aw az) xs ⟨nm, (c : Int), UInt32.ofNat x⟩ _ rfl rfl gB.o.2.1 ?_ gB.o.2.2.2.size (by rw [gC.o]; omega) ?_
     ·refine ⟨[_], _, rfl, ⟨rfl, gQ.o.1⟩, [_], _, rfl, ⟨rfl, by dsimp only; omega, gQ.o.2⟩, ?_⟩
      show [Value.int .u32 _] = [Value.int .u32 ((UInt32.ofNat x).toNat : Int)]
      rw [Jh fd.o]
     intro v1 Wa h1 h2 h3 _
     refine hK _ _ (h3.mono (fun k _ e e2 => by
      have := (au.o k e.symm).1
      have := b9.o.1
      rcases e2 with e2 | e2
      ·omega
      ·exact aO.o.2.2.2.2 k e.symm e2)) ?_
     clear hK K
     obtain ⟨aR, aV, aU, rfl⟩ := h1.shape
     have ch := jc (f := 10) gB.o.1 gB.o.2.1 gB.o.2.2.2 (X := (fun k => k = g ∨ k = gm)) (S := (fun k => k = g ∨ k = gm)) (.inr rfl) (.inr rfl) b9.o.1 rfl h1 h2
     have h6 : Hd (Blk Wa gm #[q0, q1, q2, q3, q4, q5, q6, q7, q8, q9, (.slice aN aw az), bo, bp, bu, bW, bX, bV] 37 ∧ Blk (Wa.setCell ⟨gm, 10, none⟩ (.slice aR aV aU)) gm #[q0, q1, q2, q3, q4, q5, q6, q7, q8, q9, (.slice aR aV aU), bo, bp, bu, bW, bX, bV] 37 ∧ OwnG Lay.expo 98 w1.heap.size (fun k => k = g ∨ k = gm) (Wa.setCell ⟨gm, 10, none⟩ (.slice aR aV aU)) (.slice aR aV aU) (r2.1) ∧ SpR D g lo r2.2 (Wa.setCell ⟨gm, 10, none⟩ (.slice aR aV aU)) ∧ Fr (fun k => k = g ∨ k = gm) w1 (Wa.setCell ⟨gm, 10, none⟩ (.slice aR aV aU))) := by
      rw [hst.o, i2.o]
      have gL := gB.o.2.2.1.fr h2 (fun e => (dI.o g e.symm).1 rfl) (fun k hk e => by have := (au.o k e.symm).1; have := (b9.o.2.2.1 k hk).2; omega)
      refine ⟨ch.1, ?_, ch.2.2.1, ?_, ch.2.2.2⟩
      ·have := ch.2.1
       simpa using this
      ·have := gL.fr (zh Wa ⟨gm, 10, none⟩ (.slice aR aV aU)) (fun e => b9.o.2.1 e) (fun k hk e => (b9.o.2.2.1 k hk).1 e)
       rw [if_pos ⟨hv, hc⟩]; exact this
   all_goals
    have fV := h6.o.1.cell
    have dV := h6.o.1.frz
    clear h1 h2 h3 ch gB
    repeat (apply item_take; rfl; rfl; rfl; rfl; exact fun _ _ _ _ h => h; (intro _ _ _ k; go_simp; exact k))
    apply zu; rfl; intro K hK; go_simp
    refine hK _ _ ?_
    clear hK K fV dV
    apply zl
    have dy := qh h6.o.2
    go_wp2
    go_roundw
    case rel => exact ⟨i + 1, _, by omega, by go_num, by rw [bR.o]; exact dy.o⟩
    case measure => simp [intOf]; omega
  ·obtain rfl : i = n := by omega
   go_wp2
   go_end0
   refine ⟨rfl, ⟨_, hV.o.1, ?_⟩, ?_, ?_⟩
   ·rw [HR.o]; exact Lay.mono _ (OwnG.sliceF zh4 hV.o.2.1) (fun k hk => ⟨.inr (by have := H1.o.2.2.size; have := hk.1; omega), hk.2⟩)
   ·rw [HR.o]; exact hV.o.2.2.1
   ·exact Fr.trans H1.o.2.2 hV.o.2.2.2 (fun _ _ e => .inl e) (fun _ _ e => e)
theorem zf6 {bw : Value} (h : SpR D g lo s w) (hB : Blk w gm #[q0, q1, q2, q3, q4, q5, q6, q7, q8, q9, bw, bo, bp, bu, bW, bX, bV] 37) (aO : ¬ gm = g) (df : ∀ k, D k → ¬ k = gm) (hl : s.b.length ≤ 1048576) :
 Calls Tryz.prog 54 #[.pointer (some ⟨g, 0, none⟩), .int .i64 8, .pointer (some ⟨gm, 0, none⟩)] w fun e w' => e = .returned (.tuple #[]) ∧ Blk w' gm #[q0, .bool true, .int .u32 ((rNum s).1.toNat : Int), q3, q4, q5, q6, q7, q8, q9, bw, bo, bp, bu, bW, bX, bV] 37 ∧ SpR D g lo (rNum s).2 w' ∧ Fr (fun k => k = g ∨ k = gm) w w' := by
 have H := qh (anQ h (anQ hl (anQ h.lt.1 (anQ hB (anQ aO df)))))
 clear h hl hB aO df
 go_enter Tryz.func54, Tryz.ntmps54
 go_wp2_with fail
 refine (zN D g lo s w H.o.1 (by have := H.o.2.1; omega)).mono ?_
 rintro e w1 ⟨rfl, k1, k2⟩
 have fd := zX s
 have hr := qh (show rNum s = (UInt32.ofNat (zd s).1, (zd s).2) from rfl)
 generalize (zd s).1 = x at *
 generalize (zd s).2 = s1 at *
 have cY := H.o.2.2.2.1.fr k2 H.o.2.2.2.2.1
 have ag := cY.cell
 have eL := cY.frz
 have H1 := qh (anQ k1 (anQ k2 cY))
 clear k1 k2 cY
 go_wp2
 go_end0
 have cZ := zh w1 ⟨gm, 1, none⟩ (.bool true)
 have fI := zh (w1.setCell ⟨gm, 1, none⟩ (.bool true)) ⟨gm, 2, none⟩ (.int .u32 (x : Int))
 have hs := Fr.trans cZ fI (U := fun k => k = gm) (fun _ _ e => e) (fun _ _ e => e)
 rw [hr.o]
 refine ⟨rfl, ?_, H1.o.1.fr hs (fun e => H.o.2.2.2.2.1 e.symm) (fun k hk e => H.o.2.2.2.2.2 k hk e), Fr.trans H1.o.2.1 hs (fun _ _ e => .inl e) (fun _ _ e => .inr e)⟩
 have := (H1.o.2.2.set 1 (.bool true)).set 2 (.int .u32 (x : Int))
 dsimp only
 rw [Jh fd]
 simpa using this
theorem zhy : (Tryz.prog.info? 71).map (fun i => (i.zero, i.size, i.bytes)) = some (some (.agg #[.int .u32 0, .slice none 0 0, .slice none 0 0]), (Lay.elem 1).size, 56) := by kernel_rfl
theorem zaP (s : St) : (yp s).2.b.length ≤ s.b.length := zdv _ Yb s
theorem zhz (s : St) : (Jv s).2.b.length ≤ s.b.length := nlQ (zaP _) (nlQ (JA _) (Yb _))
theorem zf7 (N : Nat) (D : Nat → Prop) (g gm : Nat) (lo : Bool) (s : St) (w : World) (q0 q1 q2 q3 q4 q5 q6 q7 q9 bw bo bp bu bW bX bV : Value) (h : SpR D g lo s w) (hB : Blk w gm #[q0, q1, q2, q3, q4, q5, q6, q7, .slice none 0 0, q9, bw, bo, bp, bu, bW, bX, bV] 37) (aO : ¬ gm = g) (df : ∀ k, D k → ¬ k = gm) (hl : s.b.length ≤ 1048576) :
 Calls Tryz.prog 54 #[.pointer (some ⟨g, 0, none⟩), .int .i64 9, .pointer (some ⟨gm, 0, none⟩)] w fun e w' => e = .returned (.tuple #[]) ∧ (∃ v, Blk w' gm #[q0, q1, q2, q3, q4, q5, q6, q7, v, q9, bw, bo, bp, bu, bW, bX, bV] 37 ∧ (Lay.elem (N + 1)).slice.rd (aE D w w') w' [v] (zR Jv s).1) ∧ SpR D g lo (zR Jv s).2 w' ∧ Fr (fun k => k = g ∨ k = gm) w w' := by
 have H := qh (anQ h (anQ hl (anQ h.lt.1 (anQ hB (anQ aO df)))))
 clear h hl hB aO df
 go_enter Tryz.func54, Tryz.ntmps54
 go_wp2_with fail
 refine (ye H.o.1 (by have := H.o.2.1; omega)).mono ?_
 rintro e w1 ⟨rfl, k1, k2⟩
 have HR := qh (show zR Jv s = rVec Jv (zv s).1 (zv s).2 from rfl)
 have dh := yg s
 have bS := qh (show (zv s).2.b.length ≤ 33554432 from by have := H.o.2.1; omega)
 have mX : ((zv s).1 : Int) ≤ 1048576 := by have := H.o.2.1; omega
 generalize (zv s).1 = n at *
 generalize (zv s).2 = s1 at *
 have H1 := qh (anQ k1 (anQ (H.o.2.2.2.1.fr k2 H.o.2.2.2.2.1) k2))
 have b9 : Hd (gm < w1.heap.size ∧ g ≠ gm ∧ ∀ k, D k → k ≠ gm ∧ k < w1.heap.size) := ⟨H1.o.2.1.lt, fun e => H.o.2.2.2.2.1 e.symm, fun k hk => ⟨H.o.2.2.2.2.2 k hk, (H1.o.1.lt.2 k hk).1⟩⟩
 have fD : Hd ((¬ D g ∧ g < w1.heap.size) ∧ (¬ D gm ∧ gm < w1.heap.size)) := ⟨⟨fun q => (H1.o.1.lt.2 g q).2 rfl, H1.o.1.lt.1⟩, ⟨fun q => H.o.2.2.2.2.2 gm q rfl, H1.o.2.1.lt⟩⟩
 clear k1 k2 dh
 go_wp2_with fail
 go_loopw [135] (fun qb w' => ∃ (i : Nat) (va : Value), i ≤ n ∧ qb = .int .i64 i ∧ Hd (Blk w' gm #[q0, q1, q2, q3, q4, q5, q6, q7, va, q9, bw, bo, bp, bu, bW, bX, bV] 37 ∧ OwnG ((Lay.elem (N + 1))) 71 w1.heap.size (fun k => ¬ D k ∧ k < w1.heap.size) w' (va) (rVec Jv i s1).1 ∧ SpR D g lo (rVec Jv i s1).2 w' ∧ Fr (fun k => k = g ∨ k = gm) w1 w')) (fun qb _ => n - (intOf qb).toNat)
 case atStart => exact ⟨0, _, nzQ _, rfl, H1.o.2.1, zK _ _ _ _ _, H1.o.1, Fr.refl _ _⟩
 case round =>
  obtain ⟨i, va, hi, rfl, hV⟩ := hrel
  obtain ⟨aN, aw, az, rfl⟩ := hV.o.2.1.shape
  by_cases ah : i < n
  ·have hst := qh (yP Jv i s1)
   have gC := qh (jg Jv i s1)
   have cW := qh (show (rVec Jv i s1).2.b.length ≤ 33554432 from nlQ (yK Jv zhz i s1) bS.o)
   obtain ⟨r2, bR⟩ := exQ (rVec Jv (i + 1) s1)
   have bR := qh bR
   rw [bR.o] at hst
   generalize (rVec Jv i s1).1 = xs at *
   generalize (rVec Jv i s1).2 = t0 at *
   have cj := qh (show g < w1.heap.size from (H1.o.1).lt.1)
   go_wp2_with fail
   refine zi (y4 (fun k => ¬ k = gm)) [kT 0, kT 1, kT 2, kT 3, kT 4, kT 5, kT 7, kT 9, kR 6, kR 8, kR 10, kT 11, kR 12, kR 13, kT 14, kT 15, kL 16] (by kernel_rfl) (by kernel_rfl) ?_
   simp only [zy, gzQ, gsQ]
   have HC := qh (fun W' (h : Fr (fun k => ¬ k = gm) wr.drew W') => (hV.o.1.fr ((zb _).fr h) (fun e => e rfl)).cell)
   have bU : Hd (Blk wr.drew gm #[q0, q1, q2, q3, q4, q5, q6, q7, (.slice aN aw az), q9, bw, bo, bp, bu, bW, bX, bV] 37 ∧ OwnG ((Lay.elem (N + 1))) 71 w1.heap.size (fun k => ¬ D k ∧ k < w1.heap.size) wr.drew ((.slice aN aw az)) xs ∧ SpR D g lo t0 wr.drew ∧ Fr (fun k => k = g ∨ k = gm) w1 wr.drew) := ⟨hV.o.1.ext (zb _), hV.o.2.1.ext (zb _), hV.o.2.2.1.ext (zb _), hV.o.2.2.2.ext (zb _)⟩
   have au := qh (show ∀ k, (Value.slice aN aw az).ownBlock = some k → w1.heap.size ≤ k ∧ k < wr.drew.heap.size from bU.o.2.1.lt)
   have dF := qh (show g < wr.drew.heap.size ∧ gm < wr.drew.heap.size ∧ (∀ k, D k → k ≠ g ∧ k ≠ gm ∧ k < w1.heap.size) from ⟨bU.o.2.2.1.lt.1, bU.o.1.lt, fun k hk => ⟨(bU.o.2.2.1.lt.2 k hk).2, b9.o.2.2 k hk⟩⟩)
   clear hV
   have ll := qh bU.o.2.2.2.size
   generalize wr.drew = W0 at *
   have i2 := qh (show Jv t0 = (⟨UInt32.ofNat (zd t0).1, (yH (zd t0).2).1, (yp (yH (zd t0).2).2).1⟩, (yp (yH (zd t0).2).2).2) from rfl)
   repeat (apply item_take; rfl; rfl; rfl; rfl; exact fun _ _ _ _ h => h; (intro W e _ k; have q := HC.o W e; go_simp; exact k))
   apply ze; rfl; intro K hK; go_simp
   refine (zN D g lo t0 W0 bU.o.2.2.1 (by have := cW.o; omega)).mono ?_
   rintro e W1 ⟨rfl, ks, kf⟩
   have fR := qh kf.size
   refine hK _ _ (kf.mono (fun k _ e e2 => b9.o.2.1 (by have e1 : k = g := e; rw [← e1, e2]))) ?_
   have cU := qh (zX t0)
   have bS := qh (show (zd t0).2.b.length ≤ 33554432 from nlQ (zJ t0) cW.o)
   generalize (zd t0).1 = x0 at *
   generalize (zd t0).2 = t1 at *
   have bZ : Hd (Blk W1 gm #[q0, q1, q2, q3, q4, q5, q6, q7, (.slice aN aw az), q9, bw, bo, bp, bu, bW, bX, bV] 37 ∧ OwnG ((Lay.elem (N + 1))) 71 w1.heap.size (fun k => ¬ D k ∧ k < w1.heap.size) W1 ((.slice aN aw az)) xs ∧ SpR D g lo t1 W1 ∧ Fr (fun k => k = g ∨ k = gm) w1 W1) := ⟨bU.o.1.fr kf (fun e => b9.o.2.1 e.symm), bU.o.2.1.fr kf (fun k e => .inl (by have e' : k = g := e; rw [e']; exact fD.o.1)) (fun k hk e => by have e' : k = g := e; have := au.o k hk; have := cj.o; omega), ks, Fr.trans bU.o.2.2.2 kf (fun _ _ h => h) (fun _ _ h => .inl h)⟩
   clear hK K kf ks bU
   repeat (apply item_take; rfl; rfl; rfl; rfl; exact fun _ _ _ _ h => h; (intro _ _ _ k; go_simp; exact k))
   apply ze; rfl; intro K hK; go_simp
   refine (J3 N D g lo t1 W1 bZ.o.2.2.1 (by have := bS.o; omega)).mono ?_
   rintro e W2 ⟨cv, rfl, kc, ks, kf⟩
   have mT := qh kf.size
   obtain ⟨pH, pB, pC, rfl⟩ := jh kc
   refine hK _ _ (kf.mono (fun k _ e e2 => b9.o.2.1 (by have e1 : k = g := e; rw [← e1, e2]))) ?_
   have fN := qh (show (yH t1).2.b.length ≤ 33554432 from nlQ (JA t1) bS.o)
   generalize (yH t1).1 = x1 at *
   generalize (yH t1).2 = t2 at *
   have bf : Hd (Blk W2 gm #[q0, q1, q2, q3, q4, q5, q6, q7, (.slice aN aw az), q9, bw, bo, bp, bu, bW, bX, bV] 37 ∧ OwnG ((Lay.elem (N + 1))) 71 w1.heap.size (fun k => ¬ D k ∧ k < w1.heap.size) W2 ((.slice aN aw az)) xs ∧ SpR D g lo t2 W2 ∧ Fr (fun k => k = g ∨ k = gm) w1 W2 ∧ (Lay.ins (N + 1)).slice.rd (aE D W0 W2) W2 [.slice pH pB pC] x1) := ⟨bZ.o.1.fr kf (fun e => b9.o.2.1 e.symm), bZ.o.2.1.fr kf (fun k e => .inl (by have e' : k = g := e; rw [e']; exact fD.o.1)) (fun k hk e => by have e' : k = g := e; have := au.o k hk; have := cj.o; omega), ks, Fr.trans bZ.o.2.2.2 kf (fun _ _ h => h) (fun _ _ h => .inl h), Lay.mono _ kc (fun k hk => ⟨.inr (by have := hk.1; have := fR.o; omega), hk.2⟩)⟩
   clear hK K kf ks kc bZ
   repeat (apply item_take; rfl; rfl; rfl; rfl; exact fun _ _ _ _ h => h; (intro _ _ _ k; go_simp; exact k))
   apply ze; rfl; intro K hK; go_simp
   refine (YI bf.o.2.2.1 (by have := fN.o; omega)).mono ?_
   rintro e W3 ⟨iv, rfl, ki, ks, kf⟩
   have rj := qh kf.size
   have ki := ki.slice
   obtain ⟨DE, Dc, Dl, rfl⟩ := jh ki
   refine hK _ _ (kf.mono (fun k _ e e2 => b9.o.2.1 (by have e1 : k = g := e; rw [← e1, e2]))) ?_
   have ly := qh (show (yp t2).2.b.length ≤ 33554432 from nlQ (zaP t2) fN.o)
   generalize (yp t2).1 = x2 at *
   generalize (yp t2).2 = t3 at *
   have dW : Hd (Blk W3 gm #[q0, q1, q2, q3, q4, q5, q6, q7, (.slice aN aw az), q9, bw, bo, bp, bu, bW, bX, bV] 37 ∧ OwnG ((Lay.elem (N + 1))) 71 w1.heap.size (fun k => ¬ D k ∧ k < w1.heap.size) W3 ((.slice aN aw az)) xs ∧ SpR D g lo t3 W3 ∧ Fr (fun k => k = g ∨ k = gm) w1 W3 ∧ (Lay.ins (N + 1)).slice.rd (aE D W0 W3) W3 [.slice pH pB pC] x1 ∧ Lay.u32.slice.rd (aE D W0 W3) W3 [.slice DE Dc Dl] x2) := ⟨bf.o.1.fr kf (fun e => b9.o.2.1 e.symm), bf.o.2.1.fr kf (fun k e => .inl (by have e' : k = g := e; rw [e']; exact fD.o.1)) (fun k hk e => by have e' : k = g := e; have := au.o k hk; have := cj.o; omega), ks, Fr.trans bf.o.2.2.2.1 kf (fun _ _ h => h) (fun _ _ h => .inl h), zgC bf.o.2.2.2.2 dF.o.1 (fun k hk => (dF.o.2.2 k hk).1) kf, Lay.mono _ ki (fun k hk => ⟨.inr (by have := hk.1; have := fR.o; have := mT.o; omega), hk.2⟩)⟩
   clear hK K kf ks ki bf
   repeat (apply item_take; rfl; rfl; rfl; rfl; exact fun _ _ _ _ h => h; (intro _ _ _ k; go_simp; exact k))
   apply ze; rfl; intro K hK; go_simp
   refine hK _ _ (za _ _).to ?_
   clear hK K
   apply ze; rfl; intro K hK
   refine zY ((Lay.elem (N + 1))) w1.heap.size (.tmp 141) (.tmp 149) _ _ _ 56 rfl Tryz.underlying29 zhy rfl (by omega) (show 0 < 3 by decide) (.slice aN aw az) xs ⟨UInt32.ofNat x0, x1, x2⟩ _ rfl rfl dW.o.2.1 ?_ dW.o.2.2.2.1.size (by rw [gC.o]; omega) ?_
   ·refine zb3 (W0 := W0) (wL := w1) ?_ ll.o (fun k hk => (dF.o.2.2 k hk).2.2) au.o
    refine ⟨[_], _, rfl, ?_, [_], [_], rfl, dW.o.2.2.2.2.1, dW.o.2.2.2.2.2⟩
    show [Value.int .u32 _] = [Value.int .u32 ((UInt32.ofNat x0).toNat : Int)]
    rw [Jh cU.o]
   intro v1 Wa h1 h2 h3 _
   refine hK _ _ (h3.mono (fun k _ e e2 => by have := (au.o k e.symm).1; have := b9.o.1; omega)) ?_
   clear hK K
   obtain ⟨aR, aV, aU, rfl⟩ := h1.shape
   have ch := jc (f := 8) dW.o.1 dW.o.2.1 dW.o.2.2.2.1 (X := (fun k => ¬ D k ∧ k < w1.heap.size)) (S := (fun k => k = g ∨ k = gm)) fD.o.2 (.inr rfl) b9.o.1 rfl h1 h2
   have h6 : Hd (Blk Wa gm #[q0, q1, q2, q3, q4, q5, q6, q7, (.slice aN aw az), q9, bw, bo, bp, bu, bW, bX, bV] 37 ∧ Blk (Wa.setCell ⟨gm, 8, none⟩ (.slice aR aV aU)) gm #[q0, q1, q2, q3, q4, q5, q6, q7, (.slice aR aV aU), q9, bw, bo, bp, bu, bW, bX, bV] 37 ∧ OwnG ((Lay.elem (N + 1))) 71 w1.heap.size (fun k => ¬ D k ∧ k < w1.heap.size) (Wa.setCell ⟨gm, 8, none⟩ (.slice aR aV aU)) ((.slice aR aV aU)) r2.1 ∧ SpR D g lo r2.2 (Wa.setCell ⟨gm, 8, none⟩ (.slice aR aV aU)) ∧ Fr (fun k => k = g ∨ k = gm) w1 (Wa.setCell ⟨gm, 8, none⟩ (.slice aR aV aU))) := by
    rw [hst.o, i2.o]
    have gL := dW.o.2.2.1.fr h2 (fun e => by have := au.o g e.symm; have := cj.o; omega) (fun k hk e => by have := au.o k e.symm; have := dF.o.2.2 k hk; omega)
    refine ⟨ch.1, ?_, ch.2.2.1, gL.fr (zh _ _ _) (fun e => b9.o.2.1 e) (fun k hk e => (dF.o.2.2 k hk).2.1 e), ch.2.2.2⟩
    have := ch.2.1
    simpa using this
   have fV := h6.o.1.cell
   have dV := h6.o.1.frz
   clear h1 h2 h3 ch dW
   repeat (apply item_take; rfl; rfl; rfl; rfl; exact fun _ _ _ _ h => h; (intro _ _ _ k; go_simp; exact k))
   apply zu; rfl; intro K hK; go_simp
   refine hK _ _ ?_
   clear hK K fV dV
   apply zl
   have dy := qh h6.o.2
   go_wp2
   go_roundw
   case rel => exact ⟨i + 1, _, by omega, by go_num, by rw [bR.o]; exact dy.o⟩
   case measure => simp [intOf]; omega
  ·obtain rfl : i = n := by omega
   go_wp2
   go_end0
   refine ⟨rfl, ⟨_, hV.o.1, ?_⟩, ?_, ?_⟩
   ·rw [HR.o]; exact hV.o.2.1.sliceE H1.o.2.2.size
   ·rw [HR.o]; exact hV.o.2.2.1
   ·exact Fr.trans H1.o.2.2 hV.o.2.2.2 (fun _ _ e => .inl e) (fun _ _ e => e)
end Go.Proofs.YtejgninpjhcgnaaGreatDoor
