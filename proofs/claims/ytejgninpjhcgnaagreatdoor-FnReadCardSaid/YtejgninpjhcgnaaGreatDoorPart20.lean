/- Texts of this proof, one behind the other. -/
import Derived.Test.YtejgninpjhcgnaaGreatDoorPart6
namespace Go.Proofs.YtejgninpjhcgnaaGreatDoor
open Go.RowKit
set_option linter.unusedSimpArgs false
set_option linter.unusedVariables false
set_option maxRecDepth 100000
set_option maxHeartbeats 8000000
theorem ze9 (N : Nat) (D : Nat → Prop) (g gm : Nat) (lo : Bool) (s : St) (w : World) (q5 q0 q1 q2 q3 q4 q6 q7 q8 q9 bN bk bl bp bZ bY cg : Value) (h : SpR D g lo s w) (hB : Blk w gm #[q0, q1, q2, q3, q4, q5, q6, q7, q8, q9, bN, bk, bl, bp, bZ, bY, cg] 37) (ag : ¬ gm = g) (dP : ∀ k, D k → ¬ k = gm) (hl : s.b.length ≤ 1048576) :
 Calls Tryz.prog 54 #[.pointer (some ⟨g, 0, none⟩), .int .i64 3, .pointer (some ⟨gm, 0, none⟩)] w fun e w' => e = .returned (.tuple #[]) ∧ (∃ v, Blk w' gm #[q0, q1, q2, q3, q4, v, q6, q7, q8, q9, bN, bk, bl, bp, bZ, bY, cg] 37 ∧ Lay.u32.slice.rd (aE D w w') w' [v] (zZ s).1) ∧ SpR D g lo (zZ s).2 w' ∧ Fr (fun k => k = g ∨ k = gm) w w' := by
 have H := qh (anQ h (anQ hl (anQ h.lt.1 (anQ hB (anQ ag dP)))))
 clear h hl hB ag dP
 go_enter Tryz.func54, Tryz.ntmps54
 go_wp2_with fail
 refine (Yl H.o.1 (by have := H.o.2.1; omega)).mono ?_
 rintro e w1 ⟨v, rfl, k0, k1, k2⟩
 have hr := qh (show Lay.u32.slice.rd (fun k => w.heap.size ≤ k ∧ k < w1.heap.size) w1 [v] (zZ s).1 from k0.slice)
 obtain ⟨a1, a2, a3, rfl⟩ := y5 hr.o
 have cz := H.o.2.2.2.1.fr k2 H.o.2.2.2.2.1
 have au := cz.cell
 have eR := cz.frz
 have H1 := qh (anQ k1 (anQ k2 cz))
 clear k1 k2 cz k0
 go_wp2
 go_end0
 have hs := zf w1 ⟨gm, 5, none⟩ (.slice a1 a2 a3)
 refine ⟨rfl, ⟨.slice a1 a2 a3, ?_, ?_⟩, H1.o.1.fr hs (fun e => H.o.2.2.2.2.1 e.symm) (fun k hk e => H.o.2.2.2.2.2 k hk e), Fr.trans H1.o.2.1 hs (fun _ _ e => .inl e) (fun _ _ e => .inr e)⟩
 ·simpa using H1.o.2.2.set 5 (.slice a1 a2 a3)
 ·have hz : (w1.setCell ⟨gm, 5, none⟩ (.slice a1 a2 a3)).heap.size = w1.heap.size := by simp
  exact Lay.mono _ (Lay.fr hr.o hs (fun k hk => ⟨hk.2, fun e => by have e' : k = gm := e; have := H.o.2.2.2.1.lt; omega⟩)) (fun k hk => ⟨.inr hk.1, by rw [hz]; exact hk.2⟩)
theorem zhB : (Tryz.prog.info? 63).map (fun i => (i.zero, i.size, i.bytes)) = some (some (.agg #[.int .u32 0, .bool false, .int .u32 0]), Lay.lim.size, 12) := by kernel_rfl
theorem zfa (N : Nat) (D : Nat → Prop) (g gm : Nat) (lo : Bool) (s : St) (w : World) (q0 q1 q2 q3 q4 q5 q7 q8 q9 bN bk bl bp bZ bY cg : Value) (h : SpR D g lo s w) (hB : Blk w gm #[q0, q1, q2, q3, q4, q5, .slice none 0 0, q7, q8, q9, bN, bk, bl, bp, bZ, bY, cg] 37) (ag : ¬ gm = g) (dP : ∀ k, D k → ¬ k = gm) (hl : s.b.length ≤ 1048576) :
 Calls Tryz.prog 54 #[.pointer (some ⟨g, 0, none⟩), .int .i64 4, .pointer (some ⟨gm, 0, none⟩)] w fun e w' => e = .returned (.tuple #[]) ∧ (∃ v, Blk w' gm #[q0, q1, q2, q3, q4, q5, v, q7, q8, q9, bN, bk, bl, bp, bZ, bY, cg] 37 ∧ Lay.lim.slice.rd (aE D w w') w' [v] (zW zX s).1) ∧ SpR D g lo (zW zX s).2 w' ∧ Fr (fun k => k = g ∨ k = gm) w w' := by
 have H := qh (anQ h (anQ hl (anQ h.lt.1 (anQ hB (anQ ag dP)))))
 clear h hl hB ag dP
 go_enter Tryz.func54, Tryz.ntmps54
 go_wp2_with fail
 refine (z6 H.o.1 (by have := H.o.2.1; omega)).mono ?_
 rintro e w1 ⟨rfl, k1, k2⟩
 have HR := qh (show zW zX s = rVec zX (zo s).1 (zo s).2 from rfl)
 have c6 := z0 s
 have bW := qh (show (zo s).2.b.length ≤ 33554432 from by have := H.o.2.1; omega)
 have iD : ((zo s).1 : Int) ≤ 1048576 := by have := H.o.2.1; omega
 generalize (zo s).1 = n at *
 generalize (zo s).2 = s1 at *
 have H1 := qh (anQ k1 (anQ (H.o.2.2.2.1.fr k2 H.o.2.2.2.2.1) k2))
 have bt : Hq (gm < w1.heap.size ∧ g ≠ gm ∧ ∀ k, D k → k ≠ gm ∧ k < w1.heap.size) := ⟨H1.o.2.1.lt, fun e => H.o.2.2.2.2.1 e.symm, fun k hk => ⟨H.o.2.2.2.2.2 k hk, (H1.o.1.lt.2 k hk).1⟩⟩
 have fW : Hq ((¬ D g ∧ g < w1.heap.size) ∧ (¬ D gm ∧ gm < w1.heap.size)) := ⟨⟨fun q => (H1.o.1.lt.2 g q).2 rfl, H1.o.1.lt.1⟩, ⟨fun q => H.o.2.2.2.2.2 gm q rfl, H1.o.2.1.lt⟩⟩
 clear k1 k2 c6
 go_wp2_with fail
 go_loopw [33] (fun ma w' => ∃ (i : Nat) (va : Value), i ≤ n ∧ ma = .int .i64 i ∧ Hq (Blk w' gm #[q0, q1, q2, q3, q4, q5, va, q7, q8, q9, bN, bk, bl, bp, bZ, bY, cg] 37 ∧ OwnG (Lay.lim) 63 w1.heap.size (fun k => ¬ D k ∧ k < w1.heap.size) w' (va) (rVec zX i s1).1 ∧ SpR D g lo (rVec zX i s1).2 w' ∧ Fr (fun k => k = g ∨ k = gm) w1 w')) (fun ma _ => n - (intOf ma).toNat)
 case atStart => exact ⟨0, _, nzQ _, rfl, H1.o.2.1, zv _ _ _ _ _, H1.o.1, Fr.refl _ _⟩
 case round =>
  obtain ⟨i, va, hi, rfl, hV⟩ := hrel
  obtain ⟨ap, am, ar, rfl⟩ := hV.o.2.1.shape
  by_cases aj : i < n
  ·have aU := qh (yD zX i s1)
   have gM := qh (yP zX i s1)
   have dF := qh (show (rVec zX i s1).2.b.length ≤ 33554432 from nlQ (yw zX YM i s1) bW.o)
   obtain ⟨r2, aY⟩ := exQ (rVec zX (i + 1) s1)
   have aY := qh aY
   rw [aY.o] at aU
   generalize (rVec zX i s1).1 = xs at *
   generalize (rVec zX i s1).2 = t0 at *
   have bo := qh (show g < w1.heap.size from (H1.o.1).lt.1)
   go_wp2_with fail
   refine zj (yX (fun k => ¬ k = gm)) [kT 0, kT 1, kT 2, kT 3, kT 4, kT 5, kR 6, kR 7, kR 8, kT 9, kT 10, kL 11] (by kernel_rfl) (by kernel_rfl) ?_
   simp only [zx, gzQ, gsQ]
   have HC := qh (fun W' (h : Fr (fun k => ¬ k = gm) wr.drew W') => (hV.o.1.fr ((zb _).fr h) (fun e => e rfl)).cell)
   have ce : Hq (Blk wr.drew gm #[q0, q1, q2, q3, q4, q5, (.slice ap am ar), q7, q8, q9, bN, bk, bl, bp, bZ, bY, cg] 37 ∧ OwnG (Lay.lim) 63 w1.heap.size (fun k => ¬ D k ∧ k < w1.heap.size) wr.drew ((.slice ap am ar)) xs ∧ SpR D g lo t0 wr.drew ∧ Fr (fun k => k = g ∨ k = gm) w1 wr.drew) := ⟨hV.o.1.ext (zb _), hV.o.2.1.ext (zb _), hV.o.2.2.1.ext (zb _), hV.o.2.2.2.ext (zb _)⟩
   have ah := qh (show ∀ k, (Value.slice ap am ar).ownBlock = some k → w1.heap.size ≤ k ∧ k < wr.drew.heap.size from ce.o.2.1.lt)
   have dj := qh (show g < wr.drew.heap.size ∧ gm < wr.drew.heap.size ∧ (∀ k, D k → k ≠ g ∧ k ≠ gm ∧ k < w1.heap.size) from ⟨ce.o.2.2.1.lt.1, ce.o.1.lt, fun k hk => ⟨(ce.o.2.2.1.lt.2 k hk).2, bt.o.2.2 k hk⟩⟩)
   clear hV
   have ld := qh ce.o.2.2.2.size
   generalize wr.drew = W0 at *
   have cN := qh (show zX t0 = ((zX t0).1, (zX t0).2) from rfl)
   repeat (apply item_take; rfl; rfl; rfl; rfl; exact fun _ _ _ _ h => h; (intro W e _ k; have q := HC.o W e; go_simp; exact k))
   apply zg; rfl; intro K hK; go_simp
   refine (zaC ce.o.2.2.1 (by have := dF.o; omega)).mono ?_
   rintro e W1 ⟨rfl, ks, kf⟩
   have gp := qh kf.size
   refine hK _ _ (kf.mono (fun k _ e e2 => bt.o.2.1 (by have e1 : k = g := e; rw [← e1, e2]))) ?_
   have bW := qh (show (zX t0).2.b.length ≤ 33554432 from nlQ (YM t0) dF.o)
   generalize (zX t0).1 = x0 at *
   generalize (zX t0).2 = t1 at *
   have ci : Hq (Blk W1 gm #[q0, q1, q2, q3, q4, q5, (.slice ap am ar), q7, q8, q9, bN, bk, bl, bp, bZ, bY, cg] 37 ∧ OwnG (Lay.lim) 63 w1.heap.size (fun k => ¬ D k ∧ k < w1.heap.size) W1 ((.slice ap am ar)) xs ∧ SpR D g lo t1 W1 ∧ Fr (fun k => k = g ∨ k = gm) w1 W1) := ⟨ce.o.1.fr kf (fun e => bt.o.2.1 e.symm), ce.o.2.1.fr kf (fun k e => .inl (by have e' : k = g := e; rw [e']; exact fW.o.1)) (fun k hk e => by have e' : k = g := e; have := ah.o k hk; have := bo.o; omega), ks, Fr.trans ce.o.2.2.2 kf (fun _ _ h => h) (fun _ _ h => .inl h)⟩
   clear hK K kf ks ce
   repeat (apply item_take; rfl; rfl; rfl; rfl; exact fun _ _ _ _ h => h; (intro _ _ _ k; go_simp; exact k))
   apply zg; rfl; intro K hK; go_simp
   refine hK _ _ (za _ _).to ?_
   clear hK K
   apply zg; rfl; intro K hK
   refine zu (Lay.lim) w1.heap.size (.tmp 39) (.tmp 42) _ _ _ 12 rfl Tryz.underlying28 zhB rfl (by omega) (by decide) (.slice ap am ar) xs x0 _ rfl rfl ci.o.2.1 ?_ ci.o.2.2.2.size (by rw [gM.o]; omega) ?_
   ·refine zbA (W0 := W0) (wL := w1) ?_ ld.o (fun k hk => (dj.o.2.2 k hk).2.2) ah.o
    exact ⟨[_], _, rfl, rfl, [_], _, rfl, rfl, rfl⟩
   intro v1 Wa h1 h2 h3 _
   refine hK _ _ (h3.mono (fun k _ e e2 => by have := (ah.o k e.symm).1; have := bt.o.1; omega)) ?_
   clear hK K
   obtain ⟨az, aR, aO, rfl⟩ := h1.shape
   have bz := yS (f := 6) ci.o.1 ci.o.2.1 ci.o.2.2.2 (X := (fun k => ¬ D k ∧ k < w1.heap.size)) (S := (fun k => k = g ∨ k = gm)) fW.o.2 (.inr rfl) bt.o.1 rfl h1 h2
   have h6 : Hq (Blk Wa gm #[q0, q1, q2, q3, q4, q5, (.slice ap am ar), q7, q8, q9, bN, bk, bl, bp, bZ, bY, cg] 37 ∧ Blk (Wa.setCell ⟨gm, 6, none⟩ (.slice az aR aO)) gm #[q0, q1, q2, q3, q4, q5, (.slice az aR aO), q7, q8, q9, bN, bk, bl, bp, bZ, bY, cg] 37 ∧ OwnG (Lay.lim) 63 w1.heap.size (fun k => ¬ D k ∧ k < w1.heap.size) (Wa.setCell ⟨gm, 6, none⟩ (.slice az aR aO)) ((.slice az aR aO)) r2.1 ∧ SpR D g lo r2.2 (Wa.setCell ⟨gm, 6, none⟩ (.slice az aR aO)) ∧ Fr (fun k => k = g ∨ k = gm) w1 (Wa.setCell ⟨gm, 6, none⟩ (.slice az aR aO))) := by
    rw [aU.o]
    have gO := ci.o.2.2.1.fr h2 (fun e => by have := ah.o g e.symm; have := bo.o; omega) (fun k hk e => by have := ah.o k e.symm; have := dj.o.2.2 k hk; omega)
    refine ⟨bz.1, ?_, bz.2.2.1, gO.fr (zf _ _ _) (fun e => bt.o.2.1 e) (fun k hk e => (dj.o.2.2 k hk).2.1 e), bz.2.2.2⟩
    have := bz.2.1
    simpa using this
   have fp := h6.o.1.cell
   have ep := h6.o.1.frz
   clear h1 h2 h3 bz ci
   repeat (apply item_take; rfl; rfl; rfl; rfl; exact fun _ _ _ _ h => h; (intro _ _ _ k; go_simp; exact k))
   apply zn; rfl; intro K hK; go_simp
   refine hK _ _ ?_
   clear hK K fp ep
   apply zm
   have eh := qh h6.o.2
   go_wp2
   go_roundw
   case rel => exact ⟨i + 1, _, by omega, by go_num, by rw [aY.o]; exact eh.o⟩
   case measure => simp [intOf]; omega
  ·obtain rfl : i = n := by omega
   go_wp2
   go_end0
   refine ⟨rfl, ⟨_, hV.o.1, ?_⟩, ?_, ?_⟩
   ·rw [HR.o]; exact hV.o.2.1.sliceE H1.o.2.2.size
   ·rw [HR.o]; exact hV.o.2.2.1
   ·exact Fr.trans H1.o.2.2 hV.o.2.2.2 (fun _ _ e => .inl e) (fun _ _ e => e)
theorem zgI : (Tryz.prog.info? 63).map (fun i => (i.zero, i.size, i.bytes)) = some (some (.agg #[.int .u32 0, .bool false, .int .u32 0]), Lay.lim.size, 12) := by kernel_rfl
theorem zfb (N : Nat) (D : Nat → Prop) (g gm : Nat) (lo : Bool) (s : St) (w : World) (q0 q1 q2 q3 q4 q5 q6 q8 q9 bN bk bl bp bZ bY cg : Value) (h : SpR D g lo s w) (hB : Blk w gm #[q0, q1, q2, q3, q4, q5, q6, .slice none 0 0, q8, q9, bN, bk, bl, bp, bZ, bY, cg] 37) (ag : ¬ gm = g) (dP : ∀ k, D k → ¬ k = gm) (hl : s.b.length ≤ 1048576) :
 Calls Tryz.prog 54 #[.pointer (some ⟨g, 0, none⟩), .int .i64 5, .pointer (some ⟨gm, 0, none⟩)] w fun e w' => e = .returned (.tuple #[]) ∧ (∃ v, Blk w' gm #[q0, q1, q2, q3, q4, q5, q6, v, q8, q9, bN, bk, bl, bp, bZ, bY, cg] 37 ∧ Lay.lim.slice.rd (aE D w w') w' [v] (zW zD s).1) ∧ SpR D g lo (zW zD s).2 w' ∧ Fr (fun k => k = g ∨ k = gm) w w' := by
 have H := qh (anQ h (anQ hl (anQ h.lt.1 (anQ hB (anQ ag dP)))))
 clear h hl hB ag dP
 go_enter Tryz.func54, Tryz.ntmps54
 go_wp2_with fail
 refine (z6 H.o.1 (by have := H.o.2.1; omega)).mono ?_
 rintro e w1 ⟨rfl, k1, k2⟩
 have HR := qh (show zW zD s = rVec zD (zo s).1 (zo s).2 from rfl)
 have c6 := z0 s
 have bW := qh (show (zo s).2.b.length ≤ 33554432 from by have := H.o.2.1; omega)
 have iD : ((zo s).1 : Int) ≤ 1048576 := by have := H.o.2.1; omega
 generalize (zo s).1 = n at *
 generalize (zo s).2 = s1 at *
 have H1 := qh (anQ k1 (anQ (H.o.2.2.2.1.fr k2 H.o.2.2.2.2.1) k2))
 have bt : Hq (gm < w1.heap.size ∧ g ≠ gm ∧ ∀ k, D k → k ≠ gm ∧ k < w1.heap.size) := ⟨H1.o.2.1.lt, fun e => H.o.2.2.2.2.1 e.symm, fun k hk => ⟨H.o.2.2.2.2.2 k hk, (H1.o.1.lt.2 k hk).1⟩⟩
 have fW : Hq ((¬ D g ∧ g < w1.heap.size) ∧ (¬ D gm ∧ gm < w1.heap.size)) := ⟨⟨fun q => (H1.o.1.lt.2 g q).2 rfl, H1.o.1.lt.1⟩, ⟨fun q => H.o.2.2.2.2.2 gm q rfl, H1.o.2.1.lt⟩⟩
 clear k1 k2 c6
 go_wp2_with fail
 go_loopw [51] (fun xi w' => ∃ (i : Nat) (va : Value), i ≤ n ∧ xi = .int .i64 i ∧ Hq (Blk w' gm #[q0, q1, q2, q3, q4, q5, q6, va, q8, q9, bN, bk, bl, bp, bZ, bY, cg] 37 ∧ OwnG (Lay.lim) 63 w1.heap.size (fun k => ¬ D k ∧ k < w1.heap.size) w' (va) (rVec zD i s1).1 ∧ SpR D g lo (rVec zD i s1).2 w' ∧ Fr (fun k => k = g ∨ k = gm) w1 w')) (fun xi _ => n - (intOf xi).toNat)
 case atStart => exact ⟨0, _, nzQ _, rfl, H1.o.2.1, zv _ _ _ _ _, H1.o.1, Fr.refl _ _⟩
 case round =>
  obtain ⟨i, va, hi, rfl, hV⟩ := hrel
  obtain ⟨ap, am, ar, rfl⟩ := hV.o.2.1.shape
  by_cases aj : i < n
  ·have aU := qh (yD zD i s1)
   have gM := qh (yP zD i s1)
   have dF := qh (show (rVec zD i s1).2.b.length ≤ 33554432 from nlQ (yw zD ZP i s1) bW.o)
   obtain ⟨r2, aY⟩ := exQ (rVec zD (i + 1) s1)
   have aY := qh aY
   rw [aY.o] at aU
   generalize (rVec zD i s1).1 = xs at *
   generalize (rVec zD i s1).2 = t0 at *
   have bo := qh (show g < w1.heap.size from (H1.o.1).lt.1)
   go_wp2_with fail
   refine zj (yX (fun k => ¬ k = gm)) [kT 0, kT 1, kT 2, kT 3, kT 4, kT 5, kR 6, kR 7, kR 8, kT 9, kT 10, kL 11] (by kernel_rfl) (by kernel_rfl) ?_
   simp only [zx, gzQ, gsQ]
   have HC := qh (fun W' (h : Fr (fun k => ¬ k = gm) wr.drew W') => (hV.o.1.fr ((zb _).fr h) (fun e => e rfl)).cell)
   have ce : Hq (Blk wr.drew gm #[q0, q1, q2, q3, q4, q5, q6, (.slice ap am ar), q8, q9, bN, bk, bl, bp, bZ, bY, cg] 37 ∧ OwnG (Lay.lim) 63 w1.heap.size (fun k => ¬ D k ∧ k < w1.heap.size) wr.drew ((.slice ap am ar)) xs ∧ SpR D g lo t0 wr.drew ∧ Fr (fun k => k = g ∨ k = gm) w1 wr.drew) := ⟨hV.o.1.ext (zb _), hV.o.2.1.ext (zb _), hV.o.2.2.1.ext (zb _), hV.o.2.2.2.ext (zb _)⟩
   have ah := qh (show ∀ k, (Value.slice ap am ar).ownBlock = some k → w1.heap.size ≤ k ∧ k < wr.drew.heap.size from ce.o.2.1.lt)
   have dj := qh (show g < wr.drew.heap.size ∧ gm < wr.drew.heap.size ∧ (∀ k, D k → k ≠ g ∧ k ≠ gm ∧ k < w1.heap.size) from ⟨ce.o.2.2.1.lt.1, ce.o.1.lt, fun k hk => ⟨(ce.o.2.2.1.lt.2 k hk).2, bt.o.2.2 k hk⟩⟩)
   clear hV
   have ld := qh ce.o.2.2.2.size
   generalize wr.drew = W0 at *
   have cN := qh (show zD t0 = ((zD t0).1, (zD t0).2) from rfl)
   repeat (apply item_take; rfl; rfl; rfl; rfl; exact fun _ _ _ _ h => h; (intro W e _ k; have q := HC.o W e; go_simp; exact k))
   apply zg; rfl; intro K hK; go_simp
   refine (J6 D g lo t0 W0 ce.o.2.2.1 (by have := dF.o; omega)).mono ?_
   rintro e W1 ⟨rfl, ks, kf⟩
   have gp := qh kf.size
   refine hK _ _ (kf.mono (fun k _ e e2 => bt.o.2.1 (by have e1 : k = g := e; rw [← e1, e2]))) ?_
   have bW := qh (show (zD t0).2.b.length ≤ 33554432 from nlQ (ZP t0) dF.o)
   generalize (zD t0).1 = x0 at *
   generalize (zD t0).2 = t1 at *
   have ci : Hq (Blk W1 gm #[q0, q1, q2, q3, q4, q5, q6, (.slice ap am ar), q8, q9, bN, bk, bl, bp, bZ, bY, cg] 37 ∧ OwnG (Lay.lim) 63 w1.heap.size (fun k => ¬ D k ∧ k < w1.heap.size) W1 ((.slice ap am ar)) xs ∧ SpR D g lo t1 W1 ∧ Fr (fun k => k = g ∨ k = gm) w1 W1) := ⟨ce.o.1.fr kf (fun e => bt.o.2.1 e.symm), ce.o.2.1.fr kf (fun k e => .inl (by have e' : k = g := e; rw [e']; exact fW.o.1)) (fun k hk e => by have e' : k = g := e; have := ah.o k hk; have := bo.o; omega), ks, Fr.trans ce.o.2.2.2 kf (fun _ _ h => h) (fun _ _ h => .inl h)⟩
   clear hK K kf ks ce
   repeat (apply item_take; rfl; rfl; rfl; rfl; exact fun _ _ _ _ h => h; (intro _ _ _ k; go_simp; exact k))
   apply zg; rfl; intro K hK; go_simp
   refine hK _ _ (za _ _).to ?_
   clear hK K
   apply zg; rfl; intro K hK
   refine zu (Lay.lim) w1.heap.size (.tmp 57) (.tmp 60) _ _ _ 12 rfl Tryz.underlying28 zgI rfl (by omega) (by decide) (.slice ap am ar) xs x0 _ rfl rfl ci.o.2.1 ?_ ci.o.2.2.2.size (by rw [gM.o]; omega) ?_
   ·refine zbA (W0 := W0) (wL := w1) ?_ ld.o (fun k hk => (dj.o.2.2 k hk).2.2) ah.o
    exact ⟨[_], _, rfl, rfl, [_], _, rfl, rfl, rfl⟩
   intro v1 Wa h1 h2 h3 _
   refine hK _ _ (h3.mono (fun k _ e e2 => by have := (ah.o k e.symm).1; have := bt.o.1; omega)) ?_
   clear hK K
   obtain ⟨az, aR, aO, rfl⟩ := h1.shape
   have bz := yS (f := 7) ci.o.1 ci.o.2.1 ci.o.2.2.2 (X := (fun k => ¬ D k ∧ k < w1.heap.size)) (S := (fun k => k = g ∨ k = gm)) fW.o.2 (.inr rfl) bt.o.1 rfl h1 h2
   have h6 : Hq (Blk Wa gm #[q0, q1, q2, q3, q4, q5, q6, (.slice ap am ar), q8, q9, bN, bk, bl, bp, bZ, bY, cg] 37 ∧ Blk (Wa.setCell ⟨gm, 7, none⟩ (.slice az aR aO)) gm #[q0, q1, q2, q3, q4, q5, q6, (.slice az aR aO), q8, q9, bN, bk, bl, bp, bZ, bY, cg] 37 ∧ OwnG (Lay.lim) 63 w1.heap.size (fun k => ¬ D k ∧ k < w1.heap.size) (Wa.setCell ⟨gm, 7, none⟩ (.slice az aR aO)) ((.slice az aR aO)) r2.1 ∧ SpR D g lo r2.2 (Wa.setCell ⟨gm, 7, none⟩ (.slice az aR aO)) ∧ Fr (fun k => k = g ∨ k = gm) w1 (Wa.setCell ⟨gm, 7, none⟩ (.slice az aR aO))) := by
    rw [aU.o]
    have gO := ci.o.2.2.1.fr h2 (fun e => by have := ah.o g e.symm; have := bo.o; omega) (fun k hk e => by have := ah.o k e.symm; have := dj.o.2.2 k hk; omega)
    refine ⟨bz.1, ?_, bz.2.2.1, gO.fr (zf _ _ _) (fun e => bt.o.2.1 e) (fun k hk e => (dj.o.2.2 k hk).2.1 e), bz.2.2.2⟩
    have := bz.2.1
    simpa using this
   have fp := h6.o.1.cell
   have ep := h6.o.1.frz
   clear h1 h2 h3 bz ci
   repeat (apply item_take; rfl; rfl; rfl; rfl; exact fun _ _ _ _ h => h; (intro _ _ _ k; go_simp; exact k))
   apply zn; rfl; intro K hK; go_simp
   refine hK _ _ ?_
   clear hK K fp ep
   apply zm
   have eh := qh h6.o.2
   go_wp2
   go_roundw
   case rel => exact ⟨i + 1, _, by omega, by go_num, by rw [aY.o]; exact eh.o⟩
   case measure => simp [intOf]; omega
  ·obtain rfl : i = n := by omega
   go_wp2
   go_end0
   refine ⟨rfl, ⟨_, hV.o.1, ?_⟩, ?_, ?_⟩
   ·rw [HR.o]; exact hV.o.2.1.sliceE H1.o.2.2.size
   ·rw [HR.o]; exact hV.o.2.2.1
   ·exact Fr.trans H1.o.2.2 hV.o.2.2.2 (fun _ _ e => .inl e) (fun _ _ e => e)
theorem zgJ : (Tryz.prog.info? 69).map (fun i => (i.zero, i.size, i.bytes)) = some (some (.agg #[.int .i64 0, .bool false, .slice none 0 0]), (Lay.glob 1).size, 40) := by kernel_rfl
theorem zgK (s : St) : (Je s).2.b.length ≤ s.b.length := nlQ (Jb _) (nlQ (zaH _) (yr _))
theorem zfc (N : Nat) (D : Nat → Prop) (g gm : Nat) (lo : Bool) (s : St) (w : World) (q0 q1 q2 q3 q4 q5 q6 q7 q8 bN bk bl bp bZ bY cg : Value) (h : SpR D g lo s w) (hB : Blk w gm #[q0, q1, q2, q3, q4, q5, q6, q7, q8, .slice none 0 0, bN, bk, bl, bp, bZ, bY, cg] 37) (ag : ¬ gm = g) (dP : ∀ k, D k → ¬ k = gm) (hl : s.b.length ≤ 1048576) :
 Calls Tryz.prog 54 #[.pointer (some ⟨g, 0, none⟩), .int .i64 6, .pointer (some ⟨gm, 0, none⟩)] w fun e w' => e = .returned (.tuple #[]) ∧ (∃ v, Blk w' gm #[q0, q1, q2, q3, q4, q5, q6, q7, q8, v, bN, bk, bl, bp, bZ, bY, cg] 37 ∧ (Lay.glob (N + 1)).slice.rd (aE D w w') w' [v] (zW Je s).1) ∧ SpR D g lo (zW Je s).2 w' ∧ Fr (fun k => k = g ∨ k = gm) w w' := by
 have H := qh (anQ h (anQ hl (anQ h.lt.1 (anQ hB (anQ ag dP)))))
 clear h hl hB ag dP
 go_enter Tryz.func54, Tryz.ntmps54
 go_wp2_with fail
 refine (z6 H.o.1 (by have := H.o.2.1; omega)).mono ?_
 rintro e w1 ⟨rfl, k1, k2⟩
 have HR := qh (show zW Je s = rVec Je (zo s).1 (zo s).2 from rfl)
 have c6 := z0 s
 have bW := qh (show (zo s).2.b.length ≤ 33554432 from by have := H.o.2.1; omega)
 have iD : ((zo s).1 : Int) ≤ 1048576 := by have := H.o.2.1; omega
 generalize (zo s).1 = n at *
 generalize (zo s).2 = s1 at *
 have H1 := qh (anQ k1 (anQ (H.o.2.2.2.1.fr k2 H.o.2.2.2.2.1) k2))
 have bt : Hq (gm < w1.heap.size ∧ g ≠ gm ∧ ∀ k, D k → k ≠ gm ∧ k < w1.heap.size) := ⟨H1.o.2.1.lt, fun e => H.o.2.2.2.2.1 e.symm, fun k hk => ⟨H.o.2.2.2.2.2 k hk, (H1.o.1.lt.2 k hk).1⟩⟩
 have fW : Hq ((¬ D g ∧ g < w1.heap.size) ∧ (¬ D gm ∧ gm < w1.heap.size)) := ⟨⟨fun q => (H1.o.1.lt.2 g q).2 rfl, H1.o.1.lt.1⟩, ⟨fun q => H.o.2.2.2.2.2 gm q rfl, H1.o.2.1.lt⟩⟩
 clear k1 k2 c6
 go_wp2_with fail
 go_loopw [69] (fun uN w' => ∃ (i : Nat) (va : Value), i ≤ n ∧ uN = .int .i64 i ∧ Hq (Blk w' gm #[q0, q1, q2, q3, q4, q5, q6, q7, q8, va, bN, bk, bl, bp, bZ, bY, cg] 37 ∧ OwnG ((Lay.glob (N + 1))) 69 w1.heap.size (fun k => ¬ D k ∧ k < w1.heap.size) w' (va) (rVec Je i s1).1 ∧ SpR D g lo (rVec Je i s1).2 w' ∧ Fr (fun k => k = g ∨ k = gm) w1 w')) (fun uN _ => n - (intOf uN).toNat)
 case atStart => exact ⟨0, _, nzQ _, rfl, H1.o.2.1, zv _ _ _ _ _, H1.o.1, Fr.refl _ _⟩
 case round =>
  obtain ⟨i, va, hi, rfl, hV⟩ := hrel
  obtain ⟨ap, am, ar, rfl⟩ := hV.o.2.1.shape
  by_cases aj : i < n
  ·have aU := qh (yD Je i s1)
   have gM := qh (yP Je i s1)
   have dF := qh (show (rVec Je i s1).2.b.length ≤ 33554432 from nlQ (yw Je zgK i s1) bW.o)
   obtain ⟨r2, aY⟩ := exQ (rVec Je (i + 1) s1)
   have aY := qh aY
   rw [aY.o] at aU
   generalize (rVec Je i s1).1 = xs at *
   generalize (rVec Je i s1).2 = t0 at *
   have bo := qh (show g < w1.heap.size from (H1.o.1).lt.1)
   go_wp2_with fail
   refine zj (yX (fun k => ¬ k = gm)) [kT 0, kT 1, kT 2, kT 3, kT 4, kT 5, kT 7, kT 9, kR 6, kR 8, kR 10, kT 11, kR 12, kR 13, kT 14, kT 15, kL 16] (by kernel_rfl) (by kernel_rfl) ?_
   simp only [zx, gzQ, gsQ]
   have HC := qh (fun W' (h : Fr (fun k => ¬ k = gm) wr.drew W') => (hV.o.1.fr ((zb _).fr h) (fun e => e rfl)).cell)
   have ce : Hq (Blk wr.drew gm #[q0, q1, q2, q3, q4, q5, q6, q7, q8, (.slice ap am ar), bN, bk, bl, bp, bZ, bY, cg] 37 ∧ OwnG ((Lay.glob (N + 1))) 69 w1.heap.size (fun k => ¬ D k ∧ k < w1.heap.size) wr.drew ((.slice ap am ar)) xs ∧ SpR D g lo t0 wr.drew ∧ Fr (fun k => k = g ∨ k = gm) w1 wr.drew) := ⟨hV.o.1.ext (zb _), hV.o.2.1.ext (zb _), hV.o.2.2.1.ext (zb _), hV.o.2.2.2.ext (zb _)⟩
   have ah := qh (show ∀ k, (Value.slice ap am ar).ownBlock = some k → w1.heap.size ≤ k ∧ k < wr.drew.heap.size from ce.o.2.1.lt)
   have dj := qh (show g < wr.drew.heap.size ∧ gm < wr.drew.heap.size ∧ (∀ k, D k → k ≠ g ∧ k ≠ gm ∧ k < w1.heap.size) from ⟨ce.o.2.2.1.lt.1, ce.o.1.lt, fun k hk => ⟨(ce.o.2.2.1.lt.2 k hk).2, bt.o.2.2 k hk⟩⟩)
   clear hV
   have ld := qh ce.o.2.2.2.size
   generalize wr.drew = W0 at *
   have cN := qh (show Je t0 = (⟨(zk t0).1, (jH (zk t0).2).1, (ya (jH (zk t0).2).2).1⟩, (ya (jH (zk t0).2).2).2) from rfl)
   repeat (apply item_take; rfl; rfl; rfl; rfl; exact fun _ _ _ _ h => h; (intro W e _ k; have q := HC.o W e; go_simp; exact k))
   apply zg; rfl; intro K hK; go_simp
   refine (jt ce.o.2.2.1).mono ?_
   rintro e W1 ⟨rfl, ks, kf⟩
   have gp := qh kf.size
   refine hK _ _ (kf.mono (fun k _ e e2 => bt.o.2.1 (by have e1 : k = g := e; rw [← e1, e2]))) ?_
   have df := qh (j4 t0)
   have bW := qh (show (zk t0).2.b.length ≤ 33554432 from nlQ (yr t0) dF.o)
   generalize (zk t0).1 = x0 at *
   generalize (zk t0).2 = t1 at *
   have ci : Hq (Blk W1 gm #[q0, q1, q2, q3, q4, q5, q6, q7, q8, (.slice ap am ar), bN, bk, bl, bp, bZ, bY, cg] 37 ∧ OwnG ((Lay.glob (N + 1))) 69 w1.heap.size (fun k => ¬ D k ∧ k < w1.heap.size) W1 ((.slice ap am ar)) xs ∧ SpR D g lo t1 W1 ∧ Fr (fun k => k = g ∨ k = gm) w1 W1) := ⟨ce.o.1.fr kf (fun e => bt.o.2.1 e.symm), ce.o.2.1.fr kf (fun k e => .inl (by have e' : k = g := e; rw [e']; exact fW.o.1)) (fun k hk e => by have e' : k = g := e; have := ah.o k hk; have := bo.o; omega), ks, Fr.trans ce.o.2.2.2 kf (fun _ _ h => h) (fun _ _ h => .inl h)⟩
   clear hK K kf ks ce
   repeat (apply item_take; rfl; rfl; rfl; rfl; exact fun _ _ _ _ h => h; (intro _ _ _ k; go_simp; exact k))
   apply zg; rfl; intro K hK; go_simp
   refine (zby ci.o.2.2.1).mono ?_
   rintro e W2 ⟨rfl, ks, kf⟩
   have mj := qh kf.size
   refine hK _ _ (kf.mono (fun k _ e e2 => bt.o.2.1 (by have e1 : k = g := e; rw [← e1, e2]))) ?_
   have gq := qh (show (jH t1).2.b.length ≤ 33554432 from nlQ (zaH t1) bW.o)
   generalize (jH t1).1 = x1 at *
   generalize (jH t1).2 = t2 at *
   have bO : Hq (Blk W2 gm #[q0, q1, q2, q3, q4, q5, q6, q7, q8, (.slice ap am ar), bN, bk, bl, bp, bZ, bY, cg] 37 ∧ OwnG ((Lay.glob (N + 1))) 69 w1.heap.size (fun k => ¬ D k ∧ k < w1.heap.size) W2 ((.slice ap am ar)) xs ∧ SpR D g lo t2 W2 ∧ Fr (fun k => k = g ∨ k = gm) w1 W2) := ⟨ci.o.1.fr kf (fun e => bt.o.2.1 e.symm), ci.o.2.1.fr kf (fun k e => .inl (by have e' : k = g := e; rw [e']; exact fW.o.1)) (fun k hk e => by have e' : k = g := e; have := ah.o k hk; have := bo.o; omega), ks, Fr.trans ci.o.2.2.2 kf (fun _ _ h => h) (fun _ _ h => .inl h)⟩
   clear hK K kf ks ci
   repeat (apply item_take; rfl; rfl; rfl; rfl; exact fun _ _ _ _ h => h; (intro _ _ _ k; go_simp; exact k))
   apply zg; rfl; intro K hK; go_simp
   refine (JH N D g lo t2 W2 bO.o.2.2.1 (by have := gq.o; omega)).mono ?_
   rintro e W3 ⟨cv, rfl, kc, ks, kf⟩
   have qw := qh kf.size
   obtain ⟨ol, o8, oa, rfl⟩ := y5 kc
   refine hK _ _ (kf.mono (fun k _ e e2 => bt.o.2.1 (by have e1 : k = g := e; rw [← e1, e2]))) ?_
   have kV := qh (show (ya t2).2.b.length ≤ 33554432 from nlQ (Jb t2) gq.o)
   generalize (ya t2).1 = x2 at *
   generalize (ya t2).2 = t3 at *
   have eD : Hq (Blk W3 gm #[q0, q1, q2, q3, q4, q5, q6, q7, q8, (.slice ap am ar), bN, bk, bl, bp, bZ, bY, cg] 37 ∧ OwnG ((Lay.glob (N + 1))) 69 w1.heap.size (fun k => ¬ D k ∧ k < w1.heap.size) W3 ((.slice ap am ar)) xs ∧ SpR D g lo t3 W3 ∧ Fr (fun k => k = g ∨ k = gm) w1 W3 ∧ (Lay.ins (N + 1)).slice.rd (aE D W0 W3) W3 [.slice ol o8 oa] x2) := ⟨bO.o.1.fr kf (fun e => bt.o.2.1 e.symm), bO.o.2.1.fr kf (fun k e => .inl (by have e' : k = g := e; rw [e']; exact fW.o.1)) (fun k hk e => by have e' : k = g := e; have := ah.o k hk; have := bo.o; omega), ks, Fr.trans bO.o.2.2.2 kf (fun _ _ h => h) (fun _ _ h => .inl h), Lay.mono _ kc (fun k hk => ⟨.inr (by have := hk.1; have := gp.o; have := mj.o; omega), hk.2⟩)⟩
   clear hK K kf ks kc bO
   repeat (apply item_take; rfl; rfl; rfl; rfl; exact fun _ _ _ _ h => h; (intro _ _ _ k; go_simp; exact k))
   apply zg; rfl; intro K hK; go_simp
   refine hK _ _ (za _ _).to ?_
   clear hK K
   apply zg; rfl; intro K hK
   refine zu ((Lay.glob (N + 1))) w1.heap.size (.tmp 75) (.tmp 83) _ _ _ 40 rfl Tryz.underlying30 zgJ rfl (by omega) (show 0 < 3 by decide) (.slice ap am ar) xs ⟨x0, x1, x2⟩ _ rfl rfl eD.o.2.1 ?_ eD.o.2.2.2.1.size (by rw [gM.o]; omega) ?_
   ·refine zbA (W0 := W0) (wL := w1) ?_ ld.o (fun k hk => (dj.o.2.2 k hk).2.2) ah.o
    exact ⟨[_], _, rfl, ⟨rfl, df.o⟩, [_], _, rfl, rfl, eD.o.2.2.2.2⟩
   intro v1 Wa h1 h2 h3 _
   refine hK _ _ (h3.mono (fun k _ e e2 => by have := (ah.o k e.symm).1; have := bt.o.1; omega)) ?_
   clear hK K
   obtain ⟨az, aR, aO, rfl⟩ := h1.shape
   have bz := yS (f := 9) eD.o.1 eD.o.2.1 eD.o.2.2.2.1 (X := (fun k => ¬ D k ∧ k < w1.heap.size)) (S := (fun k => k = g ∨ k = gm)) fW.o.2 (.inr rfl) bt.o.1 rfl h1 h2
   have h6 : Hq (Blk Wa gm #[q0, q1, q2, q3, q4, q5, q6, q7, q8, (.slice ap am ar), bN, bk, bl, bp, bZ, bY, cg] 37 ∧ Blk (Wa.setCell ⟨gm, 9, none⟩ (.slice az aR aO)) gm #[q0, q1, q2, q3, q4, q5, q6, q7, q8, (.slice az aR aO), bN, bk, bl, bp, bZ, bY, cg] 37 ∧ OwnG ((Lay.glob (N + 1))) 69 w1.heap.size (fun k => ¬ D k ∧ k < w1.heap.size) (Wa.setCell ⟨gm, 9, none⟩ (.slice az aR aO)) ((.slice az aR aO)) r2.1 ∧ SpR D g lo r2.2 (Wa.setCell ⟨gm, 9, none⟩ (.slice az aR aO)) ∧ Fr (fun k => k = g ∨ k = gm) w1 (Wa.setCell ⟨gm, 9, none⟩ (.slice az aR aO))) := by
    rw [aU.o, cN.o]
    have gO := eD.o.2.2.1.fr h2 (fun e => by have := ah.o g e.symm; have := bo.o; omega) (fun k hk e => by have := ah.o k e.symm; have := dj.o.2.2 k hk; omega)
    refine ⟨bz.1, ?_, bz.2.2.1, gO.fr (zf _ _ _) (fun e => bt.o.2.1 e) (fun k hk e => (dj.o.2.2 k hk).2.1 e), bz.2.2.2⟩
    have := bz.2.1
    simpa using this
   have fp := h6.o.1.cell
   have ep := h6.o.1.frz
   clear h1 h2 h3 bz eD
   repeat (apply item_take; rfl; rfl; rfl; rfl; exact fun _ _ _ _ h => h; (intro _ _ _ k; go_simp; exact k))
   apply zn; rfl; intro K hK; go_simp
   refine hK _ _ ?_
   clear hK K fp ep
   apply zm
   have eh := qh h6.o.2
   go_wp2
   go_roundw
   case rel => exact ⟨i + 1, _, by omega, by go_num, by rw [aY.o]; exact eh.o⟩
   case measure => simp [intOf]; omega
  ·obtain rfl : i = n := by omega
   go_wp2
   go_end0
   refine ⟨rfl, ⟨_, hV.o.1, ?_⟩, ?_, ?_⟩
   ·rw [HR.o]; exact hV.o.2.1.sliceE H1.o.2.2.size
   ·rw [HR.o]; exact hV.o.2.2.1
   ·exact Fr.trans H1.o.2.2 hV.o.2.2.2 (fun _ _ e => .inl e) (fun _ _ e => e)
theorem za8 : (Tryz.prog.info? 98).map (fun i => (i.zero, i.size, i.bytes)) = some (some (.agg #[.string ⟨#[]⟩, .int .i64 0, .int .u32 0]), Lay.expo.size, 32) := by kernel_rfl
theorem zgL (s : St) : (j5 s).2.b.length ≤ s.b.length := by
 have h := nlQ (ZO (zi (zr s).2).2) (nlQ (yc _) (jv s))
 unfold j5
 dsimp only
 split
 ·exact nzQ _
 ·exact h
variable {D : Nat → Prop} {g gm : Nat} {lo : Bool} {s : St} {w : World} {q0 q1 q2 q3 q4 q5 q6 q7 q8 q9 bk bl bp bZ bY cg : Value}
theorem zfd (h : SpR D g lo s w) (hB : Blk w gm #[q0, q1, q2, q3, q4, q5, q6, q7, q8, q9, .slice none 0 0, bk, bl, bp, bZ, bY, cg] 37) (ag : ¬ gm = g) (dP : ∀ k, D k → ¬ k = gm) (hl : s.b.length ≤ 1048576) :
 Calls Tryz.prog 54 #[.pointer (some ⟨g, 0, none⟩), .int .i64 7, .pointer (some ⟨gm, 0, none⟩)] w fun e w' => e = .returned (.tuple #[]) ∧ (∃ v, Blk w' gm #[q0, q1, q2, q3, q4, q5, q6, q7, q8, q9, v, bk, bl, bp, bZ, bY, cg] 37 ∧ Lay.expo.slice.rd (aE D w w') w' [v] (zW j5 s).1) ∧ SpR D g lo (zW j5 s).2 w' ∧ Fr (fun k => k = g ∨ k = gm) w w' := by
 have H := qh (anQ h (anQ hl (anQ h.lt.1 (anQ hB (anQ ag dP)))))
 clear h hl hB ag dP
 go_enter Tryz.func54, Tryz.ntmps54
 go_wp2_with fail
 refine (z6 H.o.1 (by have := H.o.2.1; omega)).mono ?_
 rintro e w1 ⟨rfl, k1, k2⟩
 have HR := qh (show zW j5 s = rVec j5 (zo s).1 (zo s).2 from rfl)
 have c6 := z0 s
 have bW := qh (show (zo s).2.b.length ≤ 33554432 from by have := H.o.2.1; omega)
 have iD : ((zo s).1 : Int) ≤ 1048576 := by have := H.o.2.1; omega
 generalize (zo s).1 = n at *
 generalize (zo s).2 = s1 at *
 have H1 := qh (anQ k1 (anQ (H.o.2.2.2.1.fr k2 H.o.2.2.2.2.1) k2))
 have bt : Hq (gm < w1.heap.size ∧ g ≠ gm ∧ (∀ k, D k → k ≠ gm ∧ k < w1.heap.size) ∧ g < w1.heap.size) := ⟨H1.o.2.1.lt, fun e => H.o.2.2.2.2.1 e.symm, fun k hk => ⟨H.o.2.2.2.2.2 k hk, (H1.o.1.lt.2 k hk).1⟩, H1.o.1.lt.1⟩
 clear k1 k2 c6
 go_wp2_with fail
 go_loopw [92] (fun uO w' => ∃ (i : Nat) (va : Value), i ≤ n ∧ uO = .int .i64 i ∧ Hq (Blk w' gm #[q0, q1, q2, q3, q4, q5, q6, q7, q8, q9, va, bk, bl, bp, bZ, bY, cg] 37 ∧ OwnG Lay.expo 98 w1.heap.size (fun k => k = g ∨ k = gm) w' va ((rVec j5 i s1).1) ∧ SpR D g lo (rVec j5 i s1).2 w' ∧ Fr (fun k => k = g ∨ k = gm) w1 w')) (fun uO _ => n - (intOf uO).toNat)
 case atStart => exact ⟨0, _, nzQ _, rfl, H1.o.2.1, zv _ _ _ _ _, H1.o.1, Fr.refl _ _⟩
 case round =>
  obtain ⟨i, va, hi, rfl, hV⟩ := hrel
  obtain ⟨ap, am, ar, rfl⟩ := hV.o.2.1.shape
  by_cases aj : i < n
  ·have aU := qh (yD j5 i s1)
   have gM := qh (yP j5 i s1)
   have dF := qh (show (rVec j5 i s1).2.b.length ≤ 33554432 from nlQ (yw j5 zgL i s1) bW.o)
   obtain ⟨r2, aY⟩ := exQ (rVec j5 (i + 1) s1)
   have aY := qh aY
   rw [aY.o] at aU
   generalize (rVec j5 i s1).1 = xs at *
   generalize (rVec j5 i s1).2 = t0 at *
   have cN := qh (show j5 t0 = (⟨(zr t0).1, ((zi (zr t0).2).1 : Int), UInt32.ofNat (zc (zi (zr t0).2).2).1⟩, if (zc (zi (zr t0).2).2).2.v = 0 ∧ 3 < (zi (zr t0).2).1 then (zc (zi (zr t0).2).2).2.fail 1 else (zc (zi (zr t0).2).2).2) from rfl)
   have ah := qh (show ∀ k, (Value.slice ap am ar).ownBlock = some k → w1.heap.size ≤ k ∧ k < wr.heap.size from hV.o.2.1.lt)
   have er : Hq (∀ k, (Value.slice ap am ar).ownBlock = some k → ¬ k = g ∧ ¬ k = gm) := fun k hk => ⟨fun e => by have := (ah.o k hk).1; have := bt.o.2.2.2; omega, fun e => by have := (ah.o k hk).1; have := bt.o.1; omega⟩
   go_wp2_with fail
   refine (Ja hV.o.2.2.1 (by have := dF.o; omega)).mono ?_
   rintro e w2 ⟨rfl, k1, k2⟩
   have gf := qh (Jc t0)
   have gq := qh (show (zr t0).2.b.length ≤ 33554432 from nlQ (jv t0) dF.o)
   generalize (zr t0).1 = nm at *
   generalize (zr t0).2 = t1 at *
   have ci : Hq (Blk w2 gm #[q0, q1, q2, q3, q4, q5, q6, q7, q8, q9, (.slice ap am ar), bk, bl, bp, bZ, bY, cg] 37 ∧ OwnG Lay.expo 98 w1.heap.size (fun k => k = g ∨ k = gm) w2 (.slice ap am ar) (xs) ∧ SpR D g lo t1 w2 ∧ Fr (fun k => k = g ∨ k = gm) w1 w2) := ⟨hV.o.1.fr k2 (fun e => bt.o.2.1 e.symm), hV.o.2.1.fr k2 (fun k e => .inl (.inl e)) (fun k hk e => (er.o k hk).1 e), k1, Fr.trans hV.o.2.2.2 k2 (fun _ _ h => h) (fun _ _ h => .inl h)⟩
   clear k1 k2 hV
   go_wp2_with fail
   refine (yh ci.o.2.2.1).mono ?_
   rintro e w3 ⟨rfl, k1, k2⟩
   have kV := qh (show (zi t1).2.b.length ≤ 33554432 from nlQ (yc t1) gq.o)
   have fM := y4 t1
   generalize (zi t1).1 = c at *
   generalize (zi t1).2 = t2 at *
   have bO : Hq (Blk w3 gm #[q0, q1, q2, q3, q4, q5, q6, q7, q8, q9, (.slice ap am ar), bk, bl, bp, bZ, bY, cg] 37 ∧ OwnG Lay.expo 98 w1.heap.size (fun k => k = g ∨ k = gm) w3 (.slice ap am ar) (xs) ∧ SpR D g lo t2 w3 ∧ Fr (fun k => k = g ∨ k = gm) w1 w3) := ⟨ci.o.1.fr k2 (fun e => bt.o.2.1 e.symm), ci.o.2.1.fr k2 (fun k e => .inl (.inl e)) (fun k hk e => (er.o k hk).1 e), k1, Fr.trans ci.o.2.2.2 k2 (fun _ _ h => h) (fun _ _ h => .inl h)⟩
   clear k1 k2 ci
   go_wp2_with fail
   refine (zK D g lo t2 w3 bO.o.2.2.1 (by have := kV.o; omega)).mono ?_
   rintro e w4 ⟨rfl, k1, k2⟩
   have dH := qh (zL t2)
   generalize (zc t2).1 = x at *
   generalize (zc t2).2 = t3 at *
   have eD : Hq (Blk w4 gm #[q0, q1, q2, q3, q4, q5, q6, q7, q8, q9, (.slice ap am ar), bk, bl, bp, bZ, bY, cg] 37 ∧ OwnG Lay.expo 98 w1.heap.size (fun k => k = g ∨ k = gm) w4 (.slice ap am ar) (xs) ∧ SpR D g lo t3 w4 ∧ Fr (fun k => k = g ∨ k = gm) w1 w4) := ⟨bO.o.1.fr k2 (fun e => bt.o.2.1 e.symm), bO.o.2.1.fr k2 (fun k e => .inl (.inl e)) (fun k hk e => (er.o k hk).1 e), k1, Fr.trans bO.o.2.2.2 k2 (fun _ _ h => h) (fun _ _ h => .inl h)⟩
   clear k1 k2 bO
   go_wp2_with fail
   obtain ⟨ge, cm⟩ := exQ (w4.heap.size)
   obtain ⟨W4, da⟩ : ∃ W4, w4.alloc (.cells #[.string (zd nm), .int .i64 (c : Int), .int .u32 (x : Int)] 98) = W4 := ⟨_, rfl⟩
   have HG : Hq (Blk W4 gm #[q0, q1, q2, q3, q4, q5, q6, q7, q8, q9, (.slice ap am ar), bk, bl, bp, bZ, bY, cg] 37 ∧ OwnG Lay.expo 98 w1.heap.size (fun k => k = g ∨ k = gm) W4 (.slice ap am ar) (xs) ∧ SpR D g lo t3 W4 ∧ Fr (fun k => k = g ∨ k = gm) w1 W4) := by
    subst da
    exact ⟨eD.o.1.ext (za _ _), eD.o.2.1.ext (za _ _), eD.o.2.2.1.ext (za _ _), eD.o.2.2.2.ext (za _ _)⟩
   have HE : Hq (Blk W4 ge #[.string (zd nm), .int .i64 (c : Int), .int .u32 (x : Int)] 98) := by subst da; rw [← cm]; exact zl _ _ _
   have ag : Hq (¬ ge = g ∧ (∀ k, D k → ¬ k = ge) ∧ w1.heap.size ≤ ge ∧ ¬ ge = gm ∧ ∀ k, (Value.slice ap am ar).ownBlock = some k → ¬ k = ge) := ⟨by have := eD.o.2.2.1.lt.1; omega, fun k hk => by have := (eD.o.2.2.1.lt.2 k hk).1; omega, by have := eD.o.2.2.2.size; omega, by have := eD.o.1.lt; omega, fun k hk => by have := (eD.o.2.1.lt k hk).2; omega⟩
   have co := HE.o.cell
   rw [da, cm]
   clear da cm eD
   refine (z8 HG.o.2.2.1).mono ?_
   rintro e W5 ⟨rfl, rfl⟩
   have g5 : Hq ((zd nm).size ≤ maxLen ∧ (c : Int) ≤ 9223372036854775807) := ⟨yd (by have := gf.o; have := dF.o; omega), by omega⟩
   by_cases hv : t3.v = 0
   case' neg =>
    rw [decide_eq_false hv]
    obtain ⟨WW, rfl⟩ : ∃ WW, WW = W5 := ⟨_, rfl⟩
    have HT : Hq (Blk WW gm #[q0, q1, q2, q3, q4, q5, q6, q7, q8, q9, (.slice ap am ar), bk, bl, bp, bZ, bY, cg] 37 ∧ OwnG Lay.expo 98 w1.heap.size (fun k => k = g ∨ k = gm) WW (.slice ap am ar) (xs) ∧ SpR D g lo t3 WW ∧ Fr (fun k => k = g ∨ k = gm) w1 WW) := HG.o
    have oh := HE
    clear HG
    go_wp2_with fail
    clear co
    refine zj (yX (fun k => ¬ (k = gm ∨ k = ge))) [kT 0, kT 1, kT 2, kT 3, kT 4, kT 5, kR 6, kR 7, kT 8, kT 9, kL 10] (by kernel_rfl) (by kernel_rfl) ?_
    simp only [zx, gzQ, gsQ]
    have HC := qh (fun W' (h : Fr (fun k => ¬ (k = gm ∨ k = ge)) WW.drew W') => anQ (HT.o.1.fr ((zb _).fr h) (fun e => e (.inl rfl))).cell (oh.o.fr ((zb _).fr h) (fun e => e (.inr rfl))).cell)
    have gR : Hq (Blk WW.drew gm #[q0, q1, q2, q3, q4, q5, q6, q7, q8, q9, (.slice ap am ar), bk, bl, bp, bZ, bY, cg] 37 ∧ OwnG Lay.expo 98 w1.heap.size (fun k => k = g ∨ k = gm) WW.drew (.slice ap am ar) (xs) ∧ SpR D g lo t3 WW.drew ∧ Fr (fun k => k = g ∨ k = gm) w1 WW.drew) := ⟨HT.o.1.ext (zb _), HT.o.2.1.ext (zb _), HT.o.2.2.1.ext (zb _), HT.o.2.2.2.ext (zb _)⟩
    clear HT oh
    generalize WW.drew = W0 at *
    repeat (apply item_take; rfl; rfl; rfl; rfl; exact fun _ _ _ _ h => h; (intro W e _ k; obtain ⟨q, q2⟩ := HC.o W e; go_simp; exact k))
    apply zg; rfl; intro K hK; go_simp
    refine hK _ _ (za _ _).to ?_
    clear hK K
    apply zg; rfl; intro K hK
    refine zu Lay.expo w1.heap.size (.tmp 114) (.tmp 116) _ _ _ 32 rfl Tryz.underlying31 za8 rfl (by omega) (by decide) (.slice ap am ar) xs ⟨nm, (c : Int), UInt32.ofNat x⟩ _ rfl rfl gR.o.2.1 ?_ gR.o.2.2.2.size (by rw [gM.o]; omega) ?_
    ·refine ⟨[_], _, rfl, ⟨rfl, g5.o.1⟩, [_], _, rfl, ⟨rfl, by dsimp only; omega, g5.o.2⟩, ?_⟩
     show [Value.int .u32 _] = [Value.int .u32 ((UInt32.ofNat x).toNat : Int)]
     rw [jw dH.o]
    intro v1 Wa h1 h2 h3 _
    refine hK _ _ (h3.mono (fun k _ e e2 => by
     have := (ah.o k e.symm).1
     have := bt.o.1
     rcases e2 with e2 | e2
     ·omega
     ·exact ag.o.2.2.2.2 k e.symm e2)) ?_
    clear hK K
    obtain ⟨az, aR, aO, rfl⟩ := h1.shape
    have bz := yS (f := 10) gR.o.1 gR.o.2.1 gR.o.2.2.2 (X := (fun k => k = g ∨ k = gm)) (S := (fun k => k = g ∨ k = gm)) (.inr rfl) (.inr rfl) bt.o.1 rfl h1 h2
    have h6 : Hq (Blk Wa gm #[q0, q1, q2, q3, q4, q5, q6, q7, q8, q9, (.slice ap am ar), bk, bl, bp, bZ, bY, cg] 37 ∧ Blk (Wa.setCell ⟨gm, 10, none⟩ (.slice az aR aO)) gm #[q0, q1, q2, q3, q4, q5, q6, q7, q8, q9, (.slice az aR aO), bk, bl, bp, bZ, bY, cg] 37 ∧ OwnG Lay.expo 98 w1.heap.size (fun k => k = g ∨ k = gm) (Wa.setCell ⟨gm, 10, none⟩ (.slice az aR aO)) (.slice az aR aO) (r2.1) ∧ SpR D g lo r2.2 (Wa.setCell ⟨gm, 10, none⟩ (.slice az aR aO)) ∧ Fr (fun k => k = g ∨ k = gm) w1 (Wa.setCell ⟨gm, 10, none⟩ (.slice az aR aO))) := by
     rw [aU.o, cN.o]
     have gO := gR.o.2.2.1.fr h2 (fun e => (er.o g e.symm).1 rfl) (fun k hk e => by have := (ah.o k e.symm).1; have := (bt.o.2.2.1 k hk).2; omega)
     refine ⟨bz.1, ?_, bz.2.2.1, ?_, bz.2.2.2⟩
     ·have := bz.2.1
      simpa using this
     ·have := gO.fr (zf Wa ⟨gm, 10, none⟩ (.slice az aR aO)) (fun e => bt.o.2.1 e) (fun k hk e => (bt.o.2.2.1 k hk).1 e)
      rw [if_neg (fun q => hv q.1)]; exact this
   case' pos =>
    rw [decide_eq_true hv]
    by_cases hc : 3 < c
    case' neg =>
     have dc : decide ((3 : Int) < (c : Int)) = false := decide_eq_false (by omega)
     obtain ⟨WW, rfl⟩ : ∃ WW, WW = W5 := ⟨_, rfl⟩
     have HT : Hq (Blk WW gm #[q0, q1, q2, q3, q4, q5, q6, q7, q8, q9, (.slice ap am ar), bk, bl, bp, bZ, bY, cg] 37 ∧ OwnG Lay.expo 98 w1.heap.size (fun k => k = g ∨ k = gm) WW (.slice ap am ar) (xs) ∧ SpR D g lo t3 WW ∧ Fr (fun k => k = g ∨ k = gm) w1 WW) := HG.o
     have oh := HE
     clear HG
     go_wp2_with fail
     clear co
     refine zj (yX (fun k => ¬ (k = gm ∨ k = ge))) [kT 0, kT 1, kT 2, kT 3, kT 4, kT 5, kR 6, kR 7, kT 8, kT 9, kL 10] (by kernel_rfl) (by kernel_rfl) ?_
     simp only [zx, gzQ, gsQ]
     have HC := qh (fun W' (h : Fr (fun k => ¬ (k = gm ∨ k = ge)) WW.drew W') => anQ (HT.o.1.fr ((zb _).fr h) (fun e => e (.inl rfl))).cell (oh.o.fr ((zb _).fr h) (fun e => e (.inr rfl))).cell)
     have gR : Hq (Blk WW.drew gm #[q0, q1, q2, q3, q4, q5, q6, q7, q8, q9, (.slice ap am ar), bk, bl, bp, bZ, bY, cg] 37 ∧ OwnG Lay.expo 98 w1.heap.size (fun k => k = g ∨ k = gm) WW.drew (.slice ap am ar) (xs) ∧ SpR D g lo t3 WW.drew ∧ Fr (fun k => k = g ∨ k = gm) w1 WW.drew) := ⟨HT.o.1.ext (zb _), HT.o.2.1.ext (zb _), HT.o.2.2.1.ext (zb _), HT.o.2.2.2.ext (zb _)⟩
     clear HT oh
     generalize WW.drew = W0 at *
     repeat (apply item_take; rfl; rfl; rfl; rfl; exact fun _ _ _ _ h => h; (intro W e _ k; obtain ⟨q, q2⟩ := HC.o W e; go_simp; exact k))
     apply zg; rfl; intro K hK; go_simp
     refine hK _ _ (za _ _).to ?_
     clear hK K
     apply zg; rfl; intro K hK
     refine zu Lay.expo w1.heap.size (.tmp 114) (.tmp 116) _ _ _ 32 rfl Tryz.underlying31 za8 rfl (by omega) (by decide) (.slice ap am ar) xs ⟨nm, (c : Int), UInt32.ofNat x⟩ _ rfl rfl gR.o.2.1 ?_ gR.o.2.2.2.size (by rw [gM.o]; omega) ?_
     ·refine ⟨[_], _, rfl, ⟨rfl, g5.o.1⟩, [_], _, rfl, ⟨rfl, by dsimp only; omega, g5.o.2⟩, ?_⟩
      show [Value.int .u32 _] = [Value.int .u32 ((UInt32.ofNat x).toNat : Int)]
      rw [jw dH.o]
     intro v1 Wa h1 h2 h3 _
     refine hK _ _ (h3.mono (fun k _ e e2 => by
      have := (ah.o k e.symm).1
      have := bt.o.1
      rcases e2 with e2 | e2
      ·omega
      ·exact ag.o.2.2.2.2 k e.symm e2)) ?_
     clear hK K
     obtain ⟨az, aR, aO, rfl⟩ := h1.shape
     have bz := yS (f := 10) gR.o.1 gR.o.2.1 gR.o.2.2.2 (X := (fun k => k = g ∨ k = gm)) (S := (fun k => k = g ∨ k = gm)) (.inr rfl) (.inr rfl) bt.o.1 rfl h1 h2
     have h6 : Hq (Blk Wa gm #[q0, q1, q2, q3, q4, q5, q6, q7, q8, q9, (.slice ap am ar), bk, bl, bp, bZ, bY, cg] 37 ∧ Blk (Wa.setCell ⟨gm, 10, none⟩ (.slice az aR aO)) gm #[q0, q1, q2, q3, q4, q5, q6, q7, q8, q9, (.slice az aR aO), bk, bl, bp, bZ, bY, cg] 37 ∧ OwnG Lay.expo 98 w1.heap.size (fun k => k = g ∨ k = gm) (Wa.setCell ⟨gm, 10, none⟩ (.slice az aR aO)) (.slice az aR aO) (r2.1) ∧ SpR D g lo r2.2 (Wa.setCell ⟨gm, 10, none⟩ (.slice az aR aO)) ∧ Fr (fun k => k = g ∨ k = gm) w1 (Wa.setCell ⟨gm, 10, none⟩ (.slice az aR aO))) := by
      rw [aU.o, cN.o]
      have gO := gR.o.2.2.1.fr h2 (fun e => (er.o g e.symm).1 rfl) (fun k hk e => by have := (ah.o k e.symm).1; have := (bt.o.2.2.1 k hk).2; omega)
      refine ⟨bz.1, ?_, bz.2.2.1, ?_, bz.2.2.2⟩
      ·have := bz.2.1
       simpa using this
      ·have := gO.fr (zf Wa ⟨gm, 10, none⟩ (.slice az aR aO)) (fun e => bt.o.2.1 e) (fun k hk e => (bt.o.2.2.1 k hk).1 e)
       rw [if_neg (fun q => by have := q.2; omega)]; exact this
    case' pos =>
     have dc : decide ((3 : Int) < (c : Int)) = true := decide_eq_true (by omega)
     go_wp2_with fail
     refine (zp D g lo t3 1 W5 HG.o.2.2.1).mono ?_
     rintro e WW ⟨rfl, k1, k2⟩
     have HT : Hq (Blk WW gm #[q0, q1, q2, q3, q4, q5, q6, q7, q8, q9, (.slice ap am ar), bk, bl, bp, bZ, bY, cg] 37 ∧ OwnG Lay.expo 98 w1.heap.size (fun k => k = g ∨ k = gm) WW (.slice ap am ar) (xs) ∧ SpR D g lo (t3.fail 1) WW ∧ Fr (fun k => k = g ∨ k = gm) w1 WW) := ⟨HG.o.1.fr k2 (fun e => bt.o.2.1 e.symm), HG.o.2.1.fr k2 (fun k e => .inl (.inl e)) (fun k hk e => (er.o k hk).1 e), k1, Fr.trans HG.o.2.2.2 k2 (fun _ _ h => h) (fun _ _ h => .inl h)⟩
     have oh := qh (HE.o.fr k2 ag.o.1)
     clear k1 k2 HG
     go_wp2_with fail
     clear co
     refine zj (yX (fun k => ¬ (k = gm ∨ k = ge))) [kT 0, kT 1, kT 2, kT 3, kT 4, kT 5, kR 6, kR 7, kT 8, kT 9, kL 10] (by kernel_rfl) (by kernel_rfl) ?_
     simp only [zx, gzQ, gsQ]
     have HC := qh (fun W' (h : Fr (fun k => ¬ (k = gm ∨ k = ge)) WW.drew W') => anQ (HT.o.1.fr ((zb _).fr h) (fun e => e (.inl rfl))).cell (oh.o.fr ((zb _).fr h) (fun e => e (.inr rfl))).cell)
     have gR : Hq (Blk WW.drew gm #[q0, q1, q2, q3, q4, q5, q6, q7, q8, q9, (.slice ap am ar), bk, bl, bp, bZ, bY, cg] 37 ∧ OwnG Lay.expo 98 w1.heap.size (fun k => k = g ∨ k = gm) WW.drew (.slice ap am ar) (xs) ∧ SpR D g lo (t3.fail 1) WW.drew ∧ Fr (fun k => k = g ∨ k = gm) w1 WW.drew) := ⟨HT.o.1.ext (zb _), HT.o.2.1.ext (zb _), HT.o.2.2.1.ext (zb _), HT.o.2.2.2.ext (zb _)⟩
     clear HT oh
     generalize WW.drew = W0 at *
     repeat (apply item_take; rfl; rfl; rfl; rfl; exact fun _ _ _ _ h => h; (intro W e _ k; obtain ⟨q, q2⟩ := HC.o W e; go_simp; exact k))
     apply zg; rfl; intro K hK; go_simp
     refine hK _ _ (za _ _).to ?_
     clear hK K
     apply zg; rfl; intro K hK
     refine zu Lay.expo w1.heap.size (.tmp 114) (.tmp 116) _ _ _ 32 rfl Tryz.underlying31 za8 rfl (by omega) (by decide) (.slice ap am ar) xs ⟨nm, (c : Int), UInt32.ofNat x⟩ _ rfl rfl gR.o.2.1 ?_ gR.o.2.2.2.size (by rw [gM.o]; omega) ?_
     ·refine ⟨[_], _, rfl, ⟨rfl, g5.o.1⟩, [_], _, rfl, ⟨rfl, by dsimp only; omega, g5.o.2⟩, ?_⟩
      show [Value.int .u32 _] = [Value.int .u32 ((UInt32.ofNat x).toNat : Int)]
      rw [jw dH.o]
     intro v1 Wa h1 h2 h3 _
     refine hK _ _ (h3.mono (fun k _ e e2 => by
      have := (ah.o k e.symm).1
      have := bt.o.1
      rcases e2 with e2 | e2
      ·omega
      ·exact ag.o.2.2.2.2 k e.symm e2)) ?_
     clear hK K
     obtain ⟨az, aR, aO, rfl⟩ := h1.shape
     have bz := yS (f := 10) gR.o.1 gR.o.2.1 gR.o.2.2.2 (X := (fun k => k = g ∨ k = gm)) (S := (fun k => k = g ∨ k = gm)) (.inr rfl) (.inr rfl) bt.o.1 rfl h1 h2
     have h6 : Hq (Blk Wa gm #[q0, q1, q2, q3, q4, q5, q6, q7, q8, q9, (.slice ap am ar), bk, bl, bp, bZ, bY, cg] 37 ∧ Blk (Wa.setCell ⟨gm, 10, none⟩ (.slice az aR aO)) gm #[q0, q1, q2, q3, q4, q5, q6, q7, q8, q9, (.slice az aR aO), bk, bl, bp, bZ, bY, cg] 37 ∧ OwnG Lay.expo 98 w1.heap.size (fun k => k = g ∨ k = gm) (Wa.setCell ⟨gm, 10, none⟩ (.slice az aR aO)) (.slice az aR aO) (r2.1) ∧ SpR D g lo r2.2 (Wa.setCell ⟨gm, 10, none⟩ (.slice az aR aO)) ∧ Fr (fun k => k = g ∨ k = gm) w1 (Wa.setCell ⟨gm, 10, none⟩ (.slice az aR aO))) := by
      rw [aU.o, cN.o]
      have gO := gR.o.2.2.1.fr h2 (fun e => (er.o g e.symm).1 rfl) (fun k hk e => by have := (ah.o k e.symm).1; have := (bt.o.2.2.1 k hk).2; omega)
      refine ⟨bz.1, ?_, bz.2.2.1, ?_, bz.2.2.2⟩
      ·have := bz.2.1
       simpa using this
      ·have := gO.fr (zf Wa ⟨gm, 10, none⟩ (.slice az aR aO)) (fun e => bt.o.2.1 e) (fun k hk e => (bt.o.2.2.1 k hk).1 e)
       rw [if_pos ⟨hv, hc⟩]; exact this
   all_goals
    have fp := h6.o.1.cell
    have ep := h6.o.1.frz
    clear h1 h2 h3 bz gR
    repeat (apply item_take; rfl; rfl; rfl; rfl; exact fun _ _ _ _ h => h; (intro _ _ _ k; go_simp; exact k))
    apply zn; rfl; intro K hK; go_simp
    refine hK _ _ ?_
    clear hK K fp ep
    apply zm
    have eh := qh h6.o.2
    go_wp2
    go_roundw
    case rel => exact ⟨i + 1, _, by omega, by go_num, by rw [aY.o]; exact eh.o⟩
    case measure => simp [intOf]; omega
  ·obtain rfl : i = n := by omega
   go_wp2
   go_end0
   refine ⟨rfl, ⟨_, hV.o.1, ?_⟩, ?_, ?_⟩
   ·rw [HR.o]; exact Lay.mono _ (OwnG.sliceF zg3 hV.o.2.1) (fun k hk => ⟨.inr (by have := H1.o.2.2.size; have := hk.1; omega), hk.2⟩)
   ·rw [HR.o]; exact hV.o.2.2.1
   ·exact Fr.trans H1.o.2.2 hV.o.2.2.2 (fun _ _ e => .inl e) (fun _ _ e => e)
theorem zfe {bN : Value} (h : SpR D g lo s w) (hB : Blk w gm #[q0, q1, q2, q3, q4, q5, q6, q7, q8, q9, bN, bk, bl, bp, bZ, bY, cg] 37) (ag : ¬ gm = g) (dP : ∀ k, D k → ¬ k = gm) (hl : s.b.length ≤ 1048576) :
 Calls Tryz.prog 54 #[.pointer (some ⟨g, 0, none⟩), .int .i64 8, .pointer (some ⟨gm, 0, none⟩)] w fun e w' => e = .returned (.tuple #[]) ∧ Blk w' gm #[q0, .bool true, .int .u32 ((rNum s).1.toNat : Int), q3, q4, q5, q6, q7, q8, q9, bN, bk, bl, bp, bZ, bY, cg] 37 ∧ SpR D g lo (rNum s).2 w' ∧ Fr (fun k => k = g ∨ k = gm) w w' := by
 have H := qh (anQ h (anQ hl (anQ h.lt.1 (anQ hB (anQ ag dP)))))
 clear h hl hB ag dP
 go_enter Tryz.func54, Tryz.ntmps54
 go_wp2_with fail
 refine (zK D g lo s w H.o.1 (by have := H.o.2.1; omega)).mono ?_
 rintro e w1 ⟨rfl, k1, k2⟩
 have dH := zL s
 have hr := qh (show rNum s = (UInt32.ofNat (zc s).1, (zc s).2) from rfl)
 generalize (zc s).1 = x at *
 generalize (zc s).2 = s1 at *
 have cz := H.o.2.2.2.1.fr k2 H.o.2.2.2.2.1
 have au := cz.cell
 have eR := cz.frz
 have H1 := qh (anQ k1 (anQ k2 cz))
 clear k1 k2 cz
 go_wp2
 go_end0
 have ed := zf w1 ⟨gm, 1, none⟩ (.bool true)
 have cT := zf (w1.setCell ⟨gm, 1, none⟩ (.bool true)) ⟨gm, 2, none⟩ (.int .u32 (x : Int))
 have hs := Fr.trans ed cT (U := fun k => k = gm) (fun _ _ e => e) (fun _ _ e => e)
 rw [hr.o]
 refine ⟨rfl, ?_, H1.o.1.fr hs (fun e => H.o.2.2.2.2.1 e.symm) (fun k hk e => H.o.2.2.2.2.2 k hk e), Fr.trans H1.o.2.1 hs (fun _ _ e => .inl e) (fun _ _ e => .inr e)⟩
 have := (H1.o.2.2.set 1 (.bool true)).set 2 (.int .u32 (x : Int))
 dsimp only
 rw [jw dH]
 simpa using this
theorem zgM : (Tryz.prog.info? 71).map (fun i => (i.zero, i.size, i.bytes)) = some (some (.agg #[.int .u32 0, .slice none 0 0, .slice none 0 0]), (Lay.elem 1).size, 56) := by kernel_rfl
theorem zad (s : St) : (zZ s).2.b.length ≤ s.b.length := zcJ _ ZO s
theorem zgN (s : St) : (Jf s).2.b.length ≤ s.b.length := nlQ (zad _) (nlQ (Jb _) (ZO _))
theorem zff (N : Nat) (D : Nat → Prop) (g gm : Nat) (lo : Bool) (s : St) (w : World) (q0 q1 q2 q3 q4 q5 q6 q7 q9 bN bk bl bp bZ bY cg : Value) (h : SpR D g lo s w) (hB : Blk w gm #[q0, q1, q2, q3, q4, q5, q6, q7, .slice none 0 0, q9, bN, bk, bl, bp, bZ, bY, cg] 37) (ag : ¬ gm = g) (dP : ∀ k, D k → ¬ k = gm) (hl : s.b.length ≤ 1048576) :
 Calls Tryz.prog 54 #[.pointer (some ⟨g, 0, none⟩), .int .i64 9, .pointer (some ⟨gm, 0, none⟩)] w fun e w' => e = .returned (.tuple #[]) ∧ (∃ v, Blk w' gm #[q0, q1, q2, q3, q4, q5, q6, q7, v, q9, bN, bk, bl, bp, bZ, bY, cg] 37 ∧ (Lay.elem (N + 1)).slice.rd (aE D w w') w' [v] (zW Jf s).1) ∧ SpR D g lo (zW Jf s).2 w' ∧ Fr (fun k => k = g ∨ k = gm) w w' := by
 have H := qh (anQ h (anQ hl (anQ h.lt.1 (anQ hB (anQ ag dP)))))
 clear h hl hB ag dP
 go_enter Tryz.func54, Tryz.ntmps54
 go_wp2_with fail
 refine (z6 H.o.1 (by have := H.o.2.1; omega)).mono ?_
 rintro e w1 ⟨rfl, k1, k2⟩
 have HR := qh (show zW Jf s = rVec Jf (zo s).1 (zo s).2 from rfl)
 have c6 := z0 s
 have bW := qh (show (zo s).2.b.length ≤ 33554432 from by have := H.o.2.1; omega)
 have iD : ((zo s).1 : Int) ≤ 1048576 := by have := H.o.2.1; omega
 generalize (zo s).1 = n at *
 generalize (zo s).2 = s1 at *
 have H1 := qh (anQ k1 (anQ (H.o.2.2.2.1.fr k2 H.o.2.2.2.2.1) k2))
 have bt : Hq (gm < w1.heap.size ∧ g ≠ gm ∧ ∀ k, D k → k ≠ gm ∧ k < w1.heap.size) := ⟨H1.o.2.1.lt, fun e => H.o.2.2.2.2.1 e.symm, fun k hk => ⟨H.o.2.2.2.2.2 k hk, (H1.o.1.lt.2 k hk).1⟩⟩
 have fW : Hq ((¬ D g ∧ g < w1.heap.size) ∧ (¬ D gm ∧ gm < w1.heap.size)) := ⟨⟨fun q => (H1.o.1.lt.2 g q).2 rfl, H1.o.1.lt.1⟩, ⟨fun q => H.o.2.2.2.2.2 gm q rfl, H1.o.2.1.lt⟩⟩
 clear k1 k2 c6
 go_wp2_with fail
 go_loopw [135] (fun pF w' => ∃ (i : Nat) (va : Value), i ≤ n ∧ pF = .int .i64 i ∧ Hq (Blk w' gm #[q0, q1, q2, q3, q4, q5, q6, q7, va, q9, bN, bk, bl, bp, bZ, bY, cg] 37 ∧ OwnG ((Lay.elem (N + 1))) 71 w1.heap.size (fun k => ¬ D k ∧ k < w1.heap.size) w' (va) (rVec Jf i s1).1 ∧ SpR D g lo (rVec Jf i s1).2 w' ∧ Fr (fun k => k = g ∨ k = gm) w1 w')) (fun pF _ => n - (intOf pF).toNat)
 case atStart => exact ⟨0, _, nzQ _, rfl, H1.o.2.1, zv _ _ _ _ _, H1.o.1, Fr.refl _ _⟩
 case round =>
  obtain ⟨i, va, hi, rfl, hV⟩ := hrel
  obtain ⟨ap, am, ar, rfl⟩ := hV.o.2.1.shape
  by_cases aj : i < n
  ·have aU := qh (yD Jf i s1)
   have gM := qh (yP Jf i s1)
   have dF := qh (show (rVec Jf i s1).2.b.length ≤ 33554432 from nlQ (yw Jf zgN i s1) bW.o)
   obtain ⟨r2, aY⟩ := exQ (rVec Jf (i + 1) s1)
   have aY := qh aY
   rw [aY.o] at aU
   generalize (rVec Jf i s1).1 = xs at *
   generalize (rVec Jf i s1).2 = t0 at *
   have bo := qh (show g < w1.heap.size from (H1.o.1).lt.1)
   go_wp2_with fail
   refine zj (yX (fun k => ¬ k = gm)) [kT 0, kT 1, kT 2, kT 3, kT 4, kT 5, kT 7, kT 9, kR 6, kR 8, kR 10, kT 11, kR 12, kR 13, kT 14, kT 15, kL 16] (by kernel_rfl) (by kernel_rfl) ?_
   simp only [zx, gzQ, gsQ]
   have HC := qh (fun W' (h : Fr (fun k => ¬ k = gm) wr.drew W') => (hV.o.1.fr ((zb _).fr h) (fun e => e rfl)).cell)
   have ce : Hq (Blk wr.drew gm #[q0, q1, q2, q3, q4, q5, q6, q7, (.slice ap am ar), q9, bN, bk, bl, bp, bZ, bY, cg] 37 ∧ OwnG ((Lay.elem (N + 1))) 71 w1.heap.size (fun k => ¬ D k ∧ k < w1.heap.size) wr.drew ((.slice ap am ar)) xs ∧ SpR D g lo t0 wr.drew ∧ Fr (fun k => k = g ∨ k = gm) w1 wr.drew) := ⟨hV.o.1.ext (zb _), hV.o.2.1.ext (zb _), hV.o.2.2.1.ext (zb _), hV.o.2.2.2.ext (zb _)⟩
   have ah := qh (show ∀ k, (Value.slice ap am ar).ownBlock = some k → w1.heap.size ≤ k ∧ k < wr.drew.heap.size from ce.o.2.1.lt)
   have dj := qh (show g < wr.drew.heap.size ∧ gm < wr.drew.heap.size ∧ (∀ k, D k → k ≠ g ∧ k ≠ gm ∧ k < w1.heap.size) from ⟨ce.o.2.2.1.lt.1, ce.o.1.lt, fun k hk => ⟨(ce.o.2.2.1.lt.2 k hk).2, bt.o.2.2 k hk⟩⟩)
   clear hV
   have ld := qh ce.o.2.2.2.size
   generalize wr.drew = W0 at *
   have cN := qh (show Jf t0 = (⟨UInt32.ofNat (zc t0).1, (ya (zc t0).2).1, (zZ (ya (zc t0).2).2).1⟩, (zZ (ya (zc t0).2).2).2) from rfl)
   repeat (apply item_take; rfl; rfl; rfl; rfl; exact fun _ _ _ _ h => h; (intro W e _ k; have q := HC.o W e; go_simp; exact k))
   apply zg; rfl; intro K hK; go_simp
   refine (zK D g lo t0 W0 ce.o.2.2.1 (by have := dF.o; omega)).mono ?_
   rintro e W1 ⟨rfl, ks, kf⟩
   have gp := qh kf.size
   refine hK _ _ (kf.mono (fun k _ e e2 => bt.o.2.1 (by have e1 : k = g := e; rw [← e1, e2]))) ?_
   have df := qh (zL t0)
   have bW := qh (show (zc t0).2.b.length ≤ 33554432 from nlQ (zF t0) dF.o)
   generalize (zc t0).1 = x0 at *
   generalize (zc t0).2 = t1 at *
   have ci : Hq (Blk W1 gm #[q0, q1, q2, q3, q4, q5, q6, q7, (.slice ap am ar), q9, bN, bk, bl, bp, bZ, bY, cg] 37 ∧ OwnG ((Lay.elem (N + 1))) 71 w1.heap.size (fun k => ¬ D k ∧ k < w1.heap.size) W1 ((.slice ap am ar)) xs ∧ SpR D g lo t1 W1 ∧ Fr (fun k => k = g ∨ k = gm) w1 W1) := ⟨ce.o.1.fr kf (fun e => bt.o.2.1 e.symm), ce.o.2.1.fr kf (fun k e => .inl (by have e' : k = g := e; rw [e']; exact fW.o.1)) (fun k hk e => by have e' : k = g := e; have := ah.o k hk; have := bo.o; omega), ks, Fr.trans ce.o.2.2.2 kf (fun _ _ h => h) (fun _ _ h => .inl h)⟩
   clear hK K kf ks ce
   repeat (apply item_take; rfl; rfl; rfl; rfl; exact fun _ _ _ _ h => h; (intro _ _ _ k; go_simp; exact k))
   apply zg; rfl; intro K hK; go_simp
   refine (JH N D g lo t1 W1 ci.o.2.2.1 (by have := bW.o; omega)).mono ?_
   rintro e W2 ⟨cv, rfl, kc, ks, kf⟩
   have mj := qh kf.size
   obtain ⟨ol, o8, oa, rfl⟩ := y5 kc
   refine hK _ _ (kf.mono (fun k _ e e2 => bt.o.2.1 (by have e1 : k = g := e; rw [← e1, e2]))) ?_
   have gq := qh (show (ya t1).2.b.length ≤ 33554432 from nlQ (Jb t1) bW.o)
   generalize (ya t1).1 = x1 at *
   generalize (ya t1).2 = t2 at *
   have bO : Hq (Blk W2 gm #[q0, q1, q2, q3, q4, q5, q6, q7, (.slice ap am ar), q9, bN, bk, bl, bp, bZ, bY, cg] 37 ∧ OwnG ((Lay.elem (N + 1))) 71 w1.heap.size (fun k => ¬ D k ∧ k < w1.heap.size) W2 ((.slice ap am ar)) xs ∧ SpR D g lo t2 W2 ∧ Fr (fun k => k = g ∨ k = gm) w1 W2 ∧ (Lay.ins (N + 1)).slice.rd (aE D W0 W2) W2 [.slice ol o8 oa] x1) := ⟨ci.o.1.fr kf (fun e => bt.o.2.1 e.symm), ci.o.2.1.fr kf (fun k e => .inl (by have e' : k = g := e; rw [e']; exact fW.o.1)) (fun k hk e => by have e' : k = g := e; have := ah.o k hk; have := bo.o; omega), ks, Fr.trans ci.o.2.2.2 kf (fun _ _ h => h) (fun _ _ h => .inl h), Lay.mono _ kc (fun k hk => ⟨.inr (by have := hk.1; have := gp.o; omega), hk.2⟩)⟩
   clear hK K kf ks kc ci
   repeat (apply item_take; rfl; rfl; rfl; rfl; exact fun _ _ _ _ h => h; (intro _ _ _ k; go_simp; exact k))
   apply zg; rfl; intro K hK; go_simp
   refine (Yl bO.o.2.2.1 (by have := gq.o; omega)).mono ?_
   rintro e W3 ⟨iv, rfl, ki, ks, kf⟩
   have qw := qh kf.size
   have ki := ki.slice
   obtain ⟨BY, BF, B1, rfl⟩ := y5 ki
   refine hK _ _ (kf.mono (fun k _ e e2 => bt.o.2.1 (by have e1 : k = g := e; rw [← e1, e2]))) ?_
   have kV := qh (show (zZ t2).2.b.length ≤ 33554432 from nlQ (zad t2) gq.o)
   generalize (zZ t2).1 = x2 at *
   generalize (zZ t2).2 = t3 at *
   have eD : Hq (Blk W3 gm #[q0, q1, q2, q3, q4, q5, q6, q7, (.slice ap am ar), q9, bN, bk, bl, bp, bZ, bY, cg] 37 ∧ OwnG ((Lay.elem (N + 1))) 71 w1.heap.size (fun k => ¬ D k ∧ k < w1.heap.size) W3 ((.slice ap am ar)) xs ∧ SpR D g lo t3 W3 ∧ Fr (fun k => k = g ∨ k = gm) w1 W3 ∧ (Lay.ins (N + 1)).slice.rd (aE D W0 W3) W3 [.slice ol o8 oa] x1 ∧ Lay.u32.slice.rd (aE D W0 W3) W3 [.slice BY BF B1] x2) := ⟨bO.o.1.fr kf (fun e => bt.o.2.1 e.symm), bO.o.2.1.fr kf (fun k e => .inl (by have e' : k = g := e; rw [e']; exact fW.o.1)) (fun k hk e => by have e' : k = g := e; have := ah.o k hk; have := bo.o; omega), ks, Fr.trans bO.o.2.2.2.1 kf (fun _ _ h => h) (fun _ _ h => .inl h), zfF bO.o.2.2.2.2 dj.o.1 (fun k hk => (dj.o.2.2 k hk).1) kf, Lay.mono _ ki (fun k hk => ⟨.inr (by have := hk.1; have := gp.o; have := mj.o; omega), hk.2⟩)⟩
   clear hK K kf ks ki bO
   repeat (apply item_take; rfl; rfl; rfl; rfl; exact fun _ _ _ _ h => h; (intro _ _ _ k; go_simp; exact k))
   apply zg; rfl; intro K hK; go_simp
   refine hK _ _ (za _ _).to ?_
   clear hK K
   apply zg; rfl; intro K hK
   refine zu ((Lay.elem (N + 1))) w1.heap.size (.tmp 141) (.tmp 149) _ _ _ 56 rfl Tryz.underlying29 zgM rfl (by omega) (show 0 < 3 by decide) (.slice ap am ar) xs ⟨UInt32.ofNat x0, x1, x2⟩ _ rfl rfl eD.o.2.1 ?_ eD.o.2.2.2.1.size (by rw [gM.o]; omega) ?_
   ·refine zbA (W0 := W0) (wL := w1) ?_ ld.o (fun k hk => (dj.o.2.2 k hk).2.2) ah.o
    refine ⟨[_], _, rfl, ?_, [_], [_], rfl, eD.o.2.2.2.2.1, eD.o.2.2.2.2.2⟩
    show [Value.int .u32 _] = [Value.int .u32 ((UInt32.ofNat x0).toNat : Int)]
    rw [jw df.o]
   intro v1 Wa h1 h2 h3 _
   refine hK _ _ (h3.mono (fun k _ e e2 => by have := (ah.o k e.symm).1; have := bt.o.1; omega)) ?_
   clear hK K
   obtain ⟨az, aR, aO, rfl⟩ := h1.shape
   have bz := yS (f := 8) eD.o.1 eD.o.2.1 eD.o.2.2.2.1 (X := (fun k => ¬ D k ∧ k < w1.heap.size)) (S := (fun k => k = g ∨ k = gm)) fW.o.2 (.inr rfl) bt.o.1 rfl h1 h2
   have h6 : Hq (Blk Wa gm #[q0, q1, q2, q3, q4, q5, q6, q7, (.slice ap am ar), q9, bN, bk, bl, bp, bZ, bY, cg] 37 ∧ Blk (Wa.setCell ⟨gm, 8, none⟩ (.slice az aR aO)) gm #[q0, q1, q2, q3, q4, q5, q6, q7, (.slice az aR aO), q9, bN, bk, bl, bp, bZ, bY, cg] 37 ∧ OwnG ((Lay.elem (N + 1))) 71 w1.heap.size (fun k => ¬ D k ∧ k < w1.heap.size) (Wa.setCell ⟨gm, 8, none⟩ (.slice az aR aO)) ((.slice az aR aO)) r2.1 ∧ SpR D g lo r2.2 (Wa.setCell ⟨gm, 8, none⟩ (.slice az aR aO)) ∧ Fr (fun k => k = g ∨ k = gm) w1 (Wa.setCell ⟨gm, 8, none⟩ (.slice az aR aO))) := by
    rw [aU.o, cN.o]
    have gO := eD.o.2.2.1.fr h2 (fun e => by have := ah.o g e.symm; have := bo.o; omega) (fun k hk e => by have := ah.o k e.symm; have := dj.o.2.2 k hk; omega)
    refine ⟨bz.1, ?_, bz.2.2.1, gO.fr (zf _ _ _) (fun e => bt.o.2.1 e) (fun k hk e => (dj.o.2.2 k hk).2.1 e), bz.2.2.2⟩
    have := bz.2.1
    simpa using this
   have fp := h6.o.1.cell
   have ep := h6.o.1.frz
   clear h1 h2 h3 bz eD
   repeat (apply item_take; rfl; rfl; rfl; rfl; exact fun _ _ _ _ h => h; (intro _ _ _ k; go_simp; exact k))
   apply zn; rfl; intro K hK; go_simp
   refine hK _ _ ?_
   clear hK K fp ep
   apply zm
   have eh := qh h6.o.2
   go_wp2
   go_roundw
   case rel => exact ⟨i + 1, _, by omega, by go_num, by rw [aY.o]; exact eh.o⟩
   case measure => simp [intOf]; omega
  ·obtain rfl : i = n := by omega
   go_wp2
   go_end0
   refine ⟨rfl, ⟨_, hV.o.1, ?_⟩, ?_, ?_⟩
   ·rw [HR.o]; exact hV.o.2.1.sliceE H1.o.2.2.size
   ·rw [HR.o]; exact hV.o.2.2.1
   ·exact Fr.trans H1.o.2.2 hV.o.2.2.2 (fun _ _ e => .inl e) (fun _ _ e => e)
theorem ziW : (Tryz.prog.info? 22).map (fun i => (i.zero, i.size, i.bytes)) = some (some (.slice none 0 0), Lay.u8.slice.size, 24) := by kernel_rfl
theorem zfg (s : St) : (zY s).2.b.length ≤ s.b.length := nlQ (yR _ _) (zF _)
theorem zd0 (N : Nat) (D : Nat → Prop) (g gm : Nat) (lo : Bool) (s : St) (w : World) (q0 q1 q2 q3 q4 q5 q6 q7 q8 q9 bN bl bp bZ bY cg : Value) (h : SpR D g lo s w) (hB : Blk w gm #[q0, q1, q2, q3, q4, q5, q6, q7, q8, q9, bN, .slice none 0 0, bl, bp, bZ, bY, cg] 37) (ag : ¬ gm = g) (dP : ∀ k, D k → ¬ k = gm) (hl : s.b.length ≤ 1048576) :
 Calls Tryz.prog 54 #[.pointer (some ⟨g, 0, none⟩), .int .i64 10, .pointer (some ⟨gm, 0, none⟩)] w fun e w' => e = .returned (.tuple #[]) ∧ (∃ v, Blk w' gm #[q0, q1, q2, q3, q4, q5, q6, q7, q8, q9, bN, v, bl, bp, bZ, bY, cg] 37 ∧ Lay.u8.slice.slice.rd (aE D w w') w' [v] (zW zY s).1) ∧ SpR D g lo (zW zY s).2 w' ∧ Fr (fun k => k = g ∨ k = gm) w w' := by
 have H := qh (anQ h (anQ hl (anQ h.lt.1 (anQ hB (anQ ag dP)))))
 clear h hl hB ag dP
 go_enter Tryz.func54, Tryz.ntmps54
 go_wp2_with fail
 refine (z6 H.o.1 (by have := H.o.2.1; omega)).mono ?_
 rintro e w1 ⟨rfl, k1, k2⟩
 have HR := qh (show zW zY s = rVec zY (zo s).1 (zo s).2 from rfl)
 have c6 := z0 s
 have bW := qh (show (zo s).2.b.length ≤ 33554432 from by have := H.o.2.1; omega)
 have iD : ((zo s).1 : Int) ≤ 1048576 := by have := H.o.2.1; omega
 generalize (zo s).1 = n at *
 generalize (zo s).2 = s1 at *
 have H1 := qh (anQ k1 (anQ (H.o.2.2.2.1.fr k2 H.o.2.2.2.2.1) k2))
 have bt : Hq (gm < w1.heap.size ∧ g ≠ gm ∧ ∀ k, D k → k ≠ gm ∧ k < w1.heap.size) := ⟨H1.o.2.1.lt, fun e => H.o.2.2.2.2.1 e.symm, fun k hk => ⟨H.o.2.2.2.2.2 k hk, (H1.o.1.lt.2 k hk).1⟩⟩
 have fW : Hq ((¬ D g ∧ g < w1.heap.size) ∧ (¬ D gm ∧ gm < w1.heap.size)) := ⟨⟨fun q => (H1.o.1.lt.2 g q).2 rfl, H1.o.1.lt.1⟩, ⟨fun q => H.o.2.2.2.2.2 gm q rfl, H1.o.2.1.lt⟩⟩
 clear k1 k2 c6
 go_wp2_with fail
 go_loopw [158] (fun qn w' => ∃ (i : Nat) (va : Value), i ≤ n ∧ qn = .int .i64 i ∧ Hq (Blk w' gm #[q0, q1, q2, q3, q4, q5, q6, q7, q8, q9, bN, va, bl, bp, bZ, bY, cg] 37 ∧ OwnG (Lay.u8.slice) 22 w1.heap.size (fun k => ¬ D k ∧ k < w1.heap.size) w' (va) (rVec zY i s1).1 ∧ SpR D g lo (rVec zY i s1).2 w' ∧ Fr (fun k => k = g ∨ k = gm) w1 w')) (fun qn _ => n - (intOf qn).toNat)
 case atStart => exact ⟨0, _, nzQ _, rfl, H1.o.2.1, zv _ _ _ _ _, H1.o.1, Fr.refl _ _⟩
 case round =>
  obtain ⟨i, va, hi, rfl, hV⟩ := hrel
  obtain ⟨ap, am, ar, rfl⟩ := hV.o.2.1.shape
  by_cases aj : i < n
  ·have aU := qh (yD zY i s1)
   have gM := qh (yP zY i s1)
   have dF := qh (show (rVec zY i s1).2.b.length ≤ 33554432 from nlQ (yw zY zfg i s1) bW.o)
   obtain ⟨r2, aY⟩ := exQ (rVec zY (i + 1) s1)
   have aY := qh aY
   rw [aY.o] at aU
   generalize (rVec zY i s1).1 = xs at *
   generalize (rVec zY i s1).2 = t0 at *
   have bo := qh (show g < w1.heap.size from (H1.o.1).lt.1)
   go_wp2_with fail
   refine zj (yX (fun k => ¬ k = gm)) [kT 0, kT 1, kT 2, kT 3, kT 4, kT 5, kT 6, kR 7, kR 8, kR 9, kR 10, kT 11, kT 12, kL 13] (by kernel_rfl) (by kernel_rfl) ?_
   simp only [zx, gzQ, gsQ]
   have HC := qh (fun W' (h : Fr (fun k => ¬ k = gm) wr.drew W') => (hV.o.1.fr ((zb _).fr h) (fun e => e rfl)).cell)
   have ce : Hq (Blk wr.drew gm #[q0, q1, q2, q3, q4, q5, q6, q7, q8, q9, bN, (.slice ap am ar), bl, bp, bZ, bY, cg] 37 ∧ OwnG (Lay.u8.slice) 22 w1.heap.size (fun k => ¬ D k ∧ k < w1.heap.size) wr.drew ((.slice ap am ar)) xs ∧ SpR D g lo t0 wr.drew ∧ Fr (fun k => k = g ∨ k = gm) w1 wr.drew) := ⟨hV.o.1.ext (zb _), hV.o.2.1.ext (zb _), hV.o.2.2.1.ext (zb _), hV.o.2.2.2.ext (zb _)⟩
   have ah := qh (show ∀ k, (Value.slice ap am ar).ownBlock = some k → w1.heap.size ≤ k ∧ k < wr.drew.heap.size from ce.o.2.1.lt)
   have dj := qh (show g < wr.drew.heap.size ∧ gm < wr.drew.heap.size ∧ (∀ k, D k → k ≠ g ∧ k ≠ gm ∧ k < w1.heap.size) from ⟨ce.o.2.2.1.lt.1, ce.o.1.lt, fun k hk => ⟨(ce.o.2.2.1.lt.2 k hk).2, bt.o.2.2 k hk⟩⟩)
   clear hV
   have ld := qh ce.o.2.2.2.size
   generalize wr.drew = W0 at *
   have cN := qh (show zY t0 = ((zy (zc t0).1 (zc t0).2).1, (zy (zc t0).1 (zc t0).2).2) from rfl)
   repeat (apply item_take; rfl; rfl; rfl; rfl; exact fun _ _ _ _ h => h; (intro W e _ k; have q := HC.o W e; go_simp; exact k))
   apply zg; rfl; intro K hK; go_simp
   refine (zK D g lo t0 W0 ce.o.2.2.1 (by have := dF.o; omega)).mono ?_
   rintro e W1 ⟨rfl, ks, kf⟩
   have gp := qh kf.size
   refine hK _ _ (kf.mono (fun k _ e e2 => bt.o.2.1 (by have e1 : k = g := e; rw [← e1, e2]))) ?_
   have df := qh (zL t0)
   have bW := qh (show (zc t0).2.b.length ≤ 33554432 from nlQ (zF t0) dF.o)
   generalize (zc t0).1 = x0 at *
   generalize (zc t0).2 = t1 at *
   have ci : Hq (Blk W1 gm #[q0, q1, q2, q3, q4, q5, q6, q7, q8, q9, bN, (.slice ap am ar), bl, bp, bZ, bY, cg] 37 ∧ OwnG (Lay.u8.slice) 22 w1.heap.size (fun k => ¬ D k ∧ k < w1.heap.size) W1 ((.slice ap am ar)) xs ∧ SpR D g lo t1 W1 ∧ Fr (fun k => k = g ∨ k = gm) w1 W1) := ⟨ce.o.1.fr kf (fun e => bt.o.2.1 e.symm), ce.o.2.1.fr kf (fun k e => .inl (by have e' : k = g := e; rw [e']; exact fW.o.1)) (fun k hk e => by have e' : k = g := e; have := ah.o k hk; have := bo.o; omega), ks, Fr.trans ce.o.2.2.2 kf (fun _ _ h => h) (fun _ _ h => .inl h)⟩
   clear hK K kf ks ce
   repeat (apply item_take; rfl; rfl; rfl; rfl; exact fun _ _ _ _ h => h; (intro _ _ _ k; go_simp; exact k))
   apply zg; rfl; intro K hK; go_simp
   refine (j9 x0 df.o D g lo t1 W1 ci.o.2.2.1 (by have := bW.o; omega)).mono ?_
   rintro e W2 ⟨xx, wH, wA, rfl, kt, ks, kf⟩
   have mj := qh kf.size
   refine hK _ _ (kf.mono (fun k _ e e2 => bt.o.2.1 (by have e1 : k = g := e; rw [← e1, e2]))) ?_
   have gq := qh (show (zy x0 t1).2.b.length ≤ 33554432 from nlQ (yR x0 t1) bW.o)
   generalize (zy x0 t1).1 = x1 at *
   generalize (zy x0 t1).2 = t2 at *
   have bO : Hq (Blk W2 gm #[q0, q1, q2, q3, q4, q5, q6, q7, q8, q9, bN, (.slice ap am ar), bl, bp, bZ, bY, cg] 37 ∧ OwnG (Lay.u8.slice) 22 w1.heap.size (fun k => ¬ D k ∧ k < w1.heap.size) W2 ((.slice ap am ar)) xs ∧ SpR D g lo t2 W2 ∧ Fr (fun k => k = g ∨ k = gm) w1 W2 ∧ Lay.u8.slice.rd (aE D W0 W2) W2 [.slice xx wH wA] x1) := ⟨ci.o.1.fr kf (fun e => bt.o.2.1 e.symm), ci.o.2.1.fr kf (fun k e => .inl (by have e' : k = g := e; rw [e']; exact fW.o.1)) (fun k hk e => by have e' : k = g := e; have := ah.o k hk; have := bo.o; omega), ks, Fr.trans ci.o.2.2.2 kf (fun _ _ h => h) (fun _ _ h => .inl h), Lay.mono _ kt (fun k hk => ⟨.inl hk, (ks.lt.2 k hk).1⟩)⟩
   clear hK K kf ks kt ci
   repeat (apply item_take; rfl; rfl; rfl; rfl; exact fun _ _ _ _ h => h; (intro _ _ _ k; go_simp; exact k))
   apply zg; rfl; intro K hK; go_simp
   refine hK _ _ (za _ _).to ?_
   clear hK K
   apply zg; rfl; intro K hK
   refine zu (Lay.u8.slice) w1.heap.size (.tmp 164) (.tmp 169) _ _ _ 24 rfl Tryz.underlying32 ziW rfl (by omega) (by decide) (.slice ap am ar) xs x1 _ rfl rfl bO.o.2.1 ?_ bO.o.2.2.2.1.size (by rw [gM.o]; omega) ?_
   ·refine zbA (W0 := W0) (wL := w1) ?_ ld.o (fun k hk => (dj.o.2.2 k hk).2.2) ah.o
    exact bO.o.2.2.2.2
   intro v1 Wa h1 h2 h3 _
   refine hK _ _ (h3.mono (fun k _ e e2 => by have := (ah.o k e.symm).1; have := bt.o.1; omega)) ?_
   clear hK K
   obtain ⟨az, aR, aO, rfl⟩ := h1.shape
   have bz := yS (f := 11) bO.o.1 bO.o.2.1 bO.o.2.2.2.1 (X := (fun k => ¬ D k ∧ k < w1.heap.size)) (S := (fun k => k = g ∨ k = gm)) fW.o.2 (.inr rfl) bt.o.1 rfl h1 h2
   have h6 : Hq (Blk Wa gm #[q0, q1, q2, q3, q4, q5, q6, q7, q8, q9, bN, (.slice ap am ar), bl, bp, bZ, bY, cg] 37 ∧ Blk (Wa.setCell ⟨gm, 11, none⟩ (.slice az aR aO)) gm #[q0, q1, q2, q3, q4, q5, q6, q7, q8, q9, bN, (.slice az aR aO), bl, bp, bZ, bY, cg] 37 ∧ OwnG (Lay.u8.slice) 22 w1.heap.size (fun k => ¬ D k ∧ k < w1.heap.size) (Wa.setCell ⟨gm, 11, none⟩ (.slice az aR aO)) ((.slice az aR aO)) r2.1 ∧ SpR D g lo r2.2 (Wa.setCell ⟨gm, 11, none⟩ (.slice az aR aO)) ∧ Fr (fun k => k = g ∨ k = gm) w1 (Wa.setCell ⟨gm, 11, none⟩ (.slice az aR aO))) := by
    rw [aU.o, cN.o]
    have gO := bO.o.2.2.1.fr h2 (fun e => by have := ah.o g e.symm; have := bo.o; omega) (fun k hk e => by have := ah.o k e.symm; have := dj.o.2.2 k hk; omega)
    refine ⟨bz.1, ?_, bz.2.2.1, gO.fr (zf _ _ _) (fun e => bt.o.2.1 e) (fun k hk e => (dj.o.2.2 k hk).2.1 e), bz.2.2.2⟩
    have := bz.2.1
    simpa using this
   have fp := h6.o.1.cell
   have ep := h6.o.1.frz
   clear h1 h2 h3 bz bO
   repeat (apply item_take; rfl; rfl; rfl; rfl; exact fun _ _ _ _ h => h; (intro _ _ _ k; go_simp; exact k))
   apply zn; rfl; intro K hK; go_simp
   refine hK _ _ ?_
   clear hK K fp ep
   apply zm
   have eh := qh h6.o.2
   go_wp2
   go_roundw
   case rel => exact ⟨i + 1, _, by omega, by go_num, by rw [aY.o]; exact eh.o⟩
   case measure => simp [intOf]; omega
  ·obtain rfl : i = n := by omega
   go_wp2
   go_end0
   refine ⟨rfl, ⟨_, hV.o.1, ?_⟩, ?_, ?_⟩
   ·rw [HR.o]; exact hV.o.2.1.sliceE H1.o.2.2.size
   ·rw [HR.o]; exact hV.o.2.2.1
   ·exact Fr.trans H1.o.2.2 hV.o.2.2.2 (fun _ _ e => .inl e) (fun _ _ e => e)
end Go.Proofs.YtejgninpjhcgnaaGreatDoor
