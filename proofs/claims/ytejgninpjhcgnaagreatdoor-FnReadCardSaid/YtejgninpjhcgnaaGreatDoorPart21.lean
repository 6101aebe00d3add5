/- Texts of this proof, one behind the other. -/
import Derived.Test.YtejgninpjhcgnaaGreatDoorPart19
import Derived.Test.YtejgninpjhcgnaaGreatDoorPart20
namespace Go.Proofs.YtejgninpjhcgnaaGreatDoor
open Go.RowKit
set_option linter.unusedSimpArgs false
set_option linter.unusedVariables false
set_option maxRecDepth 100000
set_option maxHeartbeats 8000000
theorem zhC : (Tryz.prog.info? 73).map (fun i => (i.zero, i.size, i.bytes)) = some (some (.agg #[.int .u32 0, .slice none 0 0, .slice none 0 0]), (Lay.dat 1).size, 56) := by kernel_rfl
theorem zhD (s : St) : (rDat s).2.b.length ≤ s.b.length := nlQ (nlQ (yR _ _) (zF _)) (nlQ (Jb _) (ZO _))
theorem zd1 (N : Nat) (D : Nat → Prop) (g gm : Nat) (lo : Bool) (s : St) (w : World) (q0 q1 q2 q3 q4 q5 q6 q7 q8 q9 bN bk bp bZ bY cg : Value) (h : SpR D g lo s w) (hB : Blk w gm #[q0, q1, q2, q3, q4, q5, q6, q7, q8, q9, bN, bk, .slice none 0 0, bp, bZ, bY, cg] 37) (ag : ¬ gm = g) (dP : ∀ k, D k → ¬ k = gm) (hl : s.b.length ≤ 1048576) :
 Calls Tryz.prog 54 #[.pointer (some ⟨g, 0, none⟩), .int .i64 11, .pointer (some ⟨gm, 0, none⟩)] w fun e w' => e = .returned (.tuple #[]) ∧ (∃ v, Blk w' gm #[q0, q1, q2, q3, q4, q5, q6, q7, q8, q9, bN, bk, v, bp, bZ, bY, cg] 37 ∧ (Lay.dat (N + 1)).slice.rd (aE D w w') w' [v] (zW rDat s).1) ∧ SpR D g lo (zW rDat s).2 w' ∧ Fr (fun k => k = g ∨ k = gm) w w' := by
 have H := qh (anQ h (anQ hl (anQ h.lt.1 (anQ hB (anQ ag dP)))))
 clear h hl hB ag dP
 go_enter Tryz.func54, Tryz.ntmps54
 go_wp2_with fail
 refine (z6 H.o.1 (by have := H.o.2.1; omega)).mono ?_
 rintro e w1 ⟨rfl, k1, k2⟩
 have HR := qh (show zW rDat s = rVec rDat (zo s).1 (zo s).2 from rfl)
 have c6 := z0 s
 have bW := qh (show (zo s).2.b.length ≤ 33554432 from by have := H.o.2.1; omega)
 have iD : ((zo s).1 : Int) ≤ 1048576 := by have := H.o.2.1; omega
 generalize (zo s).1 = n at *
 generalize (zo s).2 = s1 at *
 have H1 := qh (anQ k1 (anQ (H.o.2.2.2.1.fr k2 H.o.2.2.2.2.1) k2))
 have bt : Hq (gm < w1.heap.size ∧ g ≠ gm ∧ ∀ k, D k → k ≠ gm ∧ k < w1.heap.size) := ⟨H1.o.2.1.lt, fun e => H.o.2.2.2.2.1 e.symm, fun k hk => ⟨H.o.2.2.2.2.2 k hk, (H1.o.1.lt.2 k hk).1⟩⟩
 have fW : Hq ((¬ D g ∧ g < w1.heap.size) ∧ (¬ D gm ∧ gm < w1.heap.size)) := ⟨⟨fun q => (H1.o.1.lt.2 g q).2 rfl, H1.o.1.lt.1⟩, ⟨fun q => H.o.2.2.2.2.2 gm q rfl, H1.o.2.1.lt⟩⟩
 clear k1 k2 c6
 go_wp2_with fail
 go_loopw [178] (fun qe w' => ∃ (i : Nat) (va : Value), i ≤ n ∧ qe = .int .i64 i ∧ Hq (Blk w' gm #[q0, q1, q2, q3, q4, q5, q6, q7, q8, q9, bN, bk, va, bp, bZ, bY, cg] 37 ∧ OwnG ((Lay.dat (N + 1))) 73 w1.heap.size (fun k => ¬ D k ∧ k < w1.heap.size) w' (va) (rVec rDat i s1).1 ∧ SpR D g lo (rVec rDat i s1).2 w' ∧ Fr (fun k => k = g ∨ k = gm) w1 w')) (fun qe _ => n - (intOf qe).toNat)
 case atStart => exact ⟨0, _, nzQ _, rfl, H1.o.2.1, zv _ _ _ _ _, H1.o.1, Fr.refl _ _⟩
 case round =>
  obtain ⟨i, va, hi, rfl, hV⟩ := hrel
  obtain ⟨ap, am, ar, rfl⟩ := hV.o.2.1.shape
  by_cases aj : i < n
  ·have aU := qh (yD rDat i s1)
   have gM := qh (yP rDat i s1)
   have dF := qh (show (rVec rDat i s1).2.b.length ≤ 33554432 from nlQ (yw rDat zhD i s1) bW.o)
   obtain ⟨r2, aY⟩ := exQ (rVec rDat (i + 1) s1)
   have aY := qh aY
   rw [aY.o] at aU
   generalize (rVec rDat i s1).1 = xs at *
   generalize (rVec rDat i s1).2 = t0 at *
   have bo := qh (show g < w1.heap.size from (H1.o.1).lt.1)
   go_wp2_with fail
   refine zj (yX (fun k => ¬ k = gm)) [kT 0, kT 1, kT 2, kT 3, kT 4, kT 5, kT 7, kT 9, kT 10, kR 6, kR 8, kR 11, kR 12, kT 13, kR 14, kR 15, kT 16, kT 17, kL 18] (by kernel_rfl) (by kernel_rfl) ?_
   simp only [zx, gzQ, gsQ]
   have HC := qh (fun W' (h : Fr (fun k => ¬ k = gm) wr.drew W') => (hV.o.1.fr ((zb _).fr h) (fun e => e rfl)).cell)
   have ce : Hq (Blk wr.drew gm #[q0, q1, q2, q3, q4, q5, q6, q7, q8, q9, bN, bk, (.slice ap am ar), bp, bZ, bY, cg] 37 ∧ OwnG ((Lay.dat (N + 1))) 73 w1.heap.size (fun k => ¬ D k ∧ k < w1.heap.size) wr.drew ((.slice ap am ar)) xs ∧ SpR D g lo t0 wr.drew ∧ Fr (fun k => k = g ∨ k = gm) w1 wr.drew) := ⟨hV.o.1.ext (zb _), hV.o.2.1.ext (zb _), hV.o.2.2.1.ext (zb _), hV.o.2.2.2.ext (zb _)⟩
   have ah := qh (show ∀ k, (Value.slice ap am ar).ownBlock = some k → w1.heap.size ≤ k ∧ k < wr.drew.heap.size from ce.o.2.1.lt)
   have dj := qh (show g < wr.drew.heap.size ∧ gm < wr.drew.heap.size ∧ (∀ k, D k → k ≠ g ∧ k ≠ gm ∧ k < w1.heap.size) from ⟨ce.o.2.2.1.lt.1, ce.o.1.lt, fun k hk => ⟨(ce.o.2.2.1.lt.2 k hk).2, bt.o.2.2 k hk⟩⟩)
   clear hV
   have ld := qh ce.o.2.2.2.size
   generalize wr.drew = W0 at *
   have cN := qh (show rDat t0 = (⟨UInt32.ofNat (zc t0).1, (ya (zc t0).2).1, (zy (zc (ya (zc t0).2).2).1 (zc (ya (zc t0).2).2).2).1⟩, (zy (zc (ya (zc t0).2).2).1 (zc (ya (zc t0).2).2).2).2) from rfl)
   repeat (apply item_take; rfl; rfl; rfl; rfl; exact fun _ _ _ _ h => h; (intro W e _ k; have q := HC.o W e; go_simp; exact k))
   apply zg; rfl; intro K hK; go_simp
   refine (zK D g lo t0 W0 ce.o.2.2.1 (by have := dF.o; omega)).mono ?_
   rintro e W1 ⟨rfl, ks, kf⟩
   have gp := qh kf.size
   refine hK _ _ (kf.mono (fun k _ e e2 => bt.o.2.1 (by have e1 : k = g := e; rw [← e1, e2]))) ?_
   have df := qh (zL t0)
   have bW := qh (show (zc t0).2.b.length ≤ 33554432 from nlQ (zF t0) dF.o)
   generalize (zc t0).1 = x0 at *
   generalize (zc t0).2 = t1 at *
   have ci : Hq (Blk W1 gm #[q0, q1, q2, q3, q4, q5, q6, q7, q8, q9, bN, bk, (.slice ap am ar), bp, bZ, bY, cg] 37 ∧ OwnG ((Lay.dat (N + 1))) 73 w1.heap.size (fun k => ¬ D k ∧ k < w1.heap.size) W1 ((.slice ap am ar)) xs ∧ SpR D g lo t1 W1 ∧ Fr (fun k => k = g ∨ k = gm) w1 W1) := ⟨ce.o.1.fr kf (fun e => bt.o.2.1 e.symm), ce.o.2.1.fr kf (fun k e => .inl (by have e' : k = g := e; rw [e']; exact fW.o.1)) (fun k hk e => by have e' : k = g := e; have := ah.o k hk; have := bo.o; omega), ks, Fr.trans ce.o.2.2.2 kf (fun _ _ h => h) (fun _ _ h => .inl h)⟩
   clear hK K kf ks ce
   repeat (apply item_take; rfl; rfl; rfl; rfl; exact fun _ _ _ _ h => h; (intro _ _ _ k; go_simp; exact k))
   apply zg; rfl; intro K hK; go_simp
   refine (JH N D g lo t1 W1 ci.o.2.2.1 (by have := bW.o; omega)).mono ?_
   rintro e W2 ⟨cv, rfl, kc, ks, kf⟩
   have mj := qh kf.size
   obtain ⟨ol, o8, oa, rfl⟩ := y5 kc
   refine hK _ _ (kf.mono (fun k _ e e2 => bt.o.2.1 (by have e1 : k = g := e; rw [← e1, e2]))) ?_
   have gq := qh (show (ya t1).2.b.length ≤ 33554432 from nlQ (Jb t1) bW.o)
   generalize (ya t1).1 = x1 at *
   generalize (ya t1).2 = t2 at *
   have bO : Hq (Blk W2 gm #[q0, q1, q2, q3, q4, q5, q6, q7, q8, q9, bN, bk, (.slice ap am ar), bp, bZ, bY, cg] 37 ∧ OwnG ((Lay.dat (N + 1))) 73 w1.heap.size (fun k => ¬ D k ∧ k < w1.heap.size) W2 ((.slice ap am ar)) xs ∧ SpR D g lo t2 W2 ∧ Fr (fun k => k = g ∨ k = gm) w1 W2 ∧ (Lay.ins (N + 1)).slice.rd (aE D W0 W2) W2 [.slice ol o8 oa] x1) := ⟨ci.o.1.fr kf (fun e => bt.o.2.1 e.symm), ci.o.2.1.fr kf (fun k e => .inl (by have e' : k = g := e; rw [e']; exact fW.o.1)) (fun k hk e => by have e' : k = g := e; have := ah.o k hk; have := bo.o; omega), ks, Fr.trans ci.o.2.2.2 kf (fun _ _ h => h) (fun _ _ h => .inl h), Lay.mono _ kc (fun k hk => ⟨.inr (by have := hk.1; have := gp.o; omega), hk.2⟩)⟩
   clear hK K kf ks kc ci
   repeat (apply item_take; rfl; rfl; rfl; rfl; exact fun _ _ _ _ h => h; (intro _ _ _ k; go_simp; exact k))
   apply zg; rfl; intro K hK; go_simp
   refine (zK D g lo t2 W2 bO.o.2.2.1 (by have := gq.o; omega)).mono ?_
   rintro e W3 ⟨rfl, ks, kf⟩
   have qw := qh kf.size
   refine hK _ _ (kf.mono (fun k _ e e2 => bt.o.2.1 (by have e1 : k = g := e; rw [← e1, e2]))) ?_
   have eQ := qh (zL t2)
   have kV := qh (show (zc t2).2.b.length ≤ 33554432 from nlQ (zF t2) gq.o)
   generalize (zc t2).1 = x2 at *
   generalize (zc t2).2 = t3 at *
   have eD : Hq (Blk W3 gm #[q0, q1, q2, q3, q4, q5, q6, q7, q8, q9, bN, bk, (.slice ap am ar), bp, bZ, bY, cg] 37 ∧ OwnG ((Lay.dat (N + 1))) 73 w1.heap.size (fun k => ¬ D k ∧ k < w1.heap.size) W3 ((.slice ap am ar)) xs ∧ SpR D g lo t3 W3 ∧ Fr (fun k => k = g ∨ k = gm) w1 W3 ∧ (Lay.ins (N + 1)).slice.rd (aE D W0 W3) W3 [.slice ol o8 oa] x1) := ⟨bO.o.1.fr kf (fun e => bt.o.2.1 e.symm), bO.o.2.1.fr kf (fun k e => .inl (by have e' : k = g := e; rw [e']; exact fW.o.1)) (fun k hk e => by have e' : k = g := e; have := ah.o k hk; have := bo.o; omega), ks, Fr.trans bO.o.2.2.2.1 kf (fun _ _ h => h) (fun _ _ h => .inl h), zfF bO.o.2.2.2.2 dj.o.1 (fun k hk => (dj.o.2.2 k hk).1) kf⟩
   clear hK K kf ks bO
   repeat (apply item_take; rfl; rfl; rfl; rfl; exact fun _ _ _ _ h => h; (intro _ _ _ k; go_simp; exact k))
   apply zg; rfl; intro K hK; go_simp
   refine (j9 x2 eQ.o D g lo t3 W3 eD.o.2.2.1 (by have := kV.o; omega)).mono ?_
   rintro e W4 ⟨xx, wH, wA, rfl, kt, ks, kf⟩
   have wh := qh kf.size
   refine hK _ _ (kf.mono (fun k _ e e2 => bt.o.2.1 (by have e1 : k = g := e; rw [← e1, e2]))) ?_
   have Cx := qh (show (zy x2 t3).2.b.length ≤ 33554432 from nlQ (yR x2 t3) kV.o)
   generalize (zy x2 t3).1 = x3 at *
   generalize (zy x2 t3).2 = t4 at *
   have nQ : Hq (Blk W4 gm #[q0, q1, q2, q3, q4, q5, q6, q7, q8, q9, bN, bk, (.slice ap am ar), bp, bZ, bY, cg] 37 ∧ OwnG ((Lay.dat (N + 1))) 73 w1.heap.size (fun k => ¬ D k ∧ k < w1.heap.size) W4 ((.slice ap am ar)) xs ∧ SpR D g lo t4 W4 ∧ Fr (fun k => k = g ∨ k = gm) w1 W4 ∧ (Lay.ins (N + 1)).slice.rd (aE D W0 W4) W4 [.slice ol o8 oa] x1 ∧ Lay.u8.slice.rd (aE D W0 W4) W4 [.slice xx wH wA] x3) := ⟨eD.o.1.fr kf (fun e => bt.o.2.1 e.symm), eD.o.2.1.fr kf (fun k e => .inl (by have e' : k = g := e; rw [e']; exact fW.o.1)) (fun k hk e => by have e' : k = g := e; have := ah.o k hk; have := bo.o; omega), ks, Fr.trans eD.o.2.2.2.1 kf (fun _ _ h => h) (fun _ _ h => .inl h), zfF eD.o.2.2.2.2 dj.o.1 (fun k hk => (dj.o.2.2 k hk).1) kf, Lay.mono _ kt (fun k hk => ⟨.inl hk, (ks.lt.2 k hk).1⟩)⟩
   clear hK K kf ks kt eD
   repeat (apply item_take; rfl; rfl; rfl; rfl; exact fun _ _ _ _ h => h; (intro _ _ _ k; go_simp; exact k))
   apply zg; rfl; intro K hK; go_simp
   refine hK _ _ (za _ _).to ?_
   clear hK K
   apply zg; rfl; intro K hK
   refine zu ((Lay.dat (N + 1))) w1.heap.size (.tmp 184) (.tmp 194) _ _ _ 56 rfl Tryz.underlying33 zhC rfl (by omega) (show 0 < 3 by decide) (.slice ap am ar) xs ⟨UInt32.ofNat x0, x1, x3⟩ _ rfl rfl nQ.o.2.1 ?_ nQ.o.2.2.2.1.size (by rw [gM.o]; omega) ?_
   ·refine zbA (W0 := W0) (wL := w1) ?_ ld.o (fun k hk => (dj.o.2.2 k hk).2.2) ah.o
    refine ⟨[_], _, rfl, ?_, [_], [_], rfl, nQ.o.2.2.2.2.1, nQ.o.2.2.2.2.2⟩
    show [Value.int .u32 _] = [Value.int .u32 ((UInt32.ofNat x0).toNat : Int)]
    rw [jw df.o]
   intro v1 Wa h1 h2 h3 _
   refine hK _ _ (h3.mono (fun k _ e e2 => by have := (ah.o k e.symm).1; have := bt.o.1; omega)) ?_
   clear hK K
   obtain ⟨az, aR, aO, rfl⟩ := h1.shape
   have bz := yS (f := 12) nQ.o.1 nQ.o.2.1 nQ.o.2.2.2.1 (X := (fun k => ¬ D k ∧ k < w1.heap.size)) (S := (fun k => k = g ∨ k = gm)) fW.o.2 (.inr rfl) bt.o.1 rfl h1 h2
   have h6 : Hq (Blk Wa gm #[q0, q1, q2, q3, q4, q5, q6, q7, q8, q9, bN, bk, (.slice ap am ar), bp, bZ, bY, cg] 37 ∧ Blk (Wa.setCell ⟨gm, 12, none⟩ (.slice az aR aO)) gm #[q0, q1, q2, q3, q4, q5, q6, q7, q8, q9, bN, bk, (.slice az aR aO), bp, bZ, bY, cg] 37 ∧ OwnG ((Lay.dat (N + 1))) 73 w1.heap.size (fun k => ¬ D k ∧ k < w1.heap.size) (Wa.setCell ⟨gm, 12, none⟩ (.slice az aR aO)) ((.slice az aR aO)) r2.1 ∧ SpR D g lo r2.2 (Wa.setCell ⟨gm, 12, none⟩ (.slice az aR aO)) ∧ Fr (fun k => k = g ∨ k = gm) w1 (Wa.setCell ⟨gm, 12, none⟩ (.slice az aR aO))) := by
    rw [aU.o, cN.o]
    have gO := nQ.o.2.2.1.fr h2 (fun e => by have := ah.o g e.symm; have := bo.o; omega) (fun k hk e => by have := ah.o k e.symm; have := dj.o.2.2 k hk; omega)
    refine ⟨bz.1, ?_, bz.2.2.1, gO.fr (zf _ _ _) (fun e => bt.o.2.1 e) (fun k hk e => (dj.o.2.2 k hk).2.1 e), bz.2.2.2⟩
    have := bz.2.1
    simpa using this
   have fp := h6.o.1.cell
   have ep := h6.o.1.frz
   clear h1 h2 h3 bz nQ
   repeat (apply item_take; rfl; rfl; rfl; rfl; exact fun _ _ _ _ h => h; (intro _ _ _ k; go_simp; exact k))
   apply zn; rfl; intro K hK; go_simp
   refine hK _ _ ?_
   clear hK K fp ep
   apply zm
   have eh := qh h6.o.2
   go_wp2
   go_roundw
   case rel => exact ⟨i + 1, _, by omega, by go_num, by rw [aY.o]; exact eh.o⟩
   case measure => simp [intOf]; omega
  ·obtain rfl : i = n := by omega
   go_wp2
   go_end0
   refine ⟨rfl, ⟨_, hV.o.1, ?_⟩, ?_, ?_⟩
   ·rw [HR.o]; exact hV.o.2.1.sliceE H1.o.2.2.size
   ·rw [HR.o]; exact hV.o.2.2.1
   ·exact Fr.trans H1.o.2.2 hV.o.2.2.2 (fun _ _ e => .inl e) (fun _ _ e => e)
abbrev zdd (m : Mod) : Mod := { m with customs := [] }
abbrev zae (v : ModV) : ModV := { v with customs := .slice none 0 0 }
structure FreshV (last : Nat) (v : ModV) : Prop where
 tables : last < 4 → v.tables = .slice none 0 0
 memories : last < 5 → v.memories = .slice none 0 0
 globals : last < 6 → v.globals = .slice none 0 0
 exports : last < 7 → v.exports = .slice none 0 0
 elements : last < 9 → v.elements = .slice none 0 0
 codes : last < 10 → v.codes = .slice none 0 0
 datas : last < 11 → v.datas = .slice none 0 0
theorem FreshV.mono {a b : Nat} {v : ModV} (h : FreshV a v) (nL : a ≤ b) : FreshV b v := ⟨fun k => h.tables (by omega), fun k => h.memories (by omega), fun k => h.globals (by omega), fun k => h.exports (by omega), fun k => h.elements (by omega), fun k => h.codes (by omega), fun k => h.datas (by omega)⟩
abbrev aSec (A D : Nat → Prop) (w W : World) : Nat → Prop := fun k => (A k ∨ D k ∨ w.heap.size ≤ k) ∧ k < W.heap.size
theorem zcm {N id : Nat} (h1 : 1 ≤ id) (h2 : id ≤ 11) (D A : Nat → Prop) (g gm : Nat) (lo : Bool) (s : St) (M : Mod) (v : ModV) (w : World) (h : SpR D g lo s w) (hB : Blk w gm (zt M v) 37) (ag : ¬ gm = g) (dP : ∀ k, D k → ¬ k = gm) (hl : s.b.length ≤ 1048576)
 (hM : ModAt (N + 1) A w (zdd M) (zae v)) (hA : ∀ k, A k → k < w.heap.size ∧ ¬ (k = g ∨ k = gm)) (hF : FreshV (id - 1) v) :
 Calls Tryz.prog 54 #[.pointer (some ⟨g, 0, none⟩), .int .i64 (id : Int), .pointer (some ⟨gm, 0, none⟩)] w fun e w' => e = .returned (.tuple #[]) ∧ ∃ v', Blk w' gm (zt (zE id M s).1 v') 37 ∧ ModAt (N + 1) (aSec A D w w') w' (zdd (zE id M s).1) (zae v') ∧ v'.customs = v.customs ∧ FreshV id v' ∧
  (zE id M s).1.customs = M.customs ∧ SpR D g lo (zE id M s).2 w' ∧ Fr (fun k => k = g ∨ k = gm) w w' := by
 have mz : ∀ (w' : World), Fr (fun k => k = g ∨ k = gm) w w' → ModAt (N + 1) (aSec A D w w') w' (zdd M) (zae v) := fun w' hf => (hM.fr hf (fun k hk => hA k hk)).mono (fun k hk => ⟨.inl hk, nqQ (hA k hk).1 hf.size⟩)
 have hE : ∀ (w' : World) k, aE D w w' k → aSec A D w w' k := fun w' k hk => ⟨.inr hk.1, hk.2⟩
 have : id = 1 ∨ id = 2 ∨ id = 3 ∨ id = 4 ∨ id = 5 ∨ id = 6 ∨ id = 7 ∨ id = 8 ∨ id = 9 ∨ id = 10 ∨ id = 11 := by omega
 rcases this with rfl | rfl | rfl | rfl | rfl | rfl | rfl | rfl | rfl | rfl | rfl
 ·refine (ze7 N D g gm lo s w v.types (.int .u32 (M.version.toNat : Int)) (.bool M.hasStart) (.int .u32 (M.start.toNat : Int)) v.imports v.functions v.tables v.memories v.elements v.globals v.exports v.codes v.datas v.customs (.string (zd M.named)) v.funcs v.locals h hB ag dP hl).mono ?_
  rintro e w' ⟨rfl, ⟨x, k1, k0⟩, k2, k3⟩
  rw [ZA]
  exact ⟨rfl, { v with types := x }, k1, (mz w' k3).set_types (Lay.mono _ k0 (hE w')), rfl, ⟨fun k => hF.tables (by omega), fun k => hF.memories (by omega), fun k => hF.globals (by omega), fun k => hF.exports (by omega), fun k => hF.elements (by omega), fun k => hF.codes (by omega), fun k => hF.datas (by omega)⟩, rfl, k2, k3⟩
 ·refine (ze8 N D g gm lo s w v.imports (.int .u32 (M.version.toNat : Int)) (.bool M.hasStart) (.int .u32 (M.start.toNat : Int)) v.types v.functions v.tables v.memories v.elements v.globals v.exports v.codes v.datas v.customs (.string (zd M.named)) v.funcs v.locals h hB ag dP hl).mono ?_
  rintro e w' ⟨rfl, ⟨x, k1, k0⟩, k2, k3⟩
  rw [ZB]
  exact ⟨rfl, { v with imports := x }, k1, (mz w' k3).set_imports (Lay.mono _ k0 (hE w')), rfl, ⟨fun k => hF.tables (by omega), fun k => hF.memories (by omega), fun k => hF.globals (by omega), fun k => hF.exports (by omega), fun k => hF.elements (by omega), fun k => hF.codes (by omega), fun k => hF.datas (by omega)⟩, rfl, k2, k3⟩
 ·refine (ze9 N D g gm lo s w v.functions (.int .u32 (M.version.toNat : Int)) (.bool M.hasStart) (.int .u32 (M.start.toNat : Int)) v.types v.imports v.tables v.memories v.elements v.globals v.exports v.codes v.datas v.customs (.string (zd M.named)) v.funcs v.locals h hB ag dP hl).mono ?_
  rintro e w' ⟨rfl, ⟨x, k1, k0⟩, k2, k3⟩
  rw [ZC]
  exact ⟨rfl, { v with functions := x }, k1, (mz w' k3).set_functions (Lay.mono _ k0 (hE w')), rfl, ⟨fun k => hF.tables (by omega), fun k => hF.memories (by omega), fun k => hF.globals (by omega), fun k => hF.exports (by omega), fun k => hF.elements (by omega), fun k => hF.codes (by omega), fun k => hF.datas (by omega)⟩, rfl, k2, k3⟩
 ·have hz := hF.tables (by omega)
  rw [show zt M v = zt M { v with tables := .slice none 0 0 } from by rw [← hz]] at hB
  refine (zfa N D g gm lo s w (.int .u32 (M.version.toNat : Int)) (.bool M.hasStart) (.int .u32 (M.start.toNat : Int)) v.types v.imports v.functions v.memories v.elements v.globals v.exports v.codes v.datas v.customs (.string (zd M.named)) v.funcs v.locals h hB ag dP hl).mono ?_
  rintro e w' ⟨rfl, ⟨x, k1, k0⟩, k2, k3⟩
  rw [ZD]
  exact ⟨rfl, { v with tables := x }, k1, (mz w' k3).set_tables (Lay.mono _ k0 (hE w')), rfl, ⟨fun k => absurd k (by decide), fun k => hF.memories (by omega), fun k => hF.globals (by omega), fun k => hF.exports (by omega), fun k => hF.elements (by omega), fun k => hF.codes (by omega), fun k => hF.datas (by omega)⟩, rfl, k2, k3⟩
 ·have hz := hF.memories (by omega)
  rw [show zt M v = zt M { v with memories := .slice none 0 0 } from by rw [← hz]] at hB
  refine (zfb N D g gm lo s w (.int .u32 (M.version.toNat : Int)) (.bool M.hasStart) (.int .u32 (M.start.toNat : Int)) v.types v.imports v.functions v.tables v.elements v.globals v.exports v.codes v.datas v.customs (.string (zd M.named)) v.funcs v.locals h hB ag dP hl).mono ?_
  rintro e w' ⟨rfl, ⟨x, k1, k0⟩, k2, k3⟩
  rw [ZE]
  exact ⟨rfl, { v with memories := x }, k1, (mz w' k3).set_memories (Lay.mono _ k0 (hE w')), rfl, ⟨fun k => hF.tables (by omega), fun k => absurd k (by decide), fun k => hF.globals (by omega), fun k => hF.exports (by omega), fun k => hF.elements (by omega), fun k => hF.codes (by omega), fun k => hF.datas (by omega)⟩, rfl, k2, k3⟩
 ·have hz := hF.globals (by omega)
  rw [show zt M v = zt M { v with globals := .slice none 0 0 } from by rw [← hz]] at hB
  refine (zfc N D g gm lo s w (.int .u32 (M.version.toNat : Int)) (.bool M.hasStart) (.int .u32 (M.start.toNat : Int)) v.types v.imports v.functions v.tables v.memories v.elements v.exports v.codes v.datas v.customs (.string (zd M.named)) v.funcs v.locals h hB ag dP hl).mono ?_
  rintro e w' ⟨rfl, ⟨x, k1, k0⟩, k2, k3⟩
  rw [ZF]
  exact ⟨rfl, { v with globals := x }, k1, (mz w' k3).set_globals (Lay.mono _ k0 (hE w')), rfl, ⟨fun k => hF.tables (by omega), fun k => hF.memories (by omega), fun k => absurd k (by decide), fun k => hF.exports (by omega), fun k => hF.elements (by omega), fun k => hF.codes (by omega), fun k => hF.datas (by omega)⟩, rfl, k2, k3⟩
 ·have hz := hF.exports (by omega)
  rw [show zt M v = zt M { v with exports := .slice none 0 0 } from by rw [← hz]] at hB
  refine (zfd h hB ag dP hl).mono ?_
  rintro e w' ⟨rfl, ⟨x, k1, k0⟩, k2, k3⟩
  rw [ZG]
  exact ⟨rfl, { v with exports := x }, k1, (mz w' k3).set_exports (Lay.mono _ k0 (hE w')), rfl, ⟨fun k => hF.tables (by omega), fun k => hF.memories (by omega), fun k => hF.globals (by omega), fun k => absurd k (by decide), fun k => hF.elements (by omega), fun k => hF.codes (by omega), fun k => hF.datas (by omega)⟩, rfl, k2, k3⟩
 ·refine (zfe h hB ag dP hl).mono ?_
  rintro e w' ⟨rfl, k1, k2, k3⟩
  rw [ZH]
  have hm := mz w' k3
  exact ⟨rfl, v, k1, ⟨hm.types, hm.imports, hm.functions, hm.tables, hm.memories, hm.elements, hm.globals, hm.exports, hm.codes, hm.datas, hm.customs, hm.funcs, hm.locals, hm.named⟩, rfl, ⟨fun k => hF.tables (by omega), fun k => hF.memories (by omega), fun k => hF.globals (by omega), fun k => hF.exports (by omega), fun k => hF.elements (by omega), fun k => hF.codes (by omega), fun k => hF.datas (by omega)⟩, rfl, k2, k3⟩
 ·have hz := hF.elements (by omega)
  rw [show zt M v = zt M { v with elements := .slice none 0 0 } from by rw [← hz]] at hB
  refine (zff N D g gm lo s w (.int .u32 (M.version.toNat : Int)) (.bool M.hasStart) (.int .u32 (M.start.toNat : Int)) v.types v.imports v.functions v.tables v.memories v.globals v.exports v.codes v.datas v.customs (.string (zd M.named)) v.funcs v.locals h hB ag dP hl).mono ?_
  rintro e w' ⟨rfl, ⟨x, k1, k0⟩, k2, k3⟩
  rw [ZI]
  exact ⟨rfl, { v with elements := x }, k1, (mz w' k3).set_elements (Lay.mono _ k0 (hE w')), rfl, ⟨fun k => hF.tables (by omega), fun k => hF.memories (by omega), fun k => hF.globals (by omega), fun k => hF.exports (by omega), fun k => absurd k (by decide), fun k => hF.codes (by omega), fun k => hF.datas (by omega)⟩, rfl, k2, k3⟩
 ·have hz := hF.codes (by omega)
  rw [show zt M v = zt M { v with codes := .slice none 0 0 } from by rw [← hz]] at hB
  refine (zd0 N D g gm lo s w (.int .u32 (M.version.toNat : Int)) (.bool M.hasStart) (.int .u32 (M.start.toNat : Int)) v.types v.imports v.functions v.tables v.memories v.elements v.globals v.exports v.datas v.customs (.string (zd M.named)) v.funcs v.locals h hB ag dP hl).mono ?_
  rintro e w' ⟨rfl, ⟨x, k1, k0⟩, k2, k3⟩
  rw [JZ]
  exact ⟨rfl, { v with codes := x }, k1, (mz w' k3).set_codes (Lay.mono _ k0 (hE w')), rfl, ⟨fun k => hF.tables (by omega), fun k => hF.memories (by omega), fun k => hF.globals (by omega), fun k => hF.exports (by omega), fun k => hF.elements (by omega), fun k => absurd k (by decide), fun k => hF.datas (by omega)⟩, rfl, k2, k3⟩
 ·have hz := hF.datas (by omega)
  rw [show zt M v = zt M { v with datas := .slice none 0 0 } from by rw [← hz]] at hB
  refine (zd1 N D g gm lo s w (.int .u32 (M.version.toNat : Int)) (.bool M.hasStart) (.int .u32 (M.start.toNat : Int)) v.types v.imports v.functions v.tables v.memories v.elements v.globals v.exports v.codes v.customs (.string (zd M.named)) v.funcs v.locals h hB ag dP hl).mono ?_
  rintro e w' ⟨rfl, ⟨x, k1, k0⟩, k2, k3⟩
  rw [J0]
  exact ⟨rfl, { v with datas := x }, k1, (mz w' k3).set_datas (Lay.mono _ k0 (hE w')), rfl, ⟨fun k => hF.tables (by omega), fun k => hF.memories (by omega), fun k => hF.globals (by omega), fun k => hF.exports (by omega), fun k => hF.elements (by omega), fun k => hF.codes (by omega), fun k => absurd k (by decide)⟩, rfl, k2, k3⟩
theorem Z5 (lo : Bool) : ∀ (f : Nat) (m : Mod) (last : Nat) (s : St), (zw lo f m last s).1.customs = m.customs
 | 0, m, _, _ => rfl
 | f + 1, m, last, s => by
  unfold zw
  split
  ·dsimp only
   split
   ·rfl
   ·refine (Z5 lo f _ _ _).trans ?_
    unfold jr
    split
    ·rfl
    ·split <;> rfl
  ·rfl
theorem zak (id : Nat) (m : Mod) (s : St) : (zE id m s).1.customs = m.customs := by
 unfold zE
 by_cases h1 : id = 1
 ·subst h1; rfl
 by_cases h2 : id = 2
 ·subst h2; rfl
 by_cases h3 : id = 3
 ·subst h3; rfl
 by_cases h4 : id = 4
 ·subst h4; rfl
 by_cases h5 : id = 5
 ·subst h5; rfl
 by_cases h6 : id = 6
 ·subst h6; rfl
 by_cases h7 : id = 7
 ·subst h7; rfl
 by_cases h8 : id = 8
 ·subst h8; rfl
 by_cases h9 : id = 9
 ·subst h9; rfl
 by_cases pD : id = 10
 ·subst pD; rfl
 by_cases mJ : id = 11
 ·subst mJ; rfl
 rw [if_neg h1, if_neg h2, if_neg h3, if_neg h4, if_neg h5, if_neg h6, if_neg h7, if_neg h8, if_neg h9, if_neg pD, if_neg mJ]
def mS1 (t0 : St) : St := if t0.b = [] then t0.fail 2 else t0
def mS3 (c x : Nat) (s2 : St) : St := if s2.v = 0 ∧ (x = 0 ∨ s2.b = [] ∨ (c = 0 ∧ s2.b.length < x)) then s2.fail 2 else s2
def zbu (t2 q : St) : St := if (ye q).v ≠ 0 then t2.fail (ye q).v else t2
def mEnd (lo : Bool) (p : ModSt) (c : Nat) (t : List UInt8 × St) : ModSt × Bool := if t.2.v ≠ 0 then ({ p with s := t.2 }, false) else ({ secQ lo c p t.1 with s := zbu t.2 (secQ lo c p t.1).s }, true)
theorem zhE (lo : Bool) (p : ModSt) : j6 lo p = mEnd lo p (zi p.s).1 (zy (zc (mS1 (zi p.s).2)).1 (mS3 (zi p.s).1 (zc (mS1 (zi p.s).2)).1 (ye (zc (mS1 (zi p.s).2)).2))) := by
 obtain ⟨id, eX⟩ := exQ (zi p.s)
 unfold j6
 rw [eX]
 dsimp only
 obtain ⟨s1, ed⟩ := exQ (mS1 id.2)
 rw [show (if id.2.b = [] then id.2.fail 2 else id.2) = s1 from ed, ed]
 obtain ⟨n, hn⟩ := exQ (zc s1)
 rw [hn]
 obtain ⟨s2, cT⟩ := exQ (ye n.2)
 rw [cT]
 obtain ⟨s3, i5⟩ := exQ (mS3 id.1 n.1 s2)
 rw [show (if s2.v = 0 ∧ (n.1 = 0 ∨ s2.b = [] ∨ (id.1 = 0 ∧ s2.b.length < n.1)) then s2.fail 2 else s2) = s3 from i5, i5]
 obtain ⟨t, ht⟩ := exQ (zy n.1 s3)
 rw [ht]
 rfl
def zde (s : St) : St := if s.v = 3 then { s with v := 1 } else s
def zdf (m : Mod) (s : St) : St := if s.v = 0 ∧ m.functions.length ≠ m.codes.length then s.fail 2 else s
def mFin (R : ModSt) : Mod × Nat := (R.m, (zdf R.m (zde R.s)).v)
theorem zgO (lo : Bool) (b : List UInt8) : zV lo b = if b.take 8 ≠ Z2 then (Mod.none, 1) else mFin (jR lo b.length ⟨{ Mod.none with version := 1 }, 0, false, ⟨b.drop 8, 0⟩⟩) := rfl
theorem zdg (lo : Bool) (m : Mod) (seen : Bool) (s : St) : (zs lo m seen s).1.hasStart = m.hasStart ∧ (zs lo m seen s).1.start = m.start := by
 have hp : ∀ (id : Nat) (m : Mod) (s : St), (jr lo id m s).1.hasStart = m.hasStart ∧ (jr lo id m s).1.start = m.start := fun id m s => by
  unfold jr
  split
  ·exact ⟨rfl, rfl⟩
  ·split <;> exact ⟨rfl, rfl⟩
 have hn : ∀ (f : Nat) (m : Mod) (last : Nat) (s : St), (zw lo f m last s).1.hasStart = m.hasStart ∧ (zw lo f m last s).1.start = m.start := by
  intro f
  induction f with
  | zero => exact fun _ _ _ => ⟨rfl, rfl⟩
  | succ f ih =>
   intro m last s
   unfold zw
   split
   ·dsimp only
    split
    ·exact ⟨rfl, rfl⟩
    ·exact ⟨(ih _ _ _).1.trans (hp _ _ _).1, (ih _ _ _).2.trans (hp _ _ _).2⟩
   ·exact ⟨rfl, rfl⟩
 unfold zs
 dsimp only
 split
 ·exact ⟨rfl, rfl⟩
 ·split
  ·exact ⟨rfl, rfl⟩
  ·exact hn _ _ _ _
theorem ziX (s : St) : (mS1 s).b.length ≤ s.b.length := by
 unfold mS1; split
 ·exact nzQ _
 ·exact Nat.le_refl _
theorem ziY (c x : Nat) (s : St) : (mS3 c x s).b.length ≤ s.b.length := by
 unfold mS3; split
 ·exact nzQ _
 ·exact Nat.le_refl _
theorem zgP (s : St) : (ye s).b.length ≤ s.b.length := by
 unfold ye; split <;> exact Nat.le_refl _
theorem zdh (lo : Bool) (c : Nat) (p : ModSt) (t : List UInt8) : (secQ lo c p t).m.customs.length ≤ p.m.customs.length + 1 := by
 unfold secQ
 split
 ·dsimp only
  unfold zs
  dsimp only
  split
  ·exact Nat.le_succ _
  ·split
   ·show (p.m.customs ++ [_]).length ≤ _
    rw [laQ]; exact Nat.le_refl _
   ·rw [Z5]; omega
 ·split
  ·dsimp only; omega
  ·dsimp only
   rw [zak]; omega
theorem SpR.newD {D : Nat → Prop} {lo : Bool} {w : World} {b : List UInt8} {a : Option Addr} {m c : Nat} (hD : ∀ k, D k → k < w.heap.size) (hr : Lay.u8.slice.rd D w [.slice a m c] b) : SpR D w.heap.size lo ⟨b, 0⟩ (w.alloc (.cells #[.slice a m c, .int .i64 0, .bool lo] 142)) := by
 obtain ⟨aa, cap, e, h1, h2, h3⟩ := id hr
 simp only [List.cons.injEq, Value.slice.injEq, and_true] at e
 obtain ⟨rfl, rfl, rfl⟩ := e
 exact ⟨_, _, zl _ _ _, Lay.frame _ hr (fun k hk => (za w _).block k (hD k hk) (fun q => q)), fun k hk => ⟨by have := hD k hk; simp; omega, by have := hD k hk; omega⟩⟩
abbrev aM (D : Nat → Prop) (L0 : Nat) (W : World) (c : Value) : Nat → Prop := fun k => (D k ∨ L0 ≤ k) ∧ k < W.heap.size ∧ some k ≠ c.ownBlock
structure MG (D : Nat → Prop) (w : World) (gm gr gn L0 : Nat) : Prop where
 lm : gm < L0
 lr : gr < L0
 ln : gn < L0
 mr : ¬ gm = gr
 nr : ¬ gn = gr
 mn : ¬ gm = gn
 wm : w.heap.size ≤ gm
 wr : w.heap.size ≤ gr
 wn : w.heap.size ≤ gn
 D : ∀ k, D k → k < w.heap.size
structure MJ (N : Nat) (D : Nat → Prop) (w : World) (gm gr gn L0 : Nat) (W : World) (p : ModSt) (v : ModV) : Prop where
 m : Blk W gm (zt p.m v) 37
 n : Blk W gn #[.bool p.names] 4
 r : SpR D gr false p.s W
 at' : ModAt (N + 1) (aM D L0 W v.customs) W (zdd p.m) (zae v)
 cus : OwnG Lay.cus 100 L0 (fun k => ¬ D k) W v.customs p.m.customs
 fresh : FreshV p.last v
 ext : Ext w W
 lo : L0 ≤ W.heap.size
 len : p.m.customs.length + p.s.b.length ≤ 1048576
section
variable {N : Nat} {D : Nat → Prop} {w : World} {gm gr gn L0 : Nat} {W W' : World} {p : ModSt} {v : ModV}
theorem MJ.reader (h : MJ N D w gm gr gn L0 W p v) (G : MG D w gm gr gn L0) {s' : St} (hf : Fr (fun k => k = gr) W W') (hs : SpR D gr false s' W') (hl : s'.b.length ≤ p.s.b.length) : MJ N D w gm gr gn L0 W' { p with s := s' } v :=
 ⟨h.m.fr hf G.mr, h.n.fr hf G.nr, hs, (h.at'.fr hf (fun k hk => ⟨hk.2.1, fun e => by
  have e' : k = gr := e
  rcases hk.1 with q | q
  ·have := G.D k q; have := G.wr; omega
  ·have := G.lr; omega⟩)).mono (fun k hk => ⟨hk.1, nqQ hk.2.1 hf.size, hk.2.2⟩),
  h.cus.fr hf (fun k e => .inl (fun q => by have e' : k = gr := e; have := G.D k q; have := G.wr; omega)) (fun k hk e => by have e' : k = gr := e; have := (h.cus.lt k hk).1; have := G.lr; omega),
  h.fresh, Fr.new (Ext.fr h.ext hf) (fun k e => by have e' : k = gr := e; have := G.wr; omega), nlQ h.lo hf.size, by have := h.len; show p.m.customs.length + s'.b.length ≤ _; omega⟩
theorem MJ.new (h : MJ N D w gm gr gn L0 W p v) (hx : Ext W W') : MJ N D w gm gr gn L0 W' p v :=
 ⟨h.m.ext hx, h.n.ext hx, h.r.ext hx, (h.at'.fr hx (fun k hk => ⟨hk.2.1, fun e => e⟩)).mono (fun k hk => ⟨hk.1, nqQ hk.2.1 hx.size, hk.2.2⟩), h.cus.ext hx, h.fresh, Ext.trans h.ext hx, nlQ h.lo hx.size, h.len⟩
theorem MJ.section (h : MJ N D w gm gr gn L0 W p v) (G : MG D w gm gr gn L0) {W5 : World} {gs id : Nat} (eX : p.last < id) {M' : Mod} {v' : ModV} (fe : W.heap.size ≤ gs) (hx : Ext W W') (hf : Fr (fun k => k = gs ∨ k = gm) W' W5)
 (hB : Blk W5 gm (zt M' v') 37) (hM : ModAt (N + 1) (aSec (aM D L0 W v.customs) D W' W5) W5 (zdd M') (zae v')) (hc : v'.customs = v.customs) (dA : FreshV id v') (kn : M'.customs = p.m.customs) :
 MJ N D w gm gr gn L0 W5 ⟨M', id, p.names, p.s⟩ v' := by
 have ah : ∀ k, v.customs.ownBlock = some k → L0 ≤ k ∧ k < W.heap.size := h.cus.lt
 have h' := h.new hx
 have hD : ∀ k, D k → k < L0 := fun k hk => by have := G.D k hk; have := G.wm; have := G.lm; omega
 refine ⟨hB, h'.n.fr hf (fun e => e.elim (fun e => by have := G.ln; have := h.lo; omega) (fun e => G.mn e.symm)), h'.r.fr hf (fun e => e.elim (fun e => by have := G.lr; have := h.lo; omega) (fun e => G.mr e.symm)) (fun k hk e => e.elim (fun e => by have := hD k hk; have := h.lo; omega) (fun e => by have := G.D k hk; have := G.wm; omega)), ?_, ?_, dA, ?_, nlQ h'.lo hf.size, by rw [kn]; exact h.len⟩
 ·refine hM.mono fun k hk => ?_
  rw [hc]
  rcases hk.1 with q | q | q
  ·exact ⟨q.1, hk.2, q.2.2⟩
  ·exact ⟨.inl q, hk.2, fun e => by have := (ah k e.symm).1; have := hD k q; omega⟩
  ·exact ⟨.inr (by have := h'.lo; omega), hk.2, fun e => by have := (ah k e.symm).2; have := hx.size; omega⟩
 ·rw [hc, kn]
  exact h'.cus.fr hf (fun k e => .inl (fun q => e.elim (fun e => by have := hD k q; have := h.lo; omega) (fun e => by have := G.D k q; have := G.wm; omega))) (fun k hk e => by
   have hq := ah k hk
   rcases e with e | e
   ·omega
   ·have := G.lm; omega)
 ·exact Fr.new (Ext.fr h'.ext hf) (fun k e => e.elim (fun e => by have := h.ext.size; omega) (fun e => by have := G.wm; omega))
theorem MJ.custom (h : MJ N D w gm gr gn L0 W p v) (G : MG D w gm gr gn L0) {W5 : World} {gs : Nat} {M' : Mod} {nm : Bool} {dN dX dY : Value} (fe : W.heap.size ≤ gs) (hx : Ext W W')
 (hf : Fr (fun k => k = gs ∨ k = gm ∨ k = gn ∨ some k = v.customs.ownBlock) W' W5) (lT : Same p.m M') (aU : M'.hasStart = p.m.hasStart ∧ M'.start = p.m.start)
 (hB : Blk W5 gm (zt M' { v with customs := dN, funcs := dX, locals := dY }) 37) (hN : Blk W5 gn #[.bool nm] 4)
 (rZ : Lay.nam.slice.rd (fun k => (aM D L0 W v.customs k ∨ W'.heap.size ≤ k) ∧ k < W5.heap.size ∧ some k ≠ dN.ownBlock) W5 [dX] M'.funcs)
 (rv : Lay.nam.slice.rd (fun k => (aM D L0 W v.customs k ∨ W'.heap.size ≤ k) ∧ k < W5.heap.size ∧ some k ≠ dN.ownBlock) W5 [dY] M'.locals)
 (hn : (zd M'.named).size ≤ maxLen) (hc : OwnG Lay.cus 100 L0 (fun k => ¬ D k) W5 dN M'.customs) (ho : ∀ k, dN.ownBlock = some k → v.customs.ownBlock = some k ∨ W'.heap.size ≤ k) {s' : St} (hl : M'.customs.length + s'.b.length ≤ 1048576)
 (hR : s' = p.s) : MJ N D w gm gr gn L0 W5 ⟨M', p.last, nm, s'⟩ { v with customs := dN, funcs := dX, locals := dY } := by
 subst hR
 have ah : ∀ k, v.customs.ownBlock = some k → L0 ≤ k ∧ k < W.heap.size := h.cus.lt
 have h' := h.new hx
 have hD : ∀ k, D k → k < L0 := fun k hk => by have := G.D k hk; have := G.wm; have := G.lm; omega
 have qv : ∀ k, aM D L0 W v.customs k → k < W'.heap.size ∧ ¬ (k = gs ∨ k = gm ∨ k = gn ∨ some k = v.customs.ownBlock) := fun k hk => ⟨nqQ hk.2.1 hx.size, fun e => by
  have hq := hk.1
  have := hk.2.1
  rcases e with e | e | e | e
  ·omega
  ·rcases hq with q | q
   ·have := G.D k q; have := G.wm; omega
   ·have := G.lm; omega
  ·rcases hq with q | q
   ·have := G.D k q; have := G.wn; omega
   ·have := G.ln; omega
  ·exact hk.2.2 e⟩
 have mh : ModAt (N + 1) (aM D L0 W5 dN) W5 (zdd p.m) (zae v) :=
  (((h.at'.fr hx (fun k hk => ⟨hk.2.1, fun e => e⟩)).fr hf qv)).mono (fun k hk => ⟨hk.1, nqQ (nqQ hk.2.1 hx.size) hf.size, fun e => (ho k e.symm).elim (fun q => hk.2.2 q.symm) (fun q => by have := hk.2.1; have := hx.size; omega)⟩)
 have rX : ∀ k, ((aM D L0 W v.customs k ∨ W'.heap.size ≤ k) ∧ k < W5.heap.size ∧ some k ≠ dN.ownBlock) → aM D L0 W5 dN k := fun k hk => ⟨hk.1.elim (fun q => q.1) (fun q => .inr (by have := h'.lo; omega)), hk.2⟩
 refine ⟨hB, hN, h'.r.fr hf (fun e => ?_) (fun k hk e => ?_), ?_, hc, ⟨h.fresh.tables, h.fresh.memories, h.fresh.globals, h.fresh.exports, h.fresh.elements, h.fresh.codes, h.fresh.datas⟩, ?_, nlQ h'.lo hf.size, hl⟩
 ·rcases e with e | e | e | e
  ·have := G.lr; have := h.lo; omega
  ·exact G.mr e.symm
  ·exact G.nr e.symm
  ·have := (ah gr e.symm).1; have := G.lr; omega
 ·rcases e with e | e | e | e
  ·have := hD k hk; have := h.lo; omega
  ·have := G.D k hk; have := G.wm; omega
  ·have := G.D k hk; have := G.wn; omega
  ·have := (ah k e.symm).1; have := hD k hk; omega
 ·obtain ⟨e1, e2, e3, e4, e5, e6, e7, e8, e9, Db, uJ⟩ := lT
  refine ⟨?_, ?_, ?_, ?_, ?_, ?_, ?_, ?_, ?_, ?_, mh.customs, Lay.mono _ rZ rX, Lay.mono _ rv rX, hn⟩
  ·show Lay.ft.slice.rd _ _ [v.types] M'.types; rw [e2]; exact mh.types
  ·show Lay.imp.slice.rd _ _ [v.imports] M'.imports; rw [e3]; exact mh.imports
  ·show Lay.u32.slice.rd _ _ [v.functions] M'.functions; rw [e4]; exact mh.functions
  ·show Lay.lim.slice.rd _ _ [v.tables] M'.tables; rw [e5]; exact mh.tables
  ·show Lay.lim.slice.rd _ _ [v.memories] M'.memories; rw [e6]; exact mh.memories
  ·show (Lay.elem (N + 1)).slice.rd _ _ [v.elements] M'.elements; rw [e7]; exact mh.elements
  ·show (Lay.glob (N + 1)).slice.rd _ _ [v.globals] M'.globals; rw [e8]; exact mh.globals
  ·show Lay.expo.slice.rd _ _ [v.exports] M'.exports; rw [e9]; exact mh.exports
  ·show Lay.u8.slice.slice.rd _ _ [v.codes] M'.codes; rw [Db]; exact mh.codes
  ·show (Lay.dat (N + 1)).slice.rd _ _ [v.datas] M'.datas; rw [uJ]; exact mh.datas
 ·exact Fr.new (Ext.fr h'.ext hf) (fun k e => by
   rcases e with e | e | e | e
   ·have := h.ext.size; omega
   ·have := G.wm; omega
   ·have := G.wn; omega
   ·have := (ah k e.symm).1; have := G.lm; have := G.wm; omega)
theorem MJ.newF (h : MJ N D w gm gr gn L0 W p v) (hx : Ext W W') {gs : Nat} (fe : W.heap.size ≤ gs) {W6 : World} (hf : Fr (fun k => k = gs) W' W6) : MJ N D w gm gr gn L0 W6 p v :=
 h.new (Fr.new (Ext.fr hx hf) (fun k e => by cases e; omega))
theorem MJ.sectionF (h : MJ N D w gm gr gn L0 W p v) (G : MG D w gm gr gn L0) {W5 W6 : World} {gs id : Nat} (eX : p.last < id) {M' : Mod} {v' : ModV} (fe : W.heap.size = gs) (wI : gs < W'.heap.size) (hx : Ext W W') (hf : Fr (fun k => k = gs ∨ k = gm) W' W5)
 (hB : Blk W5 gm (zt M' v') 37) (hM : ModAt (N + 1) (aSec (aM D L0 W v.customs) D W' W5) W5 (zdd M') (zae v')) (hc : v'.customs = v.customs) (dA : FreshV id v') (kn : M'.customs = p.m.customs)
 (ep : Fr (fun k => k = gs) W5 W6) : MJ N D w gm gr gn L0 W6 ⟨M', id, p.names, p.s⟩ v' := by
 have bj := h.lo
 refine h.section G eX (Nat.le_of_eq fe) hx (Fr.trans hf ep (fun _ _ e => e) (fun _ _ e => .inl e)) (hB.fr ep (fun e => by have := G.lm; have e' : gm = gs := e; omega)) ((hM.fr ep (fun k hk => ⟨hk.2, fun e => ?_⟩)).mono (fun k hk => ⟨hk.1, nqQ hk.2 ep.size⟩)) hc dA kn
 have e' : k = gs := e
 rcases hk.1 with q | q | q
 ·have := q.2.1; omega
 ·have := G.D k q; have := h.ext.size; omega
 ·omega
theorem MJ.customF (h : MJ N D w gm gr gn L0 W p v) (G : MG D w gm gr gn L0) {W5 W6 : World} {gs : Nat} {M' : Mod} {nm : Bool} {dN dX dY : Value} (fe : W.heap.size = gs) (wI : gs < W'.heap.size) (hx : Ext W W')
 (hf : Fr (fun k => k = gs ∨ k = gm ∨ k = gn ∨ some k = v.customs.ownBlock) W' W5) (lT : Same p.m M') (aU : M'.hasStart = p.m.hasStart ∧ M'.start = p.m.start)
 (hB : Blk W5 gm (zt M' { v with customs := dN, funcs := dX, locals := dY }) 37) (hN : Blk W5 gn #[.bool nm] 4)
 (rZ : Lay.nam.slice.rd (fun k => (aM D L0 W v.customs k ∨ W'.heap.size ≤ k) ∧ k < W5.heap.size ∧ some k ≠ dN.ownBlock) W5 [dX] M'.funcs)
 (rv : Lay.nam.slice.rd (fun k => (aM D L0 W v.customs k ∨ W'.heap.size ≤ k) ∧ k < W5.heap.size ∧ some k ≠ dN.ownBlock) W5 [dY] M'.locals)
 (hn : (zd M'.named).size ≤ maxLen) (hc : OwnG Lay.cus 100 L0 (fun k => ¬ D k) W5 dN M'.customs) (ho : ∀ k, dN.ownBlock = some k → v.customs.ownBlock = some k ∨ W'.heap.size ≤ k) (hl : M'.customs.length + p.s.b.length ≤ 1048576)
 (ep : Fr (fun k => k = gs) W5 W6) : MJ N D w gm gr gn L0 W6 ⟨M', p.last, nm, p.s⟩ { v with customs := dN, funcs := dX, locals := dY } := by
 have bj := h.lo
 have eF : ∀ k, ((aM D L0 W v.customs k ∨ W'.heap.size ≤ k) ∧ k < W5.heap.size ∧ some k ≠ dN.ownBlock) → k < W5.heap.size ∧ ¬ k = gs := fun k hk => ⟨hk.2.1, fun e => hk.1.elim (fun q => by have := q.2.1; omega) (fun q => by omega)⟩
 have oe : ∀ k, ((aM D L0 W v.customs k ∨ W'.heap.size ≤ k) ∧ k < W5.heap.size ∧ some k ≠ dN.ownBlock) → ((aM D L0 W v.customs k ∨ W'.heap.size ≤ k) ∧ k < W6.heap.size ∧ some k ≠ dN.ownBlock) := fun k hk => ⟨hk.1, nqQ hk.2.1 ep.size, hk.2.2⟩
 exact h.custom G (Nat.le_of_eq fe) hx (Fr.trans hf ep (fun _ _ e => e) (fun _ _ e => .inl e)) lT aU (hB.fr ep (fun e => by have := G.lm; have e' : gm = gs := e; omega)) (hN.fr ep (fun e => by have := G.ln; have e' : gn = gs := e; omega)) (zS rZ ep eF oe) (zS rv ep eF oe) hn
  (hc.fr ep (fun k e => .inl (fun q => by have e' : k = gs := e; have := G.D k q; have := h.ext.size; omega)) (fun k hk e => by
   have e' : k = gs := e
   rcases ho k hk with q | q
   ·have := (h.cus.lt k q).2; omega
   ·omega)) ho hl rfl
theorem zcn {m m' : Mod} {v' : ModV} (h : Same m m') (aU : m'.hasStart = m.hasStart ∧ m'.start = m.start) : zt m' v' = #[.int .u32 (m.version.toNat : Int), .bool m.hasStart, .int .u32 (m.start.toNat : Int), v'.types, v'.imports, v'.functions, v'.tables, v'.memories, v'.elements, v'.globals, v'.exports, v'.codes, v'.datas, v'.customs, .string (zd m'.named), v'.funcs, v'.locals] := by
 unfold zt
 rw [h.version, aU.1, aU.2]
theorem MJ.all (h : MJ N D w gm gr gn L0 W p v) (G : MG D w gm gr gn L0) : ModAt (N + 1) (fun k => (D k ∨ w.heap.size ≤ k) ∧ k < W.heap.size) W p.m v := by
 have hM := h.at'.mono (A' := fun k => (D k ∨ w.heap.size ≤ k) ∧ k < W.heap.size) (fun k hk => ⟨hk.1.imp (fun q => q) (fun q => by have := G.wm; have := G.lm; omega), hk.2.1⟩)
 exact ⟨hM.types, hM.imports, hM.functions, hM.tables, hM.memories, hM.elements, hM.globals, hM.exports, hM.codes, hM.datas, Lay.mono _ h.cus.sliceD (fun k hk => ⟨hk.1.imp (fun q => q) (fun q => by have := G.wm; have := G.lm; omega), hk.2⟩), hM.funcs, hM.locals, hM.named⟩
theorem MJ.endAt (h : MJ N D w gm gr gn L0 W p v) (G : MG D w gm gr gn L0) (hs : Fr (fun k => k = gm) W W') : ModAt (N + 1) (fun k => (D k ∨ w.heap.size ≤ k) ∧ k < W'.heap.size) W' p.m v := by
 have hM := (h.at'.fr hs (fun k hk => ⟨hk.2.1, fun e => by
  have e' : k = gm := e
  rcases hk.1 with q | q
  ·have := G.D k q; have := G.wm; omega
  ·have := G.lm; omega⟩)).mono (A' := fun k => (D k ∨ w.heap.size ≤ k) ∧ k < W'.heap.size) (fun k hk => ⟨hk.1.imp (fun q => q) (fun q => by have := G.wm; have := G.lm; omega), nqQ hk.2.1 hs.size⟩)
 have hc := h.cus.fr hs (fun k e => .inl (fun q => by have e' : k = gm := e; have := G.D k q; have := G.wm; omega)) (fun k hk e => by have e' : k = gm := e; have := (h.cus.lt k hk).1; have := G.lm; omega)
 exact ⟨hM.types, hM.imports, hM.functions, hM.tables, hM.memories, hM.elements, hM.globals, hM.exports, hM.codes, hM.datas, Lay.mono _ hc.sliceD (fun k hk => ⟨hk.1.imp (fun q => q) (fun q => by have := G.wm; have := G.lm; omega), hk.2⟩), hM.funcs, hM.locals, hM.named⟩
theorem MJ.one (h : MJ N D w gm gr gn L0 W p v) (G : MG D w gm gr gn L0) : (zt p.m v).toList.all (·.oneCell') = true := by
 have hM := h.all G
 unfold zt
 simp only [List.all_cons, List.all_nil, Lay.slice_one hM.types, Lay.slice_one hM.imports, Lay.slice_one hM.functions, Lay.slice_one hM.tables, Lay.slice_one hM.memories, Lay.slice_one hM.elements, Lay.slice_one hM.globals, Lay.slice_one hM.exports, Lay.slice_one hM.codes, Lay.slice_one hM.datas, Lay.slice_one hM.customs, Lay.slice_one hM.funcs, Lay.slice_one hM.locals]
 rfl
end
end Go.Proofs.YtejgninpjhcgnaaGreatDoor
