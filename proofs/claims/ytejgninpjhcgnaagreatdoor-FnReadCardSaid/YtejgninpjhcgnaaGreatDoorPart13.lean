/- Texts of this proof, one behind the other. -/
import Derived.Test.YtejgninpjhcgnaaGreatDoorPart10
namespace Go.Proofs.YtejgninpjhcgnaaGreatDoor
open Go.RowKit
set_option linter.unusedSimpArgs false
set_option linter.unusedVariables false
set_option maxRecDepth 100000
set_option maxHeartbeats 8000000
theorem zbo : (Tryz.prog.info? 220).map (fun i => (i.zero, i.size, i.bytes)) = some (some (.agg #[.int .i64 0, .bool false, .slice none 0 0]), Lay.eglob.size, 40) := by kernel_rfl
theorem zf2 (S : Rdr) (D F : Nat → Prop) (g : Nat) (pe pu : Addr) (L : Nat) (bs : List UInt8) (w : World) (h : RdX S D F g pe pu L bs w) (b o : Nat) (cs : Array Value) (T : TypeId) (hB : Blk w b cs T) (ho : cs[o]? = some (.slice none 0 0)) (hF : ¬ F b) (hD : ¬ D b) (hb : L ≤ b) (ag : pVec Zr bs ≠ .any) :
 Calls Tryz.prog 138 #[.iface S.T (.pointer (some ⟨g, 0, none⟩)), .pointer (some ⟨b, o, none⟩)] w fun e w' => PX S D F g pe pu L b (pVec Zr bs) (fun l W => ∃ v, Blk W b (cs.setIfInBounds o v) T ∧ Lay.eglob.slice.rd (aN w W) W [v] l ∧ (l = [] → v = .slice none 0 0)) w e w' := by
 have HC := qh (jS S D F g pe pu L bs w h (PR.ne_any ag))
 have H := qh (Yb.start h hB hF hD hb)
 have aX := qh H.o.old
 have ag := qh ag
 clear h hB hF hD hb
 go_enter Tryz.func138, Tryz.ntmps138
 go_wp2_with fail
 refine HC.o.mono ?_
 rintro e w1 ⟨n, rest, hr, rfl, h1, h2⟩
 have hp := qh (show pVec Zr bs = pRep Zr n.toNat rest from by unfold pVec; rw [hr]; rfl)
 have ey := qh (show pRep Zr n.toNat rest ≠ .any from by rw [← hp.o]; exact ag.o)
 have eZ := n.toNat_lt
 have H1 := qh (H.o.read h1 h2)
 generalize n.toNat = m at *
 clear h1 h2 hr HC ag
 go_wp2_with fail
 go_loopw [18] (fun fd w' => ∃ (i : Nat) (va : Value), i ≤ m ∧ fd = .int .u32 i ∧ Hq (i = 0 → va = .slice none 0 0) ∧ Hq (∃ (xs : List _) (r : List UInt8), pRep Zr i rest = .ok xs r ∧ xs.length = i ∧ Yb S D F g pe pu L b w r (cs.setIfInBounds o va) T w' ∧ OwnG Lay.eglob 220 w.heap.size (fun k => k < w.heap.size) w' va xs)) (fun fd _ => m - (intOf fd).toNat)
 case atStart => exact ⟨0, .slice none 0 0, nzQ _, rfl, fun _ => rfl, [], rest, rfl, rfl, H1.o.cells (Jj ho).symm, zv _ _ _ _ _⟩
 case round =>
  obtain ⟨i, va, hi, rfl, hZ, hV⟩ := hrel
  by_cases aj : i < m
  ·obtain ⟨xs, r, q1, q2, q3, q4⟩ := hV.o
   have HV := qh (anQ q1 (anQ q2 (anQ q3 q4)))
   obtain ⟨ap, am, ar, rfl⟩ := q4.shape
   have dH := qh q2
   obtain ⟨gn, dh⟩ := exQ (wr.heap.size)
   have Hn := qh q3.new
   rw [dh] at Hn
   have bP := za wr (.cells #[.int .i64 0, .bool false, .slice none 0 0] 220)
   have dZ := qh (q3.ext bP)
   have fN : Hq (Ext wr (wr.alloc (.cells #[.int .i64 0, .bool false, .slice none 0 0] 220))) := bP
   have ah := qh (show ∀ k, (Value.slice ap am ar).ownBlock = some k → w.heap.size ≤ k ∧ k < gn from fun k hk => ⟨(q4.lt k hk).1, by rw [← dh]; exact (q4.lt k hk).2⟩)
   have HG : Hq (Blk (wr.alloc (.cells #[.int .i64 0, .bool false, .slice none 0 0] 220)) gn #[.int .i64 0, .bool false, .slice none 0 0] 220) := by rw [← dh]; exact zl _ _ _
   have dj := qh (show gn < (wr.alloc (.cells #[.int .i64 0, .bool false, .slice none 0 0] 220)).heap.size from HG.o.lt)
   clear hV q1 q2 q3 q4 bP
   go_wp2_with fail
   generalize wr.alloc (.cells #[.int .i64 0, .bool false, .slice none 0 0] 220) = Wn at *
   refine (zjs dZ.o.rx gn HG.o Hn.o.1 Hn.o.2.1 Hn.o.2.2.1 (yE HV.o.1 aj ey.o)).mono ?_
   rintro e w2 (⟨x, r2, aY, rfl, k1, ⟨kJ, k2, k3⟩, k4⟩ | ⟨aY, v, rfl, hv, cT, k4⟩)
   rotate_left
   ·have HB := qh (anQ (jg HV.o.1 aj aY) (anQ hv (anQ cT k4)))
    clear aY hv cT k4
    obtain ⟨p, dR, pT, rfl, dM, cW⟩ := HB.o.2.1
    go_wp2
    go_ret
    exact dZ.o.badO (gn := gn) Hn.o.2.2.2.1 (by rw [hp.o, HB.o.1]) HB.o.2.1 HB.o.2.2.1 HB.o.2.2.2
   obtain ⟨e0, e1, e2, rfl⟩ := arr3 (cs := kJ) (Lay.eglob.len k3)
   have HX := qh (yu HV.o.1 aY)
   have HK := qh k3
   have dE : Hq (Yb S D F g pe pu L b w r2 (cs.setIfInBounds o (.slice ap am ar)) T w2 ∧ OwnG Lay.eglob 220 w.heap.size (fun k => k < w.heap.size) w2 (.slice ap am ar) xs ∧ Blk w2 gn #[e0, e1, e2] 220) := ⟨dZ.o.other (gn := gn) Hn.o.2.2.2.1 k1 k4, HV.o.2.2.2.fr (Ext.fr fN.o k4) (fun k e => e.elim (fun e => .inl (aX.o k (.inl e))) (fun e => .inr (by omega))) (fun k hk e => by
    have q := ah.o k hk
    rcases e with e | e
    ·have := aX.o k (.inl e); omega
    ·omega), k2⟩
   clear k1 k2 k3 k4 aY HG dZ
   go_wp2_with fail
   refine zj (yX (fun k => ¬ (k = b ∨ k = gn))) [kT 0, kT 1, kT 2, kT 3, kT 4, kT 5, kR 6, kR 7, kT 8, kT 9, kL 10] (by kernel_rfl) (by kernel_rfl) ?_
   simp only [zx, gzQ, gsQ]
   have HD : Hq (Yb S D F g pe pu L b w r2 (cs.setIfInBounds o (.slice ap am ar)) T w2.drew ∧ OwnG Lay.eglob 220 w.heap.size (fun k => k < w.heap.size) w2.drew (.slice ap am ar) xs ∧ Blk w2.drew gn #[e0, e1, e2] 220) := ⟨dE.o.1.ext (zb _), dE.o.2.1.ext (zb _), dE.o.2.2.ext (zb _)⟩
   have bq := qh (Zb (Wd := w2.drew) HK.o (zb w2) (nlQ HV.o.2.2.1.fr.size fN.o.size) (fun k hk => Nat.lt_trans (ah.o k hk).2 dj.o))
   clear dE HK
   generalize w2.drew = Wd at *
   have HC := qh (fun W' (h : Fr (fun k => ¬ (k = b ∨ k = gn)) Wd W') => anQ (((HD.o.1.blk.fr h (fun e => e (.inl rfl))).cell o).trans (jn ho)) (HD.o.2.2.fr h (fun e => e (.inr rfl))).cell)
   repeat (apply item_take; rfl; rfl; rfl; rfl; exact fun _ _ _ _ h => h; (intro W e _ k; obtain ⟨q, q2⟩ := HC.o W e; go_simp; exact k))
   apply zg; rfl; intro K hK; go_simp
   refine hK _ _ (za _ _).to ?_
   clear hK K
   apply zg; rfl; intro K hK
   refine zu Lay.eglob w.heap.size (.tmp 29) (.tmp 31) _ _ _ 40 rfl Tryz.underlying176 zbo rfl (by omega) (by decide) (.slice ap am ar) xs x _ rfl rfl HD.o.2.1 bq.o HD.o.1.fr.size (by rw [dH.o]; omega) ?_
   intro v1 Wa h1 h2 h3 _
   refine hK _ _ (h3.mono (fun k _ e e2 => by
    have q := ah.o k e.symm
    have q2 := aX.o b (.inr rfl)
    rcases e2 with e2 | e2
    ·omega
    ·omega)) ?_
   clear hK K
   obtain ⟨az, aR, aO, rfl⟩ := h1.shape
   have HA := HD.o.1.mine H.o.rx h2 (fun k e => (ah.o k e.symm).1)
   have ii := (HA.blk.cell o).trans (jn ho)
   have il := HA.blk.frz o
   have h6 : Hq (Yb S D F g pe pu L b w r2 (cs.setIfInBounds o (.slice az aR aO)) T (Wa.setCell ⟨b, o, none⟩ (.slice az aR aO)) ∧ OwnG Lay.eglob 220 w.heap.size (fun k => k < w.heap.size) (Wa.setCell ⟨b, o, none⟩ (.slice az aR aO)) (.slice az aR aO) (xs ++ [x])) := ⟨(HA.set o (.slice az aR aO)).cells (Z3 _ _ _ _), h1.fr (zf Wa ⟨b, o, none⟩ (.slice az aR aO)) (fun k e => .inl (by have e' : k = b := e; rw [e']; exact aX.o b (.inr rfl))) (fun k hk e => by have e' : k = b := e; have := (h1.lt k hk).1; have := aX.o b (.inr rfl); omega)⟩
   clear h1 h2 h3 HA HD bq
   repeat (apply item_take; rfl; rfl; rfl; rfl; exact fun _ _ _ _ h => h; (intro _ _ _ k; go_simp; exact k))
   apply zn; rfl; intro K hK; go_simp
   refine hK _ _ ?_
   clear hK K ii il
   apply zm
   go_wp2
   go_roundw
   case rel => exact ⟨i + 1, _, by omega, by go_num, (fun q => absurd q (Nat.succ_ne_zero i)), _, _, HX.o, by rw [laQ, dH.o]; rfl, h6.o.1, h6.o.2⟩
   case measure => simp [intOf]; omega
  ·obtain rfl : i = m := by omega
   obtain ⟨xs, r, q1, q2, q3, q4⟩ := hV.o
   have HV := qh (anQ q1 (anQ q3 q4))
   clear hV q1 q2 q3 q4
   go_wp2
   go_ret
   exact HV.o.2.1.ok (x := xs) (by rw [hp.o]; exact HV.o.1) ⟨_, HV.o.2.1.blk, Lay.mono _ (HV.o.2.2.slice (fun k hk q => by omega)) (fun k hk => ⟨by have := hk.1; omega, hk.2⟩), fun q => hZ.o (by have := jN HV.o.1; rw [q] at this; exact this.symm)⟩
theorem zbp : (Tryz.prog.info? 225).map (fun i => (i.zero, i.size, i.bytes)) = some (some (.agg #[.string ⟨#[]⟩, .int .i64 0, .int .u32 0]), Lay.expo.size, 32) := by kernel_rfl
theorem zf3 (S : Rdr) (D F : Nat → Prop) (g : Nat) (pe pu : Addr) (L : Nat) (bs : List UInt8) (w : World) (h : RdX S D F g pe pu L bs w) (b o : Nat) (cs : Array Value) (T : TypeId) (hB : Blk w b cs T) (ho : cs[o]? = some (.slice none 0 0)) (hF : ¬ F b) (hD : ¬ D b) (hb : L ≤ b) (ag : pVec JR bs ≠ .any) :
 Calls Tryz.prog 140 #[.iface S.T (.pointer (some ⟨g, 0, none⟩)), .pointer (some ⟨b, o, none⟩)] w fun e w' => PX S D F g pe pu L b (pVec JR bs) (fun l W => ∃ v, Blk W b (cs.setIfInBounds o v) T ∧ Lay.expo.slice.rd (aN w W) W [v] l ∧ (l = [] → v = .slice none 0 0)) w e w' := by
 have HC := qh (jS S D F g pe pu L bs w h (PR.ne_any ag))
 have H := qh (Yb.start h hB hF hD hb)
 have aX := qh H.o.old
 have ag := qh ag
 clear h hB hF hD hb
 go_enter Tryz.func140, Tryz.ntmps140
 go_wp2_with fail
 refine HC.o.mono ?_
 rintro e w1 ⟨n, rest, hr, rfl, h1, h2⟩
 have hp := qh (show pVec JR bs = pRep JR n.toNat rest from by unfold pVec; rw [hr]; rfl)
 have ey := qh (show pRep JR n.toNat rest ≠ .any from by rw [← hp.o]; exact ag.o)
 have eZ := n.toNat_lt
 have H1 := qh (H.o.read h1 h2)
 generalize n.toNat = m at *
 clear h1 h2 hr HC ag
 go_wp2_with fail
 go_loopw [18] (fun fd w' => ∃ (i : Nat) (va : Value), i ≤ m ∧ fd = .int .u32 i ∧ Hq (i = 0 → va = .slice none 0 0) ∧ Hq (∃ (xs : List _) (r : List UInt8), pRep JR i rest = .ok xs r ∧ xs.length = i ∧ Yb S D F g pe pu L b w r (cs.setIfInBounds o va) T w' ∧ OwnG Lay.expo 225 w.heap.size (fun k => k < w.heap.size) w' va xs)) (fun fd _ => m - (intOf fd).toNat)
 case atStart => exact ⟨0, .slice none 0 0, nzQ _, rfl, fun _ => rfl, [], rest, rfl, rfl, H1.o.cells (Jj ho).symm, zv _ _ _ _ _⟩
 case round =>
  obtain ⟨i, va, hi, rfl, hZ, hV⟩ := hrel
  by_cases aj : i < m
  ·obtain ⟨xs, r, q1, q2, q3, q4⟩ := hV.o
   have HV := qh (anQ q1 (anQ q2 (anQ q3 q4)))
   obtain ⟨ap, am, ar, rfl⟩ := q4.shape
   have dH := qh q2
   obtain ⟨gn, dh⟩ := exQ (wr.heap.size)
   have Hn := qh q3.new
   rw [dh] at Hn
   have bP := za wr (.cells #[.string ⟨#[]⟩, .int .i64 0, .int .u32 0] 225)
   have dZ := qh (q3.ext bP)
   have fN : Hq (Ext wr (wr.alloc (.cells #[.string ⟨#[]⟩, .int .i64 0, .int .u32 0] 225))) := bP
   have ah := qh (show ∀ k, (Value.slice ap am ar).ownBlock = some k → w.heap.size ≤ k ∧ k < gn from fun k hk => ⟨(q4.lt k hk).1, by rw [← dh]; exact (q4.lt k hk).2⟩)
   have HG : Hq (Blk (wr.alloc (.cells #[.string ⟨#[]⟩, .int .i64 0, .int .u32 0] 225)) gn #[.string ⟨#[]⟩, .int .i64 0, .int .u32 0] 225) := by rw [← dh]; exact zl _ _ _
   have dj := qh (show gn < (wr.alloc (.cells #[.string ⟨#[]⟩, .int .i64 0, .int .u32 0] 225)).heap.size from HG.o.lt)
   clear hV q1 q2 q3 q4 bP
   go_wp2_with fail
   generalize wr.alloc (.cells #[.string ⟨#[]⟩, .int .i64 0, .int .u32 0] 225) = Wn at *
   refine (zjt dZ.o.rx gn HG.o Hn.o.1 Hn.o.2.1 Hn.o.2.2.1 (yE HV.o.1 aj ey.o)).mono ?_
   rintro e w2 (⟨x, r2, aY, rfl, k1, ⟨kJ, k2, k3⟩, k4⟩ | ⟨aY, v, rfl, hv, cT, k4⟩)
   rotate_left
   ·have HB := qh (anQ (jg HV.o.1 aj aY) (anQ hv (anQ cT k4)))
    clear aY hv cT k4
    obtain ⟨p, dR, pT, rfl, dM, cW⟩ := HB.o.2.1
    go_wp2
    go_ret
    exact dZ.o.badO (gn := gn) Hn.o.2.2.2.1 (by rw [hp.o, HB.o.1]) HB.o.2.1 HB.o.2.2.1 HB.o.2.2.2
   obtain ⟨e0, e1, e2, rfl⟩ := arr3 (cs := kJ) (Lay.expo.len k3)
   have HX := qh (yu HV.o.1 aY)
   have HK := qh k3
   have dE : Hq (Yb S D F g pe pu L b w r2 (cs.setIfInBounds o (.slice ap am ar)) T w2 ∧ OwnG Lay.expo 225 w.heap.size (fun k => k < w.heap.size) w2 (.slice ap am ar) xs ∧ Blk w2 gn #[e0, e1, e2] 225) := ⟨dZ.o.other (gn := gn) Hn.o.2.2.2.1 k1 k4, HV.o.2.2.2.fr (Ext.fr fN.o k4) (fun k e => e.elim (fun e => .inl (aX.o k (.inl e))) (fun e => .inr (by omega))) (fun k hk e => by
    have q := ah.o k hk
    rcases e with e | e
    ·have := aX.o k (.inl e); omega
    ·omega), k2⟩
   clear k1 k2 k3 k4 aY HG dZ
   go_wp2_with fail
   refine zj (yX (fun k => ¬ (k = b ∨ k = gn))) [kT 0, kT 1, kT 2, kT 3, kT 4, kT 5, kR 6, kR 7, kT 8, kT 9, kL 10] (by kernel_rfl) (by kernel_rfl) ?_
   simp only [zx, gzQ, gsQ]
   have HD : Hq (Yb S D F g pe pu L b w r2 (cs.setIfInBounds o (.slice ap am ar)) T w2.drew ∧ OwnG Lay.expo 225 w.heap.size (fun k => k < w.heap.size) w2.drew (.slice ap am ar) xs ∧ Blk w2.drew gn #[e0, e1, e2] 225) := ⟨dE.o.1.ext (zb _), dE.o.2.1.ext (zb _), dE.o.2.2.ext (zb _)⟩
   have bq := qh (Zb (Wd := w2.drew) HK.o (zb w2) (nlQ HV.o.2.2.1.fr.size fN.o.size) (fun k hk => Nat.lt_trans (ah.o k hk).2 dj.o))
   clear dE HK
   generalize w2.drew = Wd at *
   have HC := qh (fun W' (h : Fr (fun k => ¬ (k = b ∨ k = gn)) Wd W') => anQ (((HD.o.1.blk.fr h (fun e => e (.inl rfl))).cell o).trans (jn ho)) (HD.o.2.2.fr h (fun e => e (.inr rfl))).cell)
   repeat (apply item_take; rfl; rfl; rfl; rfl; exact fun _ _ _ _ h => h; (intro W e _ k; obtain ⟨q, q2⟩ := HC.o W e; go_simp; exact k))
   apply zg; rfl; intro K hK; go_simp
   refine hK _ _ (za _ _).to ?_
   clear hK K
   apply zg; rfl; intro K hK
   refine zu Lay.expo w.heap.size (.tmp 29) (.tmp 31) _ _ _ 32 rfl Tryz.underlying179 zbp rfl (by omega) (by decide) (.slice ap am ar) xs x _ rfl rfl HD.o.2.1 bq.o HD.o.1.fr.size (by rw [dH.o]; omega) ?_
   intro v1 Wa h1 h2 h3 _
   refine hK _ _ (h3.mono (fun k _ e e2 => by
    have q := ah.o k e.symm
    have q2 := aX.o b (.inr rfl)
    rcases e2 with e2 | e2
    ·omega
    ·omega)) ?_
   clear hK K
   obtain ⟨az, aR, aO, rfl⟩ := h1.shape
   have HA := HD.o.1.mine H.o.rx h2 (fun k e => (ah.o k e.symm).1)
   have ii := (HA.blk.cell o).trans (jn ho)
   have il := HA.blk.frz o
   have h6 : Hq (Yb S D F g pe pu L b w r2 (cs.setIfInBounds o (.slice az aR aO)) T (Wa.setCell ⟨b, o, none⟩ (.slice az aR aO)) ∧ OwnG Lay.expo 225 w.heap.size (fun k => k < w.heap.size) (Wa.setCell ⟨b, o, none⟩ (.slice az aR aO)) (.slice az aR aO) (xs ++ [x])) := ⟨(HA.set o (.slice az aR aO)).cells (Z3 _ _ _ _), h1.fr (zf Wa ⟨b, o, none⟩ (.slice az aR aO)) (fun k e => .inl (by have e' : k = b := e; rw [e']; exact aX.o b (.inr rfl))) (fun k hk e => by have e' : k = b := e; have := (h1.lt k hk).1; have := aX.o b (.inr rfl); omega)⟩
   clear h1 h2 h3 HA HD bq
   repeat (apply item_take; rfl; rfl; rfl; rfl; exact fun _ _ _ _ h => h; (intro _ _ _ k; go_simp; exact k))
   apply zn; rfl; intro K hK; go_simp
   refine hK _ _ ?_
   clear hK K ii il
   apply zm
   go_wp2
   go_roundw
   case rel => exact ⟨i + 1, _, by omega, by go_num, (fun q => absurd q (Nat.succ_ne_zero i)), _, _, HX.o, by rw [laQ, dH.o]; rfl, h6.o.1, h6.o.2⟩
   case measure => simp [intOf]; omega
  ·obtain rfl : i = m := by omega
   obtain ⟨xs, r, q1, q2, q3, q4⟩ := hV.o
   have HV := qh (anQ q1 (anQ q3 q4))
   clear hV q1 q2 q3 q4
   go_wp2
   go_ret
   exact HV.o.2.1.ok (x := xs) (by rw [hp.o]; exact HV.o.1) ⟨_, HV.o.2.1.blk, Lay.mono _ (HV.o.2.2.slice (fun k hk q => by omega)) (fun k hk => ⟨by have := hk.1; omega, hk.2⟩), fun q => hZ.o (by have := jN HV.o.1; rw [q] at this; exact this.symm)⟩
theorem zaQ : (Tryz.prog.info? 216).map (fun i => (i.zero, i.size, i.bytes)) = some (some (.agg #[.int .u32 0, .slice none 0 0, .slice none 0 0]), Lay.eelem.size, 56) := by kernel_rfl
theorem zeK (S : Rdr) (D F : Nat → Prop) (g : Nat) (pe pu : Addr) (L : Nat) (bs : List UInt8) (w : World) (h : RdX S D F g pe pu L bs w) (b o : Nat) (cs : Array Value) (T : TypeId) (hB : Blk w b cs T) (ho : cs[o]? = some (.slice none 0 0)) (hF : ¬ F b) (hD : ¬ D b) (hb : L ≤ b) (ag : pVec ZZ bs ≠ .any) :
 Calls Tryz.prog 141 #[.iface S.T (.pointer (some ⟨g, 0, none⟩)), .pointer (some ⟨b, o, none⟩)] w fun e w' => PX S D F g pe pu L b (pVec ZZ bs) (fun l W => ∃ v, Blk W b (cs.setIfInBounds o v) T ∧ Lay.eelem.slice.rd (aN w W) W [v] l ∧ (l = [] → v = .slice none 0 0)) w e w' := by
 have HC := qh (jS S D F g pe pu L bs w h (PR.ne_any ag))
 have H := qh (Yb.start h hB hF hD hb)
 have aX := qh H.o.old
 have ag := qh ag
 clear h hB hF hD hb
 go_enter Tryz.func141, Tryz.ntmps141
 go_wp2_with fail
 refine HC.o.mono ?_
 rintro e w1 ⟨n, rest, hr, rfl, h1, h2⟩
 have hp := qh (show pVec ZZ bs = pRep ZZ n.toNat rest from by unfold pVec; rw [hr]; rfl)
 have ey := qh (show pRep ZZ n.toNat rest ≠ .any from by rw [← hp.o]; exact ag.o)
 have eZ := n.toNat_lt
 have H1 := qh (H.o.read h1 h2)
 generalize n.toNat = m at *
 clear h1 h2 hr HC ag
 go_wp2_with fail
 go_loopw [18] (fun fd w' => ∃ (i : Nat) (va : Value), i ≤ m ∧ fd = .int .u32 i ∧ Hq (i = 0 → va = .slice none 0 0) ∧ Hq (∃ (xs : List _) (r : List UInt8), pRep ZZ i rest = .ok xs r ∧ xs.length = i ∧ Yb S D F g pe pu L b w r (cs.setIfInBounds o va) T w' ∧ OwnG Lay.eelem 216 w.heap.size (fun k => k < w.heap.size) w' va xs)) (fun fd _ => m - (intOf fd).toNat)
 case atStart => exact ⟨0, .slice none 0 0, nzQ _, rfl, fun _ => rfl, [], rest, rfl, rfl, H1.o.cells (Jj ho).symm, zv _ _ _ _ _⟩
 case round =>
  obtain ⟨i, va, hi, rfl, hZ, hV⟩ := hrel
  by_cases aj : i < m
  ·obtain ⟨xs, r, q1, q2, q3, q4⟩ := hV.o
   have HV := qh (anQ q1 (anQ q2 (anQ q3 q4)))
   obtain ⟨ap, am, ar, rfl⟩ := q4.shape
   have dH := qh q2
   obtain ⟨gn, dh⟩ := exQ (wr.heap.size)
   have Hn := qh q3.new
   rw [dh] at Hn
   have bP := za wr (.cells #[.int .u32 0, .slice none 0 0, .slice none 0 0] 216)
   have dZ := qh (q3.ext bP)
   have fN : Hq (Ext wr (wr.alloc (.cells #[.int .u32 0, .slice none 0 0, .slice none 0 0] 216))) := bP
   have ah := qh (show ∀ k, (Value.slice ap am ar).ownBlock = some k → w.heap.size ≤ k ∧ k < gn from fun k hk => ⟨(q4.lt k hk).1, by rw [← dh]; exact (q4.lt k hk).2⟩)
   have HG : Hq (Blk (wr.alloc (.cells #[.int .u32 0, .slice none 0 0, .slice none 0 0] 216)) gn #[.int .u32 0, .slice none 0 0, .slice none 0 0] 216) := by rw [← dh]; exact zl _ _ _
   have dj := qh (show gn < (wr.alloc (.cells #[.int .u32 0, .slice none 0 0, .slice none 0 0] 216)).heap.size from HG.o.lt)
   clear hV q1 q2 q3 q4 bP
   go_wp2_with fail
   generalize wr.alloc (.cells #[.int .u32 0, .slice none 0 0, .slice none 0 0] 216) = Wn at *
   refine (zjq dZ.o.rx gn HG.o Hn.o.1 Hn.o.2.1 Hn.o.2.2.1 (yE HV.o.1 aj ey.o)).mono ?_
   rintro e w2 (⟨x, r2, aY, rfl, k1, ⟨kJ, k2, k3⟩, k4⟩ | ⟨aY, v, rfl, hv, cT, k4⟩)
   rotate_left
   ·have HB := qh (anQ (jg HV.o.1 aj aY) (anQ hv (anQ cT k4)))
    clear aY hv cT k4
    obtain ⟨p, dR, pT, rfl, dM, cW⟩ := HB.o.2.1
    go_wp2
    go_ret
    exact dZ.o.badO (gn := gn) Hn.o.2.2.2.1 (by rw [hp.o, HB.o.1]) HB.o.2.1 HB.o.2.2.1 HB.o.2.2.2
   obtain ⟨e0, e1, e2, rfl⟩ := arr3 (cs := kJ) (Lay.eelem.len k3)
   have HX := qh (yu HV.o.1 aY)
   have HK := qh k3
   have dE : Hq (Yb S D F g pe pu L b w r2 (cs.setIfInBounds o (.slice ap am ar)) T w2 ∧ OwnG Lay.eelem 216 w.heap.size (fun k => k < w.heap.size) w2 (.slice ap am ar) xs ∧ Blk w2 gn #[e0, e1, e2] 216) := ⟨dZ.o.other (gn := gn) Hn.o.2.2.2.1 k1 k4, HV.o.2.2.2.fr (Ext.fr fN.o k4) (fun k e => e.elim (fun e => .inl (aX.o k (.inl e))) (fun e => .inr (by omega))) (fun k hk e => by
    have q := ah.o k hk
    rcases e with e | e
    ·have := aX.o k (.inl e); omega
    ·omega), k2⟩
   clear k1 k2 k3 k4 aY HG dZ
   go_wp2_with fail
   refine zj (yX (fun k => ¬ (k = b ∨ k = gn))) [kT 0, kT 1, kT 2, kT 3, kT 4, kT 5, kR 6, kR 7, kT 8, kT 9, kL 10] (by kernel_rfl) (by kernel_rfl) ?_
   simp only [zx, gzQ, gsQ]
   have HD : Hq (Yb S D F g pe pu L b w r2 (cs.setIfInBounds o (.slice ap am ar)) T w2.drew ∧ OwnG Lay.eelem 216 w.heap.size (fun k => k < w.heap.size) w2.drew (.slice ap am ar) xs ∧ Blk w2.drew gn #[e0, e1, e2] 216) := ⟨dE.o.1.ext (zb _), dE.o.2.1.ext (zb _), dE.o.2.2.ext (zb _)⟩
   have bq := qh (Zb (Wd := w2.drew) HK.o (zb w2) (nlQ HV.o.2.2.1.fr.size fN.o.size) (fun k hk => Nat.lt_trans (ah.o k hk).2 dj.o))
   clear dE HK
   generalize w2.drew = Wd at *
   have HC := qh (fun W' (h : Fr (fun k => ¬ (k = b ∨ k = gn)) Wd W') => anQ (((HD.o.1.blk.fr h (fun e => e (.inl rfl))).cell o).trans (jn ho)) (HD.o.2.2.fr h (fun e => e (.inr rfl))).cell)
   repeat (apply item_take; rfl; rfl; rfl; rfl; exact fun _ _ _ _ h => h; (intro W e _ k; obtain ⟨q, q2⟩ := HC.o W e; go_simp; exact k))
   apply zg; rfl; intro K hK; go_simp
   refine hK _ _ (za _ _).to ?_
   clear hK K
   apply zg; rfl; intro K hK
   refine zu Lay.eelem w.heap.size (.tmp 29) (.tmp 31) _ _ _ 56 rfl Tryz.underlying173 zaQ rfl (by omega) (by decide) (.slice ap am ar) xs x _ rfl rfl HD.o.2.1 bq.o HD.o.1.fr.size (by rw [dH.o]; omega) ?_
   intro v1 Wa h1 h2 h3 _
   refine hK _ _ (h3.mono (fun k _ e e2 => by
    have q := ah.o k e.symm
    have q2 := aX.o b (.inr rfl)
    rcases e2 with e2 | e2
    ·omega
    ·omega)) ?_
   clear hK K
   obtain ⟨az, aR, aO, rfl⟩ := h1.shape
   have HA := HD.o.1.mine H.o.rx h2 (fun k e => (ah.o k e.symm).1)
   have ii := (HA.blk.cell o).trans (jn ho)
   have il := HA.blk.frz o
   have h6 : Hq (Yb S D F g pe pu L b w r2 (cs.setIfInBounds o (.slice az aR aO)) T (Wa.setCell ⟨b, o, none⟩ (.slice az aR aO)) ∧ OwnG Lay.eelem 216 w.heap.size (fun k => k < w.heap.size) (Wa.setCell ⟨b, o, none⟩ (.slice az aR aO)) (.slice az aR aO) (xs ++ [x])) := ⟨(HA.set o (.slice az aR aO)).cells (Z3 _ _ _ _), h1.fr (zf Wa ⟨b, o, none⟩ (.slice az aR aO)) (fun k e => .inl (by have e' : k = b := e; rw [e']; exact aX.o b (.inr rfl))) (fun k hk e => by have e' : k = b := e; have := (h1.lt k hk).1; have := aX.o b (.inr rfl); omega)⟩
   clear h1 h2 h3 HA HD bq
   repeat (apply item_take; rfl; rfl; rfl; rfl; exact fun _ _ _ _ h => h; (intro _ _ _ k; go_simp; exact k))
   apply zn; rfl; intro K hK; go_simp
   refine hK _ _ ?_
   clear hK K ii il
   apply zm
   go_wp2
   go_roundw
   case rel => exact ⟨i + 1, _, by omega, by go_num, (fun q => absurd q (Nat.succ_ne_zero i)), _, _, HX.o, by rw [laQ, dH.o]; rfl, h6.o.1, h6.o.2⟩
   case measure => simp [intOf]; omega
  ·obtain rfl : i = m := by omega
   obtain ⟨xs, r, q1, q2, q3, q4⟩ := hV.o
   have HV := qh (anQ q1 (anQ q3 q4))
   clear hV q1 q2 q3 q4
   go_wp2
   go_ret
   exact HV.o.2.1.ok (x := xs) (by rw [hp.o]; exact HV.o.1) ⟨_, HV.o.2.1.blk, Lay.mono _ (HV.o.2.2.slice (fun k hk q => by omega)) (fun k hk => ⟨by have := hk.1; omega, hk.2⟩), fun q => hZ.o (by have := jN HV.o.1; rw [q] at this; exact this.symm)⟩
theorem zcT : (Tryz.prog.info? 227).map (fun i => (i.zero, i.size, i.bytes)) = some (some (.agg #[.slice none 0 0]), Lay.u8.slice.size, 24) := by kernel_rfl
theorem ziy (S : Rdr) (D F : Nat → Prop) (g : Nat) (pe pu : Addr) (L : Nat) (bs : List UInt8) (w : World) (h : RdX S D F g pe pu L bs w) (b o : Nat) (cs : Array Value) (T : TypeId) (hB : Blk w b cs T) (ho : cs[o]? = some (.slice none 0 0)) (hF : ¬ F b) (hD : ¬ D b) (hb : L ≤ b) (ag : pVec zR bs ≠ .any) :
 Calls Tryz.prog 143 #[.iface S.T (.pointer (some ⟨g, 0, none⟩)), .pointer (some ⟨b, o, none⟩)] w fun e w' => PX S D F g pe pu L b (pVec zR bs) (fun l W => ∃ v, Blk W b (cs.setIfInBounds o v) T ∧ Lay.u8.slice.slice.rd (aN w W) W [v] l ∧ (l = [] → v = .slice none 0 0)) w e w' := by
 have HC := qh (jS S D F g pe pu L bs w h (PR.ne_any ag))
 have H := qh (Yb.start h hB hF hD hb)
 have aX := qh H.o.old
 have ag := qh ag
 clear h hB hF hD hb
 go_enter Tryz.func143, Tryz.ntmps143
 go_wp2_with fail
 refine HC.o.mono ?_
 rintro e w1 ⟨n, rest, hr, rfl, h1, h2⟩
 have hp := qh (show pVec zR bs = pRep zR n.toNat rest from by unfold pVec; rw [hr]; rfl)
 have ey := qh (show pRep zR n.toNat rest ≠ .any from by rw [← hp.o]; exact ag.o)
 have eZ := n.toNat_lt
 have H1 := qh (H.o.read h1 h2)
 generalize n.toNat = m at *
 clear h1 h2 hr HC ag
 go_wp2_with fail
 go_loopw [18] (fun fd w' => ∃ (i : Nat) (va : Value), i ≤ m ∧ fd = .int .u32 i ∧ Hq (i = 0 → va = .slice none 0 0) ∧ Hq (∃ (xs : List _) (r : List UInt8), pRep zR i rest = .ok xs r ∧ xs.length = i ∧ Yb S D F g pe pu L b w r (cs.setIfInBounds o va) T w' ∧ OwnG Lay.u8.slice 227 w.heap.size (fun k => k < w.heap.size) w' va xs)) (fun fd _ => m - (intOf fd).toNat)
 case atStart => exact ⟨0, .slice none 0 0, nzQ _, rfl, fun _ => rfl, [], rest, rfl, rfl, H1.o.cells (Jj ho).symm, zv _ _ _ _ _⟩
 case round =>
  obtain ⟨i, va, hi, rfl, hZ, hV⟩ := hrel
  by_cases aj : i < m
  ·obtain ⟨xs, r, q1, q2, q3, q4⟩ := hV.o
   have HV := qh (anQ q1 (anQ q2 (anQ q3 q4)))
   obtain ⟨ap, am, ar, rfl⟩ := q4.shape
   have dH := qh q2
   obtain ⟨gn, dh⟩ := exQ (wr.heap.size)
   have Hn := qh q3.new
   rw [dh] at Hn
   have bP := za wr (.cells #[.slice none 0 0] 227)
   have dZ := qh (q3.ext bP)
   have fN : Hq (Ext wr (wr.alloc (.cells #[.slice none 0 0] 227))) := bP
   have ah := qh (show ∀ k, (Value.slice ap am ar).ownBlock = some k → w.heap.size ≤ k ∧ k < gn from fun k hk => ⟨(q4.lt k hk).1, by rw [← dh]; exact (q4.lt k hk).2⟩)
   have HG : Hq (Blk (wr.alloc (.cells #[.slice none 0 0] 227)) gn #[.slice none 0 0] 227) := by rw [← dh]; exact zl _ _ _
   have dj := qh (show gn < (wr.alloc (.cells #[.slice none 0 0] 227)).heap.size from HG.o.lt)
   clear hV q1 q2 q3 q4 bP
   go_wp2_with fail
   generalize wr.alloc (.cells #[.slice none 0 0] 227) = Wn at *
   refine (zjr dZ.o.rx gn HG.o Hn.o.1 Hn.o.2.1 Hn.o.2.2.1 (yE HV.o.1 aj ey.o)).mono ?_
   rintro e w2 (⟨x, r2, aY, rfl, k1, ⟨kJ, k2, k3⟩, k4⟩ | ⟨aY, v, rfl, hv, cT, k4⟩)
   rotate_left
   ·have HB := qh (anQ (jg HV.o.1 aj aY) (anQ hv (anQ cT k4)))
    clear aY hv cT k4
    obtain ⟨p, dR, pT, rfl, dM, cW⟩ := HB.o.2.1
    go_wp2
    go_ret
    exact dZ.o.badO (gn := gn) Hn.o.2.2.2.1 (by rw [hp.o, HB.o.1]) HB.o.2.1 HB.o.2.2.1 HB.o.2.2.2
   obtain ⟨e0, rfl⟩ := arr1 (cs := kJ) (Lay.u8.slice.len k3)
   have HX := qh (yu HV.o.1 aY)
   have HK := qh k3
   have dE : Hq (Yb S D F g pe pu L b w r2 (cs.setIfInBounds o (.slice ap am ar)) T w2 ∧ OwnG Lay.u8.slice 227 w.heap.size (fun k => k < w.heap.size) w2 (.slice ap am ar) xs ∧ Blk w2 gn #[e0] 227) := ⟨dZ.o.other (gn := gn) Hn.o.2.2.2.1 k1 k4, HV.o.2.2.2.fr (Ext.fr fN.o k4) (fun k e => e.elim (fun e => .inl (aX.o k (.inl e))) (fun e => .inr (by omega))) (fun k hk e => by
    have q := ah.o k hk
    rcases e with e | e
    ·have := aX.o k (.inl e); omega
    ·omega), k2⟩
   clear k1 k2 k3 k4 aY HG dZ
   go_wp2_with fail
   refine zj (yX (fun k => ¬ (k = b ∨ k = gn))) [kT 0, kT 1, kT 2, kT 3, kT 4, kT 5, kR 6, kR 7, kT 8, kT 9, kL 10] (by kernel_rfl) (by kernel_rfl) ?_
   simp only [zx, gzQ, gsQ]
   have HD : Hq (Yb S D F g pe pu L b w r2 (cs.setIfInBounds o (.slice ap am ar)) T w2.drew ∧ OwnG Lay.u8.slice 227 w.heap.size (fun k => k < w.heap.size) w2.drew (.slice ap am ar) xs ∧ Blk w2.drew gn #[e0] 227) := ⟨dE.o.1.ext (zb _), dE.o.2.1.ext (zb _), dE.o.2.2.ext (zb _)⟩
   have bq := qh (Zb (Wd := w2.drew) HK.o (zb w2) (nlQ HV.o.2.2.1.fr.size fN.o.size) (fun k hk => Nat.lt_trans (ah.o k hk).2 dj.o))
   clear dE HK
   generalize w2.drew = Wd at *
   have HC := qh (fun W' (h : Fr (fun k => ¬ (k = b ∨ k = gn)) Wd W') => anQ (((HD.o.1.blk.fr h (fun e => e (.inl rfl))).cell o).trans (jn ho)) (HD.o.2.2.fr h (fun e => e (.inr rfl))).cell)
   repeat (apply item_take; rfl; rfl; rfl; rfl; exact fun _ _ _ _ h => h; (intro W e _ k; obtain ⟨q, q2⟩ := HC.o W e; go_simp; exact k))
   apply zg; rfl; intro K hK; go_simp
   refine hK _ _ (za _ _).to ?_
   clear hK K
   apply zg; rfl; intro K hK
   refine zu Lay.u8.slice w.heap.size (.tmp 29) (.tmp 31) _ _ _ 24 rfl Tryz.underlying182 zcT rfl (by omega) (by decide) (.slice ap am ar) xs x _ rfl rfl HD.o.2.1 bq.o HD.o.1.fr.size (by rw [dH.o]; omega) ?_
   intro v1 Wa h1 h2 h3 _
   refine hK _ _ (h3.mono (fun k _ e e2 => by
    have q := ah.o k e.symm
    have q2 := aX.o b (.inr rfl)
    rcases e2 with e2 | e2
    ·omega
    ·omega)) ?_
   clear hK K
   obtain ⟨az, aR, aO, rfl⟩ := h1.shape
   have HA := HD.o.1.mine H.o.rx h2 (fun k e => (ah.o k e.symm).1)
   have ii := (HA.blk.cell o).trans (jn ho)
   have il := HA.blk.frz o
   have h6 : Hq (Yb S D F g pe pu L b w r2 (cs.setIfInBounds o (.slice az aR aO)) T (Wa.setCell ⟨b, o, none⟩ (.slice az aR aO)) ∧ OwnG Lay.u8.slice 227 w.heap.size (fun k => k < w.heap.size) (Wa.setCell ⟨b, o, none⟩ (.slice az aR aO)) (.slice az aR aO) (xs ++ [x])) := ⟨(HA.set o (.slice az aR aO)).cells (Z3 _ _ _ _), h1.fr (zf Wa ⟨b, o, none⟩ (.slice az aR aO)) (fun k e => .inl (by have e' : k = b := e; rw [e']; exact aX.o b (.inr rfl))) (fun k hk e => by have e' : k = b := e; have := (h1.lt k hk).1; have := aX.o b (.inr rfl); omega)⟩
   clear h1 h2 h3 HA HD bq
   repeat (apply item_take; rfl; rfl; rfl; rfl; exact fun _ _ _ _ h => h; (intro _ _ _ k; go_simp; exact k))
   apply zn; rfl; intro K hK; go_simp
   refine hK _ _ ?_
   clear hK K ii il
   apply zm
   go_wp2
   go_roundw
   case rel => exact ⟨i + 1, _, by omega, by go_num, (fun q => absurd q (Nat.succ_ne_zero i)), _, _, HX.o, by rw [laQ, dH.o]; rfl, h6.o.1, h6.o.2⟩
   case measure => simp [intOf]; omega
  ·obtain rfl : i = m := by omega
   obtain ⟨xs, r, q1, q2, q3, q4⟩ := hV.o
   have HV := qh (anQ q1 (anQ q3 q4))
   clear hV q1 q2 q3 q4
   go_wp2
   go_ret
   exact HV.o.2.1.ok (x := xs) (by rw [hp.o]; exact HV.o.1) ⟨_, HV.o.2.1.blk, Lay.mono _ (HV.o.2.2.slice (fun k hk q => by omega)) (fun k hk => ⟨by have := hk.1; omega, hk.2⟩), fun q => hZ.o (by have := jN HV.o.1; rw [q] at this; exact this.symm)⟩
theorem zcU : (Tryz.prog.info? 229).map (fun i => (i.zero, i.size, i.bytes)) = some (some (.agg #[.int .u32 0, .slice none 0 0, .slice none 0 0]), Lay.edat.size, 56) := by kernel_rfl
theorem ziz (S : Rdr) (D F : Nat → Prop) (g : Nat) (pe pu : Addr) (L : Nat) (bs : List UInt8) (w : World) (h : RdX S D F g pe pu L bs w) (b o : Nat) (cs : Array Value) (T : TypeId) (hB : Blk w b cs T) (ho : cs[o]? = some (.slice none 0 0)) (hF : ¬ F b) (hD : ¬ D b) (hb : L ≤ b) (ag : pVec pDat bs ≠ .any) :
 Calls Tryz.prog 142 #[.iface S.T (.pointer (some ⟨g, 0, none⟩)), .pointer (some ⟨b, o, none⟩)] w fun e w' => PX S D F g pe pu L b (pVec pDat bs) (fun l W => ∃ v, Blk W b (cs.setIfInBounds o v) T ∧ Lay.edat.slice.rd (aN w W) W [v] l ∧ (l = [] → v = .slice none 0 0)) w e w' := by
 have HC := qh (jS S D F g pe pu L bs w h (PR.ne_any ag))
 have H := qh (Yb.start h hB hF hD hb)
 have aX := qh H.o.old
 have ag := qh ag
 clear h hB hF hD hb
 go_enter Tryz.func142, Tryz.ntmps142
 go_wp2_with fail
 refine HC.o.mono ?_
 rintro e w1 ⟨n, rest, hr, rfl, h1, h2⟩
 have hp := qh (show pVec pDat bs = pRep pDat n.toNat rest from by unfold pVec; rw [hr]; rfl)
 have ey := qh (show pRep pDat n.toNat rest ≠ .any from by rw [← hp.o]; exact ag.o)
 have eZ := n.toNat_lt
 have H1 := qh (H.o.read h1 h2)
 generalize n.toNat = m at *
 clear h1 h2 hr HC ag
 go_wp2_with fail
 go_loopw [18] (fun fd w' => ∃ (i : Nat) (va : Value), i ≤ m ∧ fd = .int .u32 i ∧ Hq (i = 0 → va = .slice none 0 0) ∧ Hq (∃ (xs : List _) (r : List UInt8), pRep pDat i rest = .ok xs r ∧ xs.length = i ∧ Yb S D F g pe pu L b w r (cs.setIfInBounds o va) T w' ∧ OwnG Lay.edat 229 w.heap.size (fun k => k < w.heap.size) w' va xs)) (fun fd _ => m - (intOf fd).toNat)
 case atStart => exact ⟨0, .slice none 0 0, nzQ _, rfl, fun _ => rfl, [], rest, rfl, rfl, H1.o.cells (Jj ho).symm, zv _ _ _ _ _⟩
 case round =>
  obtain ⟨i, va, hi, rfl, hZ, hV⟩ := hrel
  by_cases aj : i < m
  ·obtain ⟨xs, r, q1, q2, q3, q4⟩ := hV.o
   have HV := qh (anQ q1 (anQ q2 (anQ q3 q4)))
   obtain ⟨ap, am, ar, rfl⟩ := q4.shape
   have dH := qh q2
   obtain ⟨gn, dh⟩ := exQ (wr.heap.size)
   have Hn := qh q3.new
   rw [dh] at Hn
   have bP := za wr (.cells #[.int .u32 0, .slice none 0 0, .slice none 0 0] 229)
   have dZ := qh (q3.ext bP)
   have fN : Hq (Ext wr (wr.alloc (.cells #[.int .u32 0, .slice none 0 0, .slice none 0 0] 229))) := bP
   have ah := qh (show ∀ k, (Value.slice ap am ar).ownBlock = some k → w.heap.size ≤ k ∧ k < gn from fun k hk => ⟨(q4.lt k hk).1, by rw [← dh]; exact (q4.lt k hk).2⟩)
   have HG : Hq (Blk (wr.alloc (.cells #[.int .u32 0, .slice none 0 0, .slice none 0 0] 229)) gn #[.int .u32 0, .slice none 0 0, .slice none 0 0] 229) := by rw [← dh]; exact zl _ _ _
   have dj := qh (show gn < (wr.alloc (.cells #[.int .u32 0, .slice none 0 0, .slice none 0 0] 229)).heap.size from HG.o.lt)
   clear hV q1 q2 q3 q4 bP
   go_wp2_with fail
   generalize wr.alloc (.cells #[.int .u32 0, .slice none 0 0, .slice none 0 0] 229) = Wn at *
   refine (dat_y dZ.o.rx gn HG.o Hn.o.1 Hn.o.2.1 Hn.o.2.2.1 (yE HV.o.1 aj ey.o)).mono ?_
   rintro e w2 (⟨x, r2, aY, rfl, k1, ⟨kJ, k2, k3⟩, k4⟩ | ⟨aY, v, rfl, hv, cT, k4⟩)
   rotate_left
   ·have HB := qh (anQ (jg HV.o.1 aj aY) (anQ hv (anQ cT k4)))
    clear aY hv cT k4
    obtain ⟨p, dR, pT, rfl, dM, cW⟩ := HB.o.2.1
    go_wp2
    go_ret
    exact dZ.o.badO (gn := gn) Hn.o.2.2.2.1 (by rw [hp.o, HB.o.1]) HB.o.2.1 HB.o.2.2.1 HB.o.2.2.2
   obtain ⟨e0, e1, e2, rfl⟩ := arr3 (cs := kJ) (Lay.edat.len k3)
   have HX := qh (yu HV.o.1 aY)
   have HK := qh k3
   have dE : Hq (Yb S D F g pe pu L b w r2 (cs.setIfInBounds o (.slice ap am ar)) T w2 ∧ OwnG Lay.edat 229 w.heap.size (fun k => k < w.heap.size) w2 (.slice ap am ar) xs ∧ Blk w2 gn #[e0, e1, e2] 229) := ⟨dZ.o.other (gn := gn) Hn.o.2.2.2.1 k1 k4, HV.o.2.2.2.fr (Ext.fr fN.o k4) (fun k e => e.elim (fun e => .inl (aX.o k (.inl e))) (fun e => .inr (by omega))) (fun k hk e => by
    have q := ah.o k hk
    rcases e with e | e
    ·have := aX.o k (.inl e); omega
    ·omega), k2⟩
   clear k1 k2 k3 k4 aY HG dZ
   go_wp2_with fail
   refine zj (yX (fun k => ¬ (k = b ∨ k = gn))) [kT 0, kT 1, kT 2, kT 3, kT 4, kT 5, kR 6, kR 7, kT 8, kT 9, kL 10] (by kernel_rfl) (by kernel_rfl) ?_
   simp only [zx, gzQ, gsQ]
   have HD : Hq (Yb S D F g pe pu L b w r2 (cs.setIfInBounds o (.slice ap am ar)) T w2.drew ∧ OwnG Lay.edat 229 w.heap.size (fun k => k < w.heap.size) w2.drew (.slice ap am ar) xs ∧ Blk w2.drew gn #[e0, e1, e2] 229) := ⟨dE.o.1.ext (zb _), dE.o.2.1.ext (zb _), dE.o.2.2.ext (zb _)⟩
   have bq := qh (Zb (Wd := w2.drew) HK.o (zb w2) (nlQ HV.o.2.2.1.fr.size fN.o.size) (fun k hk => Nat.lt_trans (ah.o k hk).2 dj.o))
   clear dE HK
   generalize w2.drew = Wd at *
   have HC := qh (fun W' (h : Fr (fun k => ¬ (k = b ∨ k = gn)) Wd W') => anQ (((HD.o.1.blk.fr h (fun e => e (.inl rfl))).cell o).trans (jn ho)) (HD.o.2.2.fr h (fun e => e (.inr rfl))).cell)
   repeat (apply item_take; rfl; rfl; rfl; rfl; exact fun _ _ _ _ h => h; (intro W e _ k; obtain ⟨q, q2⟩ := HC.o W e; go_simp; exact k))
   apply zg; rfl; intro K hK; go_simp
   refine hK _ _ (za _ _).to ?_
   clear hK K
   apply zg; rfl; intro K hK
   refine zu Lay.edat w.heap.size (.tmp 29) (.tmp 31) _ _ _ 56 rfl Tryz.underlying185 zcU rfl (by omega) (by decide) (.slice ap am ar) xs x _ rfl rfl HD.o.2.1 bq.o HD.o.1.fr.size (by rw [dH.o]; omega) ?_
   intro v1 Wa h1 h2 h3 _
   refine hK _ _ (h3.mono (fun k _ e e2 => by
    have q := ah.o k e.symm
    have q2 := aX.o b (.inr rfl)
    rcases e2 with e2 | e2
    ·omega
    ·omega)) ?_
   clear hK K
   obtain ⟨az, aR, aO, rfl⟩ := h1.shape
   have HA := HD.o.1.mine H.o.rx h2 (fun k e => (ah.o k e.symm).1)
   have ii := (HA.blk.cell o).trans (jn ho)
   have il := HA.blk.frz o
   have h6 : Hq (Yb S D F g pe pu L b w r2 (cs.setIfInBounds o (.slice az aR aO)) T (Wa.setCell ⟨b, o, none⟩ (.slice az aR aO)) ∧ OwnG Lay.edat 229 w.heap.size (fun k => k < w.heap.size) (Wa.setCell ⟨b, o, none⟩ (.slice az aR aO)) (.slice az aR aO) (xs ++ [x])) := ⟨(HA.set o (.slice az aR aO)).cells (Z3 _ _ _ _), h1.fr (zf Wa ⟨b, o, none⟩ (.slice az aR aO)) (fun k e => .inl (by have e' : k = b := e; rw [e']; exact aX.o b (.inr rfl))) (fun k hk e => by have e' : k = b := e; have := (h1.lt k hk).1; have := aX.o b (.inr rfl); omega)⟩
   clear h1 h2 h3 HA HD bq
   repeat (apply item_take; rfl; rfl; rfl; rfl; exact fun _ _ _ _ h => h; (intro _ _ _ k; go_simp; exact k))
   apply zn; rfl; intro K hK; go_simp
   refine hK _ _ ?_
   clear hK K ii il
   apply zm
   go_wp2
   go_roundw
   case rel => exact ⟨i + 1, _, by omega, by go_num, (fun q => absurd q (Nat.succ_ne_zero i)), _, _, HX.o, by rw [laQ, dH.o]; rfl, h6.o.1, h6.o.2⟩
   case measure => simp [intOf]; omega
  ·obtain rfl : i = m := by omega
   obtain ⟨xs, r, q1, q2, q3, q4⟩ := hV.o
   have HV := qh (anQ q1 (anQ q3 q4))
   clear hV q1 q2 q3 q4
   go_wp2
   go_ret
   exact HV.o.2.1.ok (x := xs) (by rw [hp.o]; exact HV.o.1) ⟨_, HV.o.2.1.blk, Lay.mono _ (HV.o.2.2.slice (fun k hk q => by omega)) (fun k hk => ⟨by have := hk.1; omega, hk.2⟩), fun q => hZ.o (by have := jN HV.o.1; rw [q] at this; exact this.symm)⟩
end Go.Proofs.YtejgninpjhcgnaaGreatDoor
