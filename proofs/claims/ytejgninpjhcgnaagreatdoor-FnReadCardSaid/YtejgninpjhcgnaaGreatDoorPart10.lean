/- Texts of this proof, one behind the other. -/
import Derived.Test.YtejgninpjhcgnaaGreatDoorPart9
namespace Go.Proofs.YtejgninpjhcgnaaGreatDoor
open Go.RowKit
set_option linter.unusedSimpArgs false
set_option linter.unusedVariables false
set_option maxRecDepth 100000
set_option maxHeartbeats 4000000
theorem zfQ : (Tryz.prog.info? 294).map (fun i => (i.zero, i.size, i.bytes)) = some (some .nilIface, Lay.kon.size, 16) := by kernel_rfl
theorem zdG (n : Int) : -2147483648 ≤ wrap32 n ∧ wrap32 n < 2147483648 := by unfold wrap32; omega
theorem zbD : ∀ (s a : Nat) (bs : List UInt8) {n : Int} {r : List UInt8}, yM s a bs = some (n, r) → -9223372036854775808 ≤ n ∧ n < 9223372036854775808
 | _, _, [], _, _, h => by cases h
 | s, a, b :: bs, n, r, h => by
  unfold yM at h
  split at h
  ·simp only [Option.some.injEq, Prod.mk.injEq] at h; rw [← h.1]; unfold toS; omega
  ·exact zbD _ _ bs h
theorem YP : ∀ (s a : Nat) (bs : List UInt8) {n : Int} {r : List UInt8}, yM s a bs = some (n, r) → r.length < bs.length
 | _, _, [], _, _, h => by cases h
 | s, a, b :: bs, n, r, h => by
  unfold yM at h
  split at h
  ·simp only [Option.some.injEq, Prod.mk.injEq] at h; rw [← h.2]; exact Nat.lt_succ_self _
  ·exact Nat.lt_succ_of_lt (YP _ _ bs h)
variable {bs r : List UInt8}
theorem zfR {a : List (Int × UInt64)} (h : pA32 bs = .ok a r ∨ pA64 bs = .ok a r) : r.length < bs.length := by
 rcases h with h | h
 ·unfold pA32 at h
  split at h
  ·rename_i v r' hr; injection h with h1 h2; rw [← h2]; exact YP _ _ _ hr
  ·cases h
 ·unfold pA64 at h
  split at h
  ·rename_i v r' hr; injection h with h1 h2; rw [← h2]; exact YP _ _ _ hr
  ·cases h
def zip (bs : List UInt8) (bf : List Ins) (r : List UInt8) : Prop := (bf = [] ∧ jb bs = jb r) ∨ (∃ x, bf = [x] ∧ jb bs = (pEnd r).bind fun _ r' => .ok [x] r')
theorem zg8 (S : Rdr) (D F : Nat → Prop) (g : Nat) (pe pu : Addr) (L : Nat) (bs : List UInt8) (w : World) (h : RdX S D F g pe pu L bs w) (b o : Nat) (cs : Array Value) (T : TypeId) (hB : Blk w b cs T) (ho : o < cs.size) (hF : ¬ F b) (hD : ¬ D b) (hb : L ≤ b) (ag : jb bs ≠ .any) :
 Calls Tryz.prog 184 #[.iface S.T (.pointer (some ⟨g, 0, none⟩)), .pointer (some ⟨b, o, none⟩)] w fun e w' => PX S D F g pe pu L b (jb bs) (fun l W => ∃ v, Blk W b (cs.setIfInBounds o v) T ∧ Lay.kon.slice.rd (aN w W) W [v] l ∧ ∃ a m c, v = .slice a m c) w e w' := by
 have ch := qh (Yb.start h hB hF hD hb)
 have aX := qh ch.o.old
 have ag := qh ag
 obtain ⟨x0, df⟩ := Ji ho
 have oT : ∀ w : World, (Instr.makeSlice 212 (.int .i64 0) (.int .i64 0)).run Tryz.prog w = .ok (.slice (some ⟨w.heap.size, 0, none⟩) 0 0) (w.alloc (.cells #[] 294)) := fun w => by kernel_rfl
 clear h hB hF hD hb
 go_enter Tryz.func184, Tryz.ntmps184
 go_wp2_with fail
 obtain ⟨W0, fQ, H0⟩ : ∃ W0, Hq (w.alloc (.cells #[] 294) = W0) ∧ Hq (Yb S D F g pe pu L b w bs cs T W0 ∧ Own Lay.kon 294 w.heap.size W0 (.slice (some ⟨w.heap.size, 0, none⟩) 0 0) []) := by
  refine ⟨_, rfl, ch.o.ext (za _ _), [], ⟨by simp, .inr ⟨w.heap.size, 0, #[], rfl, Nat.le_refl _, zl w _ _, Nat.le_refl _, by decide, by simp, by simp⟩⟩, rfl⟩
 go_loopw [5] (fun s5 w' => ∃ (bf : List Ins) (r : List UInt8), Hq (zip bs bf r) ∧ Hq (Yb S D F g pe pu L b w r cs T w' ∧ Own Lay.kon 294 w.heap.size w' s5 bf)) (fun _ w' => S.left g w')
 case atStart => exact ⟨[], bs, .inl ⟨rfl, rfl⟩, by show _ ∧ _; rw [fQ.o]; exact H0.o⟩
 case round =>
  obtain ⟨bf, r, hT, hV⟩ := hrel
  obtain ⟨u1, u2, mU, rfl⟩ := hV.o.2.shape
  have fJ := qh (S.left_is hV.o.1.rx.is)
  have oS : Hq (y7 r ≠ .any) := by
   rcases hT.o with ⟨_, q⟩ | ⟨x, _, q⟩
   ·rw [jb.eq_1 r] at q; exact PR.stepNe q ag.o
   ·rw [pEnd.eq_1 r, PR.bind_bind] at q; exact PR.stepNe q ag.o
  go_wp2_with fail
  refine (Y8 S D F g pe pu L r wr hV.o.1.rx oS.o).mono ?_
  rintro e w1 ⟨c, r1, hr, rfl, k1, k4⟩
  have ue := c.toNat_lt
  have lv : Hq (Yb S D F g pe pu L b w r1 cs T w1 ∧ Own Lay.kon 294 w.heap.size w1 (.slice u1 u2 mU) bf) := ⟨hV.o.1.read k1 k4, hV.o.2.fr k4 (fun k h1 h2 e => by have := aX.o k (.inl e); omega)⟩
  subst hr
  clear k1 k4 hV oS
  obtain ⟨tt, Bx⟩ := exQ (hT)
  clear Bx tt
  by_cases dG : bf = []
  ·have fq : jb bs = jb (c :: r1) := by
    rcases hT.o with ⟨_, q⟩ | ⟨x, q0, q⟩
    ·exact q
    ·rw [q0] at dG; cases dG
   rw [jb.eq_1 (c :: r1)] at fq
   have cV := qh (PR.step fq (show y7 (c :: r1) = .ok c r1 from rfl))
   have dG := qh dG
   clear hT fq
   by_cases h65 : c.toNat = 65
   ·have Ay : ((c.toNat : Int) == 65) = true := by rw [beq_iff_eq]; omega
    have A4 := bfQ (a := (c.toNat : Int)) (b := 66) (by omega)
    have ev := qh (cV.o.trans (if_pos h65))
    clear cV
    go_wp2_with fail
    refine (i32_y S D F g pe pu L r1 w1 lv.o.1.rx (PR.stepNe ev.o ag.o)).mono ?_
    rintro e w2 ⟨v, r2, hr, rfl, k1, k4⟩
    have fY := qh (PR.step ev.o hr)
    have sP := qh (zdG v)
    have og := k1.len
    have dE : Hq (Yb S D F g pe pu L b w r2 cs T w2 ∧ Own Lay.kon 294 w.heap.size w2 (.slice u1 u2 mU) bf) := ⟨lv.o.1.read k1 k4, lv.o.2.fr k4 (fun k h1 h2 e => by have := aX.o k (.inl e); omega)⟩
    have aj := qh (show r2.length < (c :: r1).length from by have := zfR (.inl hr); simp only [List.length_cons]; omega)
    clear k1 k4 hr og lv
    have oO := qh (show Lay.kon.rd (fun k => w.heap.size ≤ k ∧ k < w2.heap.size ∧ some k ≠ (Value.slice u1 u2 mU).ownBlock) w2 (#[.iface 437 (.agg #[.int .i32 (wrap32 v)])] : Array Value).toList (.mk 65 [(0, yK (wrap32 v % 4294967296))] false (-1) []) from .inl ⟨wrap32 v, rfl, sP.o.1, sP.o.2, rfl⟩)
    go_wp2_with (at_builtin; refine Hq.o ?_)
    refine jk Lay.kon w.heap.size w2.heap.size rfl rfl (.tmp 33) (.tmp 37) _ _ _ 16 rfl Tryz.underlying212 zfQ rfl (by omega) (by decide) (.slice u1 u2 mU) bf (.mk 65 [(0, yK (wrap32 v % 4294967296))] false (-1) []) _ rfl rfl dE.o.2 oO.o dE.o.1.fr.size (by rw [dG.o]; decide) ?_
    intro v1 w6 h1 h2 h3
    have dW : Hq (∀ k, some k = (Value.slice u1 u2 mU).ownBlock → w.heap.size ≤ k) := fun k hk => (dE.o.2.lt k hk.symm).1
    have tB : Hq (Yb S D F g pe pu L b w r2 cs T w6 ∧ Own Lay.kon 294 w.heap.size w6 v1 (bf ++ [.mk 65 [(0, yK (wrap32 v % 4294967296))] false (-1) []])) := by
     refine ⟨?_, h1⟩
     have hY := dE.o.1
     have bj := hY.rx.sp.lw
     have aj := S.lt hY.rx.is
     have t7 := ch.o.rx.sp.lw
     exact ⟨hY.rx.fr h2 (fun k e => by have := dW.o k e; omega) (fun k hk e => by have := dW.o k e; have := aX.o k (.inl hk); omega) (fun k hk e => by
      have h5 := dW.o k e
      have h6 := (S.lt ch.o.rx.is).2.2 k hk
      omega), hY.blk.fr h2 (fun e => by have := dW.o b e; have := aX.o b (.inr rfl); omega), Fr.trans hY.fr h2 (fun _ _ h => h) (fun k hk e => by have := dW.o k e; omega), hY.nF, hY.nD, hY.lb, aX.o⟩
    have pf := qh (S.left_is tB.o.1.rx.is)
    clear h1 h2 h3 dW dE oO
    go_wp2
    go_roundw
    case rel => exact ⟨_, r2, .inr ⟨_, by rw [dG.o]; rfl, fY.o⟩, tB⟩
    case measure => rw [pf.o, fJ.o]; exact aj.o
   ·by_cases h66 : c.toNat = 66
    ·have Ay := bfQ (a := (c.toNat : Int)) (b := 65) (by omega)
     have A4 : ((c.toNat : Int) == 66) = true := by rw [beq_iff_eq]; omega
     have ev := qh (cV.o.trans ((if_neg h65).trans (if_pos h66)))
     clear cV
     go_wp2_with fail
     refine (i64_y S D F g pe pu L r1 w1 lv.o.1.rx (PR.stepNe ev.o ag.o)).mono ?_
     rintro e w2 ⟨v, r2, qZ, hr, rfl, k1, k4⟩
     have fY := qh (PR.step ev.o hr)
     have sP := qh (zbD _ _ _ qZ)
     have og := k1.len
     have dE : Hq (Yb S D F g pe pu L b w r2 cs T w2 ∧ Own Lay.kon 294 w.heap.size w2 (.slice u1 u2 mU) bf) := ⟨lv.o.1.read k1 k4, lv.o.2.fr k4 (fun k h1 h2 e => by have := aX.o k (.inl e); omega)⟩
     have aj := qh (show r2.length < (c :: r1).length from by have := zfR (.inr hr); simp only [List.length_cons]; omega)
     clear k1 k4 hr og qZ lv
     have oO := qh (show Lay.kon.rd (fun k => w.heap.size ≤ k ∧ k < w2.heap.size ∧ some k ≠ (Value.slice u1 u2 mU).ownBlock) w2 (#[.iface 441 (.agg #[.int .i64 v])] : Array Value).toList (.mk 66 [(1, yK v)] false (-1) []) from .inr ⟨v, rfl, sP.o.1, sP.o.2, rfl⟩)
     go_wp2_with (at_builtin; refine Hq.o ?_)
     refine jk Lay.kon w.heap.size w2.heap.size rfl rfl (.tmp 49) (.tmp 53) _ _ _ 16 rfl Tryz.underlying212 zfQ rfl (by omega) (by decide) (.slice u1 u2 mU) bf (.mk 66 [(1, yK v)] false (-1) []) _ rfl rfl dE.o.2 oO.o dE.o.1.fr.size (by rw [dG.o]; decide) ?_
     intro v1 w6 h1 h2 h3
     have dW : Hq (∀ k, some k = (Value.slice u1 u2 mU).ownBlock → w.heap.size ≤ k) := fun k hk => (dE.o.2.lt k hk.symm).1
     have tB : Hq (Yb S D F g pe pu L b w r2 cs T w6 ∧ Own Lay.kon 294 w.heap.size w6 v1 (bf ++ [.mk 66 [(1, yK v)] false (-1) []])) := by
      refine ⟨?_, h1⟩
      have hY := dE.o.1
      have bj := hY.rx.sp.lw
      have aj := S.lt hY.rx.is
      have t7 := ch.o.rx.sp.lw
      exact ⟨hY.rx.fr h2 (fun k e => by have := dW.o k e; omega) (fun k hk e => by have := dW.o k e; have := aX.o k (.inl hk); omega) (fun k hk e => by
       have h5 := dW.o k e
       have h6 := (S.lt ch.o.rx.is).2.2 k hk
       omega), hY.blk.fr h2 (fun e => by have := dW.o b e; have := aX.o b (.inr rfl); omega), Fr.trans hY.fr h2 (fun _ _ h => h) (fun k hk e => by have := dW.o k e; omega), hY.nF, hY.nD, hY.lb, aX.o⟩
     have pf := qh (S.left_is tB.o.1.rx.is)
     clear h1 h2 h3 dW dE oO
     go_wp2
     go_roundw
     case rel => exact ⟨_, r2, .inr ⟨_, by rw [dG.o]; rfl, fY.o⟩, tB⟩
     case measure => rw [pf.o, fJ.o]; exact aj.o
    ·exfalso
     exact ag.o (by rw [cV.o, if_neg h65, if_neg h66])
  ·obtain ⟨x, vS, fq⟩ : ∃ x, bf = [x] ∧ jb bs = (pEnd (c :: r1)).bind fun _ r' => .ok [x] r' := by
    rcases hT.o with ⟨q, _⟩ | ⟨x, q0, q⟩
    ·exact absurd q dG
    ·exact ⟨x, q0, q⟩
   rw [pEnd.eq_1 (c :: r1), PR.bind_bind] at fq
   have cV := PR.step fq (show y7 (c :: r1) = .ok c r1 from rfl)
   have mJ : c.toNat = 11 := by
    apply Classical.byContradiction
    intro q
    rw [if_neg q] at cV
    exact ag.o cV
   rw [if_pos mJ] at cV
   have ev := qh (show jb bs = .ok [x] r1 from cV)
   have vS := qh vS
   have Ay := bfQ (a := (c.toNat : Int)) (b := 65) (by omega)
   have A4 := bfQ (a := (c.toNat : Int)) (b := 66) (by omega)
   have Al : ((c.toNat : Int) == 11) = true := by rw [beq_iff_eq]; omega
   have fM := lv.o.1.blk.cell o
   rw [df] at fM
   have iZ := lv.o.1.blk.frz o
   clear hT fq cV mJ dG
   go_wp2
   go_ret
   have hY := qh (lv.o.1.set o (.slice u1 u2 mU))
   refine hY.o.ok ev.o ⟨_, hY.o.blk, ?_, _, _, _, rfl⟩
   have := lv.o.2.slice
   rw [vS.o] at this
   exact Jx (p := ⟨b, o, none⟩) this (aX.o b (.inr rfl))
variable {S : Rdr} {D F : Nat → Prop} {g : Nat} {pe pu : Addr} {L : Nat} {w : World}
theorem ft_y (h : RdX S D F g pe pu L bs w) (b : Nat) (hB : Blk w b #[.slice none 0 0, .slice none 0 0] 197) (hF : ¬ F b) (hD : ¬ D b) (hb : L ≤ b) (ag : pFT bs ≠ .any) :
 Calls Tryz.prog 168 #[.iface S.T (.pointer (some ⟨g, 0, none⟩)), .pointer (some ⟨b, 0, none⟩)] w fun e w' => PX S D F g pe pu L b (pFT bs) (fun x W => ∃ cs, Blk W b cs 197 ∧ Lay.ft.rd (aN w W) W cs.toList x) w e w' := by
 have ch := qh (Yb.start h hB hF hD hb)
 have aX := qh ch.o.old
 have ag := qh ag
 have dQ := qh (pFT.eq_1 bs)
 clear h hB hF hD hb
 have fq := qh ch.o.blk.cell
 have eV := ch.o.blk.frz
 have dr := fq.o
 go_enter Tryz.func168, Tryz.ntmps168
 go_wp2_with fail
 refine (Y8 S D F g pe pu L bs w ch.o.rx (PR.stepNe dQ.o ag.o)).mono ?_
 rintro e w1 ⟨c, r1, hr, rfl, k1, k4⟩
 have et := qh (PR.step dQ.o (show y7 bs = .ok c r1 from by rw [hr]; rfl))
 have hc := c.toNat_lt
 have db := qh (ch.o.read k1 k4)
 clear k1 k4 hr dr eV
 have cV := qh db.o.blk.cell
 have fj := db.o.blk.frz
 have cw := cV.o
 by_cases hP : c.toNat = 96
 rotate_left
 ·have hb := bfQ (a := (c.toNat : Int)) (b := 96) (by omega)
  have cZ := qh (PR.stepBad et.o (if_neg hP))
  clear hP
  go_wp2_with fail
  refine (jO _ _ db.o.rx.sp).mono ?_
  rintro e we ⟨v, rfl, hv, hx⟩
  have HB := qh (anQ hv hx)
  clear hv hx cw fj
  obtain ⟨p, dR, pT, rfl, dM, cW⟩ := HB.o.1
  go_wp2
  go_ret
  exact db.o.badX (cZ.o) HB.o.1 HB.o.2
 have hb : ((c.toNat : Int) == 96) = true := by rw [beq_iff_eq]; omega
 have dU := qh (PR.step et.o (if_pos hP))
 have cR := db
 have ev := cV
 have cp := fj
 have bS := cw
 have B4 := qh hP
 clear hP fj cw
 go_wp2_with fail
 refine (zjp S D F g pe pu L r1 w1 cR.o.rx b 0 _ _ cR.o.blk (by simp) cR.o.nF cR.o.nD cR.o.lb (PR.stepNe dU.o ag.o)).mono ?_
 rintro e w3 (⟨x3, r3, hr, rfl, k1, ⟨v3, k2, k3, a3, m3, c3, rfl⟩, k4⟩ | ⟨hr, v, rfl, hv, hs, k4⟩)
 rotate_left
 ·have HB := qh (anQ (PR.stepBad dU.o hr) (anQ hv (anQ hs k4)))
  clear hr hv hs k4 bS cp
  obtain ⟨p, dR, pT, rfl, dM, cW⟩ := HB.o.2.1
  go_wp2
  go_ret
  exact cR.o.bad HB.o.1 HB.o.2.1 HB.o.2.2.1 HB.o.2.2.2
 have cj := qh (PR.step dU.o hr)
 have o4 := qh (Zn k3 cR.o.fr.size)
 have c7 : Hq (Yb S D F g pe pu L b w r3 #[.slice a3 m3 c3, .slice none 0 0] 197 w3) := cR.o.into k1 (by simpa using k2) k4
 clear k1 k2 k4 hr bS cp k3
 have fY := qh c7.o.blk.cell
 have gd := c7.o.blk.frz
 have fH := fY.o
 go_wp2_with fail
 refine (zjp S D F g pe pu L r3 w3 c7.o.rx b 1 _ _ c7.o.blk (by simp) c7.o.nF c7.o.nD c7.o.lb (PR.stepNe cj.o ag.o)).mono ?_
 rintro e w4 (⟨x4, r4, hr, rfl, k1, ⟨v4, k2, k3, a4, m4, c4, rfl⟩, k4⟩ | ⟨hr, v, rfl, hv, hs, k4⟩)
 rotate_left
 ·have HB := qh (anQ (PR.stepBad cj.o hr) (anQ hv (anQ hs k4)))
  clear hr hv hs k4 fH gd
  obtain ⟨p, dR, pT, rfl, dM, cW⟩ := HB.o.2.1
  go_wp2
  go_ret
  exact c7.o.bad HB.o.1 HB.o.2.1 HB.o.2.2.1 HB.o.2.2.2
 have gc := qh (PR.step cj.o hr)
 have vo := qh (zee o4.o k4 (fun k e => aX.o k e))
 clear o4
 have xB := qh (Zn k3 c7.o.fr.size)
 have ej : Hq (Yb S D F g pe pu L b w r4 #[.slice a3 m3 c3, .slice a4 m4 c4] 197 w4) := c7.o.into k1 (by simpa using k2) k4
 clear k1 k2 k4 hr fH gd k3
 have iE := qh ej.o.blk.cell
 have ea := ej.o.blk.frz
 have eM := iE.o
 go_wp2
 go_ret
 exact ej.o.ok gc.o ⟨_, ej.o.blk, [_], [_], rfl, vo.o, xB.o⟩
theorem zjq (h : RdX S D F g pe pu L bs w) (b : Nat) (hB : Blk w b #[.int .u32 0, .slice none 0 0, .slice none 0 0] 216) (hF : ¬ F b) (hD : ¬ D b) (hb : L ≤ b) (ag : ZZ bs ≠ .any) :
 Calls Tryz.prog 174 #[.iface S.T (.pointer (some ⟨g, 0, none⟩)), .pointer (some ⟨b, 0, none⟩)] w fun e w' => PX S D F g pe pu L b (ZZ bs) (fun x W => ∃ cs, Blk W b cs 216 ∧ Lay.eelem.rd (aN w W) W cs.toList x) w e w' := by
 have ch := qh (Yb.start h hB hF hD hb)
 have aX := qh ch.o.old
 have ag := qh ag
 have dQ := qh (ZZ.eq_1 bs)
 clear h hB hF hD hb
 have fq := qh ch.o.blk.cell
 have eV := ch.o.blk.frz
 have dr := fq.o
 go_enter Tryz.func174, Tryz.ntmps174
 go_wp2_with fail
 refine (zfL S D F g pe pu L bs w ch.o.rx b 0 _ _ ch.o.blk (by simp) ch.o.nF ch.o.nD ch.o.lb (PR.stepNe dQ.o ag.o)).mono ?_
 rintro e w1 (⟨x1, r1, hr, rfl, k1, k2, k4⟩ | ⟨hr, v, rfl, hv, hs, k4⟩)
 rotate_left
 ·have HB := qh (anQ (PR.stepBad dQ.o hr) (anQ hv (anQ hs k4)))
  clear hr hv hs k4 dr eV
  obtain ⟨p, dR, pT, rfl, dM, cW⟩ := HB.o.2.1
  go_wp2
  go_ret
  exact ch.o.bad HB.o.1 HB.o.2.1 HB.o.2.2.1 HB.o.2.2.2
 have et := qh (PR.step dQ.o hr)
 have db : Hq (Yb S D F g pe pu L b w r1 #[.int .u32 (x1.toNat : Int), .slice none 0 0, .slice none 0 0] 216 w1) := ch.o.into k1 (by simpa using k2) k4
 clear k1 k2 k4 hr dr eV
 have cV := qh db.o.blk.cell
 have fj := db.o.blk.frz
 have cw := cV.o
 go_wp2_with fail
 refine (zg8 S D F g pe pu L r1 w1 db.o.rx b 1 _ _ db.o.blk (by simp) db.o.nF db.o.nD db.o.lb (PR.stepNe et.o ag.o)).mono ?_
 rintro e w2 (⟨x2, r2, hr, rfl, k1, ⟨v2, k2, k3, a2, m2, c2, rfl⟩, k4⟩ | ⟨hr, v, rfl, hv, hs, k4⟩)
 rotate_left
 ·have HB := qh (anQ (PR.stepBad et.o hr) (anQ hv (anQ hs k4)))
  clear hr hv hs k4 cw fj
  obtain ⟨p, dR, pT, rfl, dM, cW⟩ := HB.o.2.1
  go_wp2
  go_ret
  exact db.o.bad HB.o.1 HB.o.2.1 HB.o.2.2.1 HB.o.2.2.2
 have dU := qh (PR.step et.o hr)
 have p9 := qh (Zn k3 db.o.fr.size)
 have cR : Hq (Yb S D F g pe pu L b w r2 #[.int .u32 (x1.toNat : Int), .slice a2 m2 c2, .slice none 0 0] 216 w2) := db.o.into k1 (by simpa using k2) k4
 clear k1 k2 k4 hr cw fj k3
 have ev := qh cR.o.blk.cell
 have cp := cR.o.blk.frz
 have bS := ev.o
 go_wp2_with fail
 refine (zhS S D F g pe pu L r2 w2 cR.o.rx b 2 _ _ cR.o.blk (by simp) cR.o.nF cR.o.nD cR.o.lb (PR.stepNe dU.o ag.o)).mono ?_
 rintro e w3 (⟨x3, r3, hr, rfl, k1, ⟨v3, k2, k3, a3, m3, c3, rfl⟩, k4⟩ | ⟨hr, v, rfl, hv, hs, k4⟩)
 rotate_left
 ·have HB := qh (anQ (PR.stepBad dU.o hr) (anQ hv (anQ hs k4)))
  clear hr hv hs k4 bS cp
  obtain ⟨p, dR, pT, rfl, dM, cW⟩ := HB.o.2.1
  go_wp2
  go_ret
  exact cR.o.bad HB.o.1 HB.o.2.1 HB.o.2.2.1 HB.o.2.2.2
 have cj := qh (PR.step dU.o hr)
 have qx := qh (zee p9.o k4 (fun k e => aX.o k e))
 clear p9
 have o4 := qh (Zn k3 cR.o.fr.size)
 have c7 : Hq (Yb S D F g pe pu L b w r3 #[.int .u32 (x1.toNat : Int), .slice a2 m2 c2, .slice a3 m3 c3] 216 w3) := cR.o.into k1 (by simpa using k2) k4
 clear k1 k2 k4 hr bS cp k3
 have fY := qh c7.o.blk.cell
 have gd := c7.o.blk.frz
 have fH := fY.o
 go_wp2
 go_ret
 exact c7.o.ok cj.o ⟨_, c7.o.blk, [_], [_, _], rfl, rfl, [_], [_], rfl, qx.o, o4.o⟩
theorem dat_y (h : RdX S D F g pe pu L bs w) (b : Nat) (hB : Blk w b #[.int .u32 0, .slice none 0 0, .slice none 0 0] 229) (hF : ¬ F b) (hD : ¬ D b) (hb : L ≤ b) (ag : pDat bs ≠ .any) :
 Calls Tryz.prog 175 #[.iface S.T (.pointer (some ⟨g, 0, none⟩)), .pointer (some ⟨b, 0, none⟩)] w fun e w' => PX S D F g pe pu L b (pDat bs) (fun x W => ∃ cs, Blk W b cs 229 ∧ Lay.edat.rd (aN w W) W cs.toList x) w e w' := by
 have ch := qh (Yb.start h hB hF hD hb)
 have aX := qh ch.o.old
 have ag := qh ag
 have dQ := qh (pDat.eq_1 bs)
 clear h hB hF hD hb
 have fq := qh ch.o.blk.cell
 have eV := ch.o.blk.frz
 have dr := fq.o
 go_enter Tryz.func175, Tryz.ntmps175
 go_wp2_with fail
 refine (zfL S D F g pe pu L bs w ch.o.rx b 0 _ _ ch.o.blk (by simp) ch.o.nF ch.o.nD ch.o.lb (PR.stepNe dQ.o ag.o)).mono ?_
 rintro e w1 (⟨x1, r1, hr, rfl, k1, k2, k4⟩ | ⟨hr, v, rfl, hv, hs, k4⟩)
 rotate_left
 ·have HB := qh (anQ (PR.stepBad dQ.o hr) (anQ hv (anQ hs k4)))
  clear hr hv hs k4 dr eV
  obtain ⟨p, dR, pT, rfl, dM, cW⟩ := HB.o.2.1
  go_wp2
  go_ret
  exact ch.o.bad HB.o.1 HB.o.2.1 HB.o.2.2.1 HB.o.2.2.2
 have et := qh (PR.step dQ.o hr)
 have db : Hq (Yb S D F g pe pu L b w r1 #[.int .u32 (x1.toNat : Int), .slice none 0 0, .slice none 0 0] 229 w1) := ch.o.into k1 (by simpa using k2) k4
 clear k1 k2 k4 hr dr eV
 have cV := qh db.o.blk.cell
 have fj := db.o.blk.frz
 have cw := cV.o
 go_wp2_with fail
 refine (zg8 S D F g pe pu L r1 w1 db.o.rx b 1 _ _ db.o.blk (by simp) db.o.nF db.o.nD db.o.lb (PR.stepNe et.o ag.o)).mono ?_
 rintro e w2 (⟨x2, r2, hr, rfl, k1, ⟨v2, k2, k3, a2, m2, c2, rfl⟩, k4⟩ | ⟨hr, v, rfl, hv, hs, k4⟩)
 rotate_left
 ·have HB := qh (anQ (PR.stepBad et.o hr) (anQ hv (anQ hs k4)))
  clear hr hv hs k4 cw fj
  obtain ⟨p, dR, pT, rfl, dM, cW⟩ := HB.o.2.1
  go_wp2
  go_ret
  exact db.o.bad HB.o.1 HB.o.2.1 HB.o.2.2.1 HB.o.2.2.2
 have dU := qh (PR.step et.o hr)
 have p9 := qh (Zn k3 db.o.fr.size)
 have cR : Hq (Yb S D F g pe pu L b w r2 #[.int .u32 (x1.toNat : Int), .slice a2 m2 c2, .slice none 0 0] 229 w2) := db.o.into k1 (by simpa using k2) k4
 clear k1 k2 k4 hr cw fj k3
 have ev := qh cR.o.blk.cell
 have cp := cR.o.blk.frz
 have bS := ev.o
 go_wp2_with fail
 refine (zdD S D F g pe pu L r2 w2 cR.o.rx b 2 _ _ cR.o.blk (by simp) cR.o.nF cR.o.nD cR.o.lb (PR.stepNe dU.o ag.o)).mono ?_
 rintro e w3 (⟨x3, r3, hr, rfl, k1, ⟨v3, k2, k3, a3, m3, c3, rfl⟩, k4⟩ | ⟨hr, v, rfl, hv, hs, k4⟩)
 rotate_left
 ·have HB := qh (anQ (PR.stepBad dU.o hr) (anQ hv (anQ hs k4)))
  clear hr hv hs k4 bS cp
  obtain ⟨p, dR, pT, rfl, dM, cW⟩ := HB.o.2.1
  go_wp2
  go_ret
  exact cR.o.bad HB.o.1 HB.o.2.1 HB.o.2.2.1 HB.o.2.2.2
 have cj := qh (PR.step dU.o hr)
 have qx := qh (zee p9.o k4 (fun k e => aX.o k e))
 clear p9
 have o4 := qh (Zn k3 cR.o.fr.size)
 have c7 : Hq (Yb S D F g pe pu L b w r3 #[.int .u32 (x1.toNat : Int), .slice a2 m2 c2, .slice a3 m3 c3] 229 w3) := cR.o.into k1 (by simpa using k2) k4
 clear k1 k2 k4 hr bS cp k3
 have fY := qh c7.o.blk.cell
 have gd := c7.o.blk.frz
 have fH := fY.o
 go_wp2
 go_ret
 exact c7.o.ok cj.o ⟨_, c7.o.blk, [_], [_, _], rfl, rfl, [_], [_], rfl, qx.o, o4.o⟩
theorem zdH (bs : List UInt8) : zR bs = (zR bs).bind fun x r => .ok x r := by cases zR bs <;> rfl
theorem zjr (h : RdX S D F g pe pu L bs w) (b : Nat) (hB : Blk w b #[.slice none 0 0] 227) (hF : ¬ F b) (hD : ¬ D b) (hb : L ≤ b) (ag : zR bs ≠ .any) :
 Calls Tryz.prog 176 #[.iface S.T (.pointer (some ⟨g, 0, none⟩)), .pointer (some ⟨b, 0, none⟩)] w fun e w' => PX S D F g pe pu L b (zR bs) (fun x W => ∃ cs, Blk W b cs 227 ∧ Lay.u8.slice.rd (aN w W) W cs.toList x) w e w' := by
 have ch := qh (Yb.start h hB hF hD hb)
 have aX := qh ch.o.old
 have ag := qh ag
 have dQ := qh (zdH bs)
 clear h hB hF hD hb
 have fq := qh ch.o.blk.cell
 have eV := ch.o.blk.frz
 have dr := fq.o
 go_enter Tryz.func176, Tryz.ntmps176
 go_wp2_with fail
 refine (zdD S D F g pe pu L bs w ch.o.rx b 0 _ _ ch.o.blk (by simp) ch.o.nF ch.o.nD ch.o.lb (PR.stepNe dQ.o ag.o)).mono ?_
 rintro e w1 (⟨x1, r1, hr, rfl, k1, ⟨v1, k2, k3, a1, m1, c1, rfl⟩, k4⟩ | ⟨hr, v, rfl, hv, hs, k4⟩)
 rotate_left
 ·have HB := qh (anQ (PR.stepBad dQ.o hr) (anQ hv (anQ hs k4)))
  clear hr hv hs k4 dr eV
  obtain ⟨p, dR, pT, rfl, dM, cW⟩ := HB.o.2.1
  go_wp2
  go_ret
  exact ch.o.bad HB.o.1 HB.o.2.1 HB.o.2.2.1 HB.o.2.2.2
 have et := qh (PR.step dQ.o hr)
 have uC := qh (Zn k3 ch.o.fr.size)
 have db : Hq (Yb S D F g pe pu L b w r1 #[.slice a1 m1 c1] 227 w1) := ch.o.into k1 (by simpa using k2) k4
 clear k1 k2 k4 hr dr eV k3
 have cV := qh db.o.blk.cell
 have fj := db.o.blk.frz
 have cw := cV.o
 go_wp2
 go_ret
 exact db.o.ok et.o ⟨_, db.o.blk, uC.o⟩
variable {β : Type}
theorem zfS (r : List UInt8) (f : Bool → List UInt8 → PR β) : (pBit r).bind f = (y7 r).bind fun c r => (pChk (c.toNat ≤ 1) r).bind fun _ r => f (decide (c.toNat = 1)) r := by
 rw [pBit.eq_1, PR.bind_bind]
 congr 1
 funext c r
 rw [PR.bind_bind]; rfl
theorem zjs (h : RdX S D F g pe pu L bs w) (b : Nat) (hB : Blk w b #[.int .i64 0, .bool false, .slice none 0 0] 220) (hF : ¬ F b) (hD : ¬ D b) (hb : L ≤ b) (ag : Zr bs ≠ .any) :
 Calls Tryz.prog 171 #[.iface S.T (.pointer (some ⟨g, 0, none⟩)), .pointer (some ⟨b, 0, none⟩)] w fun e w' => PX S D F g pe pu L b (Zr bs) (fun x W => ∃ cs, Blk W b cs 220 ∧ Lay.eglob.rd (aN w W) W cs.toList x) w e w' := by
 have ch := qh (Yb.start h hB hF hD hb)
 have aX := qh ch.o.old
 have ag := qh ag
 have dQ := qh (Zr.eq_1 bs)
 clear h hB hF hD hb
 have fq := qh ch.o.blk.cell
 have eV := ch.o.blk.frz
 have dr := fq.o
 go_enter Tryz.func171, Tryz.ntmps171
 go_wp2_with fail
 refine (zjo S D F g pe pu L bs w ch.o.rx b 0 _ _ ch.o.blk (by simp) ch.o.nF ch.o.nD ch.o.lb (PR.stepNe dQ.o ag.o)).mono ?_
 rintro e w1 (⟨x1, r1, hr, rfl, k1, ⟨k2, k3⟩, k4⟩ | ⟨hr, v, rfl, hv, hs, k4⟩)
 rotate_left
 ·have HB := qh (anQ (PR.stepBad dQ.o hr) (anQ hv (anQ hs k4)))
  clear hr hv hs k4 dr eV
  obtain ⟨p, dR, pT, rfl, dM, cW⟩ := HB.o.2.1
  go_wp2
  go_ret
  exact ch.o.bad HB.o.1 HB.o.2.1 HB.o.2.2.1 HB.o.2.2.2
 have et := qh (PR.step dQ.o hr)
 have lN := qh k3
 have db : Hq (Yb S D F g pe pu L b w r1 #[.int .i64 x1, .bool false, .slice none 0 0] 220 w1) := ch.o.into k1 (by simpa using k2) k4
 clear k1 k2 k4 hr dr eV k3
 have cV := qh db.o.blk.cell
 have fj := db.o.blk.frz
 have cw := cV.o
 go_wp2_with fail
 have et := qh (et.o.trans (zfS _ _))
 refine (Y8 S D F g pe pu L r1 w1 db.o.rx (PR.stepNe et.o ag.o)).mono ?_
 rintro e w2 ⟨c, r2, hr, rfl, k1, k4⟩
 have dU := qh (PR.step et.o (show y7 r1 = .ok c r2 from by rw [hr]; rfl))
 have hc := c.toNat_lt
 have cR := qh (db.o.read k1 k4)
 clear k1 k4 hr cw fj
 have ev := qh cR.o.blk.cell
 have cp := cR.o.blk.frz
 have bS := ev.o
 by_cases h1 : c.toNat = 1
 ·have b1 : ((c.toNat : Int) == 1) = true := by rw [beq_iff_eq]; omega
  have dU := qh (show Zr bs = (jb r2).bind fun l r2 => .ok ⟨x1, true, l⟩ r2 from by have q := PR.step dU.o (if_pos (by omega)); rw [q, decide_eq_true h1])
  clear h1
  have c7 := qh (show Yb S D F g pe pu L b w r2 #[.int .i64 x1, .bool true, .slice none 0 0] 220 _ from by simpa using cR.o.set 1 (.bool true))
  have cj := dU
  have fH := bS
  have gd := cp
  clear bS cp
  go_wp2_with fail
  refine (zg8 S D F g pe pu L r2 (w2.setCell ⟨b, 1, none⟩ (.bool true)) c7.o.rx b 2 _ _ c7.o.blk (by simp) c7.o.nF c7.o.nD c7.o.lb (PR.stepNe cj.o ag.o)).mono ?_
  rintro e w4 (⟨x4, r4, hr, rfl, k1, ⟨v4, k2, k3, a4, m4, c4, rfl⟩, k4⟩ | ⟨hr, v, rfl, hv, hs, k4⟩)
  rotate_left
  ·have HB := qh (anQ (PR.stepBad cj.o hr) (anQ hv (anQ hs k4)))
   clear hr hv hs k4 fH gd
   obtain ⟨p, dR, pT, rfl, dM, cW⟩ := HB.o.2.1
   go_wp2
   go_ret
   exact c7.o.bad HB.o.1 HB.o.2.1 HB.o.2.2.1 HB.o.2.2.2
  have gc := qh (PR.step cj.o hr)
  have xB := qh (Zn k3 c7.o.fr.size)
  have ej : Hq (Yb S D F g pe pu L b w r4 #[.int .i64 x1, .bool true, .slice a4 m4 c4] 220 w4) := c7.o.into k1 (by simpa using k2) k4
  clear k1 k2 k4 hr fH gd k3
  have iE := qh ej.o.blk.cell
  have ea := ej.o.blk.frz
  have eM := iE.o
  go_wp2
  go_ret
  exact ej.o.ok gc.o ⟨_, ej.o.blk, [_], [_, _], rfl, ⟨rfl, by have := lN.o; constructor <;> (dsimp only; omega)⟩, [_], [_], rfl, rfl, xB.o⟩
 ·have b1 := bfQ (a := (c.toNat : Int)) (b := 1) (by omega)
  by_cases h0 : c.toNat = 0
  ·have b0 : ((c.toNat : Int) == 0) = true := by rw [beq_iff_eq]; omega
   have dU := qh (show Zr bs = (jb r2).bind fun l r2 => .ok ⟨x1, false, l⟩ r2 from by have q := PR.step dU.o (if_pos (by omega)); rw [q, decide_eq_false h1])
   clear h1 h0
   go_wp2_with fail
   refine (zg8 S D F g pe pu L r2 w2 cR.o.rx b 2 _ _ cR.o.blk (by simp) cR.o.nF cR.o.nD cR.o.lb (PR.stepNe dU.o ag.o)).mono ?_
   rintro e w3 (⟨x3, r3, hr, rfl, k1, ⟨v3, k2, k3, a3, m3, c3, rfl⟩, k4⟩ | ⟨hr, v, rfl, hv, hs, k4⟩)
   rotate_left
   ·have HB := qh (anQ (PR.stepBad dU.o hr) (anQ hv (anQ hs k4)))
    clear hr hv hs k4 bS cp
    obtain ⟨p, dR, pT, rfl, dM, cW⟩ := HB.o.2.1
    go_wp2
    go_ret
    exact cR.o.bad HB.o.1 HB.o.2.1 HB.o.2.2.1 HB.o.2.2.2
   have cj := qh (PR.step dU.o hr)
   have o4 := qh (Zn k3 cR.o.fr.size)
   have c7 : Hq (Yb S D F g pe pu L b w r3 #[.int .i64 x1, .bool false, .slice a3 m3 c3] 220 w3) := cR.o.into k1 (by simpa using k2) k4
   clear k1 k2 k4 hr bS cp k3
   have fY := qh c7.o.blk.cell
   have gd := c7.o.blk.frz
   have fH := fY.o
   go_wp2
   go_ret
   exact c7.o.ok cj.o ⟨_, c7.o.blk, [_], [_, _], rfl, ⟨rfl, by have := lN.o; constructor <;> (dsimp only; omega)⟩, [_], [_], rfl, rfl, o4.o⟩
  ·have b0 := bfQ (a := (c.toNat : Int)) (b := 0) (by omega)
   have cZ := qh (PR.stepBad dU.o (if_neg (by omega)))
   clear h1 h0
   go_wp2_with fail
   refine (jO _ _ cR.o.rx.sp).mono ?_
   rintro e we ⟨v, rfl, hv, hx⟩
   have HB := qh (anQ hv hx)
   clear hv hx bS cp
   obtain ⟨p, dR, pT, rfl, dM, cW⟩ := HB.o.1
   go_wp2
   go_ret
   exact cR.o.badX (cZ.o) HB.o.1 HB.o.2
theorem zjt (h : RdX S D F g pe pu L bs w) (b : Nat) (hB : Blk w b #[.string ⟨#[]⟩, .int .i64 0, .int .u32 0] 225) (hF : ¬ F b) (hD : ¬ D b) (hb : L ≤ b) (ag : JR bs ≠ .any) :
 Calls Tryz.prog 173 #[.iface S.T (.pointer (some ⟨g, 0, none⟩)), .pointer (some ⟨b, 0, none⟩)] w fun e w' => PX S D F g pe pu L b (JR bs) (fun x W => ∃ cs, Blk W b cs 225 ∧ Lay.expo.rd (aN w W) W cs.toList x) w e w' := by
 have ch := qh (Yb.start h hB hF hD hb)
 have aX := qh ch.o.old
 have ag := qh ag
 have dQ := qh (JR.eq_1 bs)
 clear h hB hF hD hb
 have fq := qh ch.o.blk.cell
 have eV := ch.o.blk.frz
 have dr := fq.o
 go_enter Tryz.func173, Tryz.ntmps173
 go_wp2_with fail
 refine (zeF S D F g pe pu L bs w ch.o.rx b 0 _ _ ch.o.blk (by simp) ch.o.nF ch.o.nD ch.o.lb (PR.stepNe dQ.o ag.o)).mono ?_
 rintro e w1 (⟨x1, r1, hr, rfl, k1, ⟨k2, k3⟩, k4⟩ | ⟨hr, v, rfl, hv, hs, k4⟩)
 rotate_left
 ·have HB := qh (anQ (PR.stepBad dQ.o hr) (anQ hv (anQ hs k4)))
  clear hr hv hs k4 dr eV
  obtain ⟨p, dR, pT, rfl, dM, cW⟩ := HB.o.2.1
  go_wp2
  go_ret
  exact ch.o.bad HB.o.1 HB.o.2.1 HB.o.2.2.1 HB.o.2.2.2
 have et := qh (PR.step dQ.o hr)
 have lN := qh k3
 have db : Hq (Yb S D F g pe pu L b w r1 #[.string (zd x1), .int .i64 0, .int .u32 0] 225 w1) := ch.o.into k1 (by simpa using k2) k4
 clear k1 k2 k4 hr dr eV k3
 have cV := qh db.o.blk.cell
 have fj := db.o.blk.frz
 have cw := cV.o
 go_wp2_with fail
 refine (Y8 S D F g pe pu L r1 w1 db.o.rx (PR.stepNe et.o ag.o)).mono ?_
 rintro e w2 ⟨c, r2, hr, rfl, k1, k4⟩
 have dU := qh (PR.step et.o (show y7 r1 = .ok c r2 from by rw [hr]; rfl))
 have hc := c.toNat_lt
 have cR := qh (db.o.read k1 k4)
 clear k1 k4 hr cw fj
 have ev := qh cR.o.blk.cell
 have cp := cR.o.blk.frz
 have bS := ev.o
 by_cases h0 : c.toNat = 0
 ·have b0 : ((c.toNat : Int) == 0) = true := by rw [beq_iff_eq]; omega
  have dU := qh (show JR bs = (pNum r2).bind fun i r2 => .ok ⟨x1, (0 : Int), i⟩ r2 from by have q := PR.step dU.o (if_pos (by omega)); rw [q, h0]; rfl)
  clear h0
  have c7 := qh (show Yb S D F g pe pu L b w r2 #[.string (zd x1), .int .i64 0, .int .u32 0] 225 _ from by simpa using cR.o.set 1 (.int .i64 0))
  have cj := dU
  have fH := bS
  have gd := cp
  clear bS cp
  go_wp2_with fail
  refine (jS S D F g pe pu L r2 (w2.setCell ⟨b, 1, none⟩ (.int .i64 0)) c7.o.rx (PR.stepNe cj.o ag.o)).mono ?_
  rintro e w4 ⟨x4, r4, hr, rfl, k1, k4⟩
  have gc := qh (PR.step cj.o hr)
  have ej := qh (c7.o.read k1 k4)
  clear k1 k4 hr fH gd
  have iE := qh ej.o.blk.cell
  have ea := ej.o.blk.frz
  have eM := iE.o
  have hx := x4.toNat_lt
  have fC := qh (show Yb S D F g pe pu L b w r4 #[.string (zd x1), .int .i64 0, .int .u32 (x4.toNat : Int)] 225 _ from by simpa using ej.o.set 2 (.int .u32 (x4.toNat : Int)))
  have kl := gc
  have iT := eM
  have ly := ea
  clear eM ea
  go_wp2
  go_ret
  exact fC.o.ok kl.o ⟨_, fC.o.blk, [_], [_, _], rfl, ⟨rfl, lN.o⟩, [_], [_], rfl, ⟨rfl, by constructor <;> (dsimp only; omega)⟩, rfl⟩
 ·have b0 := bfQ (a := (c.toNat : Int)) (b := 0) (by omega)
  by_cases h1 : c.toNat = 1
  ·have b1 : ((c.toNat : Int) == 1) = true := by rw [beq_iff_eq]; omega
   have dU := qh (show JR bs = (pNum r2).bind fun i r2 => .ok ⟨x1, (1 : Int), i⟩ r2 from by have q := PR.step dU.o (if_pos (by omega)); rw [q, h1]; rfl)
   clear h0 h1
   have c7 := qh (show Yb S D F g pe pu L b w r2 #[.string (zd x1), .int .i64 1, .int .u32 0] 225 _ from by simpa using cR.o.set 1 (.int .i64 1))
   have cj := dU
   have fH := bS
   have gd := cp
   clear bS cp
   go_wp2_with fail
   refine (jS S D F g pe pu L r2 (w2.setCell ⟨b, 1, none⟩ (.int .i64 1)) c7.o.rx (PR.stepNe cj.o ag.o)).mono ?_
   rintro e w4 ⟨x4, r4, hr, rfl, k1, k4⟩
   have gc := qh (PR.step cj.o hr)
   have ej := qh (c7.o.read k1 k4)
   clear k1 k4 hr fH gd
   have iE := qh ej.o.blk.cell
   have ea := ej.o.blk.frz
   have eM := iE.o
   have hx := x4.toNat_lt
   have fC := qh (show Yb S D F g pe pu L b w r4 #[.string (zd x1), .int .i64 1, .int .u32 (x4.toNat : Int)] 225 _ from by simpa using ej.o.set 2 (.int .u32 (x4.toNat : Int)))
   have kl := gc
   have iT := eM
   have ly := ea
   clear eM ea
   go_wp2
   go_ret
   exact fC.o.ok kl.o ⟨_, fC.o.blk, [_], [_, _], rfl, ⟨rfl, lN.o⟩, [_], [_], rfl, ⟨rfl, by constructor <;> (dsimp only; omega)⟩, rfl⟩
  ·have b1 := bfQ (a := (c.toNat : Int)) (b := 1) (by omega)
   by_cases h2 : c.toNat = 2
   ·have b2 : ((c.toNat : Int) == 2) = true := by rw [beq_iff_eq]; omega
    have dU := qh (show JR bs = (pNum r2).bind fun i r2 => .ok ⟨x1, (2 : Int), i⟩ r2 from by have q := PR.step dU.o (if_pos (by omega)); rw [q, h2]; rfl)
    clear h0 h1 h2
    have c7 := qh (show Yb S D F g pe pu L b w r2 #[.string (zd x1), .int .i64 2, .int .u32 0] 225 _ from by simpa using cR.o.set 1 (.int .i64 2))
    have cj := dU
    have fH := bS
    have gd := cp
    clear bS cp
    go_wp2_with fail
    refine (jS S D F g pe pu L r2 (w2.setCell ⟨b, 1, none⟩ (.int .i64 2)) c7.o.rx (PR.stepNe cj.o ag.o)).mono ?_
    rintro e w4 ⟨x4, r4, hr, rfl, k1, k4⟩
    have gc := qh (PR.step cj.o hr)
    have ej := qh (c7.o.read k1 k4)
    clear k1 k4 hr fH gd
    have iE := qh ej.o.blk.cell
    have ea := ej.o.blk.frz
    have eM := iE.o
    have hx := x4.toNat_lt
    have fC := qh (show Yb S D F g pe pu L b w r4 #[.string (zd x1), .int .i64 2, .int .u32 (x4.toNat : Int)] 225 _ from by simpa using ej.o.set 2 (.int .u32 (x4.toNat : Int)))
    have kl := gc
    have iT := eM
    have ly := ea
    clear eM ea
    go_wp2
    go_ret
    exact fC.o.ok kl.o ⟨_, fC.o.blk, [_], [_, _], rfl, ⟨rfl, lN.o⟩, [_], [_], rfl, ⟨rfl, by constructor <;> (dsimp only; omega)⟩, rfl⟩
   ·have b2 := bfQ (a := (c.toNat : Int)) (b := 2) (by omega)
    by_cases h3 : c.toNat = 3
    ·have b3 : ((c.toNat : Int) == 3) = true := by rw [beq_iff_eq]; omega
     have dU := qh (show JR bs = (pNum r2).bind fun i r2 => .ok ⟨x1, (3 : Int), i⟩ r2 from by have q := PR.step dU.o (if_pos (by omega)); rw [q, h3]; rfl)
     clear h0 h1 h2 h3
     have c7 := qh (show Yb S D F g pe pu L b w r2 #[.string (zd x1), .int .i64 3, .int .u32 0] 225 _ from by simpa using cR.o.set 1 (.int .i64 3))
     have cj := dU
     have fH := bS
     have gd := cp
     clear bS cp
     go_wp2_with fail
     refine (jS S D F g pe pu L r2 (w2.setCell ⟨b, 1, none⟩ (.int .i64 3)) c7.o.rx (PR.stepNe cj.o ag.o)).mono ?_
     rintro e w4 ⟨x4, r4, hr, rfl, k1, k4⟩
     have gc := qh (PR.step cj.o hr)
     have ej := qh (c7.o.read k1 k4)
     clear k1 k4 hr fH gd
     have iE := qh ej.o.blk.cell
     have ea := ej.o.blk.frz
     have eM := iE.o
     have hx := x4.toNat_lt
     have fC := qh (show Yb S D F g pe pu L b w r4 #[.string (zd x1), .int .i64 3, .int .u32 (x4.toNat : Int)] 225 _ from by simpa using ej.o.set 2 (.int .u32 (x4.toNat : Int)))
     have kl := gc
     have iT := eM
     have ly := ea
     clear eM ea
     go_wp2
     go_ret
     exact fC.o.ok kl.o ⟨_, fC.o.blk, [_], [_, _], rfl, ⟨rfl, lN.o⟩, [_], [_], rfl, ⟨rfl, by constructor <;> (dsimp only; omega)⟩, rfl⟩
    ·have b3 := bfQ (a := (c.toNat : Int)) (b := 3) (by omega)
     have cZ := qh (PR.stepBad dU.o (if_neg (by omega)))
     clear h0 h1 h2 h3
     go_wp2_with fail
     refine (jO _ _ cR.o.rx.sp).mono ?_
     rintro e we ⟨v, rfl, hv, hx⟩
     have HB := qh (anQ hv hx)
     clear hv hx bS cp
     obtain ⟨p, dR, pT, rfl, dM, cW⟩ := HB.o.1
     go_wp2
     go_ret
     exact cR.o.badX (cZ.o) HB.o.1 HB.o.2
theorem zfT (r : List UInt8) (f : Lim → List UInt8 → PR β) : (pTab r).bind f = (y7 r).bind fun c r => (pChk (c.toNat = 112) r).bind fun _ r => (pLim r).bind f := by
 rw [pTab.eq_1, PR.bind_bind]
 congr 1
 funext c r
 rw [PR.bind_bind]
theorem imp_y (h : RdX S D F g pe pu L bs w) (b : Nat) (hB : Blk w b #[.string ⟨#[]⟩, .string ⟨#[]⟩, .nilIface] 202) (hF : ¬ F b) (hD : ¬ D b) (hb : L ≤ b) (ag : pImp bs ≠ .any) :
 Calls Tryz.prog 169 #[.iface S.T (.pointer (some ⟨g, 0, none⟩)), .pointer (some ⟨b, 0, none⟩)] w fun e w' => PX S D F g pe pu L b (pImp bs) (fun x W => ∃ cs, Blk W b cs 202 ∧ Lay.eimp.rd (aN w W) W cs.toList x) w e w' := by
 have ch := qh (Yb.start h hB hF hD hb)
 have aX := qh ch.o.old
 have ag := qh ag
 have dQ := qh (pImp.eq_1 bs)
 clear h hB hF hD hb
 have fq := qh ch.o.blk.cell
 have eV := ch.o.blk.frz
 have dr := fq.o
 go_enter Tryz.func169, Tryz.ntmps169
 go_wp2_with fail
 refine (zeF S D F g pe pu L bs w ch.o.rx b 0 _ _ ch.o.blk (by simp) ch.o.nF ch.o.nD ch.o.lb (PR.stepNe dQ.o ag.o)).mono ?_
 rintro e w1 (⟨x1, r1, hr, rfl, k1, ⟨k2, k3⟩, k4⟩ | ⟨hr, v, rfl, hv, hs, k4⟩)
 rotate_left
 ·have HB := qh (anQ (PR.stepBad dQ.o hr) (anQ hv (anQ hs k4)))
  clear hr hv hs k4 dr eV
  obtain ⟨p, dR, pT, rfl, dM, cW⟩ := HB.o.2.1
  go_wp2
  go_ret
  exact ch.o.bad HB.o.1 HB.o.2.1 HB.o.2.2.1 HB.o.2.2.2
 have et := qh (PR.step dQ.o hr)
 have lN := qh k3
 have db : Hq (Yb S D F g pe pu L b w r1 #[.string (zd x1), .string ⟨#[]⟩, .nilIface] 202 w1) := ch.o.into k1 (by simpa using k2) k4
 clear k1 k2 k4 hr dr eV k3
 have cV := qh db.o.blk.cell
 have fj := db.o.blk.frz
 have cw := cV.o
 go_wp2_with fail
 refine (zeF S D F g pe pu L r1 w1 db.o.rx b 1 _ _ db.o.blk (by simp) db.o.nF db.o.nD db.o.lb (PR.stepNe et.o ag.o)).mono ?_
 rintro e w2 (⟨x2, r2, hr, rfl, k1, ⟨k2, k3⟩, k4⟩ | ⟨hr, v, rfl, hv, hs, k4⟩)
 rotate_left
 ·have HB := qh (anQ (PR.stepBad et.o hr) (anQ hv (anQ hs k4)))
  clear hr hv hs k4 cw fj
  obtain ⟨p, dR, pT, rfl, dM, cW⟩ := HB.o.2.1
  go_wp2
  go_ret
  exact db.o.bad HB.o.1 HB.o.2.1 HB.o.2.2.1 HB.o.2.2.2
 have dU := qh (PR.step et.o hr)
 have xj := qh k3
 have cR : Hq (Yb S D F g pe pu L b w r2 #[.string (zd x1), .string (zd x2), .nilIface] 202 w2) := db.o.into k1 (by simpa using k2) k4
 clear k1 k2 k4 hr cw fj k3
 have ev := qh cR.o.blk.cell
 have cp := cR.o.blk.frz
 have bS := ev.o
 go_wp2_with fail
 refine (Y8 S D F g pe pu L r2 w2 cR.o.rx (PR.stepNe dU.o ag.o)).mono ?_
 rintro e w3 ⟨c, r3, hr, rfl, k1, k4⟩
 have cj := qh (PR.step dU.o (show y7 r2 = .ok c r3 from by rw [hr]; rfl))
 have hc := c.toNat_lt
 have c7 := qh (cR.o.read k1 k4)
 clear k1 k4 hr bS cp
 have fY := qh c7.o.blk.cell
 have gd := c7.o.blk.frz
 have fH := fY.o
 have cj := qh (cj.o.trans (zeC.eq_1 _ _ _ _))
 by_cases h0 : c.toNat = 0
 ·have b0 : ((c.toNat : Int) == 0) = true := by rw [beq_iff_eq]; omega
  have cj := qh (cj.o.trans (if_pos h0))
  clear h0
  go_wp2_with fail
  refine (jS S D F g pe pu L r3 w3 c7.o.rx (PR.stepNe cj.o ag.o)).mono ?_
  rintro e w4 ⟨x4, r4, hr, rfl, k1, k4⟩
  have gc := qh (PR.step cj.o hr)
  have ej := qh (c7.o.read k1 k4)
  clear k1 k4 hr fH gd
  have iE := qh ej.o.blk.cell
  have ea := ej.o.blk.frz
  have eM := iE.o
  have hx := x4.toNat_lt
  have fC := qh (show Yb S D F g pe pu L b w r4 #[.string (zd x1), .string (zd x2), .iface 286 (.agg #[.int .u32 (x4.toNat : Int)])] 202 _ from by simpa using ej.o.set 2 (.iface 286 (.agg #[.int .u32 (x4.toNat : Int)])))
  have kl := gc
  have iT := eM
  have ly := ea
  clear eM ea
  go_wp2
  go_ret
  exact fC.o.ok kl.o ⟨_, fC.o.blk, [_], [_, _], rfl, ⟨rfl, lN.o⟩, [_], [_], rfl, ⟨rfl, xj.o⟩, .inl ⟨rfl, rfl, rfl, rfl, rfl⟩⟩
 ·have b0 := bfQ (a := (c.toNat : Int)) (b := 0) (by omega)
  by_cases h1 : c.toNat = 1
  ·have b1 : ((c.toNat : Int) == 1) = true := by rw [beq_iff_eq]; omega
   have cj := qh (cj.o.trans ((if_neg h0).trans (if_pos h1)))
   clear h0 h1
   have cj := qh (cj.o.trans (zfT _ _))
   go_wp2_with fail
   refine (Y8 S D F g pe pu L r3 w3 c7.o.rx (PR.stepNe cj.o ag.o)).mono ?_
   rintro e w4 ⟨d, r4, hr, rfl, k1, k4⟩
   have gc := qh (PR.step cj.o (show y7 r3 = .ok d r4 from by rw [hr]; rfl))
   have hd := d.toNat_lt
   have ej := qh (c7.o.read k1 k4)
   clear k1 k4 hr fH gd
   have iE := qh ej.o.blk.cell
   have ea := ej.o.blk.frz
   have eM := iE.o
   by_cases hP : d.toNat = 112
   rotate_left
   ·have hb := bfQ (a := (d.toNat : Int)) (b := 112) (by omega)
    have cZ := qh (PR.stepBad gc.o (if_neg hP))
    clear hP
    go_wp2_with fail
    refine (jO _ _ ej.o.rx.sp).mono ?_
    rintro e we ⟨v, rfl, hv, hx⟩
    have HB := qh (anQ hv hx)
    clear hv hx eM ea
    obtain ⟨p, dR, pT, rfl, dM, cW⟩ := HB.o.1
    go_wp2
    go_ret
    exact ej.o.badX (cZ.o) HB.o.1 HB.o.2
   have hb : ((d.toNat : Int) == 112) = true := by rw [beq_iff_eq]; omega
   have kl := qh (PR.step gc.o (if_pos hP))
   have fC := ej
   have Dy := iE
   have ly := ea
   have iT := eM
   have B4 := qh hP
   clear hP ea eM
   obtain ⟨gn, dh⟩ := exQ (w4.heap.size)
   have Hn := qh fC.o.new
   rw [dh] at Hn
   have bP := za w4 (.cells #[.int .i64 0, .int .u32 0, .pointer none] 287)
   have nh := qh (fC.o.ext bP)
   have HG : Hq (Blk (w4.alloc (.cells #[.int .i64 0, .int .u32 0, .pointer none] 287)) gn #[.int .i64 0, .int .u32 0, .pointer none] 287) := by rw [← dh]; exact zl _ _ _
   clear bP
   go_wp2_with fail
   generalize w4.alloc (.cells #[.int .i64 0, .int .u32 0, .pointer none] 287) = Wn at *
   refine (zg7 S D F g pe pu L r4 Wn nh.o.rx gn 1 _ _ HG.o (by simp) Hn.o.1 Hn.o.2.1 Hn.o.2.2.1 (PR.stepNe kl.o ag.o) rfl).mono ?_
   rintro e wm (⟨xl, rl, hr, rfl, k1, ⟨q, k2, k3⟩, k4⟩ | ⟨hr, v, rfl, hv, hs, k4⟩)
   rotate_left
   ·have HB := qh (anQ (PR.stepBad kl.o hr) (anQ hv (anQ hs k4)))
    clear hr hv hs k4 iT ly
    obtain ⟨p, dR, pT, rfl, dM, cW⟩ := HB.o.2.1
    go_wp2
    go_ret
    exact nh.o.badO (gn := gn) Hn.o.2.2.2.1 HB.o.1 HB.o.2.1 HB.o.2.2.1 HB.o.2.2.2
   have Co := qh (PR.step kl.o hr)
   have iV := xl.min.toNat_lt
   have nR := qh (nh.o.other (gn := gn) Hn.o.2.2.2.1 k1 k4)
   have xC := qh (show Blk wm gn #[.int .i64 0, .int .u32 (xl.min.toNat : Int), .pointer q] 287 from by simpa using k2)
   have sR := qh (Zn k3 nh.o.fr.size)
   clear k1 k2 k3 k4 hr iT ly
   have BE := qh nR.o.blk.cell
   have ep := nR.o.blk.frz
   have fp := BE.o
   have tO := xC.o.cell
   have AQ := qh (show Yb S D F g pe pu L b w rl #[.string (zd x1), .string (zd x2), .iface 287 (.agg #[.int .i64 0, .int .u32 (xl.min.toNat : Int), .pointer q])] 202 _ from by simpa using nR.o.set 2 (.iface 287 (.agg #[.int .i64 0, .int .u32 (xl.min.toNat : Int), .pointer q])))
   have pB := qh (Jx sR.o (p := ⟨b, 2, none⟩) (aX.o b (.inr rfl)) (u := .iface 287 (.agg #[.int .i64 0, .int .u32 (xl.min.toNat : Int), .pointer q])))
   clear sR
   have CN := Co
   have tA := fp
   have uu := ep
   clear fp ep
   go_wp2
   go_ret
   exact AQ.o.ok CN.o ⟨_, AQ.o.blk, [_], [_, _], rfl, ⟨rfl, lN.o⟩, [_], [_], rfl, ⟨rfl, xj.o⟩, .inr (.inl ⟨rfl, rfl, rfl, rfl, _, _, rfl, pB.o⟩)⟩
  ·have b1 := bfQ (a := (c.toNat : Int)) (b := 1) (by omega)
   by_cases h2 : c.toNat = 2
   ·have b2 : ((c.toNat : Int) == 2) = true := by rw [beq_iff_eq]; omega
    have cj := qh (cj.o.trans ((if_neg h0).trans ((if_neg h1).trans (if_pos h2))))
    clear h0 h1 h2
    obtain ⟨gn, dh⟩ := exQ (w3.heap.size)
    have Hn := qh c7.o.new
    rw [dh] at Hn
    have bP := za w3 (.cells #[.int .u32 0, .pointer none] 290)
    have nh := qh (c7.o.ext bP)
    have HG : Hq (Blk (w3.alloc (.cells #[.int .u32 0, .pointer none] 290)) gn #[.int .u32 0, .pointer none] 290) := by rw [← dh]; exact zl _ _ _
    clear bP
    go_wp2_with fail
    generalize w3.alloc (.cells #[.int .u32 0, .pointer none] 290) = Wn at *
    refine (zg7 S D F g pe pu L r3 Wn nh.o.rx gn 0 _ _ HG.o (by simp) Hn.o.1 Hn.o.2.1 Hn.o.2.2.1 (PR.stepNe cj.o ag.o) rfl).mono ?_
    rintro e wm (⟨xl, rl, hr, rfl, k1, ⟨q, k2, k3⟩, k4⟩ | ⟨hr, v, rfl, hv, hs, k4⟩)
    rotate_left
    ·have HB := qh (anQ (PR.stepBad cj.o hr) (anQ hv (anQ hs k4)))
     clear hr hv hs k4 fH gd
     obtain ⟨p, dR, pT, rfl, dM, cW⟩ := HB.o.2.1
     go_wp2
     go_ret
     exact nh.o.badO (gn := gn) Hn.o.2.2.2.1 HB.o.1 HB.o.2.1 HB.o.2.2.1 HB.o.2.2.2
    have gc := qh (PR.step cj.o hr)
    have iV := xl.min.toNat_lt
    have ej := qh (nh.o.other (gn := gn) Hn.o.2.2.2.1 k1 k4)
    have xC := qh (show Blk wm gn #[.int .u32 (xl.min.toNat : Int), .pointer q] 290 from by simpa using k2)
    have sR := qh (Zn k3 nh.o.fr.size)
    clear k1 k2 k3 k4 hr fH gd
    have iE := qh ej.o.blk.cell
    have ea := ej.o.blk.frz
    have eM := iE.o
    have tO := xC.o.cell
    have fC := qh (show Yb S D F g pe pu L b w rl #[.string (zd x1), .string (zd x2), .iface 290 (.agg #[.int .u32 (xl.min.toNat : Int), .pointer q])] 202 _ from by simpa using ej.o.set 2 (.iface 290 (.agg #[.int .u32 (xl.min.toNat : Int), .pointer q])))
    have pB := qh (Jx sR.o (p := ⟨b, 2, none⟩) (aX.o b (.inr rfl)) (u := .iface 290 (.agg #[.int .u32 (xl.min.toNat : Int), .pointer q])))
    clear sR
    have kl := gc
    have iT := eM
    have ly := ea
    clear eM ea
    go_wp2
    go_ret
    exact fC.o.ok kl.o ⟨_, fC.o.blk, [_], [_, _], rfl, ⟨rfl, lN.o⟩, [_], [_], rfl, ⟨rfl, xj.o⟩, .inr (.inr ⟨rfl, rfl, rfl, rfl, _, _, rfl, pB.o⟩)⟩
   ·have b2 := bfQ (a := (c.toNat : Int)) (b := 2) (by omega)
    by_cases h3 : c.toNat = 3
    ·exfalso
     exact ag.o (cj.o.trans ((if_neg h0).trans ((if_neg h1).trans ((if_neg h2).trans (if_pos h3)))))
    ·have b3 := bfQ (a := (c.toNat : Int)) (b := 3) (by omega)
     have cZ := qh (cj.o.trans ((if_neg h0).trans ((if_neg h1).trans ((if_neg h2).trans (if_neg h3)))))
     clear h0 h1 h2 h3
     go_wp2_with fail
     refine (jO _ _ c7.o.rx.sp).mono ?_
     rintro e we ⟨v, rfl, hv, hx⟩
     have HB := qh (anQ hv hx)
     clear hv hx fH gd
     obtain ⟨p, dR, pT, rfl, dM, cW⟩ := HB.o.1
     go_wp2
     go_ret
     exact c7.o.badX (cZ.o) HB.o.1 HB.o.2
section
variable {S : Rdr} {D F : Nat → Prop} {g : Nat} {pe pu : Addr} {L b : Nat} {w W W' : World} {bs wg r : List UInt8} {cs fb : Array Value} {T : TypeId}
theorem Yb.mine (h : Yb S D F g pe pu L b w bs cs T W) (h0 : RdX S D F g pe pu L wg w) {U : Nat → Prop} (hf : Fr U W W') (hU : ∀ k, U k → w.heap.size ≤ k) : Yb S D F g pe pu L b w bs cs T W' := by
 have h1 := S.lt h0.is
 have h2 := h0.sp.lw
 exact ⟨h.rx.fr hf (fun k e => by have := hU k e; omega) (fun k hk e => by have := hU k e; have := h1.2.1 k hk; omega) (fun k hk e => by have := hU k e; have := (h1.2.2 k hk).1; omega), h.blk.fr hf (fun e => by have := hU b e; have := h.old b (.inr rfl); omega),
  Fr.trans h.fr hf (fun _ _ e => e) (fun k hk e => by have := hU k e; omega), h.nF, h.nD, h.lb, h.old⟩
theorem Yb.cells (h : Yb S D F g pe pu L b w bs cs T W) (e : cs = fb) : Yb S D F g pe pu L b w bs fb T W := e ▸ h
end
theorem Z3 (cs : Array Value) (o : Nat) (u v : Value) : (cs.setIfInBounds o u).setIfInBounds o v = cs.setIfInBounds o v := by simp
variable {cs : Array Value} {v : Value}
theorem jn {o : Nat} {u : Value} (h : cs[o]? = some u) : (cs.setIfInBounds o v)[o]? = some v := by
 have := (Array.getElem?_eq_some_iff.1 h).1
 rw [Array.getElem?_setIfInBounds, if_pos rfl, if_pos this]
theorem arr1 (h : cs.toList.length = 1) : ∃ a, cs = #[a] := by
 obtain ⟨l⟩ := cs
 match l, h with
 | [a], _ => exact ⟨a, rfl⟩
theorem arr2 (h : cs.toList.length = 2) : ∃ a b, cs = #[a, b] := by
 obtain ⟨l⟩ := cs
 match l, h with
 | [a, b], _ => exact ⟨a, b, rfl⟩
theorem arr3 (h : cs.toList.length = 3) : ∃ a b c, cs = #[a, b, c] := by
 obtain ⟨l⟩ := cs
 match l, h with
 | [a, b, c], _ => exact ⟨a, b, c, rfl⟩
variable {α : Type} {l : Lay α}
theorem Zb {Wn W2 Wd : World} {cs : List Value} {x : α} (h : l.rd (aN Wn W2) W2 cs x) (hx : Ext W2 Wd) (hw : w.heap.size ≤ Wn.heap.size) (hv : ∀ k, v.ownBlock = some k → k < Wn.heap.size) : l.rd (fun k => ¬ k < w.heap.size ∧ k < Wd.heap.size ∧ some k ≠ v.ownBlock) Wd cs x :=
 l.mono (Lay.fr h hx (fun k hk => ⟨hk.2, fun e => e⟩)) (fun k hk => ⟨by have := hk.1; omega, nqQ hk.2 hx.size, fun e => by have := hv k e.symm; have := hk.1; omega⟩)
section
variable (S : Rdr) (D F : Nat → Prop) (g : Nat) (pe pu : Addr) (L : Nat) (bs : List UInt8) (w : World) (h : RdX S D F g pe pu L bs w) (b o : Nat) (cs : Array Value) (T : TypeId) (hB : Blk w b cs T) (ho : o < cs.size) (hF : ¬ F b) (hD : ¬ D b) (hb : L ≤ b)
include h hB ho hF hD hb
theorem fns_y (ag : pVec pNum bs ≠ .any) :
 Calls Tryz.prog 139 #[.iface S.T (.pointer (some ⟨g, 0, none⟩)), .pointer (some ⟨b, o, none⟩)] w fun e w' => PX S D F g pe pu L b (pVec pNum bs) (fun l W => ∃ v, Blk W b (cs.setIfInBounds o v) T ∧ Lay.u32.slice.rd (aN w W) W [v] l ∧ ∃ a m c, v = .slice a m c) w e w' := by
 have HC := qh (zhS S D F g pe pu L bs w h b o cs T hB ho hF hD hb ag)
 obtain ⟨x0, df⟩ := Ji ho
 have fM := hB.cell o
 rw [df] at fM
 clear h hB hF hD hb ag
 go_enter Tryz.func139, Tryz.ntmps139
 go_wp2_with fail
 refine HC.o.mono ?_
 rintro e w' (⟨x, r, hr, rfl, h1, h2, h3⟩ | ⟨hr, v, rfl, hv, hs, h3⟩)
 ·have HR := qh (anQ hr (anQ h1 (anQ h2 h3)))
  clear hr h1 h2 h3 HC fM
  go_wp2
  go_ret
  exact .inl ⟨x, r, HR.o.1, rfl, HR.o.2⟩
 ·have HR := qh (anQ hr (anQ hv (anQ hs h3)))
  clear hr hv hs h3 HC fM
  obtain ⟨p, dR, pT, rfl, dM, cW⟩ := HR.o.2.1
  go_wp2
  go_ret
  exact .inr ⟨HR.o.1, _, rfl, HR.o.2⟩
theorem ziq (ag : pNum bs ≠ .any) :
 Calls Tryz.prog 130 #[.iface S.T (.pointer (some ⟨g, 0, none⟩)), .pointer (some ⟨b, o, none⟩)] w fun e w' => PX S D F g pe pu L b (pNum bs) (fun x W => ∃ gn, Blk W b (cs.setIfInBounds o (.pointer (some ⟨gn, 0, none⟩))) T ∧ w.heap.size ≤ gn ∧ ¬ gn = b ∧ Blk W gn #[.int .u32 (x.toNat : Int)] 24) w e w' := by
 have ch := qh (Yb.start h hB hF hD hb)
 have ag := qh ag
 obtain ⟨x0, df⟩ := Ji ho
 clear h hB hF hD hb
 go_enter Tryz.func130, Tryz.ntmps130
 go_wp2_with fail
 refine (jS S D F g pe pu L bs w ch.o.rx ag.o).mono ?_
 rintro e w4 ⟨x, r4, hr, rfl, k1, k4⟩
 have gc := qh hr
 have dH := x.toNat_lt
 have ej := qh (ch.o.read k1 k4)
 clear k1 k4 hr
 obtain ⟨gn, dh⟩ := exQ (w4.heap.size)
 have Hn := qh ej.o.new
 rw [dh] at Hn
 have fC := qh (ej.o.ext (za w4 (.cells #[.int .u32 (x.toNat : Int)] 24)))
 have HG : Hq (Blk (w4.alloc (.cells #[.int .u32 (x.toNat : Int)] 24)) gn #[.int .u32 (x.toNat : Int)] 24) := by rw [← dh]; exact zl _ _ _
 have eM := fC.o.blk.cell o
 rw [df] at eM
 have ea := fC.o.blk.frz o
 go_wp2
 go_ret
 have nR := qh (fC.o.set o (.pointer (some ⟨gn, 0, none⟩)))
 exact nR.o.ok gc.o ⟨gn, nR.o.blk, Hn.o.2.2.2.1, Hn.o.2.2.2.2, HG.o.fr (zf _ ⟨b, o, none⟩ _) Hn.o.2.2.2.2⟩
end
theorem zfU (bs : List UInt8) : pNum bs ≠ .bad := by unfold pNum; split <;> simp
theorem zaL (bs : List UInt8) : zR bs ≠ .bad := by
 unfold zR
 have := zfU bs
 cases h : pNum bs with
 | ok n r => rw [PR.bind_ok]; unfold ZY; split <;> simp
 | bad => exact absurd h this
 | any => simp [PR.bind]
theorem zfV {A B : List Value} {i : Nat} (hA : A.length = i * 2) (hi : i * 2 + 1 < B.length) (u v : Value) : ((A ++ B.drop (i * 2)).toArray.setIfInBounds (i * 2) u).setIfInBounds (i * 2 + 1) v = ((A ++ [u, v]) ++ B.drop ((i + 1) * 2)).toArray := by
 have e1 := List.drop_eq_getElem_cons (l := B) (i := i * 2) (by omega)
 have e2 := List.drop_eq_getElem_cons (l := B) (i := i * 2 + 1) hi
 rw [e2] at e1
 rw [e1, show (i + 1) * 2 = i * 2 + 1 + 1 from by omega]
 generalize B.drop (i * 2 + 1 + 1) = q
 generalize B[i * 2] = x
 generalize B[i * 2 + 1] = y
 rw [← hA]
 simp
abbrev namC (x : Nam) : List Value := [.int .u32 (x.idx.toNat : Int), .string (zd x.name)]
theorem zaM : ∀ xs : List Nam, (xs.flatMap namC).length = xs.length * 2
 | [] => rfl
 | x :: xs => by rw [List.flatMap_cons, laQ, zaM xs, List.length_cons]; simp; omega
variable {A : Nat → Prop}
theorem zcO : ∀ xs : List Nam, (∀ x ∈ xs, (zd x.name).size ≤ maxLen) → Lay.enam.all A w (xs.flatMap namC) xs
 | [], _ => rfl
 | x :: xs, h => ⟨namC x, xs.flatMap namC, rfl, ⟨[_], [_], rfl, rfl, rfl, h x List.mem_cons_self⟩, zcO xs (fun y hy => h y (List.mem_cons_of_mem _ hy))⟩
theorem zcP (fn : UInt32) (bs : List UInt8) (w : World) (h : RdX S D F g pe pu L bs w) (ag : pVec (pNam fn) bs ≠ .any) :
 Calls Tryz.prog 181 #[.iface S.T (.pointer (some ⟨g, 0, none⟩))] w fun e w' => ∃ xs r gb, pVec (pNam fn) bs = .ok xs r ∧ e = .returned (.tuple #[.slice (some ⟨gb, 0, none⟩) xs.length xs.length, .nilIface]) ∧ RdX S D F g pe pu L r w' ∧ Lay.enam.slice.rd (aN w w') w' [.slice (some ⟨gb, 0, none⟩) xs.length xs.length] xs ∧ xs.length < 4294967296 ∧ Fr F w w' := by
 have HC := qh (jS S D F g pe pu L bs w h (PR.ne_any ag))
 have H := qh h
 have aX := qh (S.lt h.is).2.1
 have ag := qh ag
 clear h
 go_enter Tryz.func181, Tryz.ntmps181
 go_wp2_with fail
 refine HC.o.mono ?_
 rintro e w1 ⟨n, rest, hr, rfl, h1, h2⟩
 have hp := qh (show pVec (pNam fn) bs = pRep (pNam fn) n.toNat rest from by unfold pVec; rw [hr]; rfl)
 have ey := qh (show pRep (pNam fn) n.toNat rest ≠ .any from by rw [← hp.o]; exact ag.o)
 have eZ := n.toNat_lt
 have H1 := qh (anQ h1 h2)
 generalize n.toNat = m at *
 clear h1 h2 hr HC ag
 obtain ⟨kU, hi, dt, dO, en⟩ := info_parts (show (Tryz.prog.info? 232).map (fun i => (i.zero, i.size, i.bytes)) = some (some (.agg #[.int .u32 0, .string ⟨#[]⟩]), 2, 24) from by kernel_rfl)
 have gV := qh (anQ hi (anQ dt (anQ dO en)))
 clear hi dt dO en
 go_wp2_with (at_make; refine Hq.o ?_)
 obtain ⟨hi, dt, dO, en⟩ := gV.o
 refine wpList_make_full _ rfl (.tmp 20) (.tmp 20) 189 rfl w1.heap.size 232 kU (.agg #[.int .u32 0, .string ⟨#[]⟩]) 2 Tryz.underlying189 hi dt dO .u32 .u32 (m : Int) (m : Int) m rfl rfl rfl rfl (by rw [en]; omega) (by show m ≤ 9223372036854775807; omega) (Nat.le_refl _) ?_
 intro w2 hO hG
 obtain ⟨c2, ct, cT⟩ := J8 (P := Tryz.prog) (w1 := w1) hO
 have eQ : Ext w1 w2 := (yW hG).mono (fun _ _ h => by cases h)
 obtain ⟨gb, bt⟩ := exQ (w1.heap.size)
 have bo : Hq (¬ F gb ∧ ¬ D gb ∧ L ≤ gb ∧ w.heap.size ≤ gb) := by
  have h1 := S.lt H1.o.1.is
  exact ⟨fun q => by have := h1.2.1 _ q; omega, fun q => by have := (h1.2.2 _ q).1; omega, by have := H1.o.1.sp.lw; omega, by have := H1.o.2.size; omega⟩
 rw [bt] at ct
 rw [bt]
 have H2 := qh (anQ (H1.o.1.ext eQ) (anQ ct (H1.o.2.ext eQ)))
 have cT := qh (show c2.toList.length = m * 2 from by rw [Array.length_toList (xs := c2)]; omega)
 clear hO hG hi dt dO en gV eQ ct bt
 go_wp2_with fail
 go_loopw [23] (fun tq w' => ∃ (i : Nat), i ≤ m ∧ tq = .int .u32 i ∧ Hq (∃ (xs : List Nam) (r : List UInt8), pRep (pNam fn) i rest = .ok xs r ∧ xs.length = i ∧ RdX S D F g pe pu L r w' ∧ Blk w' gb (xs.flatMap namC ++ c2.toList.drop (i * 2)).toArray 232 ∧ Fr F w w' ∧ ∀ x ∈ xs, (zd x.name).size ≤ maxLen)) (fun tq _ => m - (intOf tq).toNat)
 case atStart => exact ⟨0, nzQ _, rfl, [], rest, rfl, rfl, H2.o.1, by simpa using H2.o.2.1, H2.o.2.2, by intro x hx; cases hx⟩
 case round =>
  obtain ⟨i, hi, rfl, hV⟩ := hrel
  by_cases aj : i < m
  ·obtain ⟨xs, r, q1, q2, q3, q4, q5, q6⟩ := hV.o
   have iD := qh (yE q1 aj ey.o)
   have iB := qh (pNam.eq_1 fn r)
   have HV := qh (anQ q1 (anQ q2 (anQ q3 (anQ q4 (anQ q5 q6)))))
   clear hV q1 q2 q3 q4 q5 q6
   obtain ⟨gs, fe⟩ := exQ (wr.heap.size)
   have fP : Hq (¬ F gs ∧ ¬ D gs ∧ L ≤ gs ∧ w.heap.size ≤ gs ∧ ¬ gs = gb) := by
    have h1 := S.lt HV.o.2.2.1.is
    exact ⟨fun q => by have := h1.2.1 _ q; omega, fun q => by have := (h1.2.2 _ q).1; omega, by have := HV.o.2.2.1.sp.lw; omega, by have := HV.o.2.2.2.2.1.size; omega, by have := HV.o.2.2.2.1.lt; omega⟩
   have bP := za wr (.cells #[.string ⟨#[]⟩] 9)
   have HN : Hq (RdX S D F g pe pu L r (wr.alloc (.cells #[.string ⟨#[]⟩] 9)) ∧ Blk (wr.alloc (.cells #[.string ⟨#[]⟩] 9)) gb (xs.flatMap namC ++ c2.toList.drop (i * 2)).toArray 232 ∧ Fr F w (wr.alloc (.cells #[.string ⟨#[]⟩] 9)) ∧ Blk (wr.alloc (.cells #[.string ⟨#[]⟩] 9)) gs #[.string ⟨#[]⟩] 9) := ⟨HV.o.2.2.1.ext bP, HV.o.2.2.2.1.ext bP, HV.o.2.2.2.2.1.ext bP, by rw [← fe]; exact zl _ _ _⟩
   clear bP
   go_wp2_with fail
   generalize wr.alloc (.cells #[.string ⟨#[]⟩] 9) = Wn at *
   refine (jS S D F g pe pu L r Wn HN.o.1 (PR.stepNe iB.o iD.o)).mono ?_
   rintro e w3 ⟨x3, r3, mu, rfl, k1, k4⟩
   have kC := qh (PR.step iB.o mu)
   have kS := x3.toNat_lt
   have sC : Hq (RdX S D F g pe pu L r3 w3 ∧ Blk w3 gb (xs.flatMap namC ++ c2.toList.drop (i * 2)).toArray 232 ∧ Fr F w w3 ∧ Blk w3 gs #[.string ⟨#[]⟩] 9) := ⟨k1, HN.o.2.1.fr k4 bo.o.1, Fr.trans HN.o.2.2.1 k4 (fun _ _ e => e) (fun _ _ e => e), HN.o.2.2.2.fr k4 fP.o.1⟩
   clear k1 k4 mu HN
   go_wp2_with fail
   refine (zeF S D F g pe pu L r3 w3 sC.o.1 gs 0 _ _ sC.o.2.2.2 (by decide) fP.o.1 fP.o.2.1 fP.o.2.2.1 (PR.stepNe kC.o iD.o)).mono ?_
   rintro e w4 (⟨l, r4, i1, rfl, k1, ⟨k2, k3⟩, k4⟩ | ⟨i1, _⟩)
   rotate_left
   ·exact absurd i1 (zaL _)
   have mI := qh (PR.step kC.o i1)
   have iJ := qh k3
   have ra : Hq (RdX S D F g pe pu L r4 w4 ∧ Blk w4 gb (xs.flatMap namC ++ c2.toList.drop (i * 2)).toArray 232 ∧ Fr F w w4) := ⟨k1, sC.o.2.1.fr k4 (fun e => e.elim bo.o.1 (fun e => fP.o.2.2.2.2 e.symm)), Fr.trans sC.o.2.2.1 k4 (fun _ _ e => e) (fun k hk e => e.elim id (fun e => by have := fP.o.2.2.2.1; omega))⟩
   have c6 := zdF (A := xs.flatMap namC) (B := c2.toList) (i := i * 2) (n := m * 2) (by rw [zaM, HV.o.2.1]) cT.o (by omega)
   have cw := ra.o.2.1.cell (i * 2)
   have bS := ra.o.2.1.cell (i * 2 + 1)
   obtain ⟨u1, re⟩ := Ji (cs := (xs.flatMap namC ++ c2.toList.drop (i * 2)).toArray) (o := i * 2) (by rw [List.size_toArray, c6]; omega)
   obtain ⟨u2, qN⟩ := Ji (cs := (xs.flatMap namC ++ c2.toList.drop (i * 2)).toArray) (o := i * 2 + 1) (by rw [List.size_toArray, c6]; omega)
   rw [re] at cw
   rw [qN] at bS
   have AH := ra.o.2.1.frz
   have iF := k2.cell
   clear k1 k2 k3 k4 i1 sC re qN
   have Cw : Hq (∃ (xs : List Nam) (r : List UInt8), pRep (pNam fn) (i + 1) rest = .ok xs r ∧ xs.length = i + 1 ∧ RdX S D F g pe pu L r ((w4.setCell ⟨gb, i * 2, none⟩ (.int .u32 (x3.toNat : Int))).setCell ⟨gb, i * 2 + 1, none⟩ (.string (zd l))) ∧ Blk ((w4.setCell ⟨gb, i * 2, none⟩ (.int .u32 (x3.toNat : Int))).setCell ⟨gb, i * 2 + 1, none⟩ (.string (zd l))) gb (xs.flatMap namC ++ c2.toList.drop ((i + 1) * 2)).toArray 232 ∧ Fr F w ((w4.setCell ⟨gb, i * 2, none⟩ (.int .u32 (x3.toNat : Int))).setCell ⟨gb, i * 2 + 1, none⟩ (.string (zd l))) ∧ ∀ x ∈ xs, (zd x.name).size ≤ maxLen) := by
    have hs := Fr.trans (zf w4 ⟨gb, i * 2, none⟩ (.int .u32 (x3.toNat : Int))) (zf (w4.setCell ⟨gb, i * 2, none⟩ (.int .u32 (x3.toNat : Int))) ⟨gb, i * 2 + 1, none⟩ (.string (zd l))) (U := fun k => k = gb) (fun _ _ e => e) (fun _ _ e => e)
    refine ⟨xs ++ [⟨fn, x3, l⟩], r4, yu HV.o.1 mI.o, by rw [laQ, HV.o.2.1]; rfl, ra.o.1.fr hs (fun k e => by rw [e]; exact bo.o.2.2.1) (fun k hk e => by subst e; exact bo.o.1 hk) (fun k hk e => by subst e; exact bo.o.2.1 hk), ?_, Fr.trans ra.o.2.2 hs (fun _ _ e => e) (fun k hk e => by have := bo.o.2.2.2; omega), ?_⟩
    ·have := (ra.o.2.1.set (i * 2) (.int .u32 (x3.toNat : Int))).set (i * 2 + 1) (.string (zd l))
     rw [zfV (by rw [zaM, HV.o.2.1]) (by rw [cT.o]; omega)] at this
     rw [List.flatMap_append]
     simpa using this
    ·intro z hz
     rcases List.mem_append.1 hz with hz | hz
     ·exact HV.o.2.2.2.2.2 z hz
     ·obtain rfl := List.mem_singleton.1 hz; exact iJ.o
   clear HV c6
   go_wp2
   go_roundw
   case rel => exact ⟨i + 1, by omega, by go_num, Cw.o⟩
   case measure => simp [intOf]; omega
  ·obtain rfl : i = m := by omega
   obtain ⟨xs, r, q1, q2, q3, q4, q5, q6⟩ := hV.o
   have HV := qh (anQ q1 (anQ q2 (anQ q3 (anQ q4 (anQ q5 q6)))))
   clear hV q1 q2 q3 q4 q5 q6
   go_wp2
   go_ret2
   refine ⟨xs, r, gb, by rw [hp.o]; exact HV.o.1, by rw [HV.o.2.1]; rfl, HV.o.2.2.1, ?_, by rw [HV.o.2.1]; omega, HV.o.2.2.2.2.1⟩
   have fv := HV.o.2.2.2.1
   rw [show c2.toList.drop (i * 2) = [] from List.drop_eq_nil_of_le (by rw [cT.o]; omega), List.append_nil] at fv
   exact zfP fv rfl (by rw [HV.o.2.1]; simp only [maxLen]; omega) (zcO xs HV.o.2.2.2.2.2) ⟨bo.o.2.2.2, fv.lt⟩
def PO1 {α : Type} (S : Rdr) (D F : Nat → Prop) (g : Nat) (pe pu : Addr) (L : Nat) (U : Nat → Prop) (r : PR α) (lx : α → World → Prop) (w : World) (e : Ending) (w' : World) : Prop :=
 ∃ x rest, r = .ok x rest ∧ e = .returned .nilIface ∧ RdX S D F g pe pu L rest w' ∧ lx x w' ∧ Fr U w w'
section
variable (S : Rdr) (D F : Nat → Prop) (g : Nat) (pe pu : Addr) (L : Nat) (bs : List UInt8) (w : World) (h : RdX S D F g pe pu L bs w) (b o : Nat) (cs : Array Value) (T : TypeId) (hB : Blk w b cs T) (ho : o + 2 < cs.size) (hF : ¬ F b) (hD : ¬ D b) (hb : L ≤ b)
include h hB ho hF hD hb
theorem zir (ag : zR bs ≠ .any) :
 Calls Tryz.prog 164 #[.iface S.T (.pointer (some ⟨g, 0, none⟩)), .pointer (some ⟨b, o, none⟩)] w fun e w' => PO1 S D F g pe pu L (fun k => F k ∨ k = b) (zR bs) (fun l W => Blk W b (cs.setIfInBounds o (.string (zd l))) T ∧ (zd l).size ≤ maxLen) w e w' := by
 have HC := qh (zeF S D F g pe pu L bs w h b o cs T hB (by omega) hF hD hb ag)
 obtain ⟨x0, df⟩ := Ji (cs := cs) (o := o) (by omega)
 have fM := hB.cell o
 rw [df] at fM
 clear h hB hF hD hb ag
 go_enter Tryz.func164, Tryz.ntmps164
 go_wp2_with fail
 refine HC.o.mono ?_
 rintro e w' (⟨x, r, hr, rfl, h1, h2, h3⟩ | ⟨hr, _⟩)
 ·have HR := qh (anQ hr (anQ h1 (anQ h2 h3)))
  clear hr h1 h2 h3 HC fM
  go_wp2
  go_ret
  exact ⟨x, r, HR.o.1, rfl, HR.o.2⟩
 ·exact absurd hr (zaL _)
theorem zis (ag : pVec (pNam 0) bs ≠ .any) :
 Calls Tryz.prog 165 #[.iface S.T (.pointer (some ⟨g, 0, none⟩)), .pointer (some ⟨b, o, none⟩)] w fun e w' => PO1 S D F g pe pu L (fun k => F k ∨ k = b) (pVec (pNam 0) bs) (fun xs W => ∃ v, Blk W b (cs.setIfInBounds (o + 1) v) T ∧ Lay.enam.slice.rd (aN w W) W [v] xs) w e w' := by
 have HY := qh (Yb.start h hB hF hD hb)
 have HC := qh (zcP 0 bs w h ag)
 obtain ⟨x0, df⟩ := Ji (cs := cs) (o := o + 1) (by omega)
 clear h hB hF hD hb ag
 go_enter Tryz.func165, Tryz.ntmps165
 go_wp2_with fail
 refine HC.o.mono ?_
 rintro e w' ⟨xs, r, gb, hr, rfl, k1, k2, k3, k4⟩
 have db := qh (HY.o.read k1 k4)
 have HR := qh (anQ hr k2)
 have fM := db.o.blk.cell (o + 1)
 rw [df] at fM
 have iZ := db.o.blk.frz (o + 1)
 clear hr k1 k2 k4 HC
 go_wp2
 go_ret
 have cR := db.o.set (o + 1) (.slice (some ⟨gb, 0, none⟩) xs.length xs.length)
 exact ⟨xs, r, HR.o.1, rfl, cR.rx, ⟨_, cR.blk, Jx (p := ⟨b, o + 1, none⟩) HR.o.2 (HY.o.old b (.inr rfl))⟩, cR.fr⟩
end
variable {xs : List α}
theorem zb5 {W : World} {a : Option Addr} {m c : Nat} (h : l.slice.rd A W [.slice a m c] xs) (i : Nat) (hi : i < xs.length) : ∃ (b o : Nat) (es : List Value), a = some ⟨b, o, none⟩ ∧ A b ∧ b < W.heap.size ∧ l.rd A W es xs[i] ∧ ∀ j, j < l.size → W.cell? ⟨b, o + i * l.size + j, none⟩ = es[j]? := by
 have hm : xs.length = m := by obtain ⟨_, _, e, _⟩ := h; simp only [List.cons.injEq, Value.slice.injEq, and_true] at e; exact e.2.1.symm
 obtain ⟨b, o, es, eY, e, hA, hb, hr, hc⟩ := Lay.slice_at h i (by omega)
 exact ⟨b, o, es, e, hA, hb, hr, hc⟩
variable {e : TypeId} {lo : Nat} {X : Nat → Prop}
theorem OwnG.any (hl : l.flat) {X' : Nat → Prop} (h : OwnG l e lo X w v xs) : OwnG l e lo X' w v xs := by
 obtain ⟨flat, h1, h2⟩ := h
 exact ⟨flat, h1, Lay.all_flat hl h2⟩
theorem OwnG.frFlat (hl : l.flat) {w' : World} {S : Nat → Prop} (h : OwnG l e lo X w v xs) (hf : Fr S w w') (ho : ∀ k, v.ownBlock = some k → ¬ S k) : OwnG l e lo X w' v xs :=
 ((h.any hl (X' := fun _ => True)).fr hf (fun _ _ => .inl trivial) ho).any hl
theorem Zc {p : List UInt8 → PR (List α)} (hp : ∀ bs x r, p bs = .ok x r → x.length + r.length ≤ bs.length) : ∀ {n : Nat} {bs r : List UInt8} {xs : List (List α)}, pRep p n bs = .ok xs r → xs.flatten.length + r.length ≤ bs.length
 | 0, bs, r, xs, h => by injection h with h1 h2; rw [← h1, ← h2]; simp
 | n + 1, bs, r, xs, h => by
  rw [ja] at h
  cases h1 : p bs with
  | ok x r1 =>
   rw [h1, PR.bind_ok] at h
   cases h2 : pRep p n r1 with
   | ok ys r2 =>
    rw [h2, PR.bind_ok] at h
    injection h with h3 h4
    have := hp _ _ _ h1
    have := Zc hp h2
    rw [← h3, ← h4, List.flatten_cons, laQ]
    omega
   | bad => rw [h2] at h; cases h
   | any => rw [h2] at h; cases h
  | bad => rw [h1] at h; cases h
  | any => rw [h1] at h; cases h
theorem Y9 {p : List UInt8 → PR α} (hp : ∀ bs x r, p bs = .ok x r → 1 + r.length ≤ bs.length) : ∀ {n : Nat} {bs r : List UInt8} {xs : List α}, pRep p n bs = .ok xs r → xs.length + r.length ≤ bs.length
 | 0, bs, r, xs, h => by injection h with h1 h2; rw [← h1, ← h2]; simp
 | n + 1, bs, r, xs, h => by
  rw [ja] at h
  cases h1 : p bs with
  | ok x r1 =>
   rw [h1, PR.bind_ok] at h
   cases h2 : pRep p n r1 with
   | ok ys r2 =>
    rw [h2, PR.bind_ok] at h
    injection h with h3 h4
    have := hp _ _ _ h1
    have := Y9 hp h2
    rw [← h3, ← h4, List.length_cons]
    omega
   | bad => rw [h2] at h; cases h
   | any => rw [h2] at h; cases h
  | bad => rw [h1] at h; cases h
  | any => rw [h1] at h; cases h
theorem zaN {l : List UInt8} (h : zR bs = .ok l r) : r.length + l.length < bs.length := by
 unfold zR at h
 cases hp : pNum bs with
 | ok n r' =>
  have h8 := jx hp
  rw [hp, PR.bind_ok] at h
  unfold ZY at h
  split at h
  ·injection h with q1 q2
   rw [← q1, ← q2, ltQ, ldQ]
   omega
  ·cases h
 | bad => rw [hp] at h; cases h
 | any => rw [hp] at h; cases h
variable {f : UInt32}
theorem zfW {x : Nam} (h : pNam f bs = .ok x r) : 1 + r.length ≤ bs.length := by
 rw [pNam.eq_1] at h
 cases hp : pNum bs with
 | ok n r' =>
  have h8 := jx hp
  rw [hp, PR.bind_ok] at h
  cases hq : zR r' with
  | ok l r2 =>
   have := zaN hq
   rw [hq, PR.bind_ok] at h
   injection h with h1 h2
   rw [← h2]; omega
  | bad => rw [hq] at h; cases h
  | any => rw [hq] at h; cases h
 | bad => rw [hp] at h; cases h
 | any => rw [hp] at h; cases h
theorem zdI {xs : List Nam} (h : pVec (pNam f) bs = .ok xs r) : xs.length + r.length ≤ bs.length := by
 unfold pVec at h
 cases hp : pNum bs with
 | ok n r' =>
  have h8 := jx hp
  rw [hp, PR.bind_ok] at h
  have := Y9 (fun _ _ _ => zfW) h
  omega
 | bad => rw [hp] at h; cases h
 | any => rw [hp] at h; cases h
theorem YQ {xs : List Nam} (h : Jv bs = .ok xs r) : xs.length + r.length ≤ bs.length := by
 rw [Jv.eq_1] at h
 cases hp : pNum bs with
 | ok n r' =>
  have h8 := jx hp
  rw [hp, PR.bind_ok] at h
  have := zdI h
  omega
 | bad => rw [hp] at h; cases h
 | any => rw [hp] at h; cases h
end Go.Proofs.YtejgninpjhcgnaaGreatDoor
