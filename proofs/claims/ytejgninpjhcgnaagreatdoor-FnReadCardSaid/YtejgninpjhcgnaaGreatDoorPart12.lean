/- Texts of this proof, one behind the other. -/
import Derived.Test.YtejgninpjhcgnaaGreatDoorPart11
import Derived.Laws.BitsAllLaws
namespace Go.Proofs.YtejgninpjhcgnaaGreatDoor
open Go.RowKit
set_option linter.unusedSimpArgs false
set_option linter.unusedVariables false
set_option maxRecDepth 100000
set_option maxHeartbeats 8000000
variable {bs r : List UInt8}
theorem zf0 {xs : List Nam} (h : zaJ bs = .ok xs r) : xs.length + r.length ≤ bs.length := by
 rw [zaJ.eq_1] at h
 unfold pVec at h
 cases hp : pNum bs with
 | ok n r' =>
  have h8 := jx hp
  rw [hp, PR.bind_ok] at h
  cases hq : pRep Jv n.toNat r' with
  | ok l r2 =>
   have := Zc (fun _ _ _ => YQ) hq
   rw [hq, PR.bind_ok] at h
   injection h with h1 h2
   rw [← h1, ← h2]; omega
  | bad => rw [hq] at h; cases h
  | any => rw [hq] at h; cases h
 | bad => rw [hp] at h; cases h
 | any => rw [hp] at h; cases h
variable {S : Rdr} {D F : Nat → Prop} {g : Nat} {pe pu : Addr} {L b : Nat}
theorem ziw {lo : Nat} {A : Nat → Prop} (f0 : Nat) (bs : List UInt8) (m0 : Mod) (v0 : EV) (w : World) (H : NmH D F L b lo A w) (h : NmSt S D F g pe pu L b lo A v0.locals w bs m0 v0 w) (ag : Jg f0 m0 bs ≠ .any) (aT : m0.locals.length + bs.length ≤ 1099511627776) :
 Calls Tryz.prog 132 #[.iface S.T (.pointer (some ⟨g, 0, none⟩)), .pointer (some ⟨b, 13, none⟩)] w fun e w' => ∃ m v, Jg f0 m0 bs = .ok m [] ∧ e = .returned .nilIface ∧ NmSt S D F g pe pu L b lo A v0.locals w [] m v w' ∧ v = { v0 with funcs := v.funcs, locals := v.locals } ∧ m.locals.length ≤ m0.locals.length + bs.length := by
 have HH := qh H
 have H0 := qh h
 have ag := qh ag
 have mF := qh h.blk.lt
 have un := zb1 pe
 clear h H
 go_enter Tryz.func132, Tryz.ntmps132
 go_wp2_with fail
 go_loopw [] (fun w' => ∃ (f : Nat) (m1 : Mod) (v1 : EV) (r : List UInt8), Hq (Jg f0 m0 bs = Jg f m1 r ∧ NmSt S D F g pe pu L b lo A v0.locals w r m1 v1 w' ∧ v1 = { v0 with funcs := v1.funcs, locals := v1.locals } ∧ m1.locals.length + r.length ≤ m0.locals.length + bs.length)) (fun w' => S.left g w')
 case atStart => exact ⟨f0, m0, v0, bs, rfl, H0.o, rfl, Nat.le_refl _⟩
 case round =>
  obtain ⟨f, m1, v1, r, hV⟩ := hrel
  obtain ⟨f1, rfl⟩ : ∃ f1, f = f1 + 1 := by
   cases f with
   | zero => exact absurd hV.o.1 ag.o
   | succ f1 => exact ⟨f1, rfl⟩
  have fJ := qh (S.left_is hV.o.2.1.rx.is)
  go_wp2_with fail
  refine (zfK S D F g pe pu L r wr hV.o.2.1.rx).mono ?_
  rintro e w1 (⟨c, r1, hr, rfl, k1, k4⟩ | ⟨hr, ⟨z, rfl⟩, k1, k4⟩)
  ·have qV := qh (hV.o.2.1.read HH.o k1 k4 (fun _ e => .inl e))
   have ue := c.toNat_lt
   subst hr
   have et := qh (show Jg f0 m0 bs = (pNum r1).bind fun n r1 => (ZY n.toNat r1).bind fun s r2 => (Zs c.toNat m1 s).bind fun m1 _ => Jg f1 m1 r2 from hV.o.1)
   have dL := qh (show m1.locals.length + (r1.length + 1) ≤ m0.locals.length + bs.length from by have := hV.o.2.2.2; rw [List.length_cons] at this; omega)
   have ob := qh hV.o.2.2.1
   clear hV k1 k4
   go_wp2_with fail
   refine (jS S D F g pe pu L r1 w1 qV.o.rx (PR.stepNe et.o ag.o)).mono ?_
   rintro e w2 ⟨n, r2, aY, rfl, k1, k4⟩
   have dU := qh (PR.step et.o aY)
   have eZ := n.toNat_lt
   have eE := qh (jx aY)
   have ot := qh (qV.o.read HH.o k1 k4 (fun _ e => .inl e))
   clear k1 k4 aY qV
   generalize n.toNat = m at *
   have ff : Hq (m ≤ r2.length) := Classical.byContradiction fun q => PR.stepNe dU.o ag.o (if_neg q)
   have cj := qh (PR.step dU.o (if_pos ff.o))
   have uo := qh (show r2.length ≤ 140737488355328 from ot.o.rx.len)
   obtain ⟨kU, hi, dt, dO, en⟩ := info_parts (show (Tryz.prog.info? 5).map (fun i => (i.zero, i.size, i.bytes)) = some (some (.int .u8 0), 1, 1) from by kernel_rfl)
   have gV := qh (anQ hi (anQ dt (anQ dO en)))
   clear hi dt dO en
   go_wp2_with (at_make; refine Hq.o ?_)
   obtain ⟨hi, dt, dO, en⟩ := gV.o
   refine wpList_make_full _ rfl (.tmp 31) (.tmp 31) 22 rfl w2.heap.size 5 kU (.int .u8 0) 1 Tryz.underlying22 hi dt dO .u32 .u32 (m : Int) (m : Int) m rfl rfl rfl rfl (by rw [en]; omega) (by show m ≤ 9223372036854775807; omega) (Nat.le_refl _) ?_
   intro w3 hO hG
   obtain ⟨c2, ct, cT⟩ := J8 (P := Tryz.prog) (w1 := w2) hO
   have hx : Ext w2 w3 := (yW hG).mono (fun _ _ h => by cases h)
   obtain ⟨gb, bt⟩ := exQ (w2.heap.size)
   have bo : Hq (¬ F gb ∧ ¬ D gb ∧ L ≤ gb) := by
    have h3 := S.lt (ot.o.rx).is
    exact ⟨fun q => by have := h3.2.1 _ q; omega, fun q => by have := (h3.2.2 _ q).1; omega, by have := (ot.o.rx).sp.lw; omega⟩
   rw [bt] at ct
   rw [bt]
   have H3 := qh (anQ ((ot.o.rx).ext hx) (anQ ct (anQ (show c2.size = m by omega) hx)))
   clear hO hG hi dt dO en gV hx ct cT
   go_wp2_with fail
   refine (ZR S D F g gb pe pu L r2 m c2 w3 H3.o.1 H3.o.2.1 H3.o.2.2.1 (by omega) bo.o.1 bo.o.2.1 bo.o.2.2).mono ?_
   rintro e w4 (⟨k1, rfl, k2, k3, k4⟩ | ⟨k1, rfl, k2, k4⟩)
   rotate_left
   ·exact absurd ff.o (by omega)
   have kp : Fr (fun k => F k ∨ w2.heap.size ≤ k) w2 w4 := Fr.trans (H3.o.2.2.2.to (S := fun k => F k ∨ w2.heap.size ≤ k)) k4 (fun _ _ e => e) (fun k _ e => e.elim .inl (fun e => .inr (by omega)))
   have iV : (r2.take m).length = m := by rw [ltQ]; have := ff.o; omega
   have H4 := qh (anQ k2 (anQ k3 (anQ kp iV)))
   clear k1 k2 k3 k4 kp iV H3
   go_wp2_with fail
   refine (Zv _ _ _ w4).mono ?_
   rintro e w5 ⟨rfl, tQ⟩
   obtain ⟨gr, fD⟩ := exQ (w4.heap.size)
   have bT : Hq (RdX S D F g pe pu L (r2.drop m) w5 ∧ Fr (fun k => F k ∨ w2.heap.size ≤ k) w2 w5 ∧ w2.heap.size ≤ gb ∧ gb < gr ∧ gr < w5.heap.size ∧ RdX byrR (fun k => k = gb) (fun k => k = gr) gr pe pu L (r2.take m) w5) := by
    have hx := za w4 (.cells #[.slice (some ⟨gb, 0, none⟩) m m, .int .i64 0, .int .i64 (-1)] 399)
    have c8 := H4.o.2.1.lt
    have lu := zb4 (A := fun k => k = gb) (l := r2.take m) H4.o.2.1 (by rw [H4.o.2.2.2]; simp only [maxLen]; omega) rfl
    rw [H4.o.2.2.2] at lu
    have n5 := zfX lu (fun k hk => by rw [hk]; exact c8)
    rw [fD] at n5
    have em := H4.o.1.sp.ext hx
    have aT := H4.o.1.len
    rw [tQ]
    refine ⟨H4.o.1.ext hx, H4.o.2.2.1.ext hx, by omega, by omega, by rw [← fD]; simp, n5, em, fun k hk => by rw [hk, ← fD]; exact H4.o.1.sp.lw, by rw [H4.o.2.2.2]; omega⟩
   rw [fD]
   clear tQ fD H4 bt
   have gP := qh (ot.o.read HH.o bT.o.1 bT.o.2.1 (fun _ e => e))
   have Do := qh (show Ext w5 w5 from Fr.refl _ _)
   have eW := qh ot.o.fr.size
   have bQ : Hq (w.heap.size ≤ gr ∧ ¬ gr = b ∧ ¬ gb = b ∧ ∀ k, v1.locals.ownBlock = some k → ¬ k = gr ∧ ¬ k = gb) := ⟨by have := bT.o.2.2.1; have := bT.o.2.2.2.1; have := eW.o; omega, by have := mF.o; have := eW.o; have := bT.o.2.2.1; have := bT.o.2.2.2.1; omega, by have := mF.o; have := eW.o; have := bT.o.2.2.1; omega, fun k hk => by have := (ot.o.row.lt k hk).2; have := bT.o.2.2.1; have := bT.o.2.2.2.1; exact ⟨by omega, by omega⟩⟩
   have dy : Hq (Zs c.toNat m1 (r2.take m) ≠ .any) := PR.stepNe cj.o ag.o
   have iz := qh (anQ ot.o.fu (anQ bT.o.2.1 bT.o.2.2.1))
   have dd := qh (show (r2.drop m).length < (c :: r1).length from by rw [ldQ, List.length_cons]; have := eE.o; omega)
   by_cases h0 : c.toNat = 0
   ·have b0 : ((c.toNat : Int) == 0) = true := by rw [beq_iff_eq]; omega
    have dJ := qh (show Zs c.toNat m1 (r2.take m) = _ from by unfold Zs; exact if_pos h0)
    have di := qh (PR.stepNe dJ.o dy.o)
    clear h0
    go_wp2_with fail
    refine (zir byrR (fun k => k = gb) (fun k => k = gr) gr pe pu L (r2.take m) w5 bT.o.2.2.2.2.2 b 13 _ _ gP.o.blk (by show 15 < 16; omega) (fun e => bQ.o.2.1 e.symm) (fun e => bQ.o.2.2.1 e.symm) HH.o.lb di.o).mono ?_
    rintro e w6 ⟨nm, rr, eC, rfl, k1, ⟨k2, k3⟩, k4⟩
    have hq := PR.step dJ.o eC
    have eS := qh (PR.step cj.o hq)
    have tG : Fr (fun k => k = gr ∨ k = b ∨ some k = v1.locals.ownBlock) w5 w6 := k4.mono (fun _ _ e => e.elim .inl (fun e => .inr (.inl e)))
    have mw : Lay.enam.slice.rd (fun k => (A k ∨ w.heap.size ≤ k) ∧ k < w6.heap.size ∧ some k ≠ v1.locals.ownBlock) w6 [v1.funcs] m1.funcs := by
     refine Lay.mono _ (Lay.fr (Lay.fr iz.o.1 iz.o.2.1 (fun k hk => ⟨hk.2.1, fun e => ?_⟩)) k4 (fun k hk => ⟨nqQ hk.2.1 iz.o.2.1.size, fun e => ?_⟩)) (fun k hk => ⟨hk.1, nqQ hk.2.1 (nlQ iz.o.2.1.size k4.size), hk.2.2⟩)
     ·rcases e with e | e
      ·rcases hk.1 with q | q
       ·exact (HH.o.A k q).2.1 e
       ·have := HH.o.F k e; omega
      ·have := hk.2.1; omega
     ·have td := hk.2.1
      have Bc := bT.o.2.2.1
      have CT := bT.o.2.2.2.1
      rcases e with e | e
      ·omega
      ·rcases hk.1 with q | q
       ·exact (HH.o.A k q).2.2 e
       ·have := mF.o; omega
    have cN := gP.o.rest HH.o bQ.o.1 tG
    have ow : Hq (NmSt S D F g pe pu L b lo A v0.locals w (r2.drop m) { m1 with named := nm } v1 w6) := ⟨cN.1, by simpa using k2, k3, mw, gP.o.row.frFlat z7 k4 (fun k hk e => e.elim (bQ.o.2.2.2 k hk).1 (gP.o.own k hk).1.2.2.1), cN.2, gP.o.own⟩
    have tT := qh ob.o
    have sO := qh (show m1.locals.length + (r2.drop m).length ≤ m0.locals.length + bs.length from by have := dL.o; have := eE.o; rw [ldQ]; omega)
    have eP := qh (S.left_is ow.o.rx.is)
    clear k1 k2 k3 k4 tG hq eC mw cN
    go_wp2
    go_roundw
    case rel => exact ⟨f1, _, _, _, eS.o, ow.o, tT.o, sO.o⟩
    case measure => rw [eP.o, fJ.o]; exact dd.o
   ·by_cases h1 : c.toNat = 1
    ·have b0 := bfQ (a := (c.toNat : Int)) (b := 0) (by omega)
     have b1 : ((c.toNat : Int) == 1) = true := by rw [beq_iff_eq]; omega
     have dJ := qh (show Zs c.toNat m1 (r2.take m) = _ from by unfold Zs; exact (if_neg h0).trans (if_pos h1))
     have di := qh (PR.stepNe dJ.o dy.o)
     clear h0 h1
     go_wp2_with fail
     refine (zis byrR (fun k => k = gb) (fun k => k = gr) gr pe pu L (r2.take m) w5 bT.o.2.2.2.2.2 b 13 _ _ gP.o.blk (by show 15 < 16; omega) (fun e => bQ.o.2.1 e.symm) (fun e => bQ.o.2.2.1 e.symm) HH.o.lb di.o).mono ?_
     rintro e w6 ⟨ns, rr, eC, rfl, k1, ⟨vf, k2, k3⟩, k4⟩
     have hq := PR.step dJ.o eC
     have eS := qh (PR.step cj.o hq)
     have tG : Fr (fun k => k = gr ∨ k = b ∨ some k = v1.locals.ownBlock) w5 w6 := k4.mono (fun _ _ e => e.elim .inl (fun e => .inr (.inl e)))
     have cN := gP.o.rest HH.o bQ.o.1 tG
     have ow : Hq (NmSt S D F g pe pu L b lo A v0.locals w (r2.drop m) { m1 with funcs := ns } { v1 with funcs := vf } w6) := ⟨cN.1, by simpa using k2, gP.o.nm, Lay.mono _ k3 (fun k hk => ⟨.inr (by have := gP.o.fr.size; have := hk.1; omega), hk.2, fun e => by have := (gP.o.row.lt k e.symm).2; have := hk.1; omega⟩), gP.o.row.frFlat z7 k4 (fun k hk e => e.elim (bQ.o.2.2.2 k hk).1 (gP.o.own k hk).1.2.2.1), cN.2, gP.o.own⟩
     have tT : Hq ({ v1 with funcs := vf } = { v0 with funcs := vf, locals := v1.locals }) := by show _ = _; rw [ob.o]
     have sO := qh (show m1.locals.length + (r2.drop m).length ≤ m0.locals.length + bs.length from by have := dL.o; have := eE.o; rw [ldQ]; omega)
     have eP := qh (S.left_is ow.o.rx.is)
     clear k1 k2 k3 k4 tG hq eC cN
     go_wp2
     go_roundw
     case rel => exact ⟨f1, _, _, _, eS.o, ow.o, tT.o, sO.o⟩
     case measure => rw [eP.o, fJ.o]; exact dd.o
    ·by_cases h2 : c.toNat = 2
     ·have b0 := bfQ (a := (c.toNat : Int)) (b := 0) (by omega)
      have b1 := bfQ (a := (c.toNat : Int)) (b := 1) (by omega)
      have b2 : ((c.toNat : Int) == 2) = true := by rw [beq_iff_eq]; omega
      have dJ := qh (show Zs c.toNat m1 (r2.take m) = _ from by unfold Zs; exact (if_neg h0).trans ((if_neg h1).trans (if_pos h2)))
      have di := qh (PR.stepNe dJ.o dy.o)
      clear h0 h1 h2
      go_wp2_with fail
      refine (ziv byrR (fun k => k = gb) (fun k => k = gr) gr pe pu L (r2.take m) w5 bT.o.2.2.2.2.2 b 13 _ _ gP.o.blk (fun e => bQ.o.2.1 e.symm) (fun e => bQ.o.2.2.1 e.symm) HH.o.lb di.o lo v1.locals m1.locals rfl gP.o.row (nlQ HH.o.lo gP.o.fr.size) HH.o.blo (fun k hk => ⟨(bQ.o.2.2.2 k hk).1, (bQ.o.2.2.2 k hk).2, (gP.o.own k hk).1.2.2⟩) (by have := dL.o; have := eE.o; rw [ltQ]; omega)).mono ?_
      rintro e w6 ⟨ns, rr, va, eC, rfl, k1⟩
      have hq := PR.step dJ.o eC
      have eS := qh (PR.step cj.o hq)
      have rQ := zf0 eC
      have k4 := k1.fr
      have cN := gP.o.rest HH.o bQ.o.1 k4
      have mw : Lay.enam.slice.rd (fun k => (A k ∨ w.heap.size ≤ k) ∧ k < w6.heap.size ∧ some k ≠ va.ownBlock) w6 [v1.funcs] m1.funcs := by
       refine Lay.mono _ (Lay.fr (Lay.fr iz.o.1 iz.o.2.1 (fun k hk => ⟨hk.2.1, fun e => ?_⟩)) k4 (fun k hk => ⟨nqQ hk.2.1 iz.o.2.1.size, fun e => ?_⟩)) (fun k hk => ⟨hk.1, nqQ hk.2.1 (nlQ iz.o.2.1.size k4.size), fun e => by
        rcases (k1.own k e.symm).2 with q | q
        ·exact hk.2.2 q.symm
        ·have := iz.o.2.1.size; have := hk.2.1; omega⟩)
       ·rcases e with e | e
        ·rcases hk.1 with q | q
         ·exact (HH.o.A k q).2.1 e
         ·have := HH.o.F k e; omega
        ·have := hk.2.1; omega
       ·have td := hk.2.1
        have Bc := bT.o.2.2.1
        have CT := bT.o.2.2.2.1
        rcases e with e | e | e
        ·omega
        ·rcases hk.1 with q | q
         ·exact (HH.o.A k q).2.2 e
         ·have := mF.o; omega
        ·exact hk.2.2 e
      have ow : Hq (NmSt S D F g pe pu L b lo A v0.locals w (r2.drop m) { m1 with locals := m1.locals ++ ns } { v1 with locals := va } w6) := by
       refine ⟨cN.1, by simpa using k1.blk, gP.o.nm, mw, k1.row, cN.2, fun k hk => ?_⟩
       rcases k1.own k hk with ⟨q1, q2 | q2⟩
       ·exact gP.o.own k q2
       ·have h5 := gP.o.fr.size
        have hL := HH.o.L
        exact ⟨⟨fun e => by have := HH.o.F k e; omega, fun e => by have := HH.o.D k e; omega, q1.2.2.1, q1.2.2.2⟩, .inr (by omega)⟩
      have tT : Hq ({ v1 with locals := va } = { v0 with funcs := v1.funcs, locals := va }) := by show _ = _; rw [ob.o]
      have sO := qh (show (m1.locals ++ ns).length + (r2.drop m).length ≤ m0.locals.length + bs.length from by have := dL.o; have := eE.o; rw [ldQ, laQ]; rw [ltQ] at rQ; omega)
      have eP := qh (S.left_is ow.o.rx.is)
      clear k1 k4 hq eC mw cN rQ
      go_wp2
      go_roundw
      case rel => exact ⟨f1, _, _, _, eS.o, ow.o, tT.o, sO.o⟩
      case measure => rw [eP.o, fJ.o]; exact dd.o
     ·exact absurd (by unfold Zs; rw [if_neg h0, if_neg h1, if_neg h2]) dy.o
  ·have qV := qh (hV.o.2.1.read HH.o k1 k4 (fun _ e => .inl e))
   subst hr
   have aV := qh (anQ hV.o.1 (anQ hV.o.2.2.1 hV.o.2.2.2))
   have tK := qV.o.rx.sp.eof
   clear hV k1 k4
   go_wp2
   go_ret
   exact ⟨m1, v1, aV.o.1, rfl, qV.o, aV.o.2.1, by have := aV.o.2.2; simpa using this⟩
variable {m : Mod}
theorem zeH {id : Nat} {m' : Mod} (h : Zs id m bs = .ok m' r) : m' = { m with named := m'.named, funcs := m'.funcs, locals := m'.locals } := by
 unfold Zs at h
 split at h
 ·cases hp : zR bs with
  | ok x r1 => rw [hp, PR.bind_ok] at h; injection h with h1 h2; rw [← h1]
  | bad => rw [hp] at h; cases h
  | any => rw [hp] at h; cases h
 ·split at h
  ·cases hp : pVec (pNam 0) bs with
   | ok x r1 => rw [hp, PR.bind_ok] at h; injection h with h1 h2; rw [← h1]
   | bad => rw [hp] at h; cases h
   | any => rw [hp] at h; cases h
  ·split at h
   ·cases hp : zaJ bs with
    | ok x r1 => rw [hp, PR.bind_ok] at h; injection h with h1 h2; rw [← h1]
    | bad => rw [hp] at h; cases h
    | any => rw [hp] at h; cases h
   ·cases h
theorem zeI {m1 m2 : Mod} (h1 : m1 = { m with named := m1.named, funcs := m1.funcs, locals := m1.locals }) (h2 : m2 = { m1 with named := m2.named, funcs := m2.funcs, locals := m2.locals }) : m2 = { m with named := m2.named, funcs := m2.funcs, locals := m2.locals } := by
 rw [h2, h1]
theorem zaO : ∀ (f : Nat) (m m' : Mod) (bs r : List UInt8), Jg f m bs = .ok m' r → m' = { m with named := m'.named, funcs := m'.funcs, locals := m'.locals }
 | 0, _, _, _, _, h => by cases h
 | f + 1, m, m', [], r, h => by
  injection h with h1 h2
  rw [← h1]
 | f + 1, m, m', c :: bs, r, h => by
  have h : (pNum bs).bind (fun n r1 => (ZY n.toNat r1).bind fun s r2 => (Zs c.toNat m s).bind fun m1 _ => Jg f m1 r2) = .ok m' r := h
  cases hp : pNum bs with
  | ok n r1 =>
   rw [hp, PR.bind_ok] at h
   cases hq : ZY n.toNat r1 with
   | ok s r2 =>
    rw [hq, PR.bind_ok] at h
    cases hs : Zs c.toNat m s with
    | ok m1 r3 =>
     rw [hs, PR.bind_ok] at h
     exact zeI (zeH hs) (zaO f m1 m' r2 r h)
    | bad => rw [hs] at h; cases h
    | any => rw [hs] at h; cases h
   | bad => rw [hq] at h; cases h
   | any => rw [hq] at h; cases h
  | bad => rw [hp] at h; cases h
  | any => rw [hp] at h; cases h
section
variable {S : Rdr} {D F : Nat → Prop} {g : Nat} {pe pu : Addr} {L b : Nat} {w W W5 W6 W7 : World} {r r' rr : List UInt8} {m m' : Mod} {v v' : EV}
theorem EM.toNm (h : EM S D F g pe pu L b w r m v W) (H : EH D F L b w) {gb gr : Nat} {rr : List UInt8} (h6 : Fr (fun k => F k ∨ W.heap.size ≤ k) W W6) (de : W.heap.size ≤ gb) (ct : gb < gr) (iY : gr < W6.heap.size) (hR : RdX byrR (fun k => k = gb) (fun k => k = gr) gr pe pu L rr W6) (hB : Blk W6 b (yg m v) 194) :
 NmH (fun k => k = gb) (fun k => k = gr) L b w.heap.size (aEM w.heap.size W v) W6 ∧ NmSt byrR (fun k => k = gb) (fun k => k = gr) gr pe pu L b w.heap.size (aEM w.heap.size W v) v.locals W6 rr m v W6 := by
 have hw := h.fr.size
 have xc := h6.size
 have mF := H.bw
 have hL := H.L
 refine ⟨⟨fun e => by omega, fun e => by omega, H.lb, H.bw, by omega, fun k hk => ⟨by have := hk.2.1; omega, fun e => by have := hk.2.1; omega, fun e => by have := hk.1; omega⟩, fun k e => by omega, fun k e => by omega, by omega⟩, hR, hB, h.at'.named, ?_, ?_, Fr.refl _ _, fun k hk => ?_⟩
 ·refine Lay.mono _ (Lay.fr h.at'.funcs h6 (fun k hk => ⟨hk.2.1, fun e => ?_⟩)) (fun k hk => ⟨.inl hk, nqQ hk.2.1 xc, hk.2.2.2⟩)
  rcases e with e | e
  ·have := H.F k e; have := hk.1; omega
  ·have := hk.2.1; omega
 ·refine h.loc.frFlat z7 h6 (fun k hk e => ?_)
  have := h.loc.lt k hk
  rcases e with e | e
  ·have := H.F k e; omega
  ·omega
 ·have := h.loc.lt k hk
  exact ⟨⟨by omega, by omega, by omega, by omega⟩, .inl hk⟩
theorem EM.ofNm (h : EM S D F g pe pu L b w r m v W) (H : EH D F L b w) {gb gr : Nat} (h6 : Fr (fun k => F k ∨ W.heap.size ≤ k) W W6) (de : W.heap.size ≤ gb) (ct : gb < gr) (iY : gr < W6.heap.size) (hR : RdX S D F g pe pu L r' W6)
 (hN : NmSt byrR (fun k => k = gb) (fun k => k = gr) gr pe pu L b w.heap.size (aEM w.heap.size W v) v.locals W6 [] m' v' W7) (hm : m' = { m with named := m'.named, funcs := m'.funcs, locals := m'.locals }) (hv : v' = { v with funcs := v'.funcs, locals := v'.locals })
 (iX : m'.customs.length + r'.length ≤ 1099511627776) (gJ : m'.locals.length + r'.length ≤ 1099511627776) : EM S D F g pe pu L b w r' m' v' W7 := by
 have hw := h.fr.size
 have xc := h6.size
 have mF := H.bw
 have hL := H.L
 have h7 := hN.fr
 have Cc := h7.size
 have kn : v'.customs = v.customs := by rw [hv]
 have iW : m'.customs = m.customs := by rw [hm]
 have bj := fun k (hk : v.locals.ownBlock = some k) => h.loc.lt k hk
 have ll := fun k (hk : v.customs.ownBlock = some k) => h.cus.lt k hk
 have ah : ∀ k, v'.locals.ownBlock = some k → v.locals.ownBlock = some k ∨ W6.heap.size ≤ k := fun k hk => (hN.own k hk).2
 have pv : Fr (fun k => F k ∨ W.heap.size ≤ k ∨ k = b ∨ some k = v.locals.ownBlock) W W7 := Fr.trans h6 h7 (fun _ _ e => e.elim .inl (fun e => .inr (.inl e))) (fun k hk e => by
  rcases e with e | e | e
  ·exact .inr (.inl (by omega))
  ·exact .inr (.inr (.inl e))
  ·exact .inr (.inr (.inr e)))
 have uY : RdX S D F g pe pu L r' W7 := hR.fr h7 (fun k e => by
  rcases e with e | e | e
  ·omega
  ·rw [e]; exact H.lb
  ·have := bj k e.symm; omega) (fun k hk e => by
  have := H.F k hk
  rcases e with e | e | e
  ·omega
  ·subst e; exact H.nF hk
  ·have := bj k e.symm; omega) (fun k hk e => by
  have := H.D k hk
  rcases e with e | e | e
  ·omega
  ·subst e; exact H.nD hk
  ·have := bj k e.symm; omega)
 refine ⟨uY, hN.blk, ?_, ?_, hN.row, fun k hk => ?_, Fr.trans (Fr.trans h.fr h6 (U := fun k => F k ∨ k = b) (fun _ _ e => e) (fun k hk e => e.elim .inl (fun e => by omega))) h7 (fun _ _ e => e) (fun k hk e => ?_), ?_, iX, gJ⟩
 ·have hA : EAt (aEM w.heap.size W7 v') W7 m v := (h.at'.fr pv (fun k hk => ⟨hk.2.1, fun e => by
   have h1 := hk.1
   have h2 := hk.2.1
   rcases e with e | e | e | e
   ·have := H.F k e; omega
   ·omega
   ·omega
   ·exact hk.2.2.2 e⟩)).mono (fun k hk => ⟨hk.1, nqQ hk.2.1 pv.size, by rw [kn]; exact hk.2.2.1, fun e => by
    rcases ah k e.symm with q | q
    ·exact hk.2.2.2 q.symm
    ·have := hk.2.1; omega⟩)
  have hx : Lay.enam.slice.rd (aEM w.heap.size W7 v') W7 [v'.funcs] m'.funcs := Lay.mono _ hN.fu (fun k hk => by
   rcases hk.1 with q | q
   ·exact ⟨q.1, hk.2.1, by rw [kn]; exact q.2.2.1, hk.2.2⟩
   ·exact ⟨by omega, hk.2.1, fun e => by rw [kn] at e; have := ll k e.symm; omega, hk.2.2⟩)
  have hn := hN.nm
  have := hA.set_funcs hx
  generalize aEM w.heap.size W7 v' = A at *
  rw [hm, hv]
  exact ⟨this.start, this.types, this.imports, this.functions, this.tables, this.memories, this.elements, this.globals, this.exports, this.codes, this.datas, hx, hn⟩
 ·rw [kn, iW]
  refine OwnG.weak (X := fun k => (k < w.heap.size ∨ some k = v.locals.ownBlock) ∨ some k = v'.locals.ownBlock) (OwnG.fr (h.cus.widen (X' := fun k => (k < w.heap.size ∨ some k = v.locals.ownBlock) ∨ some k = v'.locals.ownBlock) (fun k e => ?_)) pv (fun k e => ?_) (fun k hk e => ?_)) (fun k e => e.elim (fun e => .inl (.inl e)) .inr)
  ·rcases e with e | e
   ·exact .inl e
   ·rcases ah k e.symm with q | q
    ·exact .inl (.inr q.symm)
    ·exact .inr (by omega)
  ·rcases e with e | e | e | e
   ·exact .inl (.inl (.inl (H.F k e)))
   ·exact .inr e
   ·exact .inl (.inl (.inl (by omega)))
   ·exact .inl (.inl (.inr e))
  ·have := ll k hk
   rcases e with e | e | e | e
   ·have := H.F k e; omega
   ·omega
   ·omega
   ·exact h.cl k hk e.symm
 ·rw [kn] at hk
  intro e
  rcases ah k e with q | q
  ·exact h.cl k hk q
  ·have := ll k hk; omega
 ·rcases e with e | e | e
  ·omega
  ·exact .inr e
  ·have := bj k e.symm; omega
 ·have hf := h.fresh
  rw [hm, hv]
  exact ⟨hf.types, hf.imports, hf.tables, hf.memories, hf.elements, hf.globals, hf.exports, hf.codes, hf.datas⟩
theorem EM.ofCus (h : EM S D F g pe pu L b w r m v W) (H : EH D F L b w) {gr : Nat} {x : Cus} {u : Value} (h6 : Fr (fun k => F k ∨ W.heap.size ≤ k) W W6) (de : W.heap.size ≤ gr) (hR : RdX S D F g pe pu L r' W6)
 (hB : Blk W7 b (yg m { v with customs := u }) 194) (hC : OwnG Lay.cus 230 w.heap.size (fun k => (k < w.heap.size ∨ some k = v.locals.ownBlock) ∨ k = gr) W7 u (m.customs ++ [x])) (h7 : Fr (fun k => k = gr ∨ k = b ∨ some k = v.customs.ownBlock) W6 W7) (ho : ∀ k, u.ownBlock = some k → v.customs.ownBlock = some k ∨ W6.heap.size ≤ k)
 (iX : m.customs.length + 1 + r'.length ≤ 1099511627776) (gJ : m.locals.length + r'.length ≤ 1099511627776) : EM S D F g pe pu L b w r' { m with customs := m.customs ++ [x] } { v with customs := u } W7 := by
 have hw := h.fr.size
 have xc := h6.size
 have mF := H.bw
 have hL := H.L
 have Cc := h7.size
 have bj := fun k (hk : v.locals.ownBlock = some k) => h.loc.lt k hk
 have ll := fun k (hk : v.customs.ownBlock = some k) => h.cus.lt k hk
 have pv : Fr (fun k => F k ∨ W.heap.size ≤ k ∨ k = b ∨ some k = v.customs.ownBlock) W W7 := Fr.trans h6 h7 (fun _ _ e => e.elim .inl (fun e => .inr (.inl e))) (fun k hk e => by
  rcases e with e | e | e
  ·exact .inr (.inl (by omega))
  ·exact .inr (.inr (.inl e))
  ·exact .inr (.inr (.inr e)))
 have uY : RdX S D F g pe pu L r' W7 := hR.fr h7 (fun k e => by
  rcases e with e | e | e
  ·omega
  ·rw [e]; exact H.lb
  ·have := ll k e.symm; omega) (fun k hk e => by
  have := H.F k hk
  rcases e with e | e | e
  ·omega
  ·subst e; exact H.nF hk
  ·have := ll k e.symm; omega) (fun k hk e => by
  have := H.D k hk
  rcases e with e | e | e
  ·omega
  ·subst e; exact H.nD hk
  ·have := ll k e.symm; omega)
 refine ⟨uY, hB, ?_, hC.weak (fun k e => .inl e), h.loc.frFlat z7 pv (fun k hk e => ?_), fun k hk e => ?_, Fr.trans (Fr.trans h.fr h6 (U := fun k => F k ∨ k = b) (fun _ _ e => e) (fun k hk e => e.elim .inl (fun e => by omega))) h7 (fun _ _ e => e) (fun k hk e => ?_), ?_, by rw [laQ]; exact iX, gJ⟩
 ·have hA : EAt (aEM w.heap.size W7 { v with customs := u }) W7 m v := (h.at'.fr pv (fun k hk => ⟨hk.2.1, fun e => by
   have h1 := hk.1
   have h2 := hk.2.1
   rcases e with e | e | e | e
   ·have := H.F k e; omega
   ·omega
   ·omega
   ·exact hk.2.2.1 e⟩)).mono (fun k hk => ⟨hk.1, nqQ hk.2.1 pv.size, fun e => by
    rcases ho k e.symm with q | q
    ·exact hk.2.2.1 q.symm
    ·have := hk.2.1; omega, hk.2.2.2⟩)
  exact hA.other rfl rfl
 ·have := bj k hk
  rcases e with e | e | e | e
  ·have := H.F k e; omega
  ·omega
  ·omega
  ·exact h.cl k e.symm hk
 ·rcases ho k hk with q | q
  ·exact h.cl k q e
  ·have := bj k e; omega
 ·rcases e with e | e | e
  ·omega
  ·exact .inr e
  ·have := ll k e.symm; omega
 ·have hf := h.fresh
  exact ⟨hf.types, hf.imports, hf.tables, hf.memories, hf.elements, hf.globals, hf.exports, hf.codes, hf.datas⟩
end
theorem zao.bad {S : Rdr} {D F : Nat → Prop} {g b : Nat} {L : Nat} : ∃ p, (if bs = [] then eofV pe else eofV pu) = eofV p := by
 by_cases h : bs = []
 ·exact ⟨pe, by rw [if_pos h]⟩
 ·exact ⟨pu, by rw [if_neg h]⟩
theorem or32 (a c i : Nat) (ha : a < 2 ^ (8 * i)) (hc : c < 256) (hi : i < 4) : bits .or .u32 (a : Int) ((c * 2 ^ (8 * i) : Nat) : Int) = ((a + c * 2 ^ (8 * i) : Nat) : Int) := by
 have h2 : 2 ^ (8 * i) ≤ 2 ^ 24 := Nat.pow_le_pow_right (by decide) (by omega)
 have d4 : c * 2 ^ (8 * i) ≤ 255 * 2 ^ (8 * i) := Nat.mul_le_mul_right _ (by omega)
 have h3 : 255 * 2 ^ (8 * i) ≤ 255 * 2 ^ 24 := Nat.mul_le_mul_left _ h2
 have e2 : a + c * 2 ^ (8 * i) = a ||| (c * 2 ^ (8 * i)) := by
  rw [Nat.mul_comm c, Nat.add_comm a, Nat.two_pow_add_eq_or_of_lt ha c, Nat.or_comm]
 rw [e2, u32_or_nat a _ (by omega) (by omega)]
theorem le32 (c0 c1 c2 c3 : Nat) (h0 : c0 < 256) (h1 : c1 < 256) (h2 : c2 < 256) (h3 : c3 < 256) :
 bits .or .u32 (bits .or .u32 (bits .or .u32 (c0 : Int) ((c1 : Int) * 256)) ((c2 : Int) * 65536)) ((c3 : Int) * 16777216) = ((c0 + c1 * 256 + c2 * 65536 + c3 * 16777216 : Nat) : Int) := by
 have e1 := or32 c0 c1 1 (by omega) h1 (by omega)
 have e2 := or32 (c0 + c1 * 256) c2 2 (by omega) h2 (by omega)
 have e3 := or32 (c0 + c1 * 256 + c2 * 65536) c3 3 (by omega) h3 (by omega)
 simp only [show (2 : Nat) ^ (8 * 1) = 256 from rfl, show (2 : Nat) ^ (8 * 2) = 65536 from rfl, show (2 : Nat) ^ (8 * 3) = 16777216 from rfl] at e1 e2 e3
 rw [show ((c1 : Int) * 256) = ((c1 * 256 : Nat) : Int) from by simp, e1, show ((c2 : Int) * 65536) = ((c2 * 65536 : Nat) : Int) from by simp, e2, show ((c3 : Int) * 16777216) = ((c3 * 16777216 : Nat) : Int) from by simp, e3]
theorem zej (S : Rdr) (D F : Nat → Prop) (g : Nat) (pe pu : Addr) (L : Nat) (bs : List UInt8) (w : World) (h : RdX S D F g pe pu L bs w) (b : Nat) (x0 : Value) (T : TypeId) (hB : Blk w b #[x0] T) (hF : ¬ F b) (hD : ¬ D b) (hb : L ≤ b) :
 Calls Tryz.prog 125 #[.iface S.T (.pointer (some ⟨g, 0, none⟩)), .pointer (some ⟨b, 0, none⟩)] w fun e w' =>
  (∃ (c0 c1 c2 c3 : UInt8) (r : List UInt8), bs = c0 :: c1 :: c2 :: c3 :: r ∧ e = .returned .nilIface ∧ RdX S D F g pe pu L r w' ∧ Blk w' b #[.int .u32 ((c0.toNat + c1.toNat * 256 + c2.toNat * 65536 + c3.toNat * 16777216 : Nat) : Int)] T ∧ Fr (fun k => F k ∨ k = b) w w') ∨
  (bs.length < 4 ∧ (∃ p, e = .returned (eofV p)) ∧ Fr (fun k => F k ∨ k = b) w w') := by
 have H := qh (Yb.start h hB hF hD hb)
 have Hn := qh H.o.new
 have DL := qh H.o.old
 clear h hB hF hD hb
 go_enter Tryz.func125, Tryz.ntmps125
 obtain ⟨gn, dh⟩ := exQ (w.heap.size)
 rw [dh] at Hn
 have HE := qh (H.o.ext (za w (.cells #[.int .u8 0, .int .u8 0, .int .u8 0, .int .u8 0] 394)))
 have HG : Hq (Blk (w.alloc (.cells #[.int .u8 0, .int .u8 0, .int .u8 0, .int .u8 0] 394)) gn #[.int .u8 0, .int .u8 0, .int .u8 0, .int .u8 0] 394) := by rw [← dh]; exact zl _ _ _
 go_wp2_with fail
 generalize w.alloc (.cells #[.int .u8 0, .int .u8 0, .int .u8 0, .int .u8 0] 394) = w1 at *
 refine (ZR S D F g gn pe pu L bs 4 _ w1 HE.o.rx HG.o rfl (by omega) Hn.o.1 Hn.o.2.1 Hn.o.2.2.1).mono ?_
 rintro e w2 (⟨k1, rfl, k2, k3, k4⟩ | ⟨k1, rfl, k2, k4⟩)
 ·obtain ⟨c0, c1, c2, c3, r, rfl⟩ : ∃ c0 c1 c2 c3 r, bs = c0 :: c1 :: c2 :: c3 :: r := by
   match bs, k1 with
   | a :: b :: c :: d :: r, _ => exact ⟨a, b, c, d, r, rfl⟩
  have cR := qh (HE.o.other (gn := gn) (by omega) k2 k4)
  have bS := k3.cell
  have fM := cR.o.blk.cell
  have iZ := cR.o.blk.frz
  have t0 := c0.toNat_lt
  have t1 := c1.toNat_lt
  have t2 := c2.toNat_lt
  have t3 := c3.toNat_lt
  simp only [List.take_succ_cons, List.take_zero, zC, List.map_cons, List.map_nil] at bS
  have lj := le32 c0.toNat c1.toNat c2.toNat c3.toNat t0 t1 t2 t3
  obtain ⟨N, hN⟩ : ∃ N : Nat, c0.toNat + c1.toNat * 256 + c2.toNat * 65536 + c3.toNat * 16777216 = N := ⟨_, rfl⟩
  rw [hN] at lj
  have hN := qh hN
  clear k1 k2 k3 k4 HE HG
  go_wp2
  go_ret
  have hY := cR.o.set 0 (.int .u32 (N : Int))
  rw [← hN.o] at hY ⊢
  exact .inl ⟨c0, c1, c2, c3, r, rfl, rfl, hY.rx, by simpa using hY.blk, hY.fr⟩
 ·obtain ⟨p, hp⟩ := zao.bad (S := S) (D := D) (F := F) (g := g) (b := gn) (pe := pe) (pu := pu) (L := L) (bs := bs)
  rw [hp]
  have H2 := qh (anQ k1 (Fr.trans HE.o.fr k4 (U := fun k => F k ∨ k = b) (fun _ _ e => e) (fun k hk e => e.elim .inl (fun e => by have := Hn.o.2.2.2.1; omega))))
  clear k1 k2 k4 hp HE HG
  go_wp2
  go_ret
  exact .inr ⟨H2.o.1, ⟨_, rfl⟩, H2.o.2⟩
variable {w : World}
theorem zdJ (h : RdX S D F g pe pu L bs w) :
 Calls Tryz.prog 102 #[.iface S.T (.pointer (some ⟨g, 0, none⟩))] w fun e w' => (∃ r, bs = 0 :: 97 :: 115 :: 109 :: r ∧ e = .returned .nilIface ∧ RdX S D F g pe pu L r w' ∧ Fr F w w') ∨ ((∀ r, bs ≠ 0 :: 97 :: 115 :: 109 :: r) ∧ (∃ p, e = .returned (eofV p)) ∧ Fr F w w') := by
 have H := qh h
 have Hl := qh (S.lt h.is)
 clear h
 go_enter Tryz.func102, Tryz.ntmps102
 obtain ⟨gn, dh⟩ := exQ (w.heap.size)
 have Hn : Hq (¬ F gn ∧ ¬ D gn ∧ L ≤ gn) := ⟨fun q => by have := Hl.o.2.1 _ q; omega, fun q => by have := (Hl.o.2.2 _ q).1; omega, by have := H.o.sp.lw; omega⟩
 have hx := za w (.cells #[.int .u32 0] 24)
 have HE := qh (anQ (H.o.ext hx) (anQ (show Blk (w.alloc (.cells #[.int .u32 0] 24)) gn #[.int .u32 0] 24 from by rw [← dh]; exact zl _ _ _) hx))
 clear hx
 go_wp2_with fail
 generalize w.alloc (.cells #[.int .u32 0] 24) = w1 at *
 refine (zej S D F g pe pu L bs w1 HE.o.1 gn _ _ HE.o.2.1 Hn.o.1 Hn.o.2.1 Hn.o.2.2).mono ?_
 rintro e w2 (⟨c0, c1, c2, c3, r, hb, rfl, k1, k2, k3⟩ | ⟨hb, ⟨p, rfl⟩, k3⟩)
 ·have hF : Fr F w w2 := Fr.trans (HE.o.2.2.to (S := F)) k3 (fun _ _ e => e) (fun k hk e => e.elim id (fun e => by omega))
  have H2 := qh (anQ k1 hF)
  have bS := k2.cell
  have t0 := c0.toNat_lt
  have t1 := c1.toNat_lt
  have t2 := c2.toNat_lt
  have t3 := c3.toNat_lt
  have bz := qh hb
  clear k1 k2 k3 hF hb HE
  by_cases hm : c0.toNat + c1.toNat * 256 + c2.toNat * 65536 + c3.toNat * 16777216 = 1836278016
  ·rw [hm] at bS
   have iF : Hq (c0 = 0 ∧ c1 = 97 ∧ c2 = 115 ∧ c3 = 109) := ⟨UInt8.toNat_inj.1 (by show c0.toNat = 0; omega), UInt8.toNat_inj.1 (by show c1.toNat = 97; omega), UInt8.toNat_inj.1 (by show c2.toNat = 115; omega), UInt8.toNat_inj.1 (by show c3.toNat = 109; omega)⟩
   clear hm
   go_wp2
   go_ret
   obtain ⟨rfl, rfl, rfl, rfl⟩ := iF.o
   exact .inl ⟨r, bz.o, rfl, H2.o⟩
  ·have iF : Hq (∀ r, bs ≠ 0 :: 97 :: 115 :: 109 :: r) := fun r' e => by
    rw [bz.o] at e
    simp only [List.cons.injEq] at e
    obtain ⟨rfl, rfl, rfl, rfl, -⟩ := e
    exact hm rfl
   generalize c0.toNat + c1.toNat * 256 + c2.toNat * 65536 + c3.toNat * 16777216 = x at *
   have hb := bfQ (a := (x : Int)) (b := 1836278016) (by omega)
   clear hm t0 t1 t2 t3
   go_wp2_with fail
   refine (jO _ _ H2.o.1.sp).mono ?_
   rintro e we ⟨v, rfl, hv, hx⟩
   have HB := qh (anQ hv hx)
   clear hv hx bS
   obtain ⟨p, dR, pT, rfl, dM, cW⟩ := HB.o.1
   go_wp2
   go_ret
   exact .inr ⟨iF.o, ⟨_, rfl⟩, H2.o.2.ext HB.o.2⟩
 ·have H2 : Hq ((∀ r, bs ≠ 0 :: 97 :: 115 :: 109 :: r) ∧ Fr F w w2) := ⟨fun r e => by rw [e] at hb; simp at hb; omega, Fr.trans (HE.o.2.2.to (S := F)) k3 (fun _ _ e => e) (fun k hk e => e.elim id (fun e => by omega))⟩
  clear hb k3 HE
  go_wp2
  go_ret
  exact .inr ⟨H2.o.1, ⟨_, rfl⟩, H2.o.2⟩
theorem zb7 (h : RdX S D F g pe pu L bs w) :
 Calls Tryz.prog 103 #[.iface S.T (.pointer (some ⟨g, 0, none⟩))] w fun e w' => (∃ r, bs = 1 :: 0 :: 0 :: 0 :: r ∧ e = .returned .nilIface ∧ RdX S D F g pe pu L r w' ∧ Fr F w w') ∨ ((∀ r, bs ≠ 1 :: 0 :: 0 :: 0 :: r) ∧ (∃ p, e = .returned (eofV p)) ∧ Fr F w w') := by
 have H := qh h
 have Hl := qh (S.lt h.is)
 clear h
 go_enter Tryz.func103, Tryz.ntmps103
 obtain ⟨gn, dh⟩ := exQ (w.heap.size)
 have Hn : Hq (¬ F gn ∧ ¬ D gn ∧ L ≤ gn) := ⟨fun q => by have := Hl.o.2.1 _ q; omega, fun q => by have := (Hl.o.2.2 _ q).1; omega, by have := H.o.sp.lw; omega⟩
 have hx := za w (.cells #[.int .u32 0] 24)
 have HE := qh (anQ (H.o.ext hx) (anQ (show Blk (w.alloc (.cells #[.int .u32 0] 24)) gn #[.int .u32 0] 24 from by rw [← dh]; exact zl _ _ _) hx))
 clear hx
 go_wp2_with fail
 generalize w.alloc (.cells #[.int .u32 0] 24) = w1 at *
 refine (zej S D F g pe pu L bs w1 HE.o.1 gn _ _ HE.o.2.1 Hn.o.1 Hn.o.2.1 Hn.o.2.2).mono ?_
 rintro e w2 (⟨c0, c1, c2, c3, r, hb, rfl, k1, k2, k3⟩ | ⟨hb, ⟨p, rfl⟩, k3⟩)
 ·have hF : Fr F w w2 := Fr.trans (HE.o.2.2.to (S := F)) k3 (fun _ _ e => e) (fun k hk e => e.elim id (fun e => by omega))
  have H2 := qh (anQ k1 hF)
  have bS := k2.cell
  have t0 := c0.toNat_lt
  have t1 := c1.toNat_lt
  have t2 := c2.toNat_lt
  have t3 := c3.toNat_lt
  have bz := qh hb
  clear k1 k2 k3 hF hb HE
  by_cases hm : c0.toNat + c1.toNat * 256 + c2.toNat * 65536 + c3.toNat * 16777216 = 1
  ·rw [hm] at bS
   have iF : Hq (c0 = 1 ∧ c1 = 0 ∧ c2 = 0 ∧ c3 = 0) := ⟨UInt8.toNat_inj.1 (by show c0.toNat = 1; omega), UInt8.toNat_inj.1 (by show c1.toNat = 0; omega), UInt8.toNat_inj.1 (by show c2.toNat = 0; omega), UInt8.toNat_inj.1 (by show c3.toNat = 0; omega)⟩
   clear hm
   go_wp2
   go_ret
   obtain ⟨rfl, rfl, rfl, rfl⟩ := iF.o
   exact .inl ⟨r, bz.o, rfl, H2.o⟩
  ·have iF : Hq (∀ r, bs ≠ 1 :: 0 :: 0 :: 0 :: r) := fun r' e => by
    rw [bz.o] at e
    simp only [List.cons.injEq] at e
    obtain ⟨rfl, rfl, rfl, rfl, -⟩ := e
    exact hm rfl
   generalize c0.toNat + c1.toNat * 256 + c2.toNat * 65536 + c3.toNat * 16777216 = x at *
   have hb := bfQ (a := (x : Int)) (b := 1) (by omega)
   clear hm t0 t1 t2 t3
   go_wp2_with fail
   refine (jO _ _ H2.o.1.sp).mono ?_
   rintro e we ⟨v, rfl, hv, hx⟩
   have HB := qh (anQ hv hx)
   clear hv hx bS
   obtain ⟨p, dR, pT, rfl, dM, cW⟩ := HB.o.1
   go_wp2
   go_ret
   exact .inr ⟨iF.o, ⟨_, rfl⟩, H2.o.2.ext HB.o.2⟩
 ·have H2 : Hq ((∀ r, bs ≠ 1 :: 0 :: 0 :: 0 :: r) ∧ Fr F w w2) := ⟨fun r e => by rw [e] at hb; simp at hb; omega, Fr.trans (HE.o.2.2.to (S := F)) k3 (fun _ _ e => e) (fun k hk e => e.elim id (fun e => by omega))⟩
  clear hb k3 HE
  go_wp2
  go_ret
  exact .inr ⟨H2.o.1, ⟨_, rfl⟩, H2.o.2⟩
theorem zcS : (Tryz.prog.info? 197).map (fun i => (i.zero, i.size, i.bytes)) = some (some (.agg #[.slice none 0 0, .slice none 0 0]), Lay.ft.size, 48) := by kernel_rfl
theorem zix (S : Rdr) (D F : Nat → Prop) (g : Nat) (pe pu : Addr) (L : Nat) (bs : List UInt8) (w : World) (h : RdX S D F g pe pu L bs w) (b o : Nat) (cs : Array Value) (T : TypeId) (hB : Blk w b cs T) (ho : cs[o]? = some (.slice none 0 0)) (hF : ¬ F b) (hD : ¬ D b) (hb : L ≤ b) (ag : pVec pFT bs ≠ .any) :
 Calls Tryz.prog 134 #[.iface S.T (.pointer (some ⟨g, 0, none⟩)), .pointer (some ⟨b, o, none⟩)] w fun e w' => PX S D F g pe pu L b (pVec pFT bs) (fun l W => ∃ v, Blk W b (cs.setIfInBounds o v) T ∧ Lay.ft.slice.rd (aN w W) W [v] l ∧ (l = [] → v = .slice none 0 0)) w e w' := by
 have HC := qh (jS S D F g pe pu L bs w h (PR.ne_any ag))
 have H := qh (Yb.start h hB hF hD hb)
 have aX := qh H.o.old
 have ag := qh ag
 clear h hB hF hD hb
 go_enter Tryz.func134, Tryz.ntmps134
 go_wp2_with fail
 refine HC.o.mono ?_
 rintro e w1 ⟨n, rest, hr, rfl, h1, h2⟩
 have hp := qh (show pVec pFT bs = pRep pFT n.toNat rest from by unfold pVec; rw [hr]; rfl)
 have ey := qh (show pRep pFT n.toNat rest ≠ .any from by rw [← hp.o]; exact ag.o)
 have eZ := n.toNat_lt
 have H1 := qh (H.o.read h1 h2)
 generalize n.toNat = m at *
 clear h1 h2 hr HC ag
 go_wp2_with fail
 go_loopw [18] (fun fd w' => ∃ (i : Nat) (va : Value), i ≤ m ∧ fd = .int .u32 i ∧ Hq (i = 0 → va = .slice none 0 0) ∧ Hq (∃ (xs : List _) (r : List UInt8), pRep pFT i rest = .ok xs r ∧ xs.length = i ∧ Yb S D F g pe pu L b w r (cs.setIfInBounds o va) T w' ∧ OwnG Lay.ft 197 w.heap.size (fun k => k < w.heap.size) w' va xs)) (fun fd _ => m - (intOf fd).toNat)
 case atStart => exact ⟨0, .slice none 0 0, nzQ _, rfl, fun _ => rfl, [], rest, rfl, rfl, H1.o.cells (Jj ho).symm, zv _ _ _ _ _⟩
 case round =>
  obtain ⟨i, va, hi, rfl, hZ, hV⟩ := hrel
  by_cases aj : i < m
  ·obtain ⟨xs, r, q1, q2, q3, q4⟩ := hV.o
   have HV := qh (anQ q1 (anQ q2 (anQ q3 q4)))
   obtain ⟨ap, am, ar, rfl⟩ := q4.shape
   have dH := qh q2
   obtain ⟨gn, dh⟩ := exQ (wr.heap.size)
   have Hn := qh q3.new
   rw [dh] at Hn
   have bP := za wr (.cells #[.slice none 0 0, .slice none 0 0] 197)
   have dZ := qh (q3.ext bP)
   have fN : Hq (Ext wr (wr.alloc (.cells #[.slice none 0 0, .slice none 0 0] 197))) := bP
   have ah := qh (show ∀ k, (Value.slice ap am ar).ownBlock = some k → w.heap.size ≤ k ∧ k < gn from fun k hk => ⟨(q4.lt k hk).1, by rw [← dh]; exact (q4.lt k hk).2⟩)
   have HG : Hq (Blk (wr.alloc (.cells #[.slice none 0 0, .slice none 0 0] 197)) gn #[.slice none 0 0, .slice none 0 0] 197) := by rw [← dh]; exact zl _ _ _
   have dj := qh (show gn < (wr.alloc (.cells #[.slice none 0 0, .slice none 0 0] 197)).heap.size from HG.o.lt)
   clear hV q1 q2 q3 q4 bP
   go_wp2_with fail
   generalize wr.alloc (.cells #[.slice none 0 0, .slice none 0 0] 197) = Wn at *
   refine (ft_y dZ.o.rx gn HG.o Hn.o.1 Hn.o.2.1 Hn.o.2.2.1 (yE HV.o.1 aj ey.o)).mono ?_
   rintro e w2 (⟨x, r2, aY, rfl, k1, ⟨kJ, k2, k3⟩, k4⟩ | ⟨aY, v, rfl, hv, cT, k4⟩)
   rotate_left
   ·have HB := qh (anQ (jg HV.o.1 aj aY) (anQ hv (anQ cT k4)))
    clear aY hv cT k4
    obtain ⟨p, dR, pT, rfl, dM, cW⟩ := HB.o.2.1
    go_wp2
    go_ret
    exact dZ.o.badO (gn := gn) Hn.o.2.2.2.1 (by rw [hp.o, HB.o.1]) HB.o.2.1 HB.o.2.2.1 HB.o.2.2.2
   obtain ⟨e0, e1, rfl⟩ := arr2 (cs := kJ) (Lay.ft.len k3)
   have HX := qh (yu HV.o.1 aY)
   have HK := qh k3
   have dE : Hq (Yb S D F g pe pu L b w r2 (cs.setIfInBounds o (.slice ap am ar)) T w2 ∧ OwnG Lay.ft 197 w.heap.size (fun k => k < w.heap.size) w2 (.slice ap am ar) xs ∧ Blk w2 gn #[e0, e1] 197) := ⟨dZ.o.other (gn := gn) Hn.o.2.2.2.1 k1 k4, HV.o.2.2.2.fr (Ext.fr fN.o k4) (fun k e => e.elim (fun e => .inl (aX.o k (.inl e))) (fun e => .inr (by omega))) (fun k hk e => by
    have q := ah.o k hk
    rcases e with e | e
    ·have := aX.o k (.inl e); omega
    ·omega), k2⟩
   clear k1 k2 k3 k4 aY HG dZ
   go_wp2_with fail
   refine zj (yX (fun k => ¬ (k = b ∨ k = gn))) [kT 0, kT 1, kT 2, kT 3, kT 4, kT 5, kR 6, kR 7, kT 8, kT 9, kL 10] (by kernel_rfl) (by kernel_rfl) ?_
   simp only [zx, gzQ, gsQ]
   have HD : Hq (Yb S D F g pe pu L b w r2 (cs.setIfInBounds o (.slice ap am ar)) T w2.drew ∧ OwnG Lay.ft 197 w.heap.size (fun k => k < w.heap.size) w2.drew (.slice ap am ar) xs ∧ Blk w2.drew gn #[e0, e1] 197) := ⟨dE.o.1.ext (zb _), dE.o.2.1.ext (zb _), dE.o.2.2.ext (zb _)⟩
   have bq := qh (Zb (Wd := w2.drew) HK.o (zb w2) (nlQ HV.o.2.2.1.fr.size fN.o.size) (fun k hk => Nat.lt_trans (ah.o k hk).2 dj.o))
   clear dE HK
   generalize w2.drew = Wd at *
   have HC := qh (fun W' (h : Fr (fun k => ¬ (k = b ∨ k = gn)) Wd W') => anQ (((HD.o.1.blk.fr h (fun e => e (.inl rfl))).cell o).trans (jn ho)) (HD.o.2.2.fr h (fun e => e (.inr rfl))).cell)
   repeat (apply item_take; rfl; rfl; rfl; rfl; exact fun _ _ _ _ h => h; (intro W e _ k; obtain ⟨q, q2⟩ := HC.o W e; go_simp; exact k))
   apply zg; rfl; intro K hK; go_simp
   refine hK _ _ (za _ _).to ?_
   clear hK K
   apply zg; rfl; intro K hK
   refine zu Lay.ft w.heap.size (.tmp 29) (.tmp 31) _ _ _ 48 rfl Tryz.underlying159 zcS rfl (by omega) (by decide) (.slice ap am ar) xs x _ rfl rfl HD.o.2.1 bq.o HD.o.1.fr.size (by rw [dH.o]; omega) ?_
   intro v1 Wa h1 h2 h3 _
   refine hK _ _ (h3.mono (fun k _ e e2 => by
    have q := ah.o k e.symm
    have q2 := aX.o b (.inr rfl)
    rcases e2 with e2 | e2
    ·omega
    ·omega)) ?_
   clear hK K
   obtain ⟨az, aR, aO, rfl⟩ := h1.shape
   have HA := HD.o.1.mine H.o.rx h2 (fun k e => (ah.o k e.symm).1)
   have ii := (HA.blk.cell o).trans (jn ho)
   have il := HA.blk.frz o
   have h6 : Hq (Yb S D F g pe pu L b w r2 (cs.setIfInBounds o (.slice az aR aO)) T (Wa.setCell ⟨b, o, none⟩ (.slice az aR aO)) ∧ OwnG Lay.ft 197 w.heap.size (fun k => k < w.heap.size) (Wa.setCell ⟨b, o, none⟩ (.slice az aR aO)) (.slice az aR aO) (xs ++ [x])) := ⟨(HA.set o (.slice az aR aO)).cells (Z3 _ _ _ _), h1.fr (zf Wa ⟨b, o, none⟩ (.slice az aR aO)) (fun k e => .inl (by have e' : k = b := e; rw [e']; exact aX.o b (.inr rfl))) (fun k hk e => by have e' : k = b := e; have := (h1.lt k hk).1; have := aX.o b (.inr rfl); omega)⟩
   clear h1 h2 h3 HA HD bq
   repeat (apply item_take; rfl; rfl; rfl; rfl; exact fun _ _ _ _ h => h; (intro _ _ _ k; go_simp; exact k))
   apply zn; rfl; intro K hK; go_simp
   refine hK _ _ ?_
   clear hK K ii il
   apply zm
   go_wp2
   go_roundw
   case rel => exact ⟨i + 1, _, by omega, by go_num, (fun q => absurd q (Nat.succ_ne_zero i)), _, _, HX.o, by rw [laQ, dH.o]; rfl, h6.o.1, h6.o.2⟩
   case measure => simp [intOf]; omega
  ·obtain rfl : i = m := by omega
   obtain ⟨xs, r, q1, q2, q3, q4⟩ := hV.o
   have HV := qh (anQ q1 (anQ q3 q4))
   clear hV q1 q2 q3 q4
   go_wp2
   go_ret
   exact HV.o.2.1.ok (x := xs) (by rw [hp.o]; exact HV.o.1) ⟨_, HV.o.2.1.blk, Lay.mono _ (HV.o.2.2.slice (fun k hk q => by omega)) (fun k hk => ⟨by have := hk.1; omega, hk.2⟩), fun q => hZ.o (by have := jN HV.o.1; rw [q] at this; exact this.symm)⟩
theorem zbn : (Tryz.prog.info? 202).map (fun i => (i.zero, i.size, i.bytes)) = some (some (.agg #[.string ⟨#[]⟩, .string ⟨#[]⟩, .nilIface]), Lay.eimp.size, 48) := by kernel_rfl
theorem zf1 (S : Rdr) (D F : Nat → Prop) (g : Nat) (pe pu : Addr) (L : Nat) (bs : List UInt8) (w : World) (h : RdX S D F g pe pu L bs w) (b o : Nat) (cs : Array Value) (T : TypeId) (hB : Blk w b cs T) (ho : cs[o]? = some (.slice none 0 0)) (hF : ¬ F b) (hD : ¬ D b) (hb : L ≤ b) (ag : pVec pImp bs ≠ .any) :
 Calls Tryz.prog 135 #[.iface S.T (.pointer (some ⟨g, 0, none⟩)), .pointer (some ⟨b, o, none⟩)] w fun e w' => PX S D F g pe pu L b (pVec pImp bs) (fun l W => ∃ v, Blk W b (cs.setIfInBounds o v) T ∧ Lay.eimp.slice.rd (aN w W) W [v] l ∧ (l = [] → v = .slice none 0 0)) w e w' := by
 have HC := qh (jS S D F g pe pu L bs w h (PR.ne_any ag))
 have H := qh (Yb.start h hB hF hD hb)
 have aX := qh H.o.old
 have ag := qh ag
 clear h hB hF hD hb
 go_enter Tryz.func135, Tryz.ntmps135
 go_wp2_with fail
 refine HC.o.mono ?_
 rintro e w1 ⟨n, rest, hr, rfl, h1, h2⟩
 have hp := qh (show pVec pImp bs = pRep pImp n.toNat rest from by unfold pVec; rw [hr]; rfl)
 have ey := qh (show pRep pImp n.toNat rest ≠ .any from by rw [← hp.o]; exact ag.o)
 have eZ := n.toNat_lt
 have H1 := qh (H.o.read h1 h2)
 generalize n.toNat = m at *
 clear h1 h2 hr HC ag
 go_wp2_with fail
 go_loopw [18] (fun fd w' => ∃ (i : Nat) (va : Value), i ≤ m ∧ fd = .int .u32 i ∧ Hq (i = 0 → va = .slice none 0 0) ∧ Hq (∃ (xs : List _) (r : List UInt8), pRep pImp i rest = .ok xs r ∧ xs.length = i ∧ Yb S D F g pe pu L b w r (cs.setIfInBounds o va) T w' ∧ OwnG Lay.eimp 202 w.heap.size (fun k => k < w.heap.size) w' va xs)) (fun fd _ => m - (intOf fd).toNat)
 case atStart => exact ⟨0, .slice none 0 0, nzQ _, rfl, fun _ => rfl, [], rest, rfl, rfl, H1.o.cells (Jj ho).symm, zv _ _ _ _ _⟩
 case round =>
  obtain ⟨i, va, hi, rfl, hZ, hV⟩ := hrel
  by_cases aj : i < m
  ·obtain ⟨xs, r, q1, q2, q3, q4⟩ := hV.o
   have HV := qh (anQ q1 (anQ q2 (anQ q3 q4)))
   obtain ⟨ap, am, ar, rfl⟩ := q4.shape
   have dH := qh q2
   obtain ⟨gn, dh⟩ := exQ (wr.heap.size)
   have Hn := qh q3.new
   rw [dh] at Hn
   have bP := za wr (.cells #[.string ⟨#[]⟩, .string ⟨#[]⟩, .nilIface] 202)
   have dZ := qh (q3.ext bP)
   have fN : Hq (Ext wr (wr.alloc (.cells #[.string ⟨#[]⟩, .string ⟨#[]⟩, .nilIface] 202))) := bP
   have ah := qh (show ∀ k, (Value.slice ap am ar).ownBlock = some k → w.heap.size ≤ k ∧ k < gn from fun k hk => ⟨(q4.lt k hk).1, by rw [← dh]; exact (q4.lt k hk).2⟩)
   have HG : Hq (Blk (wr.alloc (.cells #[.string ⟨#[]⟩, .string ⟨#[]⟩, .nilIface] 202)) gn #[.string ⟨#[]⟩, .string ⟨#[]⟩, .nilIface] 202) := by rw [← dh]; exact zl _ _ _
   have dj := qh (show gn < (wr.alloc (.cells #[.string ⟨#[]⟩, .string ⟨#[]⟩, .nilIface] 202)).heap.size from HG.o.lt)
   clear hV q1 q2 q3 q4 bP
   go_wp2_with fail
   generalize wr.alloc (.cells #[.string ⟨#[]⟩, .string ⟨#[]⟩, .nilIface] 202) = Wn at *
   refine (imp_y dZ.o.rx gn HG.o Hn.o.1 Hn.o.2.1 Hn.o.2.2.1 (yE HV.o.1 aj ey.o)).mono ?_
   rintro e w2 (⟨x, r2, aY, rfl, k1, ⟨kJ, k2, k3⟩, k4⟩ | ⟨aY, v, rfl, hv, cT, k4⟩)
   rotate_left
   ·have HB := qh (anQ (jg HV.o.1 aj aY) (anQ hv (anQ cT k4)))
    clear aY hv cT k4
    obtain ⟨p, dR, pT, rfl, dM, cW⟩ := HB.o.2.1
    go_wp2
    go_ret
    exact dZ.o.badO (gn := gn) Hn.o.2.2.2.1 (by rw [hp.o, HB.o.1]) HB.o.2.1 HB.o.2.2.1 HB.o.2.2.2
   obtain ⟨e0, e1, e2, rfl⟩ := arr3 (cs := kJ) (Lay.eimp.len k3)
   have HX := qh (yu HV.o.1 aY)
   have HK := qh k3
   have dE : Hq (Yb S D F g pe pu L b w r2 (cs.setIfInBounds o (.slice ap am ar)) T w2 ∧ OwnG Lay.eimp 202 w.heap.size (fun k => k < w.heap.size) w2 (.slice ap am ar) xs ∧ Blk w2 gn #[e0, e1, e2] 202) := ⟨dZ.o.other (gn := gn) Hn.o.2.2.2.1 k1 k4, HV.o.2.2.2.fr (Ext.fr fN.o k4) (fun k e => e.elim (fun e => .inl (aX.o k (.inl e))) (fun e => .inr (by omega))) (fun k hk e => by
    have q := ah.o k hk
    rcases e with e | e
    ·have := aX.o k (.inl e); omega
    ·omega), k2⟩
   clear k1 k2 k3 k4 aY HG dZ
   go_wp2_with fail
   refine zj (yX (fun k => ¬ (k = b ∨ k = gn))) [kT 0, kT 1, kT 2, kT 3, kT 4, kT 5, kR 6, kR 7, kT 8, kT 9, kL 10] (by kernel_rfl) (by kernel_rfl) ?_
   simp only [zx, gzQ, gsQ]
   have HD : Hq (Yb S D F g pe pu L b w r2 (cs.setIfInBounds o (.slice ap am ar)) T w2.drew ∧ OwnG Lay.eimp 202 w.heap.size (fun k => k < w.heap.size) w2.drew (.slice ap am ar) xs ∧ Blk w2.drew gn #[e0, e1, e2] 202) := ⟨dE.o.1.ext (zb _), dE.o.2.1.ext (zb _), dE.o.2.2.ext (zb _)⟩
   have bq := qh (Zb (Wd := w2.drew) HK.o (zb w2) (nlQ HV.o.2.2.1.fr.size fN.o.size) (fun k hk => Nat.lt_trans (ah.o k hk).2 dj.o))
   clear dE HK
   generalize w2.drew = Wd at *
   have HC := qh (fun W' (h : Fr (fun k => ¬ (k = b ∨ k = gn)) Wd W') => anQ (((HD.o.1.blk.fr h (fun e => e (.inl rfl))).cell o).trans (jn ho)) (HD.o.2.2.fr h (fun e => e (.inr rfl))).cell)
   repeat (apply item_take; rfl; rfl; rfl; rfl; exact fun _ _ _ _ h => h; (intro W e _ k; obtain ⟨q, q2⟩ := HC.o W e; go_simp; exact k))
   apply zg; rfl; intro K hK; go_simp
   refine hK _ _ (za _ _).to ?_
   clear hK K
   apply zg; rfl; intro K hK
   refine zu Lay.eimp w.heap.size (.tmp 29) (.tmp 31) _ _ _ 48 rfl Tryz.underlying162 zbn rfl (by omega) (by decide) (.slice ap am ar) xs x _ rfl rfl HD.o.2.1 bq.o HD.o.1.fr.size (by rw [dH.o]; omega) ?_
   intro v1 Wa h1 h2 h3 _
   refine hK _ _ (h3.mono (fun k _ e e2 => by
    have q := ah.o k e.symm
    have q2 := aX.o b (.inr rfl)
    rcases e2 with e2 | e2
    ·omega
    ·omega)) ?_
   clear hK K
   obtain ⟨az, aR, aO, rfl⟩ := h1.shape
   have HA := HD.o.1.mine H.o.rx h2 (fun k e => (ah.o k e.symm).1)
   have ii := (HA.blk.cell o).trans (jn ho)
   have il := HA.blk.frz o
   have h6 : Hq (Yb S D F g pe pu L b w r2 (cs.setIfInBounds o (.slice az aR aO)) T (Wa.setCell ⟨b, o, none⟩ (.slice az aR aO)) ∧ OwnG Lay.eimp 202 w.heap.size (fun k => k < w.heap.size) (Wa.setCell ⟨b, o, none⟩ (.slice az aR aO)) (.slice az aR aO) (xs ++ [x])) := ⟨(HA.set o (.slice az aR aO)).cells (Z3 _ _ _ _), h1.fr (zf Wa ⟨b, o, none⟩ (.slice az aR aO)) (fun k e => .inl (by have e' : k = b := e; rw [e']; exact aX.o b (.inr rfl))) (fun k hk e => by have e' : k = b := e; have := (h1.lt k hk).1; have := aX.o b (.inr rfl); omega)⟩
   clear h1 h2 h3 HA HD bq
   repeat (apply item_take; rfl; rfl; rfl; rfl; exact fun _ _ _ _ h => h; (intro _ _ _ k; go_simp; exact k))
   apply zn; rfl; intro K hK; go_simp
   refine hK _ _ ?_
   clear hK K ii il
   apply zm
   go_wp2
   go_roundw
   case rel => exact ⟨i + 1, _, by omega, by go_num, (fun q => absurd q (Nat.succ_ne_zero i)), _, _, HX.o, by rw [laQ, dH.o]; rfl, h6.o.1, h6.o.2⟩
   case measure => simp [intOf]; omega
  ·obtain rfl : i = m := by omega
   obtain ⟨xs, r, q1, q2, q3, q4⟩ := hV.o
   have HV := qh (anQ q1 (anQ q3 q4))
   clear hV q1 q2 q3 q4
   go_wp2
   go_ret
   exact HV.o.2.1.ok (x := xs) (by rw [hp.o]; exact HV.o.1) ⟨_, HV.o.2.1.blk, Lay.mono _ (HV.o.2.2.slice (fun k hk q => by omega)) (fun k hk => ⟨by have := hk.1; omega, hk.2⟩), fun q => hZ.o (by have := jN HV.o.1; rw [q] at this; exact this.symm)⟩
theorem zb8 : (Tryz.prog.info? 208).map (fun i => (i.zero, i.size, i.bytes)) = some (some (.agg #[.int .i64 0, .int .u32 0, .pointer none]), Lay.etab.size, 24) := by kernel_rfl
theorem zha (S : Rdr) (D F : Nat → Prop) (g : Nat) (pe pu : Addr) (L : Nat) (bs : List UInt8) (w : World) (h : RdX S D F g pe pu L bs w) (b o : Nat) (cs : Array Value) (T : TypeId) (hB : Blk w b cs T) (ho : cs[o]? = some (.slice none 0 0)) (hF : ¬ F b) (hD : ¬ D b) (hb : L ≤ b) (ag : pVec pTab bs ≠ .any) :
 Calls Tryz.prog 136 #[.iface S.T (.pointer (some ⟨g, 0, none⟩)), .pointer (some ⟨b, o, none⟩)] w fun e w' => PX S D F g pe pu L b (pVec pTab bs) (fun l W => ∃ v, Blk W b (cs.setIfInBounds o v) T ∧ Lay.etab.slice.rd (aN w W) W [v] l ∧ (l = [] → v = .slice none 0 0)) w e w' := by
 have HC := qh (jS S D F g pe pu L bs w h (PR.ne_any ag))
 have H := qh (Yb.start h hB hF hD hb)
 have aX := qh H.o.old
 have ag := qh ag
 clear h hB hF hD hb
 go_enter Tryz.func136, Tryz.ntmps136
 go_wp2_with fail
 refine HC.o.mono ?_
 rintro e w1 ⟨n, rest, hr, rfl, h1, h2⟩
 have hp := qh (show pVec pTab bs = pRep pTab n.toNat rest from by unfold pVec; rw [hr]; rfl)
 have ey := qh (show pRep pTab n.toNat rest ≠ .any from by rw [← hp.o]; exact ag.o)
 have eZ := n.toNat_lt
 have H1 := qh (H.o.read h1 h2)
 generalize n.toNat = m at *
 clear h1 h2 hr HC ag
 go_wp2_with fail
 go_loopw [20] (fun xa w' => ∃ (i : Nat) (va : Value), i ≤ m ∧ xa = .int .u32 i ∧ Hq (i = 0 → va = .slice none 0 0) ∧ Hq (∃ (xs : List _) (r : List UInt8), pRep pTab i rest = .ok xs r ∧ xs.length = i ∧ Yb S D F g pe pu L b w r (cs.setIfInBounds o va) T w' ∧ OwnG Lay.etab 208 w.heap.size (fun k => k < w.heap.size) w' va xs)) (fun xa _ => m - (intOf xa).toNat)
 case atStart => exact ⟨0, .slice none 0 0, nzQ _, rfl, fun _ => rfl, [], rest, rfl, rfl, H1.o.cells (Jj ho).symm, zv _ _ _ _ _⟩
 case round =>
  obtain ⟨i, va, hi, rfl, hZ, hV⟩ := hrel
  by_cases aj : i < m
  ·obtain ⟨xs, r, q1, q2, q3, q4⟩ := hV.o
   have HV := qh (anQ q1 (anQ q2 (anQ q3 q4)))
   obtain ⟨ap, am, ar, rfl⟩ := q4.shape
   have dH := qh q2
   obtain ⟨gn, dh⟩ := exQ (wr.heap.size)
   have Hn := qh q3.new
   rw [dh] at Hn
   have bP := za wr (.cells #[.int .i64 0, .int .u32 0, .pointer none] 208)
   have dZ := qh (q3.ext bP)
   have fN : Hq (Ext wr (wr.alloc (.cells #[.int .i64 0, .int .u32 0, .pointer none] 208))) := bP
   have ah := qh (show ∀ k, (Value.slice ap am ar).ownBlock = some k → w.heap.size ≤ k ∧ k < gn from fun k hk => ⟨(q4.lt k hk).1, by rw [← dh]; exact (q4.lt k hk).2⟩)
   have HG : Hq (Blk (wr.alloc (.cells #[.int .i64 0, .int .u32 0, .pointer none] 208)) gn #[.int .i64 0, .int .u32 0, .pointer none] 208) := by rw [← dh]; exact zl _ _ _
   have dj := qh (show gn < (wr.alloc (.cells #[.int .i64 0, .int .u32 0, .pointer none] 208)).heap.size from HG.o.lt)
   clear hV q1 q2 q3 q4 bP
   go_wp2_with fail
   generalize wr.alloc (.cells #[.int .i64 0, .int .u32 0, .pointer none] 208) = Wn at *
   have AC := qh (Yb.start dZ.o.rx HG.o Hn.o.1 Hn.o.2.1 Hn.o.2.2.1)
   have uG := qh (yE HV.o.1 aj ey.o)
   have iB := qh (pTab.eq_1 r)
   refine (Y8 S D F g pe pu L r Wn dZ.o.rx (PR.stepNe iB.o uG.o)).mono ?_
   rintro e wb ⟨c, rb, pI, rfl, k1, k4⟩
   have kC := qh (PR.step iB.o (show y7 r = .ok c rb from by rw [pI]; rfl))
   have ue := c.toNat_lt
   have tr := qh (AC.o.read k1 k4)
   have db := qh (dZ.o.read k1 k4)
   clear k1 k4 pI AC
   by_cases hP : c.toNat = 112
   rotate_left
   ·have hb := bfQ (a := (c.toNat : Int)) (b := 112) (by omega)
    have cZ := qh (PR.stepBad kC.o (if_neg hP))
    clear hP
    go_wp2_with fail
    refine (jO _ _ tr.o.rx.sp).mono ?_
    rintro e we ⟨v, rfl, hv, hx⟩
    have HB := qh (anQ hv hx)
    clear hv hx
    obtain ⟨p, dR, pT, rfl, dM, cW⟩ := HB.o.1
    go_wp2
    go_ret
    exact db.o.badX (by rw [hp.o, jg HV.o.1 aj cZ.o]) HB.o.1 HB.o.2
   have hb : ((c.toNat : Int) == 112) = true := by rw [beq_iff_eq]; omega
   have mI := qh (PR.step kC.o (if_pos hP))
   clear hP
   have co := tr.o.blk.cell
   have Cs := tr.o.blk.frz
   have rf := qh (tr.o.set 0 (.int .i64 0))
   go_wp2_with fail
   clear co Cs
   refine (zg7 S D F g pe pu L rb _ rf.o.rx gn 1 _ _ rf.o.blk (by simp) Hn.o.1 Hn.o.2.1 Hn.o.2.2.1 (by rw [← mI.o]; exact uG.o) rfl).mono ?_
   rintro e w2 (⟨x, r2, aY, rfl, k1, ⟨q, k2, k3⟩, k4⟩ | ⟨aY, v, rfl, hv, cT, k4⟩)
   rotate_left
   ·have HB := qh (anQ (jg HV.o.1 aj (mI.o.trans aY)) (anQ hv (anQ cT (Fr.trans rf.o.fr k4 (fun _ _ e => e) (fun _ _ e => e)))))
    clear aY hv cT k4
    obtain ⟨p, dR, pT, rfl, dM, cW⟩ := HB.o.2.1
    go_wp2
    go_ret
    exact dZ.o.badO (gn := gn) Hn.o.2.2.2.1 (by rw [hp.o, HB.o.1]) HB.o.2.1 HB.o.2.2.1 HB.o.2.2.2
   have aY : pTab r = .ok x r2 := mI.o.trans aY
   have k3 : Lay.etab.rd (aN Wn w2) w2 [.int .i64 0, .int .u32 (x.min.toNat : Int), .pointer q] x := ⟨[_], [_, _], rfl, rfl, Zn k3 rf.o.fr.size⟩
   have k4 : Fr (fun k => F k ∨ k = gn) Wn w2 := Fr.trans rf.o.fr k4 (fun _ _ e => e) (fun _ _ e => e)
   have k2 : Blk w2 gn #[.int .i64 0, .int .u32 (x.min.toNat : Int), .pointer q] 208 := by simpa using k2
   clear tr rf db iB kC mI uG
   obtain ⟨e0, ss⟩ := exQ (Value.int .i64 0)
   obtain ⟨e1, tU⟩ : ∃ e1, Value.int .u32 (x.min.toNat : Int) = e1 := ⟨_, rfl⟩
   obtain ⟨e2, AI⟩ := exQ (Value.pointer q)
   rw [ss, tU, AI] at k2 k3
   clear ss tU AI
   have HX := qh (yu HV.o.1 aY)
   have HK := qh k3
   have dE : Hq (Yb S D F g pe pu L b w r2 (cs.setIfInBounds o (.slice ap am ar)) T w2 ∧ OwnG Lay.etab 208 w.heap.size (fun k => k < w.heap.size) w2 (.slice ap am ar) xs ∧ Blk w2 gn #[e0, e1, e2] 208) := ⟨dZ.o.other (gn := gn) Hn.o.2.2.2.1 k1 k4, HV.o.2.2.2.fr (Ext.fr fN.o k4) (fun k e => e.elim (fun e => .inl (aX.o k (.inl e))) (fun e => .inr (by omega))) (fun k hk e => by
    have q := ah.o k hk
    rcases e with e | e
    ·have := aX.o k (.inl e); omega
    ·omega), k2⟩
   clear k1 k2 k3 k4 aY HG dZ
   go_wp2_with fail
   refine zj (yX (fun k => ¬ (k = b ∨ k = gn))) [kT 0, kT 1, kT 2, kT 3, kT 4, kT 5, kR 6, kR 7, kT 8, kT 9, kL 10] (by kernel_rfl) (by kernel_rfl) ?_
   simp only [zx, gzQ, gsQ]
   have HD : Hq (Yb S D F g pe pu L b w r2 (cs.setIfInBounds o (.slice ap am ar)) T w2.drew ∧ OwnG Lay.etab 208 w.heap.size (fun k => k < w.heap.size) w2.drew (.slice ap am ar) xs ∧ Blk w2.drew gn #[e0, e1, e2] 208) := ⟨dE.o.1.ext (zb _), dE.o.2.1.ext (zb _), dE.o.2.2.ext (zb _)⟩
   have bq := qh (Zb (Wd := w2.drew) HK.o (zb w2) (nlQ HV.o.2.2.1.fr.size fN.o.size) (fun k hk => Nat.lt_trans (ah.o k hk).2 dj.o))
   clear dE HK
   generalize w2.drew = Wd at *
   have HC := qh (fun W' (h : Fr (fun k => ¬ (k = b ∨ k = gn)) Wd W') => anQ (((HD.o.1.blk.fr h (fun e => e (.inl rfl))).cell o).trans (jn ho)) (HD.o.2.2.fr h (fun e => e (.inr rfl))).cell)
   repeat (apply item_take; rfl; rfl; rfl; rfl; exact fun _ _ _ _ h => h; (intro W e _ k; obtain ⟨q, q2⟩ := HC.o W e; go_simp; exact k))
   apply zg; rfl; intro K hK; go_simp
   refine hK _ _ (za _ _).to ?_
   clear hK K
   apply zg; rfl; intro K hK
   refine zu Lay.etab w.heap.size (.tmp 44) (.tmp 46) _ _ _ 24 rfl Tryz.underlying167 zb8 rfl (by omega) (by decide) (.slice ap am ar) xs x _ rfl rfl HD.o.2.1 bq.o HD.o.1.fr.size (by rw [dH.o]; omega) ?_
   intro v1 Wa h1 h2 h3 _
   refine hK _ _ (h3.mono (fun k _ e e2 => by
    have q := ah.o k e.symm
    have q2 := aX.o b (.inr rfl)
    rcases e2 with e2 | e2
    ·omega
    ·omega)) ?_
   clear hK K
   obtain ⟨az, aR, aO, rfl⟩ := h1.shape
   have HA := HD.o.1.mine H.o.rx h2 (fun k e => (ah.o k e.symm).1)
   have ii := (HA.blk.cell o).trans (jn ho)
   have il := HA.blk.frz o
   have h6 : Hq (Yb S D F g pe pu L b w r2 (cs.setIfInBounds o (.slice az aR aO)) T (Wa.setCell ⟨b, o, none⟩ (.slice az aR aO)) ∧ OwnG Lay.etab 208 w.heap.size (fun k => k < w.heap.size) (Wa.setCell ⟨b, o, none⟩ (.slice az aR aO)) (.slice az aR aO) (xs ++ [x])) := ⟨(HA.set o (.slice az aR aO)).cells (Z3 _ _ _ _), h1.fr (zf Wa ⟨b, o, none⟩ (.slice az aR aO)) (fun k e => .inl (by have e' : k = b := e; rw [e']; exact aX.o b (.inr rfl))) (fun k hk e => by have e' : k = b := e; have := (h1.lt k hk).1; have := aX.o b (.inr rfl); omega)⟩
   clear h1 h2 h3 HA HD bq
   repeat (apply item_take; rfl; rfl; rfl; rfl; exact fun _ _ _ _ h => h; (intro _ _ _ k; go_simp; exact k))
   apply zn; rfl; intro K hK; go_simp
   refine hK _ _ ?_
   clear hK K ii il
   apply zm
   go_wp2
   go_roundw
   case rel => exact ⟨i + 1, _, by omega, by go_num, (fun q => absurd q (Nat.succ_ne_zero i)), _, _, HX.o, by rw [laQ, dH.o]; rfl, h6.o.1, h6.o.2⟩
   case measure => simp [intOf]; omega
  ·obtain rfl : i = m := by omega
   obtain ⟨xs, r, q1, q2, q3, q4⟩ := hV.o
   have HV := qh (anQ q1 (anQ q3 q4))
   clear hV q1 q2 q3 q4
   go_wp2
   go_ret
   exact HV.o.2.1.ok (x := xs) (by rw [hp.o]; exact HV.o.1) ⟨_, HV.o.2.1.blk, Lay.mono _ (HV.o.2.2.slice (fun k hk q => by omega)) (fun k hk => ⟨by have := hk.1; omega, hk.2⟩), fun q => hZ.o (by have := jN HV.o.1; rw [q] at this; exact this.symm)⟩
theorem zaP : (Tryz.prog.info? 211).map (fun i => (i.zero, i.size, i.bytes)) = some (some (.agg #[.int .u32 0, .pointer none]), Lay.elim.size, 16) := by kernel_rfl
theorem zeJ (S : Rdr) (D F : Nat → Prop) (g : Nat) (pe pu : Addr) (L : Nat) (bs : List UInt8) (w : World) (h : RdX S D F g pe pu L bs w) (b o : Nat) (cs : Array Value) (T : TypeId) (hB : Blk w b cs T) (ho : cs[o]? = some (.slice none 0 0)) (hF : ¬ F b) (hD : ¬ D b) (hb : L ≤ b) (ag : pVec pLim bs ≠ .any) :
 Calls Tryz.prog 137 #[.iface S.T (.pointer (some ⟨g, 0, none⟩)), .pointer (some ⟨b, o, none⟩)] w fun e w' => PX S D F g pe pu L b (pVec pLim bs) (fun l W => ∃ v, Blk W b (cs.setIfInBounds o v) T ∧ Lay.elim.slice.rd (aN w W) W [v] l ∧ (l = [] → v = .slice none 0 0)) w e w' := by
 have HC := qh (jS S D F g pe pu L bs w h (PR.ne_any ag))
 have H := qh (Yb.start h hB hF hD hb)
 have aX := qh H.o.old
 have ag := qh ag
 clear h hB hF hD hb
 go_enter Tryz.func137, Tryz.ntmps137
 go_wp2_with fail
 refine HC.o.mono ?_
 rintro e w1 ⟨n, rest, hr, rfl, h1, h2⟩
 have hp := qh (show pVec pLim bs = pRep pLim n.toNat rest from by unfold pVec; rw [hr]; rfl)
 have ey := qh (show pRep pLim n.toNat rest ≠ .any from by rw [← hp.o]; exact ag.o)
 have eZ := n.toNat_lt
 have H1 := qh (H.o.read h1 h2)
 generalize n.toNat = m at *
 clear h1 h2 hr HC ag
 go_wp2_with fail
 go_loopw [18] (fun fd w' => ∃ (i : Nat) (va : Value), i ≤ m ∧ fd = .int .u32 i ∧ Hq (i = 0 → va = .slice none 0 0) ∧ Hq (∃ (xs : List _) (r : List UInt8), pRep pLim i rest = .ok xs r ∧ xs.length = i ∧ Yb S D F g pe pu L b w r (cs.setIfInBounds o va) T w' ∧ OwnG Lay.elim 211 w.heap.size (fun k => k < w.heap.size) w' va xs)) (fun fd _ => m - (intOf fd).toNat)
 case atStart => exact ⟨0, .slice none 0 0, nzQ _, rfl, fun _ => rfl, [], rest, rfl, rfl, H1.o.cells (Jj ho).symm, zv _ _ _ _ _⟩
 case round =>
  obtain ⟨i, va, hi, rfl, hZ, hV⟩ := hrel
  by_cases aj : i < m
  ·obtain ⟨xs, r, q1, q2, q3, q4⟩ := hV.o
   have HV := qh (anQ q1 (anQ q2 (anQ q3 q4)))
   obtain ⟨ap, am, ar, rfl⟩ := q4.shape
   have dH := qh q2
   obtain ⟨gn, dh⟩ := exQ (wr.heap.size)
   have Hn := qh q3.new
   rw [dh] at Hn
   have bP := za wr (.cells #[.int .u32 0, .pointer none] 211)
   have dZ := qh (q3.ext bP)
   have fN : Hq (Ext wr (wr.alloc (.cells #[.int .u32 0, .pointer none] 211))) := bP
   have ah := qh (show ∀ k, (Value.slice ap am ar).ownBlock = some k → w.heap.size ≤ k ∧ k < gn from fun k hk => ⟨(q4.lt k hk).1, by rw [← dh]; exact (q4.lt k hk).2⟩)
   have HG : Hq (Blk (wr.alloc (.cells #[.int .u32 0, .pointer none] 211)) gn #[.int .u32 0, .pointer none] 211) := by rw [← dh]; exact zl _ _ _
   have dj := qh (show gn < (wr.alloc (.cells #[.int .u32 0, .pointer none] 211)).heap.size from HG.o.lt)
   clear hV q1 q2 q3 q4 bP
   go_wp2_with fail
   generalize wr.alloc (.cells #[.int .u32 0, .pointer none] 211) = Wn at *
   refine (zg7 S D F g pe pu L r Wn dZ.o.rx gn 0 _ _ HG.o (by simp) Hn.o.1 Hn.o.2.1 Hn.o.2.2.1 (yE HV.o.1 aj ey.o) rfl).mono ?_
   rintro e w2 (⟨x, r2, aY, rfl, k1, ⟨q, k2, k3⟩, k4⟩ | ⟨aY, v, rfl, hv, cT, k4⟩)
   rotate_left
   ·have HB := qh (anQ (jg HV.o.1 aj aY) (anQ hv (anQ cT k4)))
    clear aY hv cT k4
    obtain ⟨p, dR, pT, rfl, dM, cW⟩ := HB.o.2.1
    go_wp2
    go_ret
    exact dZ.o.badO (gn := gn) Hn.o.2.2.2.1 (by rw [hp.o, HB.o.1]) HB.o.2.1 HB.o.2.2.1 HB.o.2.2.2
   have k2 : Blk w2 gn #[.int .u32 (x.min.toNat : Int), .pointer q] 211 := by simpa using k2
   obtain ⟨e0, ss⟩ : ∃ e0, Value.int .u32 (x.min.toNat : Int) = e0 := ⟨_, rfl⟩
   obtain ⟨e1, tU⟩ := exQ (Value.pointer q)
   rw [ss, tU] at k2 k3
   clear ss tU
   have HX := qh (yu HV.o.1 aY)
   have HK := qh k3
   have dE : Hq (Yb S D F g pe pu L b w r2 (cs.setIfInBounds o (.slice ap am ar)) T w2 ∧ OwnG Lay.elim 211 w.heap.size (fun k => k < w.heap.size) w2 (.slice ap am ar) xs ∧ Blk w2 gn #[e0, e1] 211) := ⟨dZ.o.other (gn := gn) Hn.o.2.2.2.1 k1 k4, HV.o.2.2.2.fr (Ext.fr fN.o k4) (fun k e => e.elim (fun e => .inl (aX.o k (.inl e))) (fun e => .inr (by omega))) (fun k hk e => by
    have q := ah.o k hk
    rcases e with e | e
    ·have := aX.o k (.inl e); omega
    ·omega), k2⟩
   clear k1 k2 k3 k4 aY HG dZ
   go_wp2_with fail
   refine zj (yX (fun k => ¬ (k = b ∨ k = gn))) [kT 0, kT 1, kT 2, kT 3, kT 4, kT 5, kR 6, kR 7, kT 8, kT 9, kL 10] (by kernel_rfl) (by kernel_rfl) ?_
   simp only [zx, gzQ, gsQ]
   have HD : Hq (Yb S D F g pe pu L b w r2 (cs.setIfInBounds o (.slice ap am ar)) T w2.drew ∧ OwnG Lay.elim 211 w.heap.size (fun k => k < w.heap.size) w2.drew (.slice ap am ar) xs ∧ Blk w2.drew gn #[e0, e1] 211) := ⟨dE.o.1.ext (zb _), dE.o.2.1.ext (zb _), dE.o.2.2.ext (zb _)⟩
   have bq := qh (Zb (Wd := w2.drew) HK.o (zb w2) (nlQ HV.o.2.2.1.fr.size fN.o.size) (fun k hk => Nat.lt_trans (ah.o k hk).2 dj.o))
   clear dE HK
   generalize w2.drew = Wd at *
   have HC := qh (fun W' (h : Fr (fun k => ¬ (k = b ∨ k = gn)) Wd W') => anQ (((HD.o.1.blk.fr h (fun e => e (.inl rfl))).cell o).trans (jn ho)) (HD.o.2.2.fr h (fun e => e (.inr rfl))).cell)
   repeat (apply item_take; rfl; rfl; rfl; rfl; exact fun _ _ _ _ h => h; (intro W e _ k; obtain ⟨q, q2⟩ := HC.o W e; go_simp; exact k))
   apply zg; rfl; intro K hK; go_simp
   refine hK _ _ (za _ _).to ?_
   clear hK K
   apply zg; rfl; intro K hK
   refine zu Lay.elim w.heap.size (.tmp 30) (.tmp 32) _ _ _ 16 rfl Tryz.underlying170 zaP rfl (by omega) (by decide) (.slice ap am ar) xs x _ rfl rfl HD.o.2.1 bq.o HD.o.1.fr.size (by rw [dH.o]; omega) ?_
   intro v1 Wa h1 h2 h3 _
   refine hK _ _ (h3.mono (fun k _ e e2 => by
    have q := ah.o k e.symm
    have q2 := aX.o b (.inr rfl)
    rcases e2 with e2 | e2
    ·omega
    ·omega)) ?_
   clear hK K
   obtain ⟨az, aR, aO, rfl⟩ := h1.shape
   have HA := HD.o.1.mine H.o.rx h2 (fun k e => (ah.o k e.symm).1)
   have ii := (HA.blk.cell o).trans (jn ho)
   have il := HA.blk.frz o
   have h6 : Hq (Yb S D F g pe pu L b w r2 (cs.setIfInBounds o (.slice az aR aO)) T (Wa.setCell ⟨b, o, none⟩ (.slice az aR aO)) ∧ OwnG Lay.elim 211 w.heap.size (fun k => k < w.heap.size) (Wa.setCell ⟨b, o, none⟩ (.slice az aR aO)) (.slice az aR aO) (xs ++ [x])) := ⟨(HA.set o (.slice az aR aO)).cells (Z3 _ _ _ _), h1.fr (zf Wa ⟨b, o, none⟩ (.slice az aR aO)) (fun k e => .inl (by have e' : k = b := e; rw [e']; exact aX.o b (.inr rfl))) (fun k hk e => by have e' : k = b := e; have := (h1.lt k hk).1; have := aX.o b (.inr rfl); omega)⟩
   clear h1 h2 h3 HA HD bq
   repeat (apply item_take; rfl; rfl; rfl; rfl; exact fun _ _ _ _ h => h; (intro _ _ _ k; go_simp; exact k))
   apply zn; rfl; intro K hK; go_simp
   refine hK _ _ ?_
   clear hK K ii il
   apply zm
   go_wp2
   go_roundw
   case rel => exact ⟨i + 1, _, by omega, by go_num, (fun q => absurd q (Nat.succ_ne_zero i)), _, _, HX.o, by rw [laQ, dH.o]; rfl, h6.o.1, h6.o.2⟩
   case measure => simp [intOf]; omega
  ·obtain rfl : i = m := by omega
   obtain ⟨xs, r, q1, q2, q3, q4⟩ := hV.o
   have HV := qh (anQ q1 (anQ q3 q4))
   clear hV q1 q2 q3 q4
   go_wp2
   go_ret
   exact HV.o.2.1.ok (x := xs) (by rw [hp.o]; exact HV.o.1) ⟨_, HV.o.2.1.blk, Lay.mono _ (HV.o.2.2.slice (fun k hk q => by omega)) (fun k hk => ⟨by have := hk.1; omega, hk.2⟩), fun q => hZ.o (by have := jN HV.o.1; rw [q] at this; exact this.symm)⟩
end Go.Proofs.YtejgninpjhcgnaaGreatDoor
