/- Texts of this proof, one behind the other. -/
import Derived.Test.YtejgninpjhcgnaaGreatDoorPart12
import Derived.Test.YtejgninpjhcgnaaGreatDoorPart13
namespace Go.Proofs.YtejgninpjhcgnaaGreatDoor
open Go.RowKit
set_option linter.unusedSimpArgs false
set_option linter.unusedVariables false
set_option maxRecDepth 100000
set_option maxHeartbeats 20000000
theorem zdK (m : Mod) (bs : List UInt8) : zq 1 m bs = if m.types = [] then (pVec pFT bs).bind fun x r => .ok { m with types := x } r else .any := rfl
theorem zdL (m : Mod) (bs : List UInt8) : zq 2 m bs = if m.imports = [] then (pVec pImp bs).bind fun x r => .ok { m with imports := x } r else .any := rfl
theorem zf4 (m : Mod) (bs : List UInt8) : zq 3 m bs = (pVec pNum bs).bind fun x r => .ok { m with functions := x } r := rfl
theorem zdM (m : Mod) (bs : List UInt8) : zq 4 m bs = if m.tables = [] then (pVec pTab bs).bind fun x r => .ok { m with tables := x } r else .any := rfl
theorem zdN (m : Mod) (bs : List UInt8) : zq 5 m bs = if m.memories = [] then (pVec pLim bs).bind fun x r => .ok { m with memories := x } r else .any := rfl
theorem zdO (m : Mod) (bs : List UInt8) : zq 6 m bs = if m.globals = [] then (pVec Zr bs).bind fun x r => .ok { m with globals := x } r else .any := rfl
theorem zdP (m : Mod) (bs : List UInt8) : zq 7 m bs = if m.exports = [] then (pVec JR bs).bind fun x r => .ok { m with exports := x } r else .any := rfl
theorem zdQ (m : Mod) (bs : List UInt8) : zq 9 m bs = if m.elements = [] then (pVec ZZ bs).bind fun x r => .ok { m with elements := x } r else .any := rfl
theorem zb9 (m : Mod) (bs : List UInt8) : zq 10 m bs = if m.codes = [] then (pVec zR bs).bind fun x r => .ok { m with codes := x } r else .any := rfl
theorem zca (m : Mod) (bs : List UInt8) : zq 11 m bs = if m.datas = [] then (pVec pDat bs).bind fun x r => .ok { m with datas := x } r else .any := rfl
theorem ziA (m : Mod) (bs : List UInt8) : zq 8 m bs = (pNum bs).bind fun x r => .ok { m with hasStart := true, start := x } r := rfl
theorem ziB (m : Mod) (bs : List UInt8) : zq 0 m bs = YN m bs := rfl
variable {S : Rdr} {D F : Nat → Prop} {g : Nat} {pe pu : Addr} {L b : Nat}
theorem zeL (f0 : Nat) (bs : List UInt8) (m0 : Mod) (v0 : EV) (w : World) (H : EH D F L b w) (h : EM S D F g pe pu L b w bs m0 v0 w) (ag : yf f0 m0 bs ≠ .any) :
 Calls Tryz.prog 104 #[.iface S.T (.pointer (some ⟨g, 0, none⟩)), .pointer (some ⟨b, 0, none⟩)] w fun e w' => (∃ m v, yf f0 m0 bs = .ok m [] ∧ e = .returned (eofV pe) ∧ EM S D F g pe pu L b w [] m v w') ∨
  (yf f0 m0 bs = .bad ∧ ∃ u, e = .returned u ∧ BadV pe w' u ∧ Spec pe pu L w' ∧ Fr (fun k => F k ∨ k = b) w w') := by
 have HH := qh H
 have H0 := qh h
 have ag := qh ag
 clear h H
 go_enter Tryz.func104, Tryz.ntmps104
 go_wp2_with fail
 go_loopw [] (fun w' => ∃ (f : Nat) (m1 : Mod) (v1 : EV) (r : List UInt8), Hq (yf f0 m0 bs = yf f m1 r ∧ EM S D F g pe pu L b w r m1 v1 w')) (fun w' => S.left g w')
 case atStart => exact ⟨f0, m0, v0, bs, rfl, H0.o⟩
 case round =>
  obtain ⟨f, m1, v1, r, hV⟩ := hrel
  obtain ⟨f1, rfl⟩ : ∃ f1, f = f1 + 1 := by
   cases f with
   | zero => exact absurd hV.o.1 ag.o
   | succ f1 => exact ⟨f1, rfl⟩
  have fJ := qh (S.left_is hV.o.2.rx.is)
  go_wp2_with fail
  refine (zfK S D F g pe pu L r wr hV.o.2.rx).mono ?_
  rintro e w1 (⟨c, r1, hr, rfl, k1, k4⟩ | ⟨hr, ⟨z, rfl⟩, k1, k4⟩)
  ·have rW := qh (hV.o.2.read HH.o k1 k4 (fun _ e => .inl e) (by rw [hr]; simp))
   have ue := c.toNat_lt
   subst hr
   have et := qh (show yf f0 m0 bs = (pNum r1).bind fun n r1 => if n.toNat ≤ r1.length then (zq c.toNat m1 (r1.take n.toNat)).bind fun m1 _ => yf f1 m1 (r1.drop n.toNat) else if r1 = [] then .any else .bad from hV.o.1)
   have dL := qh (show m1.customs.length + (r1.length + 1) ≤ 1099511627776 ∧ m1.locals.length + (r1.length + 1) ≤ 1099511627776 from ⟨by have := hV.o.2.lenC; rw [List.length_cons] at this; exact this, by have := hV.o.2.lenL; rw [List.length_cons] at this; exact this⟩)
   clear hV k1 k4
   go_wp2_with fail
   refine (jS S D F g pe pu L r1 w1 rW.o.rx (PR.stepNe et.o ag.o)).mono ?_
   rintro e w2 ⟨n, r2, aY, rfl, k1, k4⟩
   have dU := qh (PR.step et.o aY)
   have eZ := n.toNat_lt
   have eE := qh (jx aY)
   have dm := qh (rW.o.read HH.o k1 k4 (fun _ e => .inl e) (Nat.le_of_lt eE.o))
   clear k1 k4 aY rW
   generalize n.toNat = m at *
   have uo := qh (show r2.length ≤ 140737488355328 from dm.o.rx.len)
   obtain ⟨kU, hi, dt, dO, en⟩ := info_parts (show (Tryz.prog.info? 5).map (fun i => (i.zero, i.size, i.bytes)) = some (some (.int .u8 0), 1, 1) from by kernel_rfl)
   have gV := qh (anQ hi (anQ dt (anQ dO en)))
   clear hi dt dO en
   go_wp2_with (at_make; refine Hq.o ?_)
   obtain ⟨hi, dt, dO, en⟩ := gV.o
   refine wpList_make_full _ rfl (.tmp 43) (.tmp 43) 22 rfl w2.heap.size 5 kU (.int .u8 0) 1 Tryz.underlying22 hi dt dO .u32 .u32 (m : Int) (m : Int) m rfl rfl rfl rfl (by rw [en]; omega) (by show m ≤ 9223372036854775807; omega) (Nat.le_refl _) ?_
   intro w3 hO hG
   obtain ⟨c2, ct, cT⟩ := J8 (P := Tryz.prog) (w1 := w2) hO
   have hx : Ext w2 w3 := (yW hG).mono (fun _ _ h => by cases h)
   obtain ⟨gb, bt⟩ := exQ (w2.heap.size)
   have bo : Hq (¬ F gb ∧ ¬ D gb ∧ L ≤ gb) := by
    have h3 := S.lt (dm.o.rx).is
    exact ⟨fun q => by have := h3.2.1 _ q; omega, fun q => by have := (h3.2.2 _ q).1; omega, by have := (dm.o.rx).sp.lw; omega⟩
   rw [bt] at ct
   rw [bt]
   have H3 := qh (anQ ((dm.o.rx).ext hx) (anQ ct (anQ (show c2.size = m by omega) hx)))
   clear hO hG hi dt dO en gV hx ct cT
   go_wp2_with fail
   refine (ZR S D F g gb pe pu L r2 m c2 w3 H3.o.1 H3.o.2.1 H3.o.2.2.1 (by omega) bo.o.1 bo.o.2.1 bo.o.2.2).mono ?_
   rintro e w4 (⟨k1, rfl, k2, k3, k4⟩ | ⟨k1, rfl, k2, k4⟩)
   rotate_left
   ·have Ag : Hq (yf f0 m0 bs = .bad ∧ (if r2 = [] then eofV pe else eofV pu) = eofV pu) := by
     have q := dU.o
     rw [if_neg (by omega)] at q
     by_cases sU : r2 = []
     ·rw [if_pos sU] at q; exact absurd q ag.o
     ·rw [if_neg sU] at q; exact ⟨q, if_neg sU⟩
    rw [Ag.o.2]
    have HB : Hq (BadV pe w4 (eofV pu) ∧ Spec pe pu L w4 ∧ Fr (fun k => F k ∨ k = b) w w4) := by
     have eW := dm.o.fr.size
     obtain ⟨B2, uT, hu⟩ := k2.bu
     refine ⟨⟨pu, B2, uT, rfl, k2.ne, hu⟩, k2, Fr.trans (dm.o.fr.ext H3.o.2.2.2) k4 (fun _ _ e => e) (fun k hk e => e.elim .inl (fun e => by omega))⟩
    clear k1 k2 k4 H3
    go_wp2
    go_ret
    exact .inr ⟨Ag.o.1, _, rfl, HB.o⟩
   have ff : Hq (m ≤ r2.length) := k1
   have cj := qh (dU.o.trans (if_pos ff.o))
   have kp : Fr (fun k => F k ∨ w2.heap.size ≤ k) w2 w4 := Fr.trans (H3.o.2.2.2.to (S := fun k => F k ∨ w2.heap.size ≤ k)) k4 (fun _ _ e => e) (fun k _ e => e.elim .inl (fun e => .inr (by omega)))
   have iV : (r2.take m).length = m := by rw [ltQ]; have := ff.o; omega
   have H4 := qh (anQ k2 (anQ k3 (anQ kp iV)))
   clear k1 k2 k3 k4 kp iV H3
   go_wp2_with fail
   refine (Zv _ _ _ w4).mono ?_
   rintro e w5 ⟨rfl, tQ⟩
   obtain ⟨gr, fD⟩ := exQ (w4.heap.size)
   have bT : Hq (RdX S D F g pe pu L (r2.drop m) w5 ∧ Fr (fun k => F k ∨ w2.heap.size ≤ k) w2 w5 ∧ w2.heap.size ≤ gb ∧ gb < gr ∧ gr < w5.heap.size ∧ RdX byrR (fun k => k = gb) (fun k => k = gr) gr pe pu L (r2.take m) w5) := by
    have hx := za w4 (.cells #[.slice (some ⟨gb, 0, none⟩) m m, .int .i64 0, .int .i64 (-1)] 399)
    have c8 := H4.o.2.1.lt
    have lu := zb4 (A := fun k => k = gb) (l := r2.take m) H4.o.2.1 (by rw [H4.o.2.2.2]; simp only [maxLen]; omega) rfl
    rw [H4.o.2.2.2] at lu
    have n5 := zfX lu (fun k hk => by rw [hk]; exact c8)
    rw [fD] at n5
    have em := H4.o.1.sp.ext hx
    have aT := H4.o.1.len
    rw [tQ]
    refine ⟨H4.o.1.ext hx, H4.o.2.2.1.ext hx, by omega, by omega, by rw [← fD]; simp, n5, em, fun k hk => by rw [hk, ← fD]; exact H4.o.1.sp.lw, by rw [H4.o.2.2.2]; omega⟩
   rw [fD]
   clear tQ fD H4 bt
   have eL := qh (dm.o.read HH.o bT.o.1 bT.o.2.1 (fun _ e => e) (by rw [ldQ]; omega))
   have eW := qh dm.o.fr.size
   have dy : Hq (zq c.toNat m1 (r2.take m) ≠ .any) := PR.stepNe cj.o ag.o
   have bQ : Hq (w.heap.size ≤ gr ∧ ¬ b = gr ∧ ¬ b = gb) := ⟨by have := bT.o.2.2.1; have := bT.o.2.2.2.1; have := eW.o; omega, by have := HH.o.bw; have := eW.o; have := bT.o.2.2.1; have := bT.o.2.2.2.1; omega, by have := HH.o.bw; have := eW.o; have := bT.o.2.2.1; omega⟩
   have dd := qh (show (r2.drop m).length < (c :: r1).length from by rw [ldQ, List.length_cons]; have := eE.o; omega)
   have dw := qh (show m1.customs.length + (r2.drop m).length ≤ 1099511627776 ∧ m1.locals.length + (r2.drop m).length ≤ 1099511627776 from ⟨by have := dL.o.1; have := eE.o; rw [ldQ]; omega, by have := dL.o.2; have := eE.o; rw [ldQ]; omega⟩)
   have iZ : Hq (∀ w6, Fr (fun k => k = gr ∨ k = b) w5 w6 → Fr (fun k => F k ∨ k = b) w w6) := fun w6 k4 => Fr.trans eL.o.fr k4 (U := fun k => F k ∨ k = b) (fun _ _ e => e) (fun k hk e => e.elim (fun e => by have := bQ.o.1; omega) .inr)
   by_cases hc8 : c.toNat = 8
   ·as_aux_lemma =>
    have dJ : Hq (zq c.toNat m1 (r2.take m) = _) := qh ((congrArg (fun i => zq i m1 (r2.take m)) hc8).trans (ziA m1 (r2.take m)))
    have di := qh (PR.stepNe dJ.o dy.o)
    have b8 : ((c.toNat : Int) == 8) = true := by rw [beq_iff_eq]; omega
    clear hc8
    go_wp2_with fail
    refine (ziq byrR (fun k => k = gb) (fun k => k = gr) gr pe pu L (r2.take m) w5 bT.o.2.2.2.2.2 b 1 _ _ eL.o.blk (by show 1 < 16; omega) bQ.o.2.1 bQ.o.2.2 HH.o.lb di.o).mono ?_
    rintro e w6 (⟨x, rr, hr, rfl, k1, ⟨gn, k2, k3, Bk, pV⟩, k4⟩ | ⟨hr, u, rfl, hv, hs, k4⟩)
    rotate_left
    ·exact absurd hr (zfU _)
    have hq := PR.step dJ.o hr
    have eS := qh (PR.step cj.o hq)
    have cN := eL.o.rest HH.o bQ.o.1 (U := fun _ => False) (fun k e => e.elim) (k4.mono (fun _ _ e => e.elim .inl (fun e => .inr (.inl e))))
    have dB := dm.o.parts HH.o (Nat.le_of_lt (Nat.lt_of_le_of_lt bT.o.2.2.1 bT.o.2.2.2.1)) bT.o.2.1 k4
    have cU := dm.o.newA (W5 := w5) (W6 := w6) bT.o.2.1.size
    have ez : Hq (EM S D F g pe pu L b w (r2.drop m) { m1 with hasStart := true, start := x } { v1 with start := .pointer (some ⟨gn, 0, none⟩) } w6) :=
     ⟨cN.1, by simpa using k2, dB.1.set_start (.inr ⟨rfl, gn, rfl, cU gn ⟨k3, pV.lt⟩, pV⟩), dB.2.1, dB.2.2, dm.o.cl, cN.2, { dm.o.fresh with }, dw.o.1, dw.o.2⟩
    have eP := qh (S.left_is ez.o.rx.is)
    clear k1 k2 k3 Bk pV k4 cN dB cU hr hq
    go_wp2
    go_roundw
    case rel => exact ⟨f1, _, _, _, eS.o, ez.o⟩
    case measure => rw [eP.o, fJ.o]; exact dd.o
   ·by_cases dr : c.toNat = 0
    ·as_aux_lemma =>
     have b8 := bfQ (a := (c.toNat : Int)) (b := 8) (by omega)
     have b0 : ((c.toNat : Int) == 0) = true := by rw [beq_iff_eq]; omega
     have dJ : Hq (zq c.toNat m1 (r2.take m) = _) := qh ((congrArg (fun i => zq i m1 (r2.take m)) dr).trans ((ziB m1 (r2.take m)).trans (YN.eq_1 m1 (r2.take m))))
     have di := qh (PR.stepNe dJ.o dy.o)
     clear dr
     obtain ⟨gs, fe⟩ := exQ (w5.heap.size)
     have fP : Hq (¬ gs = gr ∧ ¬ gs = gb ∧ ¬ b = gs ∧ L ≤ gs ∧ w2.heap.size ≤ gs ∧ gr < gs ∧ w.heap.size ≤ gs) := by
      have h1 := bT.o.2.2.2.2.1
      have h2 := bT.o.2.2.2.1
      have h3 := bT.o.2.2.1
      have h4 := HH.o.bw
      have h5 := HH.o.L
      have h6 := eW.o
      exact ⟨by omega, by omega, by omega, by omega, by omega, by omega, by omega⟩
     have HS : Hq (RdX byrR (fun k => k = gb) (fun k => k = gr) gr pe pu L (r2.take m) (w5.alloc (.cells #[.string ⟨#[]⟩] 9)) ∧ Blk (w5.alloc (.cells #[.string ⟨#[]⟩] 9)) gs #[.string ⟨#[]⟩] 9 ∧ RdX S D F g pe pu L (r2.drop m) (w5.alloc (.cells #[.string ⟨#[]⟩] 9)) ∧ Fr (fun k => F k ∨ w2.heap.size ≤ k) w2 (w5.alloc (.cells #[.string ⟨#[]⟩] 9)) ∧ Blk (w5.alloc (.cells #[.string ⟨#[]⟩] 9)) b (yg m1 v1) 194) := by
      have hx := za w5 (.cells #[.string ⟨#[]⟩] 9)
      exact ⟨bT.o.2.2.2.2.2.ext hx, by rw [← fe]; exact zl _ _ _, bT.o.1.ext hx, bT.o.2.1.ext hx, eL.o.blk.ext hx⟩
     go_wp2_with fail
     generalize w5.alloc (.cells #[.string ⟨#[]⟩] 9) = ws at *
     refine (zeF byrR (fun k => k = gb) (fun k => k = gr) gr pe pu L (r2.take m) ws HS.o.1 gs 0 _ _ HS.o.2.1 (by decide) fP.o.1 fP.o.2.1 fP.o.2.2.2.1 di.o).mono ?_
     rintro e w6 (⟨l, rr, hr, rfl, k1, ⟨k2, k3⟩, k4⟩ | ⟨hr, _⟩)
     rotate_left
     ·exact absurd hr (zaL _)
     have hq := qh (PR.step dJ.o hr)
     have pS := qh (zaN hr)
     have l8 := qh k3
     have kx : Hq (RdX byrR (fun k => k = gb) (fun k => k = gr) gr pe pu L rr w6 ∧ RdX S D F g pe pu L (r2.drop m) w6 ∧ Fr (fun k => F k ∨ w2.heap.size ≤ k) w2 w6 ∧ Blk w6 b (yg m1 v1) 194 ∧ gr < w6.heap.size ∧ Blk w6 gs #[.string (zd l)] 9 ∧ gs < w6.heap.size) := by
      have h1 := fP.o
      have h2 := bQ.o
      have h3 := HH.o.L
      have td : Blk w6 gs #[.string (zd l)] 9 := by simpa using k2
      refine ⟨k1, HS.o.2.2.1.fr k4 (fun k e => e.elim (fun e => by omega) (fun e => by omega)) (fun k hk e => by have := HH.o.F k hk; rcases e with e | e <;> omega) (fun k hk e => by have := HH.o.D k hk; rcases e with e | e <;> omega), Fr.trans HS.o.2.2.2.1 k4 (fun _ _ e => e) (fun k _ e => .inr (by have := bT.o.2.2.1; have := bT.o.2.2.2.1; rcases e with e | e <;> omega)), HS.o.2.2.2.2.fr k4 (fun e => e.elim h2.2.1 h1.2.2.1), ?_, td, td.lt⟩
      have := td.lt
      omega
     have mv := qh (show rr.length + (r2.drop m).length + 1 ≤ r1.length from by have q1 := pS.o; rw [ltQ] at q1; have := eE.o; have := ff.o; rw [ldQ]; omega)
     clear k1 k2 k3 k4 hr HS fe
     have lq := kx.o.2.2.2.2.2.1.cell
     by_cases eC : l = zdC
     ·have ev := qh (hq.o.trans (if_pos eC))
      have kv : (zd l).toList = [110, 97, 109, 101] := by rw [jm, eC]; rfl
      clear eC
      have cU := qh (show Jg (rr.length + 1) m1 rr ≠ .any from by rw [← ev.o]; exact dy.o)
      have AB := qh (dm.o.toNm HH.o kx.o.2.2.1 bT.o.2.2.1 bT.o.2.2.2.1 kx.o.2.2.2.2.1 kx.o.1 kx.o.2.2.2.1)
      go_wp2_with fail
      refine (ziw (rr.length + 1) rr m1 v1 w6 AB.o.1 AB.o.2 cU.o (by have := dL.o.2; have := mv.o; omega)).mono ?_
      rintro e w7 ⟨m2, v2, hr, rfl, k1, k2, k3⟩
      have eS := qh (PR.step cj.o (ev.o.trans hr))
      have u9 := zaO _ _ _ _ _ hr
      have ez := qh (dm.o.ofNm HH.o kx.o.2.2.1 bT.o.2.2.1 bT.o.2.2.2.1 kx.o.2.2.2.2.1 kx.o.2.1 k1 u9 k2 (by have := dL.o.1; have := mv.o; rw [show m2.customs = m1.customs from by rw [u9]]; omega) (by have := dL.o.2; have := mv.o; omega))
      have eP := qh (S.left_is ez.o.rx.is)
      clear k1 k2 k3 hr u9 lq kv
      go_wp2
      go_roundw
      case rel => exact ⟨f1, _, _, _, eS.o, ez.o⟩
      case measure => rw [eP.o, fJ.o]; exact dd.o
     ·have ev := qh (hq.o.trans (if_neg eC))
      have kv : ((zd l).toList == [110, 97, 109, 101]) = false := by rw [jm]; exact beq_eq_false_iff_ne.2 eC
      clear eC
      go_wp2_with fail
      clear lq kv
      refine zj (yX (fun k => k = gr ∨ k = b ∨ some k = v1.customs.ownBlock)) [kT 0, kT 1, kT 2, kT 3, kT 4, kT 5, kR 6, kT 7] (by kernel_rfl) (by kernel_rfl) ?_
      simp only [zx, gzQ, gsQ]
      have ll := qh (fun k (hk : v1.customs.ownBlock = some k) => dm.o.cus.lt k hk)
      have nH : Hq (RdX byrR (fun k => k = gb) (fun k => k = gr) gr pe pu L rr w6.drew ∧ RdX S D F g pe pu L (r2.drop m) w6.drew ∧ Fr (fun k => F k ∨ w2.heap.size ≤ k) w2 w6.drew ∧ Blk w6.drew b (yg m1 v1) 194 ∧ gr < w6.drew.heap.size ∧ Blk w6.drew gs #[.string (zd l)] 9) := ⟨kx.o.1.ext (zb _), kx.o.2.1.ext (zb _), kx.o.2.2.1.ext (zb _), kx.o.2.2.2.1.ext (zb _), kx.o.2.2.2.2.1, kx.o.2.2.2.2.2.1.ext (zb _)⟩
      clear kx
      generalize w6.drew = W6 at *
      have HC := qh (fun W' (h : Fr (fun k => k = gr ∨ k = b ∨ some k = v1.customs.ownBlock) W6 W') => (nH.o.2.2.2.2.2.fr h (fun e => by
       have h1 := fP.o
       rcases e with e | e | e
       ·exact h1.1 e
       ·exact h1.2.2.1 e.symm
       ·have := ll.o gs e.symm; omega)).cell)
      repeat (apply item_take; rfl; rfl; rfl; rfl; exact fun _ _ _ _ h => h; (intro W e _ k; have q := HC.o W e; go_simp; exact k))
      apply zg; rfl; intro K hK; go_simp
      refine (zju rr l W6 nH.o.1 b 12 _ _ nH.o.2.2.2.1 bQ.o.2.1 bQ.o.2.2 HH.o.lb w.heap.size (fun k => (k < w.heap.size ∨ some k = v1.locals.ownBlock) ∨ k = gr) v1.customs m1.customs rfl ?_ ?_ (fun k e => .inr e) (.inl (.inl HH.o.bw)) ?_ HH.o.bw (fun k hk => ?_) (by have := dL.o.1; omega) l8.o).mono ?_
      ·refine OwnG.fr (dm.o.cus.widen (X' := fun k => (k < w.heap.size ∨ some k = v1.locals.ownBlock) ∨ k = gr) (fun k e => e.imp id (fun e => by have := bT.o.2.2.1; have := bT.o.2.2.2.1; omega))) nH.o.2.2.1 (fun k e => e.imp (fun e => .inl (.inl (HH.o.F k e))) id) (fun k hk e => ?_)
       have := ll.o k hk
       rcases e with e | e
       ·have := HH.o.F k e; omega
       ·omega
      ·exact nlQ eW.o nH.o.2.2.1.size
      ·intro k e
       have h1 := nH.o.2.2.1.size
       have h2 := eW.o
       rcases e with (e | e) | e
       ·omega
       ·have := (dm.o.loc.lt k e.symm).2; omega
       ·have := nH.o.2.2.2.2.1; omega
      ·have h1 := ll.o k hk
       have h2 := bT.o.2.2.1
       have h3 := bT.o.2.2.2.1
       have h4 := HH.o.bw
       have h5 := HH.o.L
       exact ⟨by omega, by omega, by omega, by omega⟩
      rintro e w7 ⟨u, rfl, k1, k2, k3, k4, k5⟩
      refine hK _ _ k4 ?_
      have eS := qh (PR.step cj.o ev.o)
      have ez := qh (dm.o.ofCus HH.o nH.o.2.2.1 (Nat.le_of_lt (Nat.lt_of_le_of_lt bT.o.2.2.1 bT.o.2.2.2.1)) nH.o.2.1 (by simpa using k2) k3 k4 k5 (by have := dL.o.1; have := mv.o; omega) (by have := dL.o.2; have := mv.o; omega))
      have eP := qh (S.left_is ez.o.rx.is)
      clear hK K k1 k2 k3 k4 k5
      repeat (apply item_take; rfl; rfl; rfl; rfl; exact fun _ _ _ _ h => h; (intro _ _ _ k; go_simp; exact k))
      apply zm
      go_wp2
      go_roundw
      case rel => exact ⟨f1, _, _, _, eS.o, ez.o⟩
      case measure => rw [eP.o, fJ.o]; exact dd.o
    ·by_cases cw : c.toNat = 1
     ·as_aux_lemma =>
      have eX := qh (zdK m1 (r2.take m))
      have dA := qh (show m1.types = [] from Classical.byContradiction fun q => dy.o (by rw [cw, zdK, if_neg q]))
      have dJ : Hq (zq c.toNat m1 (r2.take m) = _) := qh ((congrArg (fun i => zq i m1 (r2.take m)) cw).trans ((zdK m1 (r2.take m)).trans (if_pos dA.o)))
      have di := qh (PR.stepNe dJ.o dy.o)
      have b8 := bfQ (a := (c.toNat : Int)) (b := 8) (by omega)
      have b0 := bfQ (a := (c.toNat : Int)) (b := 0) (by omega)
      have b1 : ((c.toNat : Int) == 1) = true := by rw [beq_iff_eq]; omega
      clear cw eX
      go_wp2_with fail
      refine (zix byrR (fun k => k = gb) (fun k => k = gr) gr pe pu L (r2.take m) w5 bT.o.2.2.2.2.2 b 2 _ _ eL.o.blk (show (yg m1 v1)[2]? = some (.slice none 0 0) from by rw [show (yg m1 v1)[2]? = some v1.types from rfl, eL.o.fresh.types dA.o]) bQ.o.2.1 bQ.o.2.2 HH.o.lb di.o).mono ?_
      rintro e w6 (⟨x, rr, hr, rfl, k1, ⟨v, k2, k3, kz⟩, k4⟩ | ⟨hr, u, rfl, hv, hs, k4⟩)
      rotate_left
      ·have HB := qh (anQ (PR.stepBad cj.o (PR.stepBad dJ.o hr)) (anQ hv (anQ hs (iZ.o _ k4))))
       clear hr hv hs k4
       obtain ⟨p, dR, pT, rfl, dM, cW⟩ := HB.o.2.1
       go_wp2
       go_ret
       exact .inr ⟨HB.o.1, _, rfl, HB.o.2.1, HB.o.2.2.1, HB.o.2.2.2⟩
      have hq := PR.step dJ.o hr
      have eS := qh (PR.step cj.o hq)
      have cN := eL.o.rest HH.o bQ.o.1 (U := fun _ => False) (fun k e => e.elim) (k4.mono (fun _ _ e => e.elim .inl (fun e => .inr (.inl e))))
      have dB := dm.o.parts HH.o (Nat.le_of_lt (Nat.lt_of_le_of_lt bT.o.2.2.1 bT.o.2.2.2.1)) bT.o.2.1 k4
      have cU := dm.o.newA (W5 := w5) (W6 := w6) bT.o.2.1.size
      have ez : Hq (EM S D F g pe pu L b w (r2.drop m) { m1 with types := x } { v1 with types := v } w6) :=
       ⟨cN.1, by simpa using k2, dB.1.set_types (Lay.mono _ k3 cU), dB.2.1, dB.2.2, dm.o.cl, cN.2, { dm.o.fresh with types := kz }, dw.o.1, dw.o.2⟩
      have eP := qh (S.left_is ez.o.rx.is)
      clear k1 k2 k3 k4 cN dB cU hr hq kz
      go_wp2
      go_roundw
      case rel => exact ⟨f1, _, _, _, eS.o, ez.o⟩
      case measure => rw [eP.o, fJ.o]; exact dd.o
     ·by_cases bS : c.toNat = 2
      ·as_aux_lemma =>
       have eX := qh (zdL m1 (r2.take m))
       have dA := qh (show m1.imports = [] from Classical.byContradiction fun q => dy.o (by rw [bS, zdL, if_neg q]))
       have dJ : Hq (zq c.toNat m1 (r2.take m) = _) := qh ((congrArg (fun i => zq i m1 (r2.take m)) bS).trans ((zdL m1 (r2.take m)).trans (if_pos dA.o)))
       have di := qh (PR.stepNe dJ.o dy.o)
       have b8 := bfQ (a := (c.toNat : Int)) (b := 8) (by omega)
       have b0 := bfQ (a := (c.toNat : Int)) (b := 0) (by omega)
       have b1 := bfQ (a := (c.toNat : Int)) (b := 1) (by omega)
       have b2 : ((c.toNat : Int) == 2) = true := by rw [beq_iff_eq]; omega
       clear bS eX
       go_wp2_with fail
       refine (zf1 byrR (fun k => k = gb) (fun k => k = gr) gr pe pu L (r2.take m) w5 bT.o.2.2.2.2.2 b 3 _ _ eL.o.blk (show (yg m1 v1)[3]? = some (.slice none 0 0) from by rw [show (yg m1 v1)[3]? = some v1.imports from rfl, eL.o.fresh.imports dA.o]) bQ.o.2.1 bQ.o.2.2 HH.o.lb di.o).mono ?_
       rintro e w6 (⟨x, rr, hr, rfl, k1, ⟨v, k2, k3, kz⟩, k4⟩ | ⟨hr, u, rfl, hv, hs, k4⟩)
       rotate_left
       ·have HB := qh (anQ (PR.stepBad cj.o (PR.stepBad dJ.o hr)) (anQ hv (anQ hs (iZ.o _ k4))))
        clear hr hv hs k4
        obtain ⟨p, dR, pT, rfl, dM, cW⟩ := HB.o.2.1
        go_wp2
        go_ret
        exact .inr ⟨HB.o.1, _, rfl, HB.o.2.1, HB.o.2.2.1, HB.o.2.2.2⟩
       have hq := PR.step dJ.o hr
       have eS := qh (PR.step cj.o hq)
       have cN := eL.o.rest HH.o bQ.o.1 (U := fun _ => False) (fun k e => e.elim) (k4.mono (fun _ _ e => e.elim .inl (fun e => .inr (.inl e))))
       have dB := dm.o.parts HH.o (Nat.le_of_lt (Nat.lt_of_le_of_lt bT.o.2.2.1 bT.o.2.2.2.1)) bT.o.2.1 k4
       have cU := dm.o.newA (W5 := w5) (W6 := w6) bT.o.2.1.size
       have ez : Hq (EM S D F g pe pu L b w (r2.drop m) { m1 with imports := x } { v1 with imports := v } w6) :=
        ⟨cN.1, by simpa using k2, dB.1.set_imports (Lay.mono _ k3 cU), dB.2.1, dB.2.2, dm.o.cl, cN.2, { dm.o.fresh with imports := kz }, dw.o.1, dw.o.2⟩
       have eP := qh (S.left_is ez.o.rx.is)
       clear k1 k2 k3 k4 cN dB cU hr hq kz
       go_wp2
       go_roundw
       case rel => exact ⟨f1, _, _, _, eS.o, ez.o⟩
       case measure => rw [eP.o, fJ.o]; exact dd.o
      ·by_cases eM : c.toNat = 4
       ·as_aux_lemma =>
        have eX := qh (zdM m1 (r2.take m))
        have dA := qh (show m1.tables = [] from Classical.byContradiction fun q => dy.o (by rw [eM, zdM, if_neg q]))
        have dJ : Hq (zq c.toNat m1 (r2.take m) = _) := qh ((congrArg (fun i => zq i m1 (r2.take m)) eM).trans ((zdM m1 (r2.take m)).trans (if_pos dA.o)))
        have di := qh (PR.stepNe dJ.o dy.o)
        have b8 := bfQ (a := (c.toNat : Int)) (b := 8) (by omega)
        have b0 := bfQ (a := (c.toNat : Int)) (b := 0) (by omega)
        have b1 := bfQ (a := (c.toNat : Int)) (b := 1) (by omega)
        have b2 := bfQ (a := (c.toNat : Int)) (b := 2) (by omega)
        have b4 : ((c.toNat : Int) == 4) = true := by rw [beq_iff_eq]; omega
        clear eM eX
        go_wp2_with fail
        refine (zha byrR (fun k => k = gb) (fun k => k = gr) gr pe pu L (r2.take m) w5 bT.o.2.2.2.2.2 b 5 _ _ eL.o.blk (show (yg m1 v1)[5]? = some (.slice none 0 0) from by rw [show (yg m1 v1)[5]? = some v1.tables from rfl, eL.o.fresh.tables dA.o]) bQ.o.2.1 bQ.o.2.2 HH.o.lb di.o).mono ?_
        rintro e w6 (⟨x, rr, hr, rfl, k1, ⟨v, k2, k3, kz⟩, k4⟩ | ⟨hr, u, rfl, hv, hs, k4⟩)
        rotate_left
        ·have HB := qh (anQ (PR.stepBad cj.o (PR.stepBad dJ.o hr)) (anQ hv (anQ hs (iZ.o _ k4))))
         clear hr hv hs k4
         obtain ⟨p, dR, pT, rfl, dM, cW⟩ := HB.o.2.1
         go_wp2
         go_ret
         exact .inr ⟨HB.o.1, _, rfl, HB.o.2.1, HB.o.2.2.1, HB.o.2.2.2⟩
        have hq := PR.step dJ.o hr
        have eS := qh (PR.step cj.o hq)
        have cN := eL.o.rest HH.o bQ.o.1 (U := fun _ => False) (fun k e => e.elim) (k4.mono (fun _ _ e => e.elim .inl (fun e => .inr (.inl e))))
        have dB := dm.o.parts HH.o (Nat.le_of_lt (Nat.lt_of_le_of_lt bT.o.2.2.1 bT.o.2.2.2.1)) bT.o.2.1 k4
        have cU := dm.o.newA (W5 := w5) (W6 := w6) bT.o.2.1.size
        have ez : Hq (EM S D F g pe pu L b w (r2.drop m) { m1 with tables := x } { v1 with tables := v } w6) :=
         ⟨cN.1, by simpa using k2, dB.1.set_tables (Lay.mono _ k3 cU), dB.2.1, dB.2.2, dm.o.cl, cN.2, { dm.o.fresh with tables := kz }, dw.o.1, dw.o.2⟩
        have eP := qh (S.left_is ez.o.rx.is)
        clear k1 k2 k3 k4 cN dB cU hr hq kz
        go_wp2
        go_roundw
        case rel => exact ⟨f1, _, _, _, eS.o, ez.o⟩
        case measure => rw [eP.o, fJ.o]; exact dd.o
       ·by_cases iT : c.toNat = 5
        ·as_aux_lemma =>
         have eX := qh (zdN m1 (r2.take m))
         have dA := qh (show m1.memories = [] from Classical.byContradiction fun q => dy.o (by rw [iT, zdN, if_neg q]))
         have dJ : Hq (zq c.toNat m1 (r2.take m) = _) := qh ((congrArg (fun i => zq i m1 (r2.take m)) iT).trans ((zdN m1 (r2.take m)).trans (if_pos dA.o)))
         have di := qh (PR.stepNe dJ.o dy.o)
         have b8 := bfQ (a := (c.toNat : Int)) (b := 8) (by omega)
         have b0 := bfQ (a := (c.toNat : Int)) (b := 0) (by omega)
         have b1 := bfQ (a := (c.toNat : Int)) (b := 1) (by omega)
         have b2 := bfQ (a := (c.toNat : Int)) (b := 2) (by omega)
         have b4 := bfQ (a := (c.toNat : Int)) (b := 4) (by omega)
         have b5 : ((c.toNat : Int) == 5) = true := by rw [beq_iff_eq]; omega
         clear iT eX
         go_wp2_with fail
         refine (zeJ byrR (fun k => k = gb) (fun k => k = gr) gr pe pu L (r2.take m) w5 bT.o.2.2.2.2.2 b 6 _ _ eL.o.blk (show (yg m1 v1)[6]? = some (.slice none 0 0) from by rw [show (yg m1 v1)[6]? = some v1.memories from rfl, eL.o.fresh.memories dA.o]) bQ.o.2.1 bQ.o.2.2 HH.o.lb di.o).mono ?_
         rintro e w6 (⟨x, rr, hr, rfl, k1, ⟨v, k2, k3, kz⟩, k4⟩ | ⟨hr, u, rfl, hv, hs, k4⟩)
         rotate_left
         ·have HB := qh (anQ (PR.stepBad cj.o (PR.stepBad dJ.o hr)) (anQ hv (anQ hs (iZ.o _ k4))))
          clear hr hv hs k4
          obtain ⟨p, dR, pT, rfl, dM, cW⟩ := HB.o.2.1
          go_wp2
          go_ret
          exact .inr ⟨HB.o.1, _, rfl, HB.o.2.1, HB.o.2.2.1, HB.o.2.2.2⟩
         have hq := PR.step dJ.o hr
         have eS := qh (PR.step cj.o hq)
         have cN := eL.o.rest HH.o bQ.o.1 (U := fun _ => False) (fun k e => e.elim) (k4.mono (fun _ _ e => e.elim .inl (fun e => .inr (.inl e))))
         have dB := dm.o.parts HH.o (Nat.le_of_lt (Nat.lt_of_le_of_lt bT.o.2.2.1 bT.o.2.2.2.1)) bT.o.2.1 k4
         have cU := dm.o.newA (W5 := w5) (W6 := w6) bT.o.2.1.size
         have ez : Hq (EM S D F g pe pu L b w (r2.drop m) { m1 with memories := x } { v1 with memories := v } w6) :=
          ⟨cN.1, by simpa using k2, dB.1.set_memories (Lay.mono _ k3 cU), dB.2.1, dB.2.2, dm.o.cl, cN.2, { dm.o.fresh with memories := kz }, dw.o.1, dw.o.2⟩
         have eP := qh (S.left_is ez.o.rx.is)
         clear k1 k2 k3 k4 cN dB cU hr hq kz
         go_wp2
         go_roundw
         case rel => exact ⟨f1, _, _, _, eS.o, ez.o⟩
         case measure => rw [eP.o, fJ.o]; exact dd.o
        ·by_cases fp : c.toNat = 6
         ·as_aux_lemma =>
          have eX := qh (zdO m1 (r2.take m))
          have dA := qh (show m1.globals = [] from Classical.byContradiction fun q => dy.o (by rw [fp, zdO, if_neg q]))
          have dJ : Hq (zq c.toNat m1 (r2.take m) = _) := qh ((congrArg (fun i => zq i m1 (r2.take m)) fp).trans ((zdO m1 (r2.take m)).trans (if_pos dA.o)))
          have di := qh (PR.stepNe dJ.o dy.o)
          have b8 := bfQ (a := (c.toNat : Int)) (b := 8) (by omega)
          have b0 := bfQ (a := (c.toNat : Int)) (b := 0) (by omega)
          have b1 := bfQ (a := (c.toNat : Int)) (b := 1) (by omega)
          have b2 := bfQ (a := (c.toNat : Int)) (b := 2) (by omega)
          have b4 := bfQ (a := (c.toNat : Int)) (b := 4) (by omega)
          have b5 := bfQ (a := (c.toNat : Int)) (b := 5) (by omega)
          have b6 : ((c.toNat : Int) == 6) = true := by rw [beq_iff_eq]; omega
          clear fp eX
          go_wp2_with fail
          refine (zf2 byrR (fun k => k = gb) (fun k => k = gr) gr pe pu L (r2.take m) w5 bT.o.2.2.2.2.2 b 8 _ _ eL.o.blk (show (yg m1 v1)[8]? = some (.slice none 0 0) from by rw [show (yg m1 v1)[8]? = some v1.globals from rfl, eL.o.fresh.globals dA.o]) bQ.o.2.1 bQ.o.2.2 HH.o.lb di.o).mono ?_
          rintro e w6 (⟨x, rr, hr, rfl, k1, ⟨v, k2, k3, kz⟩, k4⟩ | ⟨hr, u, rfl, hv, hs, k4⟩)
          rotate_left
          ·have HB := qh (anQ (PR.stepBad cj.o (PR.stepBad dJ.o hr)) (anQ hv (anQ hs (iZ.o _ k4))))
           clear hr hv hs k4
           obtain ⟨p, dR, pT, rfl, dM, cW⟩ := HB.o.2.1
           go_wp2
           go_ret
           exact .inr ⟨HB.o.1, _, rfl, HB.o.2.1, HB.o.2.2.1, HB.o.2.2.2⟩
          have hq := PR.step dJ.o hr
          have eS := qh (PR.step cj.o hq)
          have cN := eL.o.rest HH.o bQ.o.1 (U := fun _ => False) (fun k e => e.elim) (k4.mono (fun _ _ e => e.elim .inl (fun e => .inr (.inl e))))
          have dB := dm.o.parts HH.o (Nat.le_of_lt (Nat.lt_of_le_of_lt bT.o.2.2.1 bT.o.2.2.2.1)) bT.o.2.1 k4
          have cU := dm.o.newA (W5 := w5) (W6 := w6) bT.o.2.1.size
          have ez : Hq (EM S D F g pe pu L b w (r2.drop m) { m1 with globals := x } { v1 with globals := v } w6) :=
           ⟨cN.1, by simpa using k2, dB.1.set_globals (Lay.mono _ k3 cU), dB.2.1, dB.2.2, dm.o.cl, cN.2, { dm.o.fresh with globals := kz }, dw.o.1, dw.o.2⟩
          have eP := qh (S.left_is ez.o.rx.is)
          clear k1 k2 k3 k4 cN dB cU hr hq kz
          go_wp2
          go_roundw
          case rel => exact ⟨f1, _, _, _, eS.o, ez.o⟩
          case measure => rw [eP.o, fJ.o]; exact dd.o
         ·by_cases fH : c.toNat = 3
          ·as_aux_lemma =>
           have eX := qh (zf4 m1 (r2.take m))
           have dJ : Hq (zq c.toNat m1 (r2.take m) = _) := qh ((congrArg (fun i => zq i m1 (r2.take m)) fH).trans (zf4 m1 (r2.take m)))
           have di := qh (PR.stepNe dJ.o dy.o)
           have b8 := bfQ (a := (c.toNat : Int)) (b := 8) (by omega)
           have b0 := bfQ (a := (c.toNat : Int)) (b := 0) (by omega)
           have b1 := bfQ (a := (c.toNat : Int)) (b := 1) (by omega)
           have b2 := bfQ (a := (c.toNat : Int)) (b := 2) (by omega)
           have b4 := bfQ (a := (c.toNat : Int)) (b := 4) (by omega)
           have b5 := bfQ (a := (c.toNat : Int)) (b := 5) (by omega)
           have b6 := bfQ (a := (c.toNat : Int)) (b := 6) (by omega)
           have b3 : ((c.toNat : Int) == 3) = true := by rw [beq_iff_eq]; omega
           clear fH eX
           go_wp2_with fail
           refine (fns_y byrR (fun k => k = gb) (fun k => k = gr) gr pe pu L (r2.take m) w5 bT.o.2.2.2.2.2 b 4 _ _ eL.o.blk (by show 4 < 16; omega) bQ.o.2.1 bQ.o.2.2 HH.o.lb di.o).mono ?_
           rintro e w6 (⟨x, rr, hr, rfl, k1, ⟨v, k2, k3, _⟩, k4⟩ | ⟨hr, u, rfl, hv, hs, k4⟩)
           rotate_left
           ·have HB := qh (anQ (PR.stepBad cj.o (PR.stepBad dJ.o hr)) (anQ hv (anQ hs (iZ.o _ k4))))
            clear hr hv hs k4
            obtain ⟨p, dR, pT, rfl, dM, cW⟩ := HB.o.2.1
            go_wp2
            go_ret
            exact .inr ⟨HB.o.1, _, rfl, HB.o.2.1, HB.o.2.2.1, HB.o.2.2.2⟩
           have hq := PR.step dJ.o hr
           have eS := qh (PR.step cj.o hq)
           have cN := eL.o.rest HH.o bQ.o.1 (U := fun _ => False) (fun k e => e.elim) (k4.mono (fun _ _ e => e.elim .inl (fun e => .inr (.inl e))))
           have dB := dm.o.parts HH.o (Nat.le_of_lt (Nat.lt_of_le_of_lt bT.o.2.2.1 bT.o.2.2.2.1)) bT.o.2.1 k4
           have cU := dm.o.newA (W5 := w5) (W6 := w6) bT.o.2.1.size
           have ez : Hq (EM S D F g pe pu L b w (r2.drop m) { m1 with functions := x } { v1 with functions := v } w6) :=
            ⟨cN.1, by simpa using k2, dB.1.set_functions (Lay.mono _ k3 cU), dB.2.1, dB.2.2, dm.o.cl, cN.2, { dm.o.fresh with }, dw.o.1, dw.o.2⟩
           have eP := qh (S.left_is ez.o.rx.is)
           clear k1 k2 k3 k4 cN dB cU hr hq
           go_wp2
           go_roundw
           case rel => exact ⟨f1, _, _, _, eS.o, ez.o⟩
           case measure => rw [eP.o, fJ.o]; exact dd.o
          ·by_cases tA : c.toNat = 7
           ·as_aux_lemma =>
            have eX := qh (zdP m1 (r2.take m))
            have dA := qh (show m1.exports = [] from Classical.byContradiction fun q => dy.o (by rw [tA, zdP, if_neg q]))
            have dJ : Hq (zq c.toNat m1 (r2.take m) = _) := qh ((congrArg (fun i => zq i m1 (r2.take m)) tA).trans ((zdP m1 (r2.take m)).trans (if_pos dA.o)))
            have di := qh (PR.stepNe dJ.o dy.o)
            have b8 := bfQ (a := (c.toNat : Int)) (b := 8) (by omega)
            have b0 := bfQ (a := (c.toNat : Int)) (b := 0) (by omega)
            have b1 := bfQ (a := (c.toNat : Int)) (b := 1) (by omega)
            have b2 := bfQ (a := (c.toNat : Int)) (b := 2) (by omega)
            have b4 := bfQ (a := (c.toNat : Int)) (b := 4) (by omega)
            have b5 := bfQ (a := (c.toNat : Int)) (b := 5) (by omega)
            have b6 := bfQ (a := (c.toNat : Int)) (b := 6) (by omega)
            have b3 := bfQ (a := (c.toNat : Int)) (b := 3) (by omega)
            have b7 : ((c.toNat : Int) == 7) = true := by rw [beq_iff_eq]; omega
            clear tA eX
            go_wp2_with fail
            refine (zf3 byrR (fun k => k = gb) (fun k => k = gr) gr pe pu L (r2.take m) w5 bT.o.2.2.2.2.2 b 9 _ _ eL.o.blk (show (yg m1 v1)[9]? = some (.slice none 0 0) from by rw [show (yg m1 v1)[9]? = some v1.exports from rfl, eL.o.fresh.exports dA.o]) bQ.o.2.1 bQ.o.2.2 HH.o.lb di.o).mono ?_
            rintro e w6 (⟨x, rr, hr, rfl, k1, ⟨v, k2, k3, kz⟩, k4⟩ | ⟨hr, u, rfl, hv, hs, k4⟩)
            rotate_left
            ·have HB := qh (anQ (PR.stepBad cj.o (PR.stepBad dJ.o hr)) (anQ hv (anQ hs (iZ.o _ k4))))
             clear hr hv hs k4
             obtain ⟨p, dR, pT, rfl, dM, cW⟩ := HB.o.2.1
             go_wp2
             go_ret
             exact .inr ⟨HB.o.1, _, rfl, HB.o.2.1, HB.o.2.2.1, HB.o.2.2.2⟩
            have hq := PR.step dJ.o hr
            have eS := qh (PR.step cj.o hq)
            have cN := eL.o.rest HH.o bQ.o.1 (U := fun _ => False) (fun k e => e.elim) (k4.mono (fun _ _ e => e.elim .inl (fun e => .inr (.inl e))))
            have dB := dm.o.parts HH.o (Nat.le_of_lt (Nat.lt_of_le_of_lt bT.o.2.2.1 bT.o.2.2.2.1)) bT.o.2.1 k4
            have cU := dm.o.newA (W5 := w5) (W6 := w6) bT.o.2.1.size
            have ez : Hq (EM S D F g pe pu L b w (r2.drop m) { m1 with exports := x } { v1 with exports := v } w6) :=
             ⟨cN.1, by simpa using k2, dB.1.set_exports (Lay.mono _ k3 cU), dB.2.1, dB.2.2, dm.o.cl, cN.2, { dm.o.fresh with exports := kz }, dw.o.1, dw.o.2⟩
            have eP := qh (S.left_is ez.o.rx.is)
            clear k1 k2 k3 k4 cN dB cU hr hq kz
            go_wp2
            go_roundw
            case rel => exact ⟨f1, _, _, _, eS.o, ez.o⟩
            case measure => rw [eP.o, fJ.o]; exact dd.o
           ·by_cases hc9 : c.toNat = 9
            ·as_aux_lemma =>
             have eX := qh (zdQ m1 (r2.take m))
             have dA := qh (show m1.elements = [] from Classical.byContradiction fun q => dy.o (by rw [hc9, zdQ, if_neg q]))
             have dJ : Hq (zq c.toNat m1 (r2.take m) = _) := qh ((congrArg (fun i => zq i m1 (r2.take m)) hc9).trans ((zdQ m1 (r2.take m)).trans (if_pos dA.o)))
             have di := qh (PR.stepNe dJ.o dy.o)
             have b8 := bfQ (a := (c.toNat : Int)) (b := 8) (by omega)
             have b0 := bfQ (a := (c.toNat : Int)) (b := 0) (by omega)
             have b1 := bfQ (a := (c.toNat : Int)) (b := 1) (by omega)
             have b2 := bfQ (a := (c.toNat : Int)) (b := 2) (by omega)
             have b4 := bfQ (a := (c.toNat : Int)) (b := 4) (by omega)
             have b5 := bfQ (a := (c.toNat : Int)) (b := 5) (by omega)
             have b6 := bfQ (a := (c.toNat : Int)) (b := 6) (by omega)
             have b3 := bfQ (a := (c.toNat : Int)) (b := 3) (by omega)
             have b7 := bfQ (a := (c.toNat : Int)) (b := 7) (by omega)
             have b9 : ((c.toNat : Int) == 9) = true := by rw [beq_iff_eq]; omega
             clear hc9 eX
             go_wp2_with fail
             refine (zeK byrR (fun k => k = gb) (fun k => k = gr) gr pe pu L (r2.take m) w5 bT.o.2.2.2.2.2 b 7 _ _ eL.o.blk (show (yg m1 v1)[7]? = some (.slice none 0 0) from by rw [show (yg m1 v1)[7]? = some v1.elements from rfl, eL.o.fresh.elements dA.o]) bQ.o.2.1 bQ.o.2.2 HH.o.lb di.o).mono ?_
             rintro e w6 (⟨x, rr, hr, rfl, k1, ⟨v, k2, k3, kz⟩, k4⟩ | ⟨hr, u, rfl, hv, hs, k4⟩)
             rotate_left
             ·have HB := qh (anQ (PR.stepBad cj.o (PR.stepBad dJ.o hr)) (anQ hv (anQ hs (iZ.o _ k4))))
              clear hr hv hs k4
              obtain ⟨p, dR, pT, rfl, dM, cW⟩ := HB.o.2.1
              go_wp2
              go_ret
              exact .inr ⟨HB.o.1, _, rfl, HB.o.2.1, HB.o.2.2.1, HB.o.2.2.2⟩
             have hq := PR.step dJ.o hr
             have eS := qh (PR.step cj.o hq)
             have cN := eL.o.rest HH.o bQ.o.1 (U := fun _ => False) (fun k e => e.elim) (k4.mono (fun _ _ e => e.elim .inl (fun e => .inr (.inl e))))
             have dB := dm.o.parts HH.o (Nat.le_of_lt (Nat.lt_of_le_of_lt bT.o.2.2.1 bT.o.2.2.2.1)) bT.o.2.1 k4
             have cU := dm.o.newA (W5 := w5) (W6 := w6) bT.o.2.1.size
             have ez : Hq (EM S D F g pe pu L b w (r2.drop m) { m1 with elements := x } { v1 with elements := v } w6) :=
              ⟨cN.1, by simpa using k2, dB.1.set_elements (Lay.mono _ k3 cU), dB.2.1, dB.2.2, dm.o.cl, cN.2, { dm.o.fresh with elements := kz }, dw.o.1, dw.o.2⟩
             have eP := qh (S.left_is ez.o.rx.is)
             clear k1 k2 k3 k4 cN dB cU hr hq kz
             go_wp2
             go_roundw
             case rel => exact ⟨f1, _, _, _, eS.o, ez.o⟩
             case measure => rw [eP.o, fJ.o]; exact dd.o
            ·by_cases hc11 : c.toNat = 11
             ·as_aux_lemma =>
              have eX := qh (zca m1 (r2.take m))
              have dA := qh (show m1.datas = [] from Classical.byContradiction fun q => dy.o (by rw [hc11, zca, if_neg q]))
              have dJ : Hq (zq c.toNat m1 (r2.take m) = _) := qh ((congrArg (fun i => zq i m1 (r2.take m)) hc11).trans ((zca m1 (r2.take m)).trans (if_pos dA.o)))
              have di := qh (PR.stepNe dJ.o dy.o)
              have b8 := bfQ (a := (c.toNat : Int)) (b := 8) (by omega)
              have b0 := bfQ (a := (c.toNat : Int)) (b := 0) (by omega)
              have b1 := bfQ (a := (c.toNat : Int)) (b := 1) (by omega)
              have b2 := bfQ (a := (c.toNat : Int)) (b := 2) (by omega)
              have b4 := bfQ (a := (c.toNat : Int)) (b := 4) (by omega)
              have b5 := bfQ (a := (c.toNat : Int)) (b := 5) (by omega)
              have b6 := bfQ (a := (c.toNat : Int)) (b := 6) (by omega)
              have b3 := bfQ (a := (c.toNat : Int)) (b := 3) (by omega)
              have b7 := bfQ (a := (c.toNat : Int)) (b := 7) (by omega)
              have b9 := bfQ (a := (c.toNat : Int)) (b := 9) (by omega)
              have Al : ((c.toNat : Int) == 11) = true := by rw [beq_iff_eq]; omega
              clear hc11 eX
              go_wp2_with fail
              refine (ziz byrR (fun k => k = gb) (fun k => k = gr) gr pe pu L (r2.take m) w5 bT.o.2.2.2.2.2 b 11 _ _ eL.o.blk (show (yg m1 v1)[11]? = some (.slice none 0 0) from by rw [show (yg m1 v1)[11]? = some v1.datas from rfl, eL.o.fresh.datas dA.o]) bQ.o.2.1 bQ.o.2.2 HH.o.lb di.o).mono ?_
              rintro e w6 (⟨x, rr, hr, rfl, k1, ⟨v, k2, k3, kz⟩, k4⟩ | ⟨hr, u, rfl, hv, hs, k4⟩)
              rotate_left
              ·have HB := qh (anQ (PR.stepBad cj.o (PR.stepBad dJ.o hr)) (anQ hv (anQ hs (iZ.o _ k4))))
               clear hr hv hs k4
               obtain ⟨p, dR, pT, rfl, dM, cW⟩ := HB.o.2.1
               go_wp2
               go_ret
               exact .inr ⟨HB.o.1, _, rfl, HB.o.2.1, HB.o.2.2.1, HB.o.2.2.2⟩
              have hq := PR.step dJ.o hr
              have eS := qh (PR.step cj.o hq)
              have cN := eL.o.rest HH.o bQ.o.1 (U := fun _ => False) (fun k e => e.elim) (k4.mono (fun _ _ e => e.elim .inl (fun e => .inr (.inl e))))
              have dB := dm.o.parts HH.o (Nat.le_of_lt (Nat.lt_of_le_of_lt bT.o.2.2.1 bT.o.2.2.2.1)) bT.o.2.1 k4
              have cU := dm.o.newA (W5 := w5) (W6 := w6) bT.o.2.1.size
              have ez : Hq (EM S D F g pe pu L b w (r2.drop m) { m1 with datas := x } { v1 with datas := v } w6) :=
               ⟨cN.1, by simpa using k2, dB.1.set_datas (Lay.mono _ k3 cU), dB.2.1, dB.2.2, dm.o.cl, cN.2, { dm.o.fresh with datas := kz }, dw.o.1, dw.o.2⟩
              have eP := qh (S.left_is ez.o.rx.is)
              clear k1 k2 k3 k4 cN dB cU hr hq kz
              go_wp2
              go_roundw
              case rel => exact ⟨f1, _, _, _, eS.o, ez.o⟩
              case measure => rw [eP.o, fJ.o]; exact dd.o
             ·by_cases hc10 : c.toNat = 10
              ·as_aux_lemma =>
               have eX := qh (zb9 m1 (r2.take m))
               have dA := qh (show m1.codes = [] from Classical.byContradiction fun q => dy.o (by rw [hc10, zb9, if_neg q]))
               have dJ : Hq (zq c.toNat m1 (r2.take m) = _) := qh ((congrArg (fun i => zq i m1 (r2.take m)) hc10).trans ((zb9 m1 (r2.take m)).trans (if_pos dA.o)))
               have di := qh (PR.stepNe dJ.o dy.o)
               have b8 := bfQ (a := (c.toNat : Int)) (b := 8) (by omega)
               have b0 := bfQ (a := (c.toNat : Int)) (b := 0) (by omega)
               have b1 := bfQ (a := (c.toNat : Int)) (b := 1) (by omega)
               have b2 := bfQ (a := (c.toNat : Int)) (b := 2) (by omega)
               have b4 := bfQ (a := (c.toNat : Int)) (b := 4) (by omega)
               have b5 := bfQ (a := (c.toNat : Int)) (b := 5) (by omega)
               have b6 := bfQ (a := (c.toNat : Int)) (b := 6) (by omega)
               have b3 := bfQ (a := (c.toNat : Int)) (b := 3) (by omega)
               have b7 := bfQ (a := (c.toNat : Int)) (b := 7) (by omega)
               have b9 := bfQ (a := (c.toNat : Int)) (b := 9) (by omega)
               have Al := bfQ (a := (c.toNat : Int)) (b := 11) (by omega)
               have Dl : ((c.toNat : Int) == 10) = true := by rw [beq_iff_eq]; omega
               clear hc10 eX
               go_wp2_with fail
               refine (ziy byrR (fun k => k = gb) (fun k => k = gr) gr pe pu L (r2.take m) w5 bT.o.2.2.2.2.2 b 10 _ _ eL.o.blk (show (yg m1 v1)[10]? = some (.slice none 0 0) from by rw [show (yg m1 v1)[10]? = some v1.codes from rfl, eL.o.fresh.codes dA.o]) bQ.o.2.1 bQ.o.2.2 HH.o.lb di.o).mono ?_
               rintro e w6 (⟨x, rr, hr, rfl, k1, ⟨v, k2, k3, kz⟩, k4⟩ | ⟨hr, u, rfl, hv, hs, k4⟩)
               rotate_left
               ·have HB := qh (anQ (PR.stepBad cj.o (PR.stepBad dJ.o hr)) (anQ hv (anQ hs (iZ.o _ k4))))
                clear hr hv hs k4
                obtain ⟨p, dR, pT, rfl, dM, cW⟩ := HB.o.2.1
                go_wp2
                go_ret
                exact .inr ⟨HB.o.1, _, rfl, HB.o.2.1, HB.o.2.2.1, HB.o.2.2.2⟩
               have hq := PR.step dJ.o hr
               have eS := qh (PR.step cj.o hq)
               have cN := eL.o.rest HH.o bQ.o.1 (U := fun _ => False) (fun k e => e.elim) (k4.mono (fun _ _ e => e.elim .inl (fun e => .inr (.inl e))))
               have dB := dm.o.parts HH.o (Nat.le_of_lt (Nat.lt_of_le_of_lt bT.o.2.2.1 bT.o.2.2.2.1)) bT.o.2.1 k4
               have cU := dm.o.newA (W5 := w5) (W6 := w6) bT.o.2.1.size
               have ez : Hq (EM S D F g pe pu L b w (r2.drop m) { m1 with codes := x } { v1 with codes := v } w6) :=
                ⟨cN.1, by simpa using k2, dB.1.set_codes (Lay.mono _ k3 cU), dB.2.1, dB.2.2, dm.o.cl, cN.2, { dm.o.fresh with codes := kz }, dw.o.1, dw.o.2⟩
               have eP := qh (S.left_is ez.o.rx.is)
               clear k1 k2 k3 k4 cN dB cU hr hq kz
               go_wp2
               go_roundw
               case rel => exact ⟨f1, _, _, _, eS.o, ez.o⟩
               case measure => rw [eP.o, fJ.o]; exact dd.o
              ·exact absurd (by unfold zq; rw [if_neg dr, if_neg cw, if_neg bS, if_neg fH, if_neg eM, if_neg iT, if_neg fp, if_neg tA, if_neg hc8, if_neg hc9, if_neg hc10, if_neg hc11]) dy.o
  ·have rW := qh (hV.o.2.read HH.o k1 k4 (fun _ e => .inl e) (by simp))
   subst hr
   have aV := qh hV.o.1
   clear hV k1 k4
   go_wp2
   go_ret
   exact .inl ⟨m1, v1, aV.o, rfl, rW.o⟩
theorem zhb (p : Addr) (w : World) : (binOp .neq 79 (eofV p) (eofV p)).run Tryz.prog w = .ok (.bool false) w := by
 obtain ⟨i, hi, hc⟩ := Option.map_eq_some_iff.1 (show (Tryz.prog.info? 380).map (·.comparable) = some true from by kernel_rfl)
 obtain ⟨j, hj, _⟩ := Option.map_eq_some_iff.1 (show (Tryz.prog.info? 382).map (fun _ => true) = some true from by kernel_rfl)
 simp only [binOp]
 simp [Op.equal, Op.maxDepth, run_equalIn_iface_ptr_same w 9998 p Tryz.underlying79 Tryz.underlying380 hi hc hj]
variable {w : World}
theorem zf5 {p q : Addr} {ca cb : Array Value} {ta tb : TypeId} (ag : p ≠ q) (ha : Blk w p.block ca ta) (hb : Blk w q.block cb tb) : (binOp .neq 79 (eofV p) (eofV q)).run Tryz.prog w = .ok (.bool true) w := by
 obtain ⟨i, hi, hc⟩ := Option.map_eq_some_iff.1 (show (Tryz.prog.info? 380).map (·.comparable) = some true from by kernel_rfl)
 obtain ⟨j, hj, hz⟩ := Option.map_eq_some_iff.1 (show (Tryz.prog.info? 382).map (·.size) = some 1 from by kernel_rfl)
 simp only [binOp]
 simp [Op.equal, Op.maxDepth, run_equalIn_iface_ptr_other w 9998 Tryz.underlying79 Tryz.underlying380 hi hc hj (by omega) ag ha hb]
theorem zeM (m : Mod) : FreshE m .zero := ⟨fun _ => rfl, fun _ => rfl, fun _ => rfl, fun _ => rfl, fun _ => rfl, fun _ => rfl, fun _ => rfl, fun _ => rfl, fun _ => rfl⟩
def zaR (F : Nat → Prop) (bs : List UInt8) (w : World) (e : Ending) (w' : World) : Prop :=
 (∃ m v gm, yA bs = .ok m [] ∧ e = .returned (.tuple #[.pointer (some ⟨gm, 0, none⟩), .nilIface]) ∧ Blk w' gm (yg m v) 194 ∧ EAt (aN w w') w' m v ∧ Lay.cus.slice.rd (aN w w') w' [v.customs] m.customs ∧ Lay.nam.slice.rd (aN w w') w' [v.locals] m.locals ∧ Fr F w w') ∨
  (yA bs = .bad ∧ (∃ p, e = .returned (.tuple #[.pointer none, eofV p])) ∧ Fr F w w')
variable {bs : List UInt8}
theorem zcV (h : RdX S D F g pe pu L bs w) (ag : yA bs ≠ .any) (hl : bs.length ≤ 1099511627776) :
 Calls Tryz.prog 55 #[.iface S.T (.pointer (some ⟨g, 0, none⟩))] w fun e w' => zaR F bs w e w' := by
 have H := qh h
 have Hl := qh (S.lt h.is)
 have ag := qh ag
 have dQ := qh (yA.eq_1 bs)
 clear h
 go_enter Tryz.func55, Tryz.ntmps55
 go_wp2_with fail
 refine (zdJ H.o).mono ?_
 rintro e w1 (⟨r1, de, rfl, k1, k2⟩ | ⟨de, ⟨p, rfl⟩, k2⟩)
 rotate_left
 ·have cZ : Hq (yA bs = .bad) := by
   rw [dQ.o]
   refine if_neg (fun e => ?_)
   match bs, e with
   | a :: b :: c :: d :: r, e =>
    simp only [List.take_succ_cons, Z2, List.cons.injEq] at e
    obtain ⟨rfl, rfl, rfl, rfl, -⟩ := e
    exact de r rfl
  have HF := qh k2
  clear de k2
  go_wp2
  go_ret2
  exact .inr ⟨cZ.o, ⟨p, rfl⟩, HF.o⟩
 have H1 := qh (anQ k1 (anQ de k2))
 clear k1 de k2
 go_wp2_with fail
 refine (zb7 H1.o.1).mono ?_
 rintro e w2 (⟨r2, ct, rfl, k1, k2⟩ | ⟨ct, ⟨p, rfl⟩, k2⟩)
 rotate_left
 ·have cZ : Hq (yA bs = .bad) := by
   rw [dQ.o, H1.o.2.1]
   refine if_neg (fun e => ?_)
   match r1, e with
   | a :: b :: c :: d :: r, e =>
    simp only [List.take_succ_cons, Z2, List.cons.injEq] at e
    obtain ⟨-, -, -, -, rfl, rfl, rfl, rfl, -⟩ := e
    exact ct r rfl
  have HF := qh (Fr.trans H1.o.2.2 k2 (U := F) (fun _ _ e => e) (fun _ _ e => e))
  clear ct k2
  go_wp2
  go_ret2
  exact .inr ⟨cZ.o, ⟨p, rfl⟩, HF.o⟩
 have H2 := qh (anQ k1 (Fr.trans H1.o.2.2 k2 (U := F) (fun _ _ e => e) (fun _ _ e => e)))
 have bz := qh (show bs = 0 :: 97 :: 115 :: 109 :: 1 :: 0 :: 0 :: 0 :: r2 from by rw [H1.o.2.1, ct])
 have et := qh (show yA bs = yf (bs.length + 1) Mod.none r2 from by
  rw [dQ.o, if_pos (by rw [bz.o]; rfl), bz.o]; rfl)
 clear k1 ct k2 H1
 obtain ⟨gm, ir⟩ := exQ (w2.heap.size)
 have hx := za w2 (.cells (yg Mod.none .zero) 194)
 have bo : Hq (¬ F gm ∧ ¬ D gm ∧ L ≤ gm ∧ w.heap.size ≤ gm) := by
  have h1 := S.lt H2.o.1.is
  exact ⟨fun q => by have := h1.2.1 _ q; omega, fun q => by have := (h1.2.2 _ q).1; omega, by have := H2.o.1.sp.lw; omega, by have := H2.o.2.size; omega⟩
 have H3 : Hq (RdX S D F g pe pu L r2 (w2.alloc (.cells (yg Mod.none .zero) 194)) ∧ Blk (w2.alloc (.cells (yg Mod.none .zero) 194)) gm (yg Mod.none .zero) 194 ∧ Fr F w (w2.alloc (.cells (yg Mod.none .zero) 194)) ∧ gm < (w2.alloc (.cells (yg Mod.none .zero) 194)).heap.size) := ⟨H2.o.1.ext hx, by rw [← ir]; exact zl _ _ _, H2.o.2.ext hx, by rw [← ir]; simp⟩
 have iC : w2.alloc (.cells (yg Mod.none .zero) 194) = w2.alloc (.cells #[.int .u32 0, .pointer none, .slice none 0 0, .slice none 0 0, .slice none 0 0, .slice none 0 0, .slice none 0 0, .slice none 0 0, .slice none 0 0, .slice none 0 0, .slice none 0 0, .slice none 0 0, .slice none 0 0, .string ⟨#[]⟩, .slice none 0 0, .slice none 0 0] 194) := rfl
 have iC := qh iC
 clear hx H2
 go_wp2_with fail
 rw [← iC.o]
 clear iC
 generalize w2.alloc (.cells (yg Mod.none .zero) 194) = w3 at *
 have sY := qh (S.lt H3.o.1.is)
 have A1 : Hq (EH D F L gm w3 ∧ EM S D F g pe pu L gm w3 r2 Mod.none .zero w3) := by
  refine ⟨⟨bo.o.1, bo.o.2.1, bo.o.2.2.1, H3.o.2.2.2, sY.o.2.1, fun k hk => (sY.o.2.2 k hk).1, H3.o.1.sp.lw⟩, H3.o.1, H3.o.2.1, ⟨.inl ⟨rfl, rfl, rfl⟩, zH _ _ _, zH _ _ _, zH _ _ _, zH _ _ _, zH _ _ _, zH _ _ _, zH _ _ _, zH _ _ _, zH _ _ _, zH _ _ _, zH _ _ _, by decide⟩, zv _ _ _ _ _, zv _ _ _ _ _, (fun k hk => by cases hk), Fr.refl _ _, zeM _, ?_, ?_⟩
  ·have := congrArg List.length bz.o
   simp only [List.length_cons] at this
   show 0 + r2.length ≤ _
   omega
  ·have := congrArg List.length bz.o
   simp only [List.length_cons] at this
   show 0 + r2.length ≤ _
   omega
 refine (zeL (bs.length + 1) r2 Mod.none .zero w3 A1.o.1 A1.o.2 (by rw [← et.o]; exact ag.o)).mono ?_
 rintro e w4 (⟨m, v, hr, rfl, k1⟩ | ⟨hr, u, rfl, hv, hs, k4⟩)
 ·have H4 := qh (anQ hr k1)
  have tK := k1.rx.sp.eof
  have wi := zhb pe
  clear hr k1
  go_wp2
  go_ret2
  have hE := H4.o.2
  have i5 := H3.o.2.2.1.size
  have eA := hE.fr.size
  refine .inl ⟨m, v, gm, by rw [et.o]; exact H4.o.1, rfl, hE.blk, hE.at'.mono (fun k hk => ⟨by have := hk.1; omega, hk.2.1⟩), ?_, ?_, ?_⟩
  ·exact Lay.mono _ ((hE.cus.weak (X' := fun k => k < w3.heap.size) (fun k e => .inl e)).slice (fun k hk e => by omega)) (fun k hk => ⟨by have := hk.1; omega, hk.2⟩)
  ·exact Lay.mono _ ((hE.loc.any z7 (X' := fun k => k < w3.heap.size)).slice (fun k hk e => by omega)) (fun k hk => ⟨by have := hk.1; omega, hk.2⟩)
  ·exact Fr.trans H3.o.2.2.1 hE.fr (fun _ _ e => e) (fun k hk e => e.elim id (fun e => by have := bo.o.2.2.2; omega))
 ·have H4 := qh (anQ hr (anQ hv (anQ hs k4)))
  clear hr hv hs k4
  obtain ⟨p, dR, pT, rfl, dM, cW⟩ := H4.o.2.1
  obtain ⟨kJ, eT, AL⟩ := H4.o.2.2.1.be
  have tK := H4.o.2.2.1.eof
  have wi := zf5 dM cW AL
  clear cW AL dM
  go_wp2
  go_ret2
  exact .inr ⟨by rw [et.o]; exact H4.o.1, ⟨p, rfl⟩, Fr.trans H3.o.2.2.1 H4.o.2.2.2 (fun _ _ e => e) (fun k hk e => e.elim id (fun e => by have := bo.o.2.2.2; omega))⟩
variable {w1 w' : World}
theorem zaR.o {F' : Nat → Prop} {e : Ending} (h : zaR F' bs w1 e w') (hx : Ext w w1) (hF : ∀ k, F' k → F k ∨ w.heap.size ≤ k) : zaR F bs w e w' := by
 have hs := hx.size
 have hA : ∀ k, aN w1 w' k → aN w w' k := fun k hk => ⟨by have := hk.1; omega, hk.2⟩
 rcases h with ⟨m, v, gm, h1, h2, h3, h4, h5, h6, h7⟩ | ⟨h1, h2, h7⟩
 ·exact .inl ⟨m, v, gm, h1, h2, h3, h4.mono hA, Lay.mono _ h5 hA, Lay.mono _ h6 hA, (Ext.fr hx h7).mono (fun k hk e => (hF k e).elim id (fun q => by omega))⟩
 ·exact .inr ⟨h1, h2, (Ext.fr hx h7).mono (fun k hk e => (hF k e).elim id (fun q => by omega))⟩
theorem zcW {R : Rdr} (h : RdX R D F g pe pu L bs w) (ag : yA bs ≠ .any) (hl : bs.length ≤ 1099511627776) :
 Calls Tryz.prog 18 #[.iface R.T (.pointer (some ⟨g, 0, none⟩))] w fun e w' => zaR F bs w e w' := by
 have H := qh h
 have Hl := qh (R.lt h.is)
 have ag := qh ag
 clear h
 go_enter Tryz.func18, Tryz.ntmps18
 obtain ⟨ge, cm⟩ := exQ (w.heap.size)
 have hx := za w (.cells #[.iface R.T (.pointer (some ⟨g, 0, none⟩)), .int .i64 0] 155)
 have H1 : Hq (RdX (encR R) D (fun k => k = ge ∨ F k) ge pe pu L bs (w.alloc (.cells #[.iface R.T (.pointer (some ⟨g, 0, none⟩)), .int .i64 0] 155)) ∧ Ext w (w.alloc (.cells #[.iface R.T (.pointer (some ⟨g, 0, none⟩)), .int .i64 0] 155))) := by
  have hb : Blk (w.alloc (.cells #[.iface R.T (.pointer (some ⟨g, 0, none⟩)), .int .i64 0] 155)) ge #[.iface R.T (.pointer (some ⟨g, 0, none⟩)), .int .i64 0] 155 := by rw [← cm]; exact zl _ _ _
  have h1 := (H.o.ext hx)
  refine ⟨⟨⟨g, F, 0, hb, h1.is, fun q => by have := Hl.o.2.1 _ q; omega, fun q => by have := (Hl.o.2.2 _ q).1; omega, fun k => Iff.rfl⟩, h1.sp, fun k e => e.elim (fun e => by have := H.o.sp.lw; omega) (H.o.hF k), h1.len⟩, hx⟩
 clear hx
 go_wp2_with fail
 generalize w.alloc (.cells #[.iface R.T (.pointer (some ⟨g, 0, none⟩)), .int .i64 0] 155) = w1 at *
 refine (zcV H1.o.1 ag.o hl).mono ?_
 intro e w2 h2
 have h2 := h2.o (F := F) (w := w) H1.o.2 (fun k e => e.elim (fun e => .inr (by omega)) .inl)
 rcases h2 with ⟨m, v, gm, h3, rfl, h4⟩ | ⟨h3, ⟨p, rfl⟩, h4⟩
 ·have H2 := qh (anQ h3 h4)
  clear h3 h4 H1
  go_wp2
  go_ret2
  exact .inl ⟨m, v, gm, H2.o.1, rfl, H2.o.2⟩
 ·have H2 := qh (anQ h3 h4)
  clear h3 h4 H1
  go_wp2
  go_ret2
  exact .inr ⟨H2.o.1, ⟨p, rfl⟩, H2.o.2⟩
def IsR (D : Nat → Prop) (g : Nat) (bs : List UInt8) (w : World) : Prop :=
 ∃ (aa : Option Addr) (cap : Nat) (pp : Option Addr) (pn pc at' : Nat) (ps : List Int), Blk w g #[.slice aa bs.length cap, .slice pp pn pc, .int .i64 at'] 84 ∧ Lay.u8.slice.rd D w [.slice aa bs.length cap] bs ∧
  Lay.int.slice.rd D w [.slice pp pn pc] ps ∧ at' + bs.length ≤ 4611686018427387904 ∧ ∀ k, D k → k < w.heap.size ∧ k ≠ g
theorem IsR.lt (h : IsR D g bs w) : g < w.heap.size ∧ ∀ k, D k → k < w.heap.size ∧ k ≠ g := by
 obtain ⟨aa, cap, pp, pn, pc, at', ps, hb, h1, h2, h3, h4⟩ := h
 exact ⟨hb.lt, h4⟩
theorem IsR.frame {S : Nat → Prop} (h : IsR D g bs w) (hf : Fr S w w') (hg : ¬ S g) (hD : ∀ k, D k → ¬ S k) : IsR D g bs w' := by
 obtain ⟨aa, cap, pp, pn, pc, at', ps, hb, h1, h2, h3, h4⟩ := h
 exact ⟨aa, cap, pp, pn, pc, at', ps, hb.fr hf hg, Lay.fr h1 hf (fun k hk => ⟨(h4 k hk).1, hD k hk⟩), Lay.fr h2 hf (fun k hk => ⟨(h4 k hk).1, hD k hk⟩), h3, fun k hk => ⟨nqQ (h4 k hk).1 hf.size, (h4 k hk).2⟩⟩
theorem zaj (D : Nat → Prop) (g : Nat) (p v : Value) (w : World) (h : IsR D g [] w) (hv : w.cell? js = some v) :
 Calls Tryz.prog 205 #[.pointer (some ⟨g, 0, none⟩), p] w fun e w' => e = .returned (.tuple #[.int .i64 0, v]) ∧ IsR D g [] w' ∧ Fr (fun k => k = g) w w' := by
 have H := qh h
 obtain ⟨aa, cap, pp, pn, pc, at', ps, hb, h1, h2, h3, h4⟩ := h
 have hc := hb.cell
 clear h1 h2 h3 h4 hb
 go_enter Tryz.func205, Tryz.ntmps205
 go_wp2
 go_quiet (fail)
 go_wp2
 go_ret2
 have hx : Ext w (w.drewN nq) := (Fr.refl _ w).drewN _
 exact ⟨rfl, IsR.frame H.o hx (fun h => h) (fun _ _ h => h), hx.to⟩
theorem zap {n uf : Nat} {aa uy pp : Option Addr} {cap pn pc : Nat} {ps : List Int} (h1 : Lay.u8.slice.rd D w [.slice aa bs.length cap] bs) (h2 : Lay.int.slice.rd D w [.slice pp pn pc] ps) (h4 : ∀ k, D k → k < w.heap.size ∧ k ≠ g) (hD : ¬ D b)
 (hf : Fr (fun k => k = g ∨ k = b) w w1) (hb : Blk w1 g #[.slice uy bs.length cap, .slice pp pn pc, .int .i64 uf] 84) (hn : n ≤ bs.length) (h3 : uf + (bs.length - n) ≤ 4611686018427387904) :
 IsR D g (bs.drop n) (w1.setCell ⟨g, 0, none⟩ (.slice (aa.map (·.add n)) (bs.length - n) (cap - n))) ∧ (cap = n → IsR D g (bs.drop n) (w1.setCell ⟨g, 0, none⟩ (.slice aa (bs.length - n) 0))) := by
 have hX : ∀ v, Fr (fun k => k = g ∨ k = b) w (w1.setCell ⟨g, 0, none⟩ v) := fun v => hf.setCell (.inl (.inl rfl)) v
 have hk : ∀ k, D k → k < w.heap.size ∧ ¬ (k = g ∨ k = b) := fun k hk => ⟨(h4 k hk).1, fun e => by
  rcases e with e | rfl
  ·exact (h4 k hk).2 e
  ·exact hD hk⟩
 have hl := List.length_drop (l := bs) (i := n)
 refine ⟨⟨_, cap - n, pp, pn, pc, uf, ps, ?_, Lay.fr (zbT h1 hn) (hX _) hk, Lay.fr h2 (hX _) hk, by omega, fun k mY => ⟨nqQ (h4 k mY).1 (hX _).size, (h4 k mY).2⟩⟩,
  fun hc => ⟨aa, 0, pp, pn, pc, uf, ps, ?_, ?_, Lay.fr h2 (hX _) hk, by omega, fun k mY => ⟨nqQ (h4 k mY).1 (hX _).size, (h4 k mY).2⟩⟩⟩
 ·have := hb.set 0 (.slice (aa.map (·.add n)) (bs.length - n) (cap - n))
  rw [hl]; simpa using this
 ·have := hb.set 0 (.slice aa (bs.length - n) 0)
  rw [hl]; simpa using this
 ·obtain ⟨_, _, e, h5, _⟩ := h1
  simp only [List.cons.injEq, Value.slice.injEq, and_true] at e
  obtain ⟨-, -, rfl⟩ := e
  have h0 : (bs.drop n).length = 0 := by omega
  exact ⟨aa, 0, rfl, by omega, by decide, fun hp => by omega⟩
theorem YR (D : Nat → Prop) (g b o m c : Nat) (bs : List UInt8) (cs : Array Value) (Tb : TypeId) (w : World) (h : IsR D g bs w) (hB : Blk w b cs Tb) (cr : o + m ≤ cs.size) (iW : m ≤ c) (cn : c ≤ maxLen) (ag : b ≠ g) (hD : ¬ D b) (hm : 0 < m) (bz : 0 < bs.length) :
 Calls Tryz.prog 205 #[.pointer (some ⟨g, 0, none⟩), .slice (some ⟨b, o, none⟩) m c] w fun e w' => ∃ n : Nat, 0 < n ∧ n ≤ m ∧ n ≤ bs.length ∧ e = .returned (.tuple #[.int .i64 n, .nilIface]) ∧ IsR D g (bs.drop n) w' ∧
  Fr (fun k => k = g ∨ k = b) w w' ∧ Blk w' b (splice cs.toList o (zC (bs.take n))).toArray Tb := by
 obtain ⟨aa, cap, pp, pn, pc, at', ps, hb, h1, h2, h3, h4⟩ := h
 have hc := hb.cell
 have hf := hb.frz
 have kQ : (c : Int) ≤ 9223372036854775807 := by simp only [maxLen] at cn; omega
 by_cases hpn : pn = 0
 ·subst hpn
  have H := qh (anQ hb (anQ h1 (anQ h2 (anQ h3 (anQ h4 (anQ hB (anQ cr (anQ ag hD))))))))
  have d0 : decide ((0:Int) = (bs.length : Int)) = false := by rw [decide_eq_false_iff_not]; omega
  clear hb h1 h2 h3 h4 hB cr ag hD
  go_enter Tryz.func205, Tryz.ntmps205
  go_wp2_with fail
  refine zj (yX (fun k => k = b)) [kT 0, kT 1, kT 2, kT 3, kT 4, kT 5, kT 6, kL 7, kT 8] (by kernel_rfl) (by kernel_rfl) ?_
  simp only [zx, gzQ, gsQ]
  have HC : Hq (∀ W', Fr (fun k => k = b) w.drew W' → ∀ j, W'.cell? ⟨g, j, none⟩ = (#[Value.slice aa bs.length cap, .slice pp 0 pc, .int .i64 at'] : Array Value)[j]?) := fun W' hE => (H.o.1.fr ((zb w).fr hE) (fun e => H.o.2.2.2.2.2.2.2.1 e.symm)).cell
  repeat (apply item_take; rfl; rfl; rfl; rfl; exact fun _ _ _ _ h => h; (intro W e _ k; have q := HC.o W e; go_simp; exact k))
  have cz := qh ((H.o.2.2.2.2.2.1).ext (zb w))
  apply zn; rfl; intro K hK
  refine zds (.tmp 50) (.tmp 54) 22 22 5 rfl Tryz.underlying22 (by kernel_rfl) b o m c cs Tb aa cap bs rfl rfl cz.o H.o.2.2.2.2.2.2.1 (Lay.fr H.o.2.1 (zb w) (fun k hk => ⟨(H.o.2.2.2.2.1 k hk).1, fun h => h⟩)) ?_
  intro w1 bi dI
  refine hK _ _ ?_
  have H2 := qh (anQ bi ((zb w).fr dI))
  have eG : (bs.take m).length ≤ m := by rw [ltQ]; omega
  have fy : (bs.take m).length ≤ bs.length := by rw [ltQ]; omega
  have pi : 0 < (bs.take m).length := by rw [ltQ]; omega
  have mL : Hq (bs.take m = bs.take (bs.take m).length) := by show _ = _; rw [ltQ]; rcases Nat.le_total m bs.length with h | h; rw [Nat.min_eq_left h]; rw [Nat.min_eq_right h, List.take_of_length_le h, tlQ]
  have dw : bs.length ≤ cap ∧ cap ≤ maxLen := by obtain ⟨_, _, e, h1, h2, _⟩ := H.o.2.1; simp only [List.cons.injEq, Value.slice.injEq, and_true] at e; obtain ⟨-, -, rfl⟩ := e; exact ⟨h1, h2⟩
  have bd : (cap : Int) ≤ 9223372036854775807 := by have := dw.2; simp only [maxLen] at this; omega
  have mB := dw.1
  generalize (bs.take m).length = n at *
  have iL := (H.o.1.ext (zb w)).fr dI (fun e => H.o.2.2.2.2.2.2.2.1 e.symm)
  have cw := iL.cell
  have fj := iL.frz
  clear hK K cz bi dI HC hc hf dw iL
  repeat (apply item_take; rfl; rfl; rfl; rfl; exact fun _ _ _ _ h => h; (intro _ _ _ k; go_simp; exact k))
  apply zm
  go_wp2_with fail
  ·go_ret2
   have iL := (H.o.1.fr H2.o.2 (fun e => H.o.2.2.2.2.2.2.2.1 e.symm))
   refine ⟨n, pi, eG, fy, rfl, (zap H.o.2.1 H.o.2.2.1 H.o.2.2.2.2.1 H.o.2.2.2.2.2.2.2.2 (H2.o.2.mono (fun _ _ h => .inr h)) iL fy (by have := H.o.2.2.2.1; omega)).2 (by omega), (H2.o.2.mono (fun _ _ h => .inr h)).setCell (.inl (.inl rfl)) _, ?_⟩
   have := H2.o.1.fr (zf w1 ⟨g, 0, none⟩ (.slice aa (bs.length - n) 0)) H.o.2.2.2.2.2.2.2.1
   rw [mL.o] at this; exact this
  ·go_ret2
   have iL := (H.o.1.fr H2.o.2 (fun e => H.o.2.2.2.2.2.2.2.1 e.symm))
   refine ⟨n, pi, eG, fy, rfl, (zap H.o.2.1 H.o.2.2.1 H.o.2.2.2.2.1 H.o.2.2.2.2.2.2.2.2 (H2.o.2.mono (fun _ _ h => .inr h)) iL fy (by have := H.o.2.2.2.1; omega)).1, (H2.o.2.mono (fun _ _ h => .inr h)).setCell (.inl (.inl rfl)) _, ?_⟩
   have := H2.o.1.fr (zf w1 ⟨g, 0, none⟩ (.slice (aa.map (·.add n)) (bs.length - n) (cap - n))) H.o.2.2.2.2.2.2.2.1
   rw [mL.o] at this; exact this
 ·have vm : ps.length = pn := by obtain ⟨_, _, e, _⟩ := h2; simp only [List.cons.injEq, Value.slice.injEq, and_true] at e; exact e.2.1.symm
  have Ae : pn ≤ maxLen := by obtain ⟨_, _, e, h, h', _⟩ := h2; simp only [List.cons.injEq, Value.slice.injEq, and_true] at e; omega
  have cW : (pn : Int) ≤ 9223372036854775807 := by simp only [maxLen] at Ae; omega
  have iR : (0 : Int) < pn := by omega
  have aj : at' % pn < ps.length := by rw [vm]; exact Nat.mod_lt _ (by omega)
  obtain ⟨pb, po, rfl, Ck, xg, et, dU⟩ := zd4 h2 (at' % pn) aj
  have hr : ((at' : Int).tmod (pn : Int)) = ((at' % pn : Nat) : Int) := rfl
  have ru : ((at' % pn : Nat) : Int) < pn := by omega
  generalize ps[at' % pn] = x at *
  generalize hai : at' % pn = ai at *
  have H := qh (anQ hb (anQ h1 (anQ h2 (anQ h3 (anQ h4 (anQ hB (anQ cr (anQ ag hD))))))))
  have d0 : decide ((0:Int) = (bs.length : Int)) = false := by rw [decide_eq_false_iff_not]; omega
  have ic : (at' : Int) ≤ 4611686018427387904 := by omega
  clear hb h1 h2 h3 h4 hB cr ag hD aj Ck vm Ae hai
  go_enter Tryz.func205, Tryz.ntmps205
  go_wp2_with fail
  go_quiet (fail)
  obtain ⟨q, hq, cV, ev⟩ : ∃ q : Nat, (if (if 1 < x then x else 1) < (m : Int) then if 1 < x then x else 1 else (m : Int)) = (q : Int) ∧ 0 < q ∧ q ≤ m := by
   have h : 0 < (if (if 1 < x then x else 1) < (m : Int) then if 1 < x then x else 1 else (m : Int)) ∧ (if (if 1 < x then x else 1) < (m : Int) then if 1 < x then x else 1 else (m : Int)) ≤ m := by split <;> split <;> omega
   obtain ⟨q, hq⟩ := Int.eq_ofNat_of_zero_le (Int.le_of_lt h.1)
   exact ⟨q, hq, by omega, by omega⟩
  rw [hq]
  have hw := IntKind.wrap_i64 ((at' : Int) + 1)
  have Bu : IntKind.i64.wrap ((at' : Int) + 1) = ((at' + 1 : Nat) : Int) := by rw [hw]; omega
  clear hq hw et dU
  generalize fQ : w.drewN nq = W0 at *
  have ka : Ext w W0 := by rw [← fQ]; exact (Fr.refl _ w).drewN _
  have dr := (H.o.1.ext ka).cell
  have eV := (H.o.1.ext ka).frz
  have xd := qh ka
  clear hc hf xg fQ ka
  generalize (if 1 < x then x else 1) = y at *
  have nK : q ≤ c := nlQ ev iW
  go_wp2_with fail
  have de : Blk (W0.setCell ⟨g, 2, none⟩ (.int .i64 ((at' : Int) + 1))) g #[.slice aa bs.length cap, .slice (some ⟨pb, po, none⟩) pn pc, .int .i64 ((at' + 1 : Nat) : Int)] 84 := by
   have := (H.o.1.ext xd.o).set 2 (.int .i64 ((at' : Int) + 1))
   simpa using this
  have kO : Fr (fun k => k = g) w (W0.setCell ⟨g, 2, none⟩ (.int .i64 ((at' : Int) + 1))) := Fr.setCell (S := fun k => k = g) (p := ⟨g, 2, none⟩) (xd.o.to) (.inl rfl) _
  generalize W0.setCell ⟨g, 2, none⟩ (.int .i64 ((at' : Int) + 1)) = W1 at *
  have HW := qh (anQ de kO)
  clear de kO dr eV xd
  refine zj (yX (fun k => k = b)) [kT 0, kT 1, kT 2, kT 3, kT 4, kT 5, kT 6, kL 7, kT 8] (by kernel_rfl) (by kernel_rfl) ?_
  simp only [zx, gzQ, gsQ]
  have HC : Hq (∀ W', Fr (fun k => k = b) W1.drew W' → ∀ j, W'.cell? ⟨g, j, none⟩ = (#[Value.slice aa bs.length cap, .slice (some ⟨pb, po, none⟩) pn pc, .int .i64 ((at' + 1 : Nat) : Int)] : Array Value)[j]?) := fun W' hE => (HW.o.1.fr ((zb _).fr hE) (fun e => H.o.2.2.2.2.2.2.2.1 e.symm)).cell
  repeat (apply item_take; rfl; rfl; rfl; rfl; exact fun _ _ _ _ h => h; (intro W e _ k; have q := HC.o W e; go_simp; exact k))
  have cz := qh ((H.o.2.2.2.2.2.1).fr (HW.o.2.drew) H.o.2.2.2.2.2.2.2.1)
  apply zn; rfl; intro K hK
  refine zds (.tmp 50) (.tmp 54) 22 22 5 rfl Tryz.underlying22 (by kernel_rfl) b o q c cs Tb aa cap bs rfl rfl cz.o (by have := H.o.2.2.2.2.2.2.1; omega) (Lay.fr H.o.2.1 (HW.o.2.drew) (fun k hk => H.o.2.2.2.2.1 k hk)) ?_
  intro w1 bi dI
  refine hK _ _ ?_
  have H2 := qh (anQ bi (Fr.trans HW.o.2 ((zb W1).fr dI) (U := fun k => k = g ∨ k = b) (fun _ _ h => .inl h) (fun _ _ h => .inr h)))
  have eG : (bs.take q).length ≤ m := by rw [ltQ]; omega
  have fy : (bs.take q).length ≤ bs.length := by rw [ltQ]; omega
  have pi : 0 < (bs.take q).length := by rw [ltQ]; omega
  have mL : Hq (bs.take q = bs.take (bs.take q).length) := by show _ = _; rw [ltQ]; rcases Nat.le_total q bs.length with h | h; rw [Nat.min_eq_left h]; rw [Nat.min_eq_right h, List.take_of_length_le h, tlQ]
  have dw : bs.length ≤ cap ∧ cap ≤ maxLen := by obtain ⟨_, _, e, h1, h2, _⟩ := H.o.2.1; simp only [List.cons.injEq, Value.slice.injEq, and_true] at e; obtain ⟨-, -, rfl⟩ := e; exact ⟨h1, h2⟩
  have bd : (cap : Int) ≤ 9223372036854775807 := by have := dw.2; simp only [maxLen] at this; omega
  have mB := dw.1
  generalize (bs.take q).length = n at *
  have iL := HW.o.1.fr ((zb W1).fr dI) (fun e => H.o.2.2.2.2.2.2.2.1 e.symm)
  have cw := iL.cell
  have fj := iL.frz
  have HG := qh iL
  clear hK K cz bi dI HC dw iL
  repeat (apply item_take; rfl; rfl; rfl; rfl; exact fun _ _ _ _ h => h; (intro _ _ _ k; go_simp; exact k))
  apply zm
  go_wp2_with fail
  ·go_ret2
   refine ⟨n, pi, eG, fy, rfl, (zap H.o.2.1 H.o.2.2.1 H.o.2.2.2.2.1 H.o.2.2.2.2.2.2.2.2 H2.o.2 HG.o fy (by have := H.o.2.2.2.1; omega)).2 (by omega), H2.o.2.setCell (.inl (.inl rfl)) _, ?_⟩
   have := H2.o.1.fr (zf w1 ⟨g, 0, none⟩ (.slice aa (bs.length - n) 0)) H.o.2.2.2.2.2.2.2.1
   rw [mL.o] at this; exact this
  ·go_ret2
   refine ⟨n, pi, eG, fy, rfl, (zap H.o.2.1 H.o.2.2.1 H.o.2.2.2.2.1 H.o.2.2.2.2.2.2.2.2 H2.o.2 HG.o fy (by have := H.o.2.2.2.1; omega)).1, H2.o.2.setCell (.inl (.inl rfl)) _, ?_⟩
   have := H2.o.1.fr (zf w1 ⟨g, 0, none⟩ (.slice (aa.map (·.add n)) (bs.length - n) (cap - n))) H.o.2.2.2.2.2.2.2.1
   rw [mL.o] at this; exact this
noncomputable def zjv : Rdr where
 is D F g bs w := IsR D g bs w ∧ ∀ k, F k ↔ k = g
 lt h := ⟨(h.2 _).2 rfl, fun k hk => by obtain rfl := (h.2 k).1 hk; exact h.1.lt.1, fun k hk => ⟨(h.1.lt.2 k hk).1, fun e => (h.1.lt.2 k hk).2 ((h.2 k).1 e)⟩⟩
 frame h hf hF hD := ⟨h.1.frame hf (hF _ ((h.2 _).2 rfl)) hD, h.2⟩
 T := 82
 f := 205
 nil g W := by kernel_rfl
 meth g W := by kernel_rfl
 call args W := by kernel_rfl
 read D F g b o m c bs cs Tb w h hB cr iW cn hF hD hm bz := by
  refine (YR D g b o m c bs cs Tb w h.1 hB cr iW cn (fun e => hF ((h.2 b).2 e)) hD hm bz).mono ?_
  rintro e w' ⟨n, h0, h1, h2, h3, h4, h5, h6⟩
  exact ⟨n, h0, h1, h2, h3, ⟨h4, h.2⟩, h5.mono (fun k _ e => e.imp (fun e => (h.2 k).2 e) id), h6⟩
 eof D F g b o m c v w h hv _ _ := by
  refine (zaj D g _ v w h.1 hv).mono ?_
  rintro e w' ⟨h3, h4, h5⟩
  exact ⟨h3, ⟨h4, h.2⟩, h5.mono (fun k _ e => (h.2 k).2 e)⟩
 left g w := match w.cell? ⟨g, 0, none⟩ with
  | some (.slice _ n _) => n
  | _ => 0
 left_is h := by
  obtain ⟨⟨aa, cap, pp, pn, pc, at', ps, hb, -, -, -, -⟩, -⟩ := h
  have := hb.cell 0
  simp at this
  rw [this]
end Go.Proofs.YtejgninpjhcgnaaGreatDoor
