/- Texts of this proof, one behind the other. -/
import Derived.Test.YtejgninpjhcgnaaGreatDoorPart5
namespace Go.Proofs.YtejgninpjhcgnaaGreatDoor
open Go.RowKit
set_option linter.unusedSimpArgs false
set_option linter.unusedVariables false
set_option maxRecDepth 100000
set_option maxHeartbeats 8000000
theorem zfG : (Tryz.prog.info? 3).map (fun i => (i.zero, i.size, i.bytes)) = some (some (.int .i64 0), Lay.int.size, 8) := by kernel_rfl
theorem zjn : (Tryz.prog.info? 91).map (fun i => (i.zero, i.size, i.bytes)) = some (some (.agg #[.slice none 0 0, .slice none 0 0]), Lay.ft.size, 48) := by kernel_rfl
theorem j4 (s : St) : -9223372036854775808 ≤ (zk s).1 ∧ (zk s).1 ≤ 9223372036854775807 := by
 have := y4 s
 have e : (zk s).1 = 127 - ((zi s).1 : Int) := rfl
 omega
theorem yr (s : St) : (zk s).2.b.length ≤ s.b.length := by
 have := yc s
 show (if _ then _ else _ : St).b.length ≤ _
 split
 ·exact nzQ _
 ·exact this
def rFT0 (s : St) : St := if (zi s).2.v = 0 ∧ (zi s).1 ≠ 96 then (zi s).2.fail 1 else (zi s).2
def rVTs (s : St) : List Int × St := zW zk s
def rFT (s : St) : FT × St := (⟨(rVTs (rFT0 s)).1, (rVTs (rVTs (rFT0 s)).2).1⟩, (rVTs (rVTs (rFT0 s)).2).2)
def yt (s : St) : List FT × St := zW rFT s
theorem zec (s : St) : (rFT0 s).b.length ≤ s.b.length := by
 have := yc s
 unfold rFT0
 split
 ·exact nzQ _
 ·exact this
variable {α : Type}
theorem zcJ (rd : St → α × St) (h : ∀ s, (rd s).2.b.length ≤ s.b.length) (s : St) : (zW rd s).2.b.length ≤ s.b.length := nlQ (yw rd h _ _) (z0 s).2
theorem zbZ (s : St) : (rVTs s).2.b.length ≤ s.b.length := zcJ _ yr s
theorem zin (s : St) : (rFT s).2.b.length ≤ s.b.length := by
 have h1 := zbZ (rVTs (rFT0 s)).2
 have h2 := zbZ (rFT0 s)
 have h3 := zec s
 have e : (rFT s).2 = (rVTs (rVTs (rFT0 s)).2).2 := by rw [rFT]
 rw [e]
 generalize rVTs (rVTs (rFT0 s)).2 = a at *
 generalize rVTs (rFT0 s) = b at *
 generalize rFT0 s = d at *
 omega
variable {D : Nat → Prop} {g : Nat} {lo : Bool} {s : St} {w : World}
theorem zaF (h : SpR D g lo s w) (hl : s.b.length ≤ 33554432) :
 Calls Tryz.prog 93 #[.pointer (some ⟨g, 0, none⟩)] w fun e w' => ∃ v, e = .returned v ∧ OwnG Lay.ft 91 w.heap.size (fun k => k < w.heap.size) w' v (yt s).1 ∧ SpR D g lo (yt s).2 w' ∧ Fr (fun k => k = g) w w' := by
 have H := qh (anQ h (anQ hl h.lt.1))
 have c6 := qh (z0 s)
 clear h hl
 go_enter Tryz.func93, Tryz.ntmps93
 go_wp2_with fail
 refine (z6 H.o.1 (by have := H.o.2.1; omega)).mono ?_
 rintro e w1 ⟨rfl, k1, k2⟩
 have HR := qh (show yt s = rVec rFT (zo s).1 (zo s).2 from rfl)
 generalize (zo s).1 = n at *
 generalize (zo s).2 = s1 at *
 have H1 := qh (anQ k1 k2)
 clear k1 k2
 have iD : (n : Int) ≤ 33554432 := by have := H.o.2.1; have := c6.o.1; omega
 go_wp2_with fail
 go_loopw [2, 7] (fun s2 s7 w' => ∃ (i : Nat), i ≤ n ∧ s7 = .int .i64 i ∧ Hq (OwnG Lay.ft 91 w.heap.size (fun k => k < w.heap.size) w' s2 (rVec rFT i s1).1 ∧ SpR D g lo (rVec rFT i s1).2 w' ∧ Fr (fun k => k = g) w w')) (fun _ s7 _ => n - (intOf s7).toNat)
 case atStart => exact ⟨0, nzQ _, rfl, zv _ _ _ _ _, H1.o⟩
 case round =>
  obtain ⟨io, Bo, rfl, iN⟩ := hrel
  obtain ⟨gD, gF, gG, rfl⟩ := iN.o.1.shape
  by_cases hlto : io < n
  ·have ia := qh (yD rFT io s1)
   have kq := qh (yP rFT io s1)
   have ie := qh (show (rVec rFT io s1).2.b.length ≤ 33554432 from nlQ (yw rFT zin io s1) (nlQ c6.o.2 H.o.2.1))
   obtain ⟨ro, kY⟩ := exQ (rVec rFT (io + 1) s1)
   have kY := qh kY
   rw [kY.o] at ia
   generalize (rVec rFT io s1).1 = xo at *
   generalize (rVec rFT io s1).2 = so at *
   go_wp2_with fail
   refine (yh iN.o.2.1).mono ?_
   rintro e w2 ⟨rfl, k1, k2⟩
   have eV := qh (show rFT0 so = if (zi so).2.v = 0 ∧ (zi so).1 ≠ 96 then (zi so).2.fail 1 else (zi so).2 from rfl)
   have fm := qh (nlQ (zec so) ie.o)
   have ku := qh (show rFT so = (⟨(rVTs (rFT0 so)).1, (rVTs (rVTs (rFT0 so)).2).1⟩, (rVTs (rVTs (rFT0 so)).2).2) from rfl)
   generalize (zi so).1 = c at *
   generalize (zi so).2 = sb at *
   generalize rFT0 so = sf at *
   have H2 := qh (anQ k1 (anQ (iN.o.1.fr k2 (fun k e => .inl (by have e' : k = g := e; have := H.o.2.2; omega)) (fun k hk e => by have := (iN.o.1.lt k hk).1; have e' : k = g := e; have := H.o.2.2; omega)) (Fr.trans iN.o.2.2 k2 (U := fun k => k = g) (fun _ _ h => h) (fun _ _ h => h))))
   clear k1 k2 iN
   go_wp2_with fail
   refine (z8 H2.o.1).mono ?_
   rintro e n6 ⟨rfl, rfl⟩
   by_cases hv : sb.v = 0
   case' neg =>
    rw [decide_eq_false hv]
    have H3 : Hq (SpR D g lo sf n6 ∧ OwnG Lay.ft 91 w.heap.size (fun k => k < w.heap.size) n6 (.slice gD gF gG) xo ∧ Fr (fun k => k = g) w n6) := ⟨by rw [eV.o, if_neg (fun h => hv h.1)]; exact H2.o.1, H2.o.2⟩
    obtain ⟨w3, rfl⟩ : ∃ w3, w3 = n6 := ⟨_, rfl⟩
    clear hv eV H2
   case' pos =>
    rw [decide_eq_true hv]
    by_cases hc : c = 96
    case' neg =>
     have dc : ((c : Int) != 96) = true := by rw [bne_iff_ne]; omega
     go_wp2_with fail
     refine (zp D g lo sb 1 n6 H2.o.1).mono ?_
     rintro e w3 ⟨rfl, k1, k2⟩
     have H3 : Hq (SpR D g lo sf w3 ∧ OwnG Lay.ft 91 w.heap.size (fun k => k < w.heap.size) w3 (.slice gD gF gG) xo ∧ Fr (fun k => k = g) w w3) := ⟨by rw [eV.o, if_pos ⟨hv, hc⟩]; exact k1, H2.o.2.1.fr k2 (fun k e => .inl (by have e' : k = g := e; have := H.o.2.2; omega)) (fun k hk e => by have := (H2.o.2.1.lt k hk).1; have e' : k = g := e; have := H.o.2.2; omega), Fr.trans H2.o.2.2 k2 (fun _ _ h => h) (fun _ _ h => h)⟩
     clear k1 k2 hv hc eV H2
    case' pos =>
     have dc : ((c : Int) != 96) = false := by rw [bne_eq_false_iff_eq]; omega
     have H3 : Hq (SpR D g lo sf n6 ∧ OwnG Lay.ft 91 w.heap.size (fun k => k < w.heap.size) n6 (.slice gD gF gG) xo ∧ Fr (fun k => k = g) w n6) := ⟨by rw [eV.o, if_neg (fun h => h.2 hc)]; exact H2.o.1, H2.o.2⟩
     obtain ⟨w3, rfl⟩ : ∃ w3, w3 = n6 := ⟨_, rfl⟩
     clear hv hc eV H2
   all_goals
    go_wp2_with fail
    obtain ⟨gt, i3⟩ := exQ (w3.heap.size)
    obtain ⟨W3, fi⟩ := exQ (w3.alloc (.cells #[.slice none 0 0, .slice none 0 0] 91))
    have HG : Hq (SpR D g lo sf W3 ∧ Blk W3 gt #[.slice none 0 0, .slice none 0 0] 91 ∧ Ext w3 W3 ∧ w3.heap.size = gt) := by
     subst fi
     exact ⟨H3.o.1.ext (za _ _), i3 ▸ zl _ _ _, za _ _, i3⟩
    have ag : Hq (g ≠ gt ∧ (∀ k, D k → k ≠ gt) ∧ g < gt) := ⟨by have := H3.o.1.lt.1; omega, fun k hk => by have := (H3.o.1.lt.2 k hk).1; omega, by have := H3.o.1.lt.1; omega⟩
    have wM := qh i3
    rw [fi, i3]
    clear fi i3
    refine (z6 HG.o.1 (by have := fm.o; omega)).mono ?_
    rintro e w4 ⟨rfl, k1, k2⟩
    have rR := qh (show rVTs sf = rVec zk (zo sf).1 (zo sf).2 from rfl)
    have cw := z0 sf
    generalize (zo sf).1 = n1 at *
    generalize (zo sf).2 = u1 at *
    have eG : (n1 : Int) ≤ 33554432 := by have := fm.o; omega
    have re := qh (show u1.b.length ≤ 33554432 from by have := fm.o; omega)
    have pP : Hq (SpR D g lo u1 w4 ∧ Blk w4 gt #[.slice none 0 0, .slice none 0 0] 91 ∧ Fr (fun k => k = g) w3 w4) := ⟨k1, HG.o.2.1.fr k2 (fun e => ag.o.1 e.symm), Ext.fr HG.o.2.2.1 k2⟩
    have kg : Hq (gt < w4.heap.size ∧ g ≠ gt ∧ ∀ k, D k → k ≠ gt ∧ k < w4.heap.size) := ⟨pP.o.2.1.lt, ag.o.1, fun k hk => ⟨ag.o.2.1 k hk, (pP.o.1.lt.2 k hk).1⟩⟩
    clear k1 k2 cw HG
    go_wp2_with fail
    go_loopw [21] (fun iM w' => ∃ (i : Nat) (va : Value), i ≤ n1 ∧ iM = .int .i64 i ∧ Hq (Blk w' gt #[va, .slice none 0 0] 91 ∧ OwnG (Lay.int) 3 w4.heap.size (fun k => k = g ∨ k = gt) w' (va) (rVec zk i u1).1 ∧ SpR D g lo (rVec zk i u1).2 w' ∧ Fr (fun k => k = g ∨ k = gt) w4 w')) (fun iM _ => n1 - (intOf iM).toNat)
    case atStart => exact ⟨0, _, nzQ _, rfl, pP.o.2.1, zv _ _ _ _ _, pP.o.1, Fr.refl _ _⟩
    case round =>
     obtain ⟨i, va, hi, rfl, hV⟩ := hrel
     obtain ⟨ap, am, ar, rfl⟩ := hV.o.2.1.shape
     by_cases aj : i < n1
     ·have aU := qh (yD zk i u1)
      have gM := qh (yP zk i u1)
      have dF := qh (show (rVec zk i u1).2.b.length ≤ 33554432 from nlQ (yw zk yr i u1) re.o)
      obtain ⟨r2, aY⟩ := exQ (rVec zk (i + 1) u1)
      have aY := qh aY
      rw [aY.o] at aU
      generalize (rVec zk i u1).1 = xs at *
      generalize (rVec zk i u1).2 = t0 at *
      have bo := qh (show g < w4.heap.size from (pP.o.1).lt.1)
      go_wp2_with fail
      refine zj (yX (fun k => k = g)) [kT 0, kT 1, kT 2, kR 3, kR 4, kL 5, kT 6, kL 7] (by kernel_rfl) (by kernel_rfl) ?_
      simp only [zx, gzQ, gsQ]
      have HC := qh (fun W' (h : Fr (fun k => k = g) wr.drew W') => (hV.o.1.fr ((zb _).fr h) (fun e => kg.o.2.1 e.symm)).cell)
      have ce : Hq (Blk wr.drew gt #[(.slice ap am ar), .slice none 0 0] 91 ∧ OwnG (Lay.int) 3 w4.heap.size (fun k => k = g ∨ k = gt) wr.drew ((.slice ap am ar)) xs ∧ SpR D g lo t0 wr.drew ∧ Fr (fun k => k = g ∨ k = gt) w4 wr.drew) := ⟨hV.o.1.ext (zb _), hV.o.2.1.ext (zb _), hV.o.2.2.1.ext (zb _), hV.o.2.2.2.ext (zb _)⟩
      have ah := qh (show ∀ k, (Value.slice ap am ar).ownBlock = some k → w4.heap.size ≤ k ∧ k < wr.drew.heap.size from ce.o.2.1.lt)
      have dj := qh (show g < wr.drew.heap.size ∧ gt < wr.drew.heap.size ∧ (∀ k, D k → k ≠ g ∧ k ≠ gt ∧ k < w4.heap.size) from ⟨ce.o.2.2.1.lt.1, ce.o.1.lt, fun k hk => ⟨(ce.o.2.2.1.lt.2 k hk).2, kg.o.2.2 k hk⟩⟩)
      clear hV
      have ld := qh ce.o.2.2.2.size
      generalize wr.drew = W0 at *
      have cN := qh (show zk t0 = ((zk t0).1, (zk t0).2) from rfl)
      repeat (apply item_take; rfl; rfl; rfl; rfl; exact fun _ _ _ _ h => h; (intro W e _ k; have q := HC.o W e; go_simp; exact k))
      apply zg; rfl; intro K hK; go_simp
      refine (jt ce.o.2.2.1).mono ?_
      rintro e W1 ⟨rfl, ks, kf⟩
      have gp := qh kf.size
      refine hK _ _ kf ?_
      have df := qh (j4 t0)
      have bW := qh (show (zk t0).2.b.length ≤ 33554432 from nlQ (yr t0) dF.o)
      generalize (zk t0).1 = x0 at *
      generalize (zk t0).2 = t1 at *
      have ci : Hq (Blk W1 gt #[(.slice ap am ar), .slice none 0 0] 91 ∧ OwnG (Lay.int) 3 w4.heap.size (fun k => k = g ∨ k = gt) W1 ((.slice ap am ar)) xs ∧ SpR D g lo t1 W1 ∧ Fr (fun k => k = g ∨ k = gt) w4 W1) := ⟨ce.o.1.fr kf (fun e => kg.o.2.1 e.symm), ce.o.2.1.fr kf (fun k e => .inl (.inl e)) (fun k hk e => by have e' : k = g := e; have := ah.o k hk; have := bo.o; omega), ks, Fr.trans ce.o.2.2.2 kf (fun _ _ h => h) (fun _ _ h => .inl h)⟩
      clear hK K kf ks ce
      repeat (apply item_take; rfl; rfl; rfl; rfl; exact fun _ _ _ _ h => h; (intro _ _ _ k; go_simp; exact k))
      apply zg; rfl; intro K hK; go_simp
      refine hK _ _ (za _ _).to ?_
      clear hK K
      apply zn; rfl; intro K hK
      refine ju (Lay.int) w4.heap.size (.tmp 24) (.tmp 27) _ _ _ 8 rfl Tryz.underlying23 zfG rfl (by omega) (by decide) (.slice ap am ar) xs x0 _ rfl rfl ci.o.2.1 ?_ ci.o.2.2.2.size (by rw [gM.o]; omega) ?_
      ·refine zjm (W0 := W0) (wL := w4) ?_ dj.o.1 dj.o.2.1 dj.o.2.2 ah.o
       exact ⟨rfl, df.o.1, df.o.2⟩
      intro v1 Wa h1 h2 h3
      refine hK _ _ ?_
      clear hK K
      obtain ⟨az, aR, aO, rfl⟩ := h1.shape
      have bz := yS (f := 0) ci.o.1 ci.o.2.1 ci.o.2.2.2 (X := (fun k => k = g ∨ k = gt)) (S := (fun k => k = g ∨ k = gt)) (.inr rfl) (.inr rfl) kg.o.1 rfl h1 h2
      have h6 : Hq (Blk Wa gt #[(.slice ap am ar), .slice none 0 0] 91 ∧ Blk (Wa.setCell ⟨gt, 0, none⟩ (.slice az aR aO)) gt #[(.slice az aR aO), .slice none 0 0] 91 ∧ OwnG (Lay.int) 3 w4.heap.size (fun k => k = g ∨ k = gt) (Wa.setCell ⟨gt, 0, none⟩ (.slice az aR aO)) ((.slice az aR aO)) r2.1 ∧ SpR D g lo r2.2 (Wa.setCell ⟨gt, 0, none⟩ (.slice az aR aO)) ∧ Fr (fun k => k = g ∨ k = gt) w4 (Wa.setCell ⟨gt, 0, none⟩ (.slice az aR aO))) := by
       rw [aU.o]
       have gO := ci.o.2.2.1.fr h2 (fun e => by have := ah.o g e.symm; have := bo.o; omega) (fun k hk e => by have := ah.o k e.symm; have := dj.o.2.2 k hk; omega)
       refine ⟨bz.1, ?_, bz.2.2.1, gO.fr (zf _ _ _) (fun e => kg.o.2.1 e) (fun k hk e => (dj.o.2.2 k hk).2.1 e), bz.2.2.2⟩
       have := bz.2.1
       simpa using this
      have fp := h6.o.1.cell
      have ep := h6.o.1.frz
      clear h1 h2 h3 bz ci
      repeat (apply item_take; rfl; rfl; rfl; rfl; exact fun _ _ _ _ h => h; (intro _ _ _ k; go_simp; exact k))
      apply zn; rfl; intro K hK; go_simp
      refine hK _ _ ?_
      clear hK K fp ep
      apply zm
      have eh := qh h6.o.2
      go_wp2
      go_roundw
      case rel => exact ⟨i + 1, _, by omega, by go_num, by rw [aY.o]; exact eh.o⟩
      case measure => simp [intOf]; omega
     ·obtain rfl : i = n1 := by omega
      obtain ⟨m6, mQ, mH, dB⟩ : ∃ a b c, Value.slice ap am ar = .slice a b c := ⟨_, _, _, rfl⟩
      have HP : Hq (Blk wr gt #[.slice m6 mQ mH, .slice none 0 0] 91 ∧ OwnG Lay.int 3 w4.heap.size (fun k => k = g ∨ k = gt) wr (.slice m6 mQ mH) (rVTs sf).1 ∧ SpR D g lo (rVTs sf).2 wr ∧ Fr (fun k => k = g ∨ k = gt) w4 wr) := by rw [rR.o, ← dB]; exact hV.o
      have gJ := qh (show (rVTs sf).2.b.length ≤ 33554432 from nlQ (zbZ sf) fm.o)
      clear dB hV rR
      generalize (rVTs sf).1 = ps at *
      generalize (rVTs sf).2 = sg at *
      go_wp2_with fail
      refine (z6 HP.o.2.2.1 (by have := gJ.o; omega)).mono ?_
      rintro e w6 ⟨rfl, k1, k2⟩
      have sm := qh (show rVTs sg = rVec zk (zo sg).1 (zo sg).2 from rfl)
      have cw := z0 sg
      generalize (zo sg).1 = n2 at *
      generalize (zo sg).2 = u2 at *
      have fy : (n2 : Int) ≤ 33554432 := by have := gJ.o; omega
      have qN := qh (show u2.b.length ≤ 33554432 from by have := gJ.o; omega)
      have mZ : Hq (SpR D g lo u2 w6 ∧ Blk w6 gt #[.slice m6 mQ mH, .slice none 0 0] 91 ∧ OwnG Lay.int 3 w4.heap.size (fun k => k = g ∨ k = gt) w6 (.slice m6 mQ mH) ps ∧ Fr (fun k => k = g ∨ k = gt) w4 w6) :=
       ⟨k1, HP.o.1.fr k2 (fun e => ag.o.1 e.symm), HP.o.2.1.fr k2 (fun k e => .inl (.inl e)) (fun k hk e => by have e' : k = g := e; have := (HP.o.2.1.lt k hk).1; have := kg.o.1; have := ag.o.2.2; omega), Fr.trans HP.o.2.2.2 k2 (fun _ _ h => h) (fun _ _ h => .inl h)⟩
      have lW : Hq (gt < w6.heap.size ∧ g ≠ gt ∧ ∀ k, D k → k ≠ gt ∧ k < w6.heap.size) := ⟨mZ.o.2.1.lt, ag.o.1, fun k hk => ⟨ag.o.2.1 k hk, (mZ.o.1.lt.2 k hk).1⟩⟩
      clear k1 k2 cw HP
      go_wp2_with fail
      go_loopw [33] (fun ma w' => ∃ (i : Nat) (va : Value), i ≤ n2 ∧ ma = .int .i64 i ∧ Hq (Blk w' gt #[.slice m6 mQ mH, va] 91 ∧ OwnG (Lay.int) 3 w6.heap.size (fun k => k = g ∨ k = gt) w' (va) (rVec zk i u2).1 ∧ SpR D g lo (rVec zk i u2).2 w' ∧ Fr (fun k => k = g ∨ k = gt) w6 w')) (fun ma _ => n2 - (intOf ma).toNat)
      case atStart => exact ⟨0, _, nzQ _, rfl, mZ.o.2.1, zv _ _ _ _ _, mZ.o.1, Fr.refl _ _⟩
      case round =>
       obtain ⟨i, va, hi, rfl, hV⟩ := hrel
       obtain ⟨ap, am, ar, rfl⟩ := hV.o.2.1.shape
       by_cases aj : i < n2
       ·have aU := qh (yD zk i u2)
        have gM := qh (yP zk i u2)
        have dF := qh (show (rVec zk i u2).2.b.length ≤ 33554432 from nlQ (yw zk yr i u2) qN.o)
        obtain ⟨r2, aY⟩ := exQ (rVec zk (i + 1) u2)
        have aY := qh aY
        rw [aY.o] at aU
        generalize (rVec zk i u2).1 = xs at *
        generalize (rVec zk i u2).2 = t0 at *
        have bo := qh (show g < w6.heap.size from (mZ.o.1).lt.1)
        go_wp2_with fail
        refine zj (yX (fun k => k = g)) [kT 0, kT 1, kT 2, kR 3, kR 4, kL 5, kT 6, kL 7] (by kernel_rfl) (by kernel_rfl) ?_
        simp only [zx, gzQ, gsQ]
        have HC := qh (fun W' (h : Fr (fun k => k = g) wr.drew W') => (hV.o.1.fr ((zb _).fr h) (fun e => lW.o.2.1 e.symm)).cell)
        have ce : Hq (Blk wr.drew gt #[.slice m6 mQ mH, (.slice ap am ar)] 91 ∧ OwnG (Lay.int) 3 w6.heap.size (fun k => k = g ∨ k = gt) wr.drew ((.slice ap am ar)) xs ∧ SpR D g lo t0 wr.drew ∧ Fr (fun k => k = g ∨ k = gt) w6 wr.drew) := ⟨hV.o.1.ext (zb _), hV.o.2.1.ext (zb _), hV.o.2.2.1.ext (zb _), hV.o.2.2.2.ext (zb _)⟩
        have ah := qh (show ∀ k, (Value.slice ap am ar).ownBlock = some k → w6.heap.size ≤ k ∧ k < wr.drew.heap.size from ce.o.2.1.lt)
        have dj := qh (show g < wr.drew.heap.size ∧ gt < wr.drew.heap.size ∧ (∀ k, D k → k ≠ g ∧ k ≠ gt ∧ k < w6.heap.size) from ⟨ce.o.2.2.1.lt.1, ce.o.1.lt, fun k hk => ⟨(ce.o.2.2.1.lt.2 k hk).2, lW.o.2.2 k hk⟩⟩)
        clear hV
        have ld := qh ce.o.2.2.2.size
        generalize wr.drew = W0 at *
        have cN := qh (show zk t0 = ((zk t0).1, (zk t0).2) from rfl)
        repeat (apply item_take; rfl; rfl; rfl; rfl; exact fun _ _ _ _ h => h; (intro W e _ k; have q := HC.o W e; go_simp; exact k))
        apply zg; rfl; intro K hK; go_simp
        refine (jt ce.o.2.2.1).mono ?_
        rintro e W1 ⟨rfl, ks, kf⟩
        have gp := qh kf.size
        refine hK _ _ kf ?_
        have df := qh (j4 t0)
        have bW := qh (show (zk t0).2.b.length ≤ 33554432 from nlQ (yr t0) dF.o)
        generalize (zk t0).1 = x0 at *
        generalize (zk t0).2 = t1 at *
        have ci : Hq (Blk W1 gt #[.slice m6 mQ mH, (.slice ap am ar)] 91 ∧ OwnG (Lay.int) 3 w6.heap.size (fun k => k = g ∨ k = gt) W1 ((.slice ap am ar)) xs ∧ SpR D g lo t1 W1 ∧ Fr (fun k => k = g ∨ k = gt) w6 W1) := ⟨ce.o.1.fr kf (fun e => lW.o.2.1 e.symm), ce.o.2.1.fr kf (fun k e => .inl (.inl e)) (fun k hk e => by have e' : k = g := e; have := ah.o k hk; have := bo.o; omega), ks, Fr.trans ce.o.2.2.2 kf (fun _ _ h => h) (fun _ _ h => .inl h)⟩
        clear hK K kf ks ce
        repeat (apply item_take; rfl; rfl; rfl; rfl; exact fun _ _ _ _ h => h; (intro _ _ _ k; go_simp; exact k))
        apply zg; rfl; intro K hK; go_simp
        refine hK _ _ (za _ _).to ?_
        clear hK K
        apply zn; rfl; intro K hK
        refine ju (Lay.int) w6.heap.size (.tmp 36) (.tmp 39) _ _ _ 8 rfl Tryz.underlying23 zfG rfl (by omega) (by decide) (.slice ap am ar) xs x0 _ rfl rfl ci.o.2.1 ?_ ci.o.2.2.2.size (by rw [gM.o]; omega) ?_
        ·refine zjm (W0 := W0) (wL := w6) ?_ dj.o.1 dj.o.2.1 dj.o.2.2 ah.o
         exact ⟨rfl, df.o.1, df.o.2⟩
        intro v1 Wa h1 h2 h3
        refine hK _ _ ?_
        clear hK K
        obtain ⟨az, aR, aO, rfl⟩ := h1.shape
        have bz := yS (f := 1) ci.o.1 ci.o.2.1 ci.o.2.2.2 (X := (fun k => k = g ∨ k = gt)) (S := (fun k => k = g ∨ k = gt)) (.inr rfl) (.inr rfl) lW.o.1 rfl h1 h2
        have h6 : Hq (Blk Wa gt #[.slice m6 mQ mH, (.slice ap am ar)] 91 ∧ Blk (Wa.setCell ⟨gt, 1, none⟩ (.slice az aR aO)) gt #[.slice m6 mQ mH, (.slice az aR aO)] 91 ∧ OwnG (Lay.int) 3 w6.heap.size (fun k => k = g ∨ k = gt) (Wa.setCell ⟨gt, 1, none⟩ (.slice az aR aO)) ((.slice az aR aO)) r2.1 ∧ SpR D g lo r2.2 (Wa.setCell ⟨gt, 1, none⟩ (.slice az aR aO)) ∧ Fr (fun k => k = g ∨ k = gt) w6 (Wa.setCell ⟨gt, 1, none⟩ (.slice az aR aO))) := by
         rw [aU.o]
         have gO := ci.o.2.2.1.fr h2 (fun e => by have := ah.o g e.symm; have := bo.o; omega) (fun k hk e => by have := ah.o k e.symm; have := dj.o.2.2 k hk; omega)
         refine ⟨bz.1, ?_, bz.2.2.1, gO.fr (zf _ _ _) (fun e => lW.o.2.1 e) (fun k hk e => (dj.o.2.2 k hk).2.1 e), bz.2.2.2⟩
         have := bz.2.1
         simpa using this
        have fp := h6.o.1.cell
        have ep := h6.o.1.frz
        clear h1 h2 h3 bz ci
        repeat (apply item_take; rfl; rfl; rfl; rfl; exact fun _ _ _ _ h => h; (intro _ _ _ k; go_simp; exact k))
        apply zn; rfl; intro K hK; go_simp
        refine hK _ _ ?_
        clear hK K fp ep
        apply zm
        have eh := qh h6.o.2
        go_wp2
        go_roundw
        case rel => exact ⟨i + 1, _, by omega, by go_num, by rw [aY.o]; exact eh.o⟩
        case measure => simp [intOf]; omega
       ·obtain rfl : i = n2 := by omega
        obtain ⟨AW, AS, Aj, xU⟩ : ∃ a b c, Value.slice ap am ar = .slice a b c := ⟨_, _, _, rfl⟩
        have HQ : Hq (Blk wr gt #[.slice m6 mQ mH, .slice AW AS Aj] 91 ∧ OwnG Lay.int 3 w6.heap.size (fun k => k = g ∨ k = gt) wr (.slice AW AS Aj) (rVTs sg).1 ∧ SpR D g lo (rVTs sg).2 wr ∧ Fr (fun k => k = g ∨ k = gt) w6 wr) := by rw [sm.o, ← xU]; exact hV.o
        clear xU hV sm
        have BZ := mZ.o.2.2.1.fr HQ.o.2.2.2 (fun k e => .inl e) (fun k hk e => by have := (mZ.o.2.2.1.lt k hk).1; have := kg.o.1; have := ag.o.2.2; rcases e with e | e <;> omega)
        have eB : Fr (fun k => k = g) w3 wr := (Fr.trans (Fr.trans pP.o.2.2 mZ.o.2.2.2 (U := fun k => k = g ∨ k = gt) (fun _ _ h => .inl h) (fun _ _ h => h)) HQ.o.2.2.2 (U := fun k => k = g ∨ k = gt) (fun _ _ h => h) (fun _ _ h => h)).mono (fun k hk e => e.elim id (fun e => by have := H3.o.1.lt; have := wM.o; omega))
        have gA : Hq (OwnG Lay.ft 91 w.heap.size (fun k => k < w.heap.size) wr (.slice gD gF gG) xo ∧ Fr (fun k => k = g) w wr) := ⟨H3.o.2.1.fr eB (fun k e => .inl (by have e' : k = g := e; have := H.o.2.2; omega)) (fun k hk e => by have := (H3.o.2.1.lt k hk).1; have e' : k = g := e; have := H.o.2.2; omega), Fr.trans H3.o.2.2 eB (fun _ _ h => h) (fun _ _ h => h)⟩
        have eq := HQ.o.1.cell
        go_wp2_with (at_builtin; refine Hq.o ?_)
        have iw := H.o.2.2
        have Cf := OwnG.sliceF Lay.flat_int BZ
        have Bs := OwnG.sliceF Lay.flat_int HQ.o.2.1
        have tZ := qh (show ∀ k, w4.heap.size ≤ k → ¬ k < w.heap.size ∧ some k ≠ (Value.slice gD gF gG).ownBlock from fun k hk => by
         have h1 := pP.o.2.2.size
         have h2 := H3.o.1.lt.1
         have h5 := H3.o.2.2.size
         refine ⟨by omega, fun e => ?_⟩
         have := (H3.o.2.1.lt k e.symm).2
         omega)
        refine zU Lay.ft w.heap.size wr.heap.size rfl rfl (.tmp 43) (.tmp 45) _ _ _ 48 rfl Tryz.underlying25 zjn rfl (by omega) (by decide) (.slice gD gF gG) xo ⟨ps, (rVTs sg).1⟩ _ rfl rfl gA.o.1 ?_ gA.o.2.size (by rw [kq.o]; omega) ?_
        ·exact ⟨[_], [_], rfl, Lay.mono _ Cf (fun k hk => ⟨(tZ.o k hk.1).1, hk.2, (tZ.o k hk.1).2⟩), Lay.mono _ Bs (fun k hk => ⟨(tZ.o k (by have := mZ.o.2.2.2.size; omega)).1, hk.2, (tZ.o k (by have := mZ.o.2.2.2.size; omega)).2⟩)⟩
        ·intro v1 w8 h1 h2 h3
         have m7 : ∀ k, some k = (Value.slice gD gF gG).ownBlock → w.heap.size ≤ k ∧ k < w3.heap.size := fun k e => H3.o.2.1.lt k e.symm
         have bO : Hq (OwnG Lay.ft 91 w.heap.size (fun k => k < w.heap.size) w8 v1 ro.1 ∧ SpR D g lo ro.2 w8 ∧ Fr (fun k => k = g) w w8) := by
          rw [ia.o, ku.o]
          refine ⟨h1, HQ.o.2.2.1.fr h2 (fun e => by have := m7 g e; omega) (fun k hk e => by have := m7 k e; have := (H.o.1.lt.2 k hk).1; omega), ?_⟩
          exact Fr.trans gA.o.2 h2 (fun _ _ h => h) (fun k hk e => absurd hk (by have := m7 k e; omega))
         obtain ⟨az, aR, aO, rfl⟩ := h1.shape
         clear h1 h2 h3 m7
         go_wp2
         go_roundw
         case rel => exact ⟨io + 1, by omega, by go_num, by rw [kY.o]; exact bO.o⟩
         case measure => simp [intOf]; omega
  ·obtain rfl : io = n := by omega
   have ky := qh (show OwnG Lay.ft 91 w.heap.size (fun k => k < w.heap.size) wr (.slice gD gF gG) (yt s).1 ∧ SpR D g lo (yt s).2 wr ∧ Fr (fun k => k = g) w wr from by rw [HR.o]; exact iN.o)
   clear iN
   go_wp2
   go_ret
   exact ⟨_, rfl, ky.o⟩
theorem zaG : (Tryz.prog.info? 65).map (fun i => (i.zero, i.size, i.bytes)) = some (some (.agg #[.string ⟨#[]⟩, .string ⟨#[]⟩, .int .i64 0, .int .u32 0, .int .u32 0, .bool false, .int .u32 0, .int .i64 0, .bool false]), Lay.imp.size, 72) := by kernel_rfl
abbrev jf (x : Imp) : Array Value := #[.string (zd x.mdl), .string (zd x.name), .int .i64 x.kind, .int .u32 (x.index.toNat : Int), .int .u32 (x.lim.min.toNat : Int), .bool x.lim.bounded, .int .u32 (x.lim.max.toNat : Int), .int .i64 x.ty, .bool x.mtb]
def j1 (x : Imp) : Prop := (zd x.mdl).size ≤ maxLen ∧ (zd x.name).size ≤ maxLen ∧ (-9223372036854775808 ≤ x.kind ∧ x.kind ≤ 9223372036854775807) ∧ (-9223372036854775808 ≤ x.ty ∧ x.ty ≤ 9223372036854775807)
theorem imp_mk {A : Nat → Prop} {x : Imp} (h : j1 x) : Lay.imp.rd A w (jf x).toList x :=
 ⟨[_], _, rfl, ⟨rfl, h.1⟩, [_], _, rfl, ⟨rfl, h.2.1⟩, [_], _, rfl, ⟨rfl, h.2.2.1⟩, [_], _, rfl, rfl, [_, _, _], _, rfl, ⟨[_], _, rfl, rfl, [_], _, rfl, rfl, rfl⟩, [_], _, rfl, ⟨rfl, h.2.2.2⟩, rfl⟩
def jC (s : St) : Imp := ⟨(zr s).1, (zr (zr s).2).1, ((zi (zr (zr s).2).2).1 : Int), 0, ⟨0, false, 0⟩, 0, false⟩
def rImp (s : St) : Imp × St :=
 let b := zi (zr (zr s).2).2
 if b.1 = 0 then ({ jC s with index := UInt32.ofNat (zc b.2).1 }, (zc b.2).2)
 else if b.1 = 1 then ({ jC s with lim := (zX b.2).1 }, (zX b.2).2)
 else if b.1 = 2 then ({ jC s with lim := (zD b.2).1 }, (zD b.2).2)
 else if b.1 = 3 then ({ jC s with ty := (zk b.2).1, mtb := (jH (zk b.2).2).1 }, (jH (zk b.2).2).2)
 else (jC s, b.2.fail 1)
def y6 (s : St) : List Imp × St := zW rImp s
theorem jv (s : St) : (zr s).2.b.length ≤ s.b.length := by
 have h1 := yR (zc s).1 (zc s).2
 have h2 := zF s
 show (if _ then _ else _ : St).b.length ≤ _
 split
 ·omega
 ·exact nzQ _
theorem Jc (s : St) : (zr s).1.length ≤ s.b.length := by
 have h2 := zF s
 show (zy (zc s).1 (zc s).2).1.length ≤ _
 unfold zy
 split
 ·exact nzQ _
 ·rw [ltQ]; omega
theorem zaH (s : St) : (jH s).2.b.length ≤ s.b.length := by
 have := yc s
 show (if _ then _ else _ : St).b.length ≤ _
 split
 ·exact nzQ _
 ·exact this
theorem ZP (s : St) : (zD s).2.b.length ≤ s.b.length := by
 have h1 := yc s
 have h6 : (zD s).2 = (if (zi s).1 = 1 then (zc (zc (if 1 < (zi s).1 then (zi s).2.fail 2 else (zi s).2)).2).2 else (zc (if 1 < (zi s).1 then (zi s).2.fail 2 else (zi s).2)).2) := by
  show (if _ then _ else _ : Lim × St).2 = _
  split <;> rfl
 rw [h6]
 have h3 : (if 1 < (zi s).1 then (zi s).2.fail 2 else (zi s).2).b.length ≤ s.b.length := by
  split
  ·exact nzQ _
  ·exact h1
 generalize (if 1 < (zi s).1 then (zi s).2.fail 2 else (zi s).2) = t at *
 have h4 := zF t
 have h5 := zF (zc t).2
 split <;> omega
theorem YM (s : St) : (zX s).2.b.length ≤ s.b.length := by
 have h1 := yc s
 unfold zX
 refine nlQ (ZP _) ?_
 split
 ·exact nzQ _
 ·exact h1
theorem zg4 (s : St) : (rImp s).2.b.length ≤ s.b.length := by
 have h0 : (zi (zr (zr s).2).2).2.b.length ≤ s.b.length := nlQ (yc _) (nlQ (jv _) (jv s))
 unfold rImp
 generalize zi (zr (zr s).2).2 = b at *
 have h1 := zF b.2
 have h2 := YM b.2
 have h3 := ZP b.2
 have h4 := yr b.2
 have h5 := zaH (zk b.2).2
 dsimp only
 repeat' split
 all_goals first | exact nzQ _ | (dsimp only; omega)
variable {n : Nat}
theorem jw (h : n < 4294967296) : (UInt32.ofNat n).toNat = n := Nat.mod_eq_of_lt h
theorem yd {l : List UInt8} (h : l.length ≤ 140737488355328) : (zd l).size ≤ maxLen := by rw [zB]; simp only [maxLen]; omega
theorem zb0 (h : SpR D g lo s w) (hl : s.b.length ≤ 1048576) :
 Calls Tryz.prog 94 #[.pointer (some ⟨g, 0, none⟩)] w fun e w' => ∃ v, e = .returned v ∧ OwnG Lay.imp 65 w.heap.size (fun k => k = g) w' v (y6 s).1 ∧ SpR D g lo (y6 s).2 w' ∧ Fr (fun k => k = g) w w' := by
 have H := qh (anQ h (anQ hl h.lt.1))
 have c6 := qh (z0 s)
 clear h hl
 go_enter Tryz.func94, Tryz.ntmps94
 go_wp2_with fail
 refine (z6 H.o.1 (by have := H.o.2.1; omega)).mono ?_
 rintro e w1 ⟨rfl, k1, k2⟩
 have HR := qh (show y6 s = rVec rImp (zo s).1 (zo s).2 from rfl)
 generalize (zo s).1 = n at *
 generalize (zo s).2 = s1 at *
 have H1 := qh (anQ k1 k2)
 clear k1 k2
 have iD : (n : Int) ≤ 1048576 := by have := H.o.2.1; have := c6.o.1; omega
 go_wp2_with fail
 go_loopw [2, 6] (fun s2 s6 w' => ∃ (i : Nat), i ≤ n ∧ s6 = .int .i64 i ∧ Hq (OwnG Lay.imp 65 w.heap.size (fun k => k = g) w' s2 (rVec rImp i s1).1 ∧ SpR D g lo (rVec rImp i s1).2 w' ∧ Fr (fun k => k = g) w w')) (fun _ s6 _ => n - (intOf s6).toNat)
 case atStart => exact ⟨0, nzQ _, rfl, zv _ _ _ _ _, H1.o⟩
 case round =>
  obtain ⟨io, Bo, rfl, iN⟩ := hrel
  obtain ⟨gD, gF, gG, rfl⟩ := iN.o.1.shape
  by_cases hlto : io < n
  ·have ia := qh (yD rImp io s1)
   have kq := qh (yP rImp io s1)
   have ie := qh (show (rVec rImp io s1).2.b.length ≤ 1048576 from nlQ (yw rImp zg4 io s1) (nlQ c6.o.2 H.o.2.1))
   obtain ⟨ro, kY⟩ := exQ (rVec rImp (io + 1) s1)
   have kY := qh kY
   rw [kY.o] at ia
   generalize (rVec rImp io s1).1 = xo at *
   generalize (rVec rImp io s1).2 = so at *
   have ah := qh (show ∀ k, (Value.slice gD gF gG).ownBlock = some k → w.heap.size ≤ k ∧ k < wr.heap.size from iN.o.1.lt)
   have er : Hq (∀ k, (Value.slice gD gF gG).ownBlock = some k → ¬ k = g) := fun k hk e => by have := (ah.o k hk).1; have := H.o.2.2; omega
   have ku := qh (show rImp so = (if (zi (zr (zr so).2).2).1 = 0 then ({ jC so with index := UInt32.ofNat (zc (zi (zr (zr so).2).2).2).1 }, (zc (zi (zr (zr so).2).2).2).2)
    else if (zi (zr (zr so).2).2).1 = 1 then ({ jC so with lim := (zX (zi (zr (zr so).2).2).2).1 }, (zX (zi (zr (zr so).2).2).2).2)
    else if (zi (zr (zr so).2).2).1 = 2 then ({ jC so with lim := (zD (zi (zr (zr so).2).2).2).1 }, (zD (zi (zr (zr so).2).2).2).2)
    else if (zi (zr (zr so).2).2).1 = 3 then ({ jC so with ty := (zk (zi (zr (zr so).2).2).2).1, mtb := (jH (zk (zi (zr (zr so).2).2).2).2).1 }, (jH (zk (zi (zr (zr so).2).2).2).2).2)
    else (jC so, (zi (zr (zr so).2).2).2.fail 1)) from rfl)
   have eo := qh (show jC so = ⟨(zr so).1, (zr (zr so).2).1, ((zi (zr (zr so).2).2).1 : Int), 0, ⟨0, false, 0⟩, 0, false⟩ from rfl)
   go_wp2_with fail
   refine (Ja iN.o.2.1 (by have := ie.o; omega)).mono ?_
   rintro e w2 ⟨rfl, k1, k2⟩
   have gf := qh (Jc so)
   have de := qh (show (zr so).2.b.length ≤ 1048576 from nlQ (jv so) ie.o)
   generalize (zr so).1 = mdl at *
   generalize (zr so).2 = sa at *
   have H2 := qh (anQ k1 (anQ (iN.o.1.fr k2 (fun k e => .inl e) er.o) (Fr.trans iN.o.2.2 k2 (U := fun k => k = g) (fun _ _ h => h) (fun _ _ h => h))))
   clear k1 k2 iN
   go_wp2_with fail
   refine (Ja H2.o.1 (by have := de.o; omega)).mono ?_
   rintro e w3 ⟨rfl, k1, k2⟩
   have dt := qh (Jc sa)
   have ct := qh (show (zr sa).2.b.length ≤ 1048576 from nlQ (jv sa) de.o)
   generalize (zr sa).1 = nm at *
   generalize (zr sa).2 = sb at *
   have H3 := qh (anQ k1 (anQ (H2.o.2.1.fr k2 (fun k e => .inl e) er.o) (Fr.trans H2.o.2.2 k2 (U := fun k => k = g) (fun _ _ h => h) (fun _ _ h => h))))
   clear k1 k2 H2
   go_wp2_with fail
   refine (yh H3.o.1).mono ?_
   rintro e w4 ⟨rfl, k1, k2⟩
   have iY := qh (show (zi sb).2.b.length ≤ 1048576 from nlQ (yc sb) ct.o)
   have fM := y4 sb
   generalize (zi sb).1 = c at *
   generalize (zi sb).2 = sc at *
   have H4 := qh (anQ k1 (anQ (H3.o.2.1.fr k2 (fun k e => .inl e) er.o) (Fr.trans H3.o.2.2 k2 (U := fun k => k = g) (fun _ _ h => h) (fun _ _ h => h))))
   clear k1 k2 H3
   by_cases h0 : c = 0
   ·subst h0
    have cr : Hq (j1 (jC so)) := by
     show j1 _
     rw [eo.o]
     have := ie.o
     have := gf.o
     have := dt.o
     have := de.o
     exact ⟨yd (by dsimp only; omega), yd (by dsimp only; omega), by dsimp only; omega, by dsimp only; omega⟩
    go_wp2_with fail
    obtain ⟨gi, eK⟩ := exQ (w4.heap.size)
    obtain ⟨W4, da⟩ := exQ (w4.alloc (.cells #[.string (zd mdl), .string (zd nm), .int .i64 0, .int .u32 0, .int .u32 0, .bool false, .int .u32 0, .int .i64 0, .bool false] 65))
    have HG : Hq (SpR D g lo sc W4 ∧ Fr (fun k => k = g) w4 W4 ∧ Blk W4 gi (jf (jC so)) 65) := by
     subst da
     refine ⟨H4.o.1.ext (za _ _), (za _ _).to, ?_⟩
     rw [eo.o, ← eK]
     exact zl _ _ _
    have ag : Hq (¬ gi = g ∧ (∀ k, D k → ¬ k = gi) ∧ w4.heap.size ≤ gi) := ⟨by have := H4.o.1.lt.1; omega, fun k hk => by have := (H4.o.1.lt.2 k hk).1; omega, by omega⟩
    rw [da, eK]
    clear da eK
    have eo := qh eo.o
    generalize jC so = ke at *
    refine (zK D g lo sc W4 HG.o.1 (by have := iY.o; omega)).mono ?_
    rintro e W5 ⟨rfl, k1, k2⟩
    have dH := zL sc
    generalize (zc sc).1 = x at *
    generalize (zc sc).2 = sN at *
    have fL : Hq (SpR D g lo sN W5 ∧ Fr (fun k => k = g) w4 W5 ∧ Blk W5 gi (jf ke) 65) :=
     ⟨k1, Fr.trans HG.o.2.1 k2 (fun _ _ h => h) (fun _ _ h => h), HG.o.2.2.fr k2 ag.o.1⟩
    clear k1 k2 HG
    have au := fL.o.2.2.cell
    have eR := fL.o.2.2.frz
    go_wp2_with (at_builtin; refine Hq.o ?_)
    clear au eR
    obtain ⟨im, ip⟩ : ∃ im, ({ ke with index := UInt32.ofNat x } : Imp) = im := ⟨_, rfl⟩
    obtain ⟨W9, ga⟩ : ∃ W9, (W5.setCell ⟨gi, 3, none⟩ (.int .u32 (x : Int))) = W9 := ⟨_, rfl⟩
    have dA : Fr (fun k => k = gi) W5 W9 := by subst ga; exact Fr.setCell (Fr.refl (fun k => k = gi) _) (p := ⟨gi, 3, none⟩) (.inl rfl) _
    have gz : W9.heap.size = W5.heap.size := by subst ga; simp
    have HT : Hq (SpR D g lo sN W9 ∧ Fr (fun k => k = g) w4 W9 ∧ rImp so = (im, sN) ∧ j1 im) := by
     refine ⟨fL.o.1.fr dA (fun e => ag.o.1 e.symm) ag.o.2.1, (Fr.trans fL.o.2.1 dA (U := fun k => k = g ∨ k = gi) (fun _ _ h => .inl h) (fun _ _ h => .inr h)).mono (fun k hk e => e.elim id (fun e => by have := ag.o.2.2; omega)), ?_, ?_⟩
     ·rw [ku.o, ← ip]
      rfl
     ·rw [← ip]
      exact cr.o
    rw [ga]
    clear ga dA
    have gA : Hq (OwnG Lay.imp 65 w.heap.size (fun k => k = g) W9 (.slice gD gF gG) xo ∧ Fr (fun k => k = g) w W9) := ⟨H4.o.2.1.fr HT.o.2.1 (fun k e => .inl e) er.o, Fr.trans H4.o.2.2 HT.o.2.1 (fun _ _ h => h) (fun _ _ h => h)⟩
    refine zU Lay.imp w.heap.size W5.heap.size gz rfl (.tmp 42) (.tmp 44) _ _ _ 72 rfl Tryz.underlying26 zaG rfl (by omega) (by decide) (.slice gD gF gG) xo im _ rfl rfl gA.o.1 ?_ gA.o.2.size (by rw [kq.o]; omega) ?_
    ·refine (congrArg (fun c => Lay.imp.rd _ _ c im) ?_).mpr (imp_mk HT.o.2.2.2)
     rw [← ip]
     show _ = [_, _, _, Value.int .u32 ((UInt32.ofNat x).toNat : Int), _, _, _, _, _]
     rw [jw dH]
    ·intro v1 w8 h1 h2 h3
     have bO : Hq (OwnG Lay.imp 65 w.heap.size (fun k => k = g) w8 v1 ro.1 ∧ SpR D g lo ro.2 w8 ∧ Fr (fun k => k = g) w w8) := by
      rw [ia.o, HT.o.2.2.1]
      refine ⟨h1, HT.o.1.fr h2 (fun e => er.o g e.symm rfl) (fun k hk e => by have := (ah.o k e.symm).1; have := (H.o.1.lt.2 k hk).1; omega), ?_⟩
      exact Fr.trans gA.o.2 h2 (fun _ _ h => h) (fun k hk e => absurd hk (by have := (ah.o k e.symm).1; omega))
     obtain ⟨az, aR, aO, rfl⟩ := h1.shape
     clear h1 h2 h3
     go_wp2
     go_roundw
     case rel => exact ⟨io + 1, by omega, by go_num, by rw [kY.o]; exact bO.o⟩
     case measure => simp [intOf]; omega
   ·by_cases h1 : c = 1
    ·subst h1
     have cr : Hq (j1 (jC so)) := by
      show j1 _
      rw [eo.o]
      have := ie.o
      have := gf.o
      have := dt.o
      have := de.o
      exact ⟨yd (by dsimp only; omega), yd (by dsimp only; omega), by dsimp only; omega, by dsimp only; omega⟩
     go_wp2_with fail
     obtain ⟨gi, eK⟩ := exQ (w4.heap.size)
     obtain ⟨W4, da⟩ := exQ (w4.alloc (.cells #[.string (zd mdl), .string (zd nm), .int .i64 1, .int .u32 0, .int .u32 0, .bool false, .int .u32 0, .int .i64 0, .bool false] 65))
     have HG : Hq (SpR D g lo sc W4 ∧ Fr (fun k => k = g) w4 W4 ∧ Blk W4 gi (jf (jC so)) 65) := by
      subst da
      refine ⟨H4.o.1.ext (za _ _), (za _ _).to, ?_⟩
      rw [eo.o, ← eK]
      exact zl _ _ _
     have ag : Hq (¬ gi = g ∧ (∀ k, D k → ¬ k = gi) ∧ w4.heap.size ≤ gi) := ⟨by have := H4.o.1.lt.1; omega, fun k hk => by have := (H4.o.1.lt.2 k hk).1; omega, by omega⟩
     rw [da, eK]
     clear da eK
     have eo := qh eo.o
     generalize jC so = ke at *
     refine (zaC HG.o.1 (by have := iY.o; omega)).mono ?_
     rintro e W5 ⟨rfl, k1, k2⟩
     generalize (zX sc).1 = x at *
     generalize (zX sc).2 = sN at *
     have fL : Hq (SpR D g lo sN W5 ∧ Fr (fun k => k = g) w4 W5 ∧ Blk W5 gi (jf ke) 65) :=
      ⟨k1, Fr.trans HG.o.2.1 k2 (fun _ _ h => h) (fun _ _ h => h), HG.o.2.2.fr k2 ag.o.1⟩
     clear k1 k2 HG
     have au := fL.o.2.2.cell
     have eR := fL.o.2.2.frz
     go_wp2_with (at_builtin; refine Hq.o ?_)
     clear au eR
     obtain ⟨im, ip⟩ : ∃ im, ({ ke with lim := x } : Imp) = im := ⟨_, rfl⟩
     obtain ⟨W9, ga⟩ : ∃ W9, (((W5.setCell ⟨gi, 4, none⟩ (.int .u32 (x.min.toNat : Int))).setCell ⟨gi, 5, none⟩ (.bool x.bounded)).setCell ⟨gi, 6, none⟩ (.int .u32 (x.max.toNat : Int))) = W9 := ⟨_, rfl⟩
     have dA : Fr (fun k => k = gi) W5 W9 := by subst ga; exact Fr.setCell (Fr.setCell (Fr.setCell (Fr.refl (fun k => k = gi) _) (p := ⟨gi, 4, none⟩) (.inl rfl) _) (p := ⟨gi, 5, none⟩) (.inl rfl) _) (p := ⟨gi, 6, none⟩) (.inl rfl) _
     have gz : W9.heap.size = W5.heap.size := by subst ga; simp
     have HT : Hq (SpR D g lo sN W9 ∧ Fr (fun k => k = g) w4 W9 ∧ rImp so = (im, sN) ∧ j1 im) := by
      refine ⟨fL.o.1.fr dA (fun e => ag.o.1 e.symm) ag.o.2.1, (Fr.trans fL.o.2.1 dA (U := fun k => k = g ∨ k = gi) (fun _ _ h => .inl h) (fun _ _ h => .inr h)).mono (fun k hk e => e.elim id (fun e => by have := ag.o.2.2; omega)), ?_, ?_⟩
      ·rw [ku.o, ← ip]
       rfl
      ·rw [← ip]
       exact cr.o
     rw [ga]
     clear ga dA
     have gA : Hq (OwnG Lay.imp 65 w.heap.size (fun k => k = g) W9 (.slice gD gF gG) xo ∧ Fr (fun k => k = g) w W9) := ⟨H4.o.2.1.fr HT.o.2.1 (fun k e => .inl e) er.o, Fr.trans H4.o.2.2 HT.o.2.1 (fun _ _ h => h) (fun _ _ h => h)⟩
     refine zU Lay.imp w.heap.size W5.heap.size gz rfl (.tmp 42) (.tmp 44) _ _ _ 72 rfl Tryz.underlying26 zaG rfl (by omega) (by decide) (.slice gD gF gG) xo im _ rfl rfl gA.o.1 ?_ gA.o.2.size (by rw [kq.o]; omega) ?_
     ·refine (congrArg (fun c => Lay.imp.rd _ _ c im) ?_).mpr (imp_mk HT.o.2.2.2)
      rw [← ip]
     ·intro v1 w8 h1 h2 h3
      have bO : Hq (OwnG Lay.imp 65 w.heap.size (fun k => k = g) w8 v1 ro.1 ∧ SpR D g lo ro.2 w8 ∧ Fr (fun k => k = g) w w8) := by
       rw [ia.o, HT.o.2.2.1]
       refine ⟨h1, HT.o.1.fr h2 (fun e => er.o g e.symm rfl) (fun k hk e => by have := (ah.o k e.symm).1; have := (H.o.1.lt.2 k hk).1; omega), ?_⟩
       exact Fr.trans gA.o.2 h2 (fun _ _ h => h) (fun k hk e => absurd hk (by have := (ah.o k e.symm).1; omega))
      obtain ⟨az, aR, aO, rfl⟩ := h1.shape
      clear h1 h2 h3
      go_wp2
      go_roundw
      case rel => exact ⟨io + 1, by omega, by go_num, by rw [kY.o]; exact bO.o⟩
      case measure => simp [intOf]; omega
    ·by_cases h2 : c = 2
     ·subst h2
      have cr : Hq (j1 (jC so)) := by
       show j1 _
       rw [eo.o]
       have := ie.o
       have := gf.o
       have := dt.o
       have := de.o
       exact ⟨yd (by dsimp only; omega), yd (by dsimp only; omega), by dsimp only; omega, by dsimp only; omega⟩
      go_wp2_with fail
      obtain ⟨gi, eK⟩ := exQ (w4.heap.size)
      obtain ⟨W4, da⟩ := exQ (w4.alloc (.cells #[.string (zd mdl), .string (zd nm), .int .i64 2, .int .u32 0, .int .u32 0, .bool false, .int .u32 0, .int .i64 0, .bool false] 65))
      have HG : Hq (SpR D g lo sc W4 ∧ Fr (fun k => k = g) w4 W4 ∧ Blk W4 gi (jf (jC so)) 65) := by
       subst da
       refine ⟨H4.o.1.ext (za _ _), (za _ _).to, ?_⟩
       rw [eo.o, ← eK]
       exact zl _ _ _
      have ag : Hq (¬ gi = g ∧ (∀ k, D k → ¬ k = gi) ∧ w4.heap.size ≤ gi) := ⟨by have := H4.o.1.lt.1; omega, fun k hk => by have := (H4.o.1.lt.2 k hk).1; omega, by omega⟩
      rw [da, eK]
      clear da eK
      have eo := qh eo.o
      generalize jC so = ke at *
      refine (J6 D g lo sc W4 HG.o.1 (by have := iY.o; omega)).mono ?_
      rintro e W5 ⟨rfl, k1, k2⟩
      generalize (zD sc).1 = x at *
      generalize (zD sc).2 = sN at *
      have fL : Hq (SpR D g lo sN W5 ∧ Fr (fun k => k = g) w4 W5 ∧ Blk W5 gi (jf ke) 65) :=
       ⟨k1, Fr.trans HG.o.2.1 k2 (fun _ _ h => h) (fun _ _ h => h), HG.o.2.2.fr k2 ag.o.1⟩
      clear k1 k2 HG
      have au := fL.o.2.2.cell
      have eR := fL.o.2.2.frz
      go_wp2_with (at_builtin; refine Hq.o ?_)
      clear au eR
      obtain ⟨im, ip⟩ : ∃ im, ({ ke with lim := x } : Imp) = im := ⟨_, rfl⟩
      obtain ⟨W9, ga⟩ : ∃ W9, (((W5.setCell ⟨gi, 4, none⟩ (.int .u32 (x.min.toNat : Int))).setCell ⟨gi, 5, none⟩ (.bool x.bounded)).setCell ⟨gi, 6, none⟩ (.int .u32 (x.max.toNat : Int))) = W9 := ⟨_, rfl⟩
      have dA : Fr (fun k => k = gi) W5 W9 := by subst ga; exact Fr.setCell (Fr.setCell (Fr.setCell (Fr.refl (fun k => k = gi) _) (p := ⟨gi, 4, none⟩) (.inl rfl) _) (p := ⟨gi, 5, none⟩) (.inl rfl) _) (p := ⟨gi, 6, none⟩) (.inl rfl) _
      have gz : W9.heap.size = W5.heap.size := by subst ga; simp
      have HT : Hq (SpR D g lo sN W9 ∧ Fr (fun k => k = g) w4 W9 ∧ rImp so = (im, sN) ∧ j1 im) := by
       refine ⟨fL.o.1.fr dA (fun e => ag.o.1 e.symm) ag.o.2.1, (Fr.trans fL.o.2.1 dA (U := fun k => k = g ∨ k = gi) (fun _ _ h => .inl h) (fun _ _ h => .inr h)).mono (fun k hk e => e.elim id (fun e => by have := ag.o.2.2; omega)), ?_, ?_⟩
       ·rw [ku.o, ← ip]
        rfl
       ·rw [← ip]
        exact cr.o
      rw [ga]
      clear ga dA
      have gA : Hq (OwnG Lay.imp 65 w.heap.size (fun k => k = g) W9 (.slice gD gF gG) xo ∧ Fr (fun k => k = g) w W9) := ⟨H4.o.2.1.fr HT.o.2.1 (fun k e => .inl e) er.o, Fr.trans H4.o.2.2 HT.o.2.1 (fun _ _ h => h) (fun _ _ h => h)⟩
      refine zU Lay.imp w.heap.size W5.heap.size gz rfl (.tmp 42) (.tmp 44) _ _ _ 72 rfl Tryz.underlying26 zaG rfl (by omega) (by decide) (.slice gD gF gG) xo im _ rfl rfl gA.o.1 ?_ gA.o.2.size (by rw [kq.o]; omega) ?_
      ·refine (congrArg (fun c => Lay.imp.rd _ _ c im) ?_).mpr (imp_mk HT.o.2.2.2)
       rw [← ip]
      ·intro v1 w8 h1 h2 h3
       have bO : Hq (OwnG Lay.imp 65 w.heap.size (fun k => k = g) w8 v1 ro.1 ∧ SpR D g lo ro.2 w8 ∧ Fr (fun k => k = g) w w8) := by
        rw [ia.o, HT.o.2.2.1]
        refine ⟨h1, HT.o.1.fr h2 (fun e => er.o g e.symm rfl) (fun k hk e => by have := (ah.o k e.symm).1; have := (H.o.1.lt.2 k hk).1; omega), ?_⟩
        exact Fr.trans gA.o.2 h2 (fun _ _ h => h) (fun k hk e => absurd hk (by have := (ah.o k e.symm).1; omega))
       obtain ⟨az, aR, aO, rfl⟩ := h1.shape
       clear h1 h2 h3
       go_wp2
       go_roundw
       case rel => exact ⟨io + 1, by omega, by go_num, by rw [kY.o]; exact bO.o⟩
       case measure => simp [intOf]; omega
     ·by_cases h3 : c = 3
      ·subst h3
       have cr : Hq (j1 (jC so)) := by
        show j1 _
        rw [eo.o]
        have := ie.o
        have := gf.o
        have := dt.o
        have := de.o
        exact ⟨yd (by dsimp only; omega), yd (by dsimp only; omega), by dsimp only; omega, by dsimp only; omega⟩
       go_wp2_with fail
       obtain ⟨gi, eK⟩ := exQ (w4.heap.size)
       obtain ⟨W4, da⟩ := exQ (w4.alloc (.cells #[.string (zd mdl), .string (zd nm), .int .i64 3, .int .u32 0, .int .u32 0, .bool false, .int .u32 0, .int .i64 0, .bool false] 65))
       have HG : Hq (SpR D g lo sc W4 ∧ Fr (fun k => k = g) w4 W4 ∧ Blk W4 gi (jf (jC so)) 65) := by
        subst da
        refine ⟨H4.o.1.ext (za _ _), (za _ _).to, ?_⟩
        rw [eo.o, ← eK]
        exact zl _ _ _
       have ag : Hq (¬ gi = g ∧ (∀ k, D k → ¬ k = gi) ∧ w4.heap.size ≤ gi) := ⟨by have := H4.o.1.lt.1; omega, fun k hk => by have := (H4.o.1.lt.2 k hk).1; omega, by omega⟩
       rw [da, eK]
       clear da eK
       have eo := qh eo.o
       generalize jC so = ke at *
       refine (jt HG.o.1).mono ?_
       rintro e W5 ⟨rfl, k1, k2⟩
       have Bv := qh (j4 sc)
       generalize (zk sc).1 = vt at *
       generalize (zk sc).2 = sv at *
       have fL : Hq (SpR D g lo sv W5 ∧ Fr (fun k => k = g) w4 W5 ∧ Blk W5 gi (jf ke) 65) :=
        ⟨k1, Fr.trans HG.o.2.1 k2 (fun _ _ h => h) (fun _ _ h => h), HG.o.2.2.fr k2 ag.o.1⟩
       clear k1 k2 HG
       have au := fL.o.2.2.cell
       have eR := fL.o.2.2.frz
       go_wp2_with fail
       refine (zby fL.o.1).mono ?_
       rintro e W6 ⟨rfl, k1, k2⟩
       generalize (jH sv).1 = fl at *
       generalize (jH sv).2 = sN at *
       have ua : Hq (SpR D g lo sN W6 ∧ Fr (fun k => k = g) w4 W6 ∧ Blk W6 gi (jf ke) 65) :=
        ⟨k1, Fr.trans fL.o.2.1 k2 (fun _ _ h => h) (fun _ _ h => h), fL.o.2.2.fr k2 ag.o.1⟩
       clear k1 k2 fL
       have au := ua.o.2.2.cell
       have eR := ua.o.2.2.frz
       go_wp2_with (at_builtin; refine Hq.o ?_)
       clear au eR
       obtain ⟨im, ip⟩ : ∃ im, ({ ke with ty := vt, mtb := fl } : Imp) = im := ⟨_, rfl⟩
       obtain ⟨W9, ga⟩ := exQ (((W6.setCell ⟨gi, 7, none⟩ (.int .i64 vt)).setCell ⟨gi, 8, none⟩ (.bool fl)))
       have dA : Fr (fun k => k = gi) W6 W9 := by subst ga; exact Fr.setCell (Fr.setCell (Fr.refl (fun k => k = gi) _) (p := ⟨gi, 7, none⟩) (.inl rfl) _) (p := ⟨gi, 8, none⟩) (.inl rfl) _
       have gz : W9.heap.size = W6.heap.size := by subst ga; simp
       have HT : Hq (SpR D g lo sN W9 ∧ Fr (fun k => k = g) w4 W9 ∧ rImp so = (im, sN) ∧ j1 im) := by
        refine ⟨ua.o.1.fr dA (fun e => ag.o.1 e.symm) ag.o.2.1, (Fr.trans ua.o.2.1 dA (U := fun k => k = g ∨ k = gi) (fun _ _ h => .inl h) (fun _ _ h => .inr h)).mono (fun k hk e => e.elim id (fun e => by have := ag.o.2.2; omega)), ?_, ?_⟩
        ·rw [ku.o, ← ip]
         rfl
        ·rw [← ip]
         exact ⟨cr.o.1, cr.o.2.1, cr.o.2.2.1, Bv.o⟩
       rw [ga]
       clear ga dA
       have gA : Hq (OwnG Lay.imp 65 w.heap.size (fun k => k = g) W9 (.slice gD gF gG) xo ∧ Fr (fun k => k = g) w W9) := ⟨H4.o.2.1.fr HT.o.2.1 (fun k e => .inl e) er.o, Fr.trans H4.o.2.2 HT.o.2.1 (fun _ _ h => h) (fun _ _ h => h)⟩
       refine zU Lay.imp w.heap.size W6.heap.size gz rfl (.tmp 42) (.tmp 44) _ _ _ 72 rfl Tryz.underlying26 zaG rfl (by omega) (by decide) (.slice gD gF gG) xo im _ rfl rfl gA.o.1 ?_ gA.o.2.size (by rw [kq.o]; omega) ?_
       ·refine (congrArg (fun c => Lay.imp.rd _ _ c im) ?_).mpr (imp_mk HT.o.2.2.2)
        rw [← ip]
       ·intro v1 w8 h1 h2 h3
        have bO : Hq (OwnG Lay.imp 65 w.heap.size (fun k => k = g) w8 v1 ro.1 ∧ SpR D g lo ro.2 w8 ∧ Fr (fun k => k = g) w w8) := by
         rw [ia.o, HT.o.2.2.1]
         refine ⟨h1, HT.o.1.fr h2 (fun e => er.o g e.symm rfl) (fun k hk e => by have := (ah.o k e.symm).1; have := (H.o.1.lt.2 k hk).1; omega), ?_⟩
         exact Fr.trans gA.o.2 h2 (fun _ _ h => h) (fun k hk e => absurd hk (by have := (ah.o k e.symm).1; omega))
        obtain ⟨az, aR, aO, rfl⟩ := h1.shape
        clear h1 h2 h3
        go_wp2
        go_roundw
        case rel => exact ⟨io + 1, by omega, by go_num, by rw [kY.o]; exact bO.o⟩
        case measure => simp [intOf]; omega
      ·skip
       have n0 := bfQ (a := (c : Int)) (b := 0) (by omega)
       have n1 := bfQ (a := (c : Int)) (b := 1) (by omega)
       have n2 := bfQ (a := (c : Int)) (b := 2) (by omega)
       have n3 := bfQ (a := (c : Int)) (b := 3) (by omega)
       have cr : Hq (j1 (jC so)) := by
        show j1 _
        rw [eo.o]
        have := ie.o
        have := gf.o
        have := dt.o
        have := de.o
        exact ⟨yd (by dsimp only; omega), yd (by dsimp only; omega), by dsimp only; omega, by dsimp only; omega⟩
       go_wp2_with fail
       obtain ⟨gi, eK⟩ := exQ (w4.heap.size)
       obtain ⟨W4, da⟩ : ∃ W4, w4.alloc (.cells #[.string (zd mdl), .string (zd nm), .int .i64 (c : Int), .int .u32 0, .int .u32 0, .bool false, .int .u32 0, .int .i64 0, .bool false] 65) = W4 := ⟨_, rfl⟩
       have HG : Hq (SpR D g lo sc W4 ∧ Fr (fun k => k = g) w4 W4 ∧ Blk W4 gi (jf (jC so)) 65) := by
        subst da
        refine ⟨H4.o.1.ext (za _ _), (za _ _).to, ?_⟩
        rw [eo.o, ← eK]
        exact zl _ _ _
       have ag : Hq (¬ gi = g ∧ (∀ k, D k → ¬ k = gi) ∧ w4.heap.size ≤ gi) := ⟨by have := H4.o.1.lt.1; omega, fun k hk => by have := (H4.o.1.lt.2 k hk).1; omega, by omega⟩
       rw [da, eK]
       clear da eK
       have eo := qh eo.o
       generalize jC so = ke at *
       refine (zp D g lo sc 1 W4 HG.o.1).mono ?_
       rintro e W5 ⟨rfl, k1, k2⟩
       have fL : Hq (SpR D g lo (sc.fail 1) W5 ∧ Fr (fun k => k = g) w4 W5 ∧ Blk W5 gi (jf ke) 65) :=
        ⟨k1, Fr.trans HG.o.2.1 k2 (fun _ _ h => h) (fun _ _ h => h), HG.o.2.2.fr k2 ag.o.1⟩
       clear k1 k2 HG
       have au := fL.o.2.2.cell
       have eR := fL.o.2.2.frz
       go_wp2_with (at_builtin; refine Hq.o ?_)
       clear au eR
       obtain ⟨im, ip⟩ := exQ (ke)
       obtain ⟨W9, ga⟩ := exQ (W5)
       have dA : Fr (fun k => k = gi) W5 W9 := by subst ga; exact Fr.refl (fun k => k = gi) _
       have gz : W9.heap.size = W5.heap.size := by subst ga; simp
       have HT : Hq (SpR D g lo (sc.fail 1) W9 ∧ Fr (fun k => k = g) w4 W9 ∧ rImp so = (im, (sc.fail 1)) ∧ j1 im) := by
        refine ⟨fL.o.1.fr dA (fun e => ag.o.1 e.symm) ag.o.2.1, (Fr.trans fL.o.2.1 dA (U := fun k => k = g ∨ k = gi) (fun _ _ h => .inl h) (fun _ _ h => .inr h)).mono (fun k hk e => e.elim id (fun e => by have := ag.o.2.2; omega)), ?_, ?_⟩
        ·rw [ku.o, ← ip]
         simp only [if_neg h0, if_neg h1, if_neg h2, if_neg h3]
        ·rw [← ip]
         exact cr.o
       rw [ga]
       clear ga dA
       have gA : Hq (OwnG Lay.imp 65 w.heap.size (fun k => k = g) W9 (.slice gD gF gG) xo ∧ Fr (fun k => k = g) w W9) := ⟨H4.o.2.1.fr HT.o.2.1 (fun k e => .inl e) er.o, Fr.trans H4.o.2.2 HT.o.2.1 (fun _ _ h => h) (fun _ _ h => h)⟩
       refine zU Lay.imp w.heap.size W9.heap.size rfl rfl (.tmp 42) (.tmp 44) _ _ _ 72 rfl Tryz.underlying26 zaG rfl (by omega) (by decide) (.slice gD gF gG) xo im _ rfl rfl gA.o.1 ?_ gA.o.2.size (by rw [kq.o]; omega) ?_
       ·refine (congrArg (fun c => Lay.imp.rd _ _ c im) ?_).mpr (imp_mk HT.o.2.2.2)
        rw [← ip]
       ·intro v1 w8 h1 h2 h3
        have bO : Hq (OwnG Lay.imp 65 w.heap.size (fun k => k = g) w8 v1 ro.1 ∧ SpR D g lo ro.2 w8 ∧ Fr (fun k => k = g) w w8) := by
         rw [ia.o, HT.o.2.2.1]
         refine ⟨h1, HT.o.1.fr h2 (fun e => er.o g e.symm rfl) (fun k hk e => by have := (ah.o k e.symm).1; have := (H.o.1.lt.2 k hk).1; omega), ?_⟩
         exact Fr.trans gA.o.2 h2 (fun _ _ h => h) (fun k hk e => absurd hk (by have := (ah.o k e.symm).1; omega))
        obtain ⟨az, aR, aO, rfl⟩ := h1.shape
        clear h1 h2 h3
        go_wp2
        go_roundw
        case rel => exact ⟨io + 1, by omega, by go_num, by rw [kY.o]; exact bO.o⟩
        case measure => simp [intOf]; omega
  ·obtain rfl : io = n := by omega
   have ky := qh (show OwnG Lay.imp 65 w.heap.size (fun k => k = g) wr (.slice gD gF gG) (y6 s).1 ∧ SpR D g lo (y6 s).2 wr ∧ Fr (fun k => k = g) w wr from by rw [HR.o]; exact iN.o)
   clear iN
   go_wp2
   go_ret
   exact ⟨_, rfl, ky.o⟩
def Je (s : St) : Glob × St :=
 let t := zk s
 let f := jH t.2
 let c := ya f.2
 (⟨t.1, f.1, c.1⟩, c.2)
def j5 (s : St) : Expo × St :=
 let n := zr s
 let k := zi n.2
 let i := rNum k.2
 (⟨n.1, (k.1 : Int), i.1⟩, if i.2.v = 0 ∧ 3 < k.1 then i.2.fail 1 else i.2)
def Jf (s : St) : Elem × St :=
 let i := rNum s
 let c := ya i.2
 let l := zZ c.2
 (⟨i.1, c.1, l.1⟩, l.2)
def zY (s : St) : List UInt8 × St := zy (zc s).1 (zc s).2
def rDat (s : St) : Dat × St :=
 let i := rNum s
 let c := ya i.2
 let t := zY c.2
 (⟨i.1, c.1, t.1⟩, t.2)
def zE (id : Nat) (m : Mod) (s : St) : Mod × St :=
 if id = 1 then ({ m with types := (yt s).1 }, (yt s).2)
 else if id = 2 then ({ m with imports := (y6 s).1 }, (y6 s).2)
 else if id = 3 then ({ m with functions := (zZ s).1 }, (zZ s).2)
 else if id = 4 then ({ m with tables := (zW zX s).1 }, (zW zX s).2)
 else if id = 5 then ({ m with memories := (zW zD s).1 }, (zW zD s).2)
 else if id = 6 then ({ m with globals := (zW Je s).1 }, (zW Je s).2)
 else if id = 7 then ({ m with exports := (zW j5 s).1 }, (zW j5 s).2)
 else if id = 8 then ({ m with hasStart := true, start := (rNum s).1 }, (rNum s).2)
 else if id = 9 then ({ m with elements := (zW Jf s).1 }, (zW Jf s).2)
 else if id = 10 then ({ m with codes := (zW zY s).1 }, (zW zY s).2)
 else if id = 11 then ({ m with datas := (zW rDat s).1 }, (zW rDat s).2)
 else (m, s)
def zaI (l : List Nam) (i : UInt32) : Bool := match l.getLast? with
 | some x => decide (i.toNat ≤ x.idx.toNat)
 | none => false
def yj {σ : Type} (step : σ → σ) : Nat → σ → σ
 | 0, s => s
 | n + 1, s => step (yj step n s)
def zO (f : UInt32) (p : List Nam × St) : List Nam × St :=
 let i := rNum p.2
 let m := zr i.2
 (p.1 ++ [⟨f, i.1, m.1⟩], if zaI p.1 i.1 then m.2.fail 2 else m.2)
def zQ (f : UInt32) (s : St) : List Nam × St := yj (zO f) (zo s).1 ([], (zo s).2)
structure LocSt where
 seen : List UInt32
 last : UInt32
 o : List Nam
 s : St
def zT (lo : Bool) (p : LocSt) : LocSt :=
 let f := rNum p.s
 let s1 := if f.1 ∈ p.seen ∨ (f.1.toNat < p.last.toNat ∧ lo = false) then f.2.fail 2 else f.2
 let l := zQ f.1 s1
 ⟨f.1 :: p.seen, f.1, p.o ++ l.1, l.2⟩
def yx (lo : Bool) (s : St) : List Nam × St :=
 let p := yj (zT lo) (zo s).1 ⟨[], 0, [], (zo s).2⟩
 (p.o, p.s)
def jr (lo : Bool) (id : Nat) (m : Mod) (s : St) : Mod × St :=
 if id = 0 then ({ m with named := (zr s).1 }, (zr s).2)
 else if id = 1 then ({ m with funcs := (zQ 0 s).1 }, (zQ 0 s).2)
 else ({ m with locals := (yx lo s).1 }, (yx lo s).2)
def zw (lo : Bool) : Nat → Mod → Nat → St → Mod × St
 | 0, m, _, s => (m, s)
 | f + 1, m, last, s =>
  if s.v = 0 ∧ s.b ≠ [] then
   let id := zi s
   let n := zc id.2
   let t := zy n.1 n.2
   if t.2.v ≠ 0 ∨ id.1 < last ∨ 2 < id.1 then (m, t.2.fail 2)
   else
    let p := jr lo id.1 m ⟨t.1, 0⟩
    zw lo f p.1 (id.1 + 1) (if p.2.v ≠ 0 ∨ p.2.b ≠ [] then t.2.fail 2 else t.2)
  else (m, s)
def zdC : List UInt8 := [110, 97, 109, 101]
def zs (lo : Bool) (m : Mod) (seen : Bool) (s : St) : Mod × Bool × St :=
 let n := zr s
 if n.2.v ≠ 0 then (m, seen, n.2)
 else if n.1 ≠ zdC then ({ m with customs := m.customs ++ [⟨n.1, n.2.b⟩] }, seen, n.2)
 else
  let s1 := if seen then n.2.fail 2 else n.2
  let p := zw lo 4 m 0 s1
  (p.1, true, if p.2.v ≠ 0 then { p.2 with v := 2 } else p.2)
structure ModSt where
 m : Mod
 last : Nat
 names : Bool
 s : St
def ye (s : St) : St := if s.v = 3 then { s with v := 2 } else s
def j6 (lo : Bool) (p : ModSt) : ModSt × Bool :=
 let id := zi p.s
 let s1 := if id.2.b = [] then id.2.fail 2 else id.2
 let n := zc s1
 let s2 := ye n.2
 let s3 := if s2.v = 0 ∧ (n.1 = 0 ∨ s2.b = [] ∨ (id.1 = 0 ∧ s2.b.length < n.1)) then s2.fail 2 else s2
 let t := zy n.1 s3
 if t.2.v ≠ 0 then ({ p with s := t.2 }, false)
 else
  let q : ModSt :=
   if id.1 = 0 then
    let c := zs lo p.m p.names ⟨t.1, 0⟩
    ⟨c.1, p.last, c.2.1, c.2.2⟩
   else if 11 < id.1 ∨ id.1 ≤ p.last ∨ p.names then ⟨p.m, p.last, p.names, St.fail ⟨t.1, 0⟩ 2⟩
   else
    let c := zE id.1 p.m ⟨t.1, 0⟩
    ⟨c.1, id.1, p.names, if c.2.v = 0 ∧ c.2.b ≠ [] then c.2.fail 2 else c.2⟩
  let s4 := ye q.s
  ({ q with s := if s4.v ≠ 0 then t.2.fail s4.v else t.2 }, true)
def jR (lo : Bool) : Nat → ModSt → ModSt
 | 0, p => p
 | f + 1, p => if p.s.v = 0 ∧ p.s.b ≠ [] then (if (j6 lo p).2 then jR lo f (j6 lo p).1 else (j6 lo p).1) else p
def Mod.none : Mod := ⟨0, false, 0, [], [], [], [], [], [], [], [], [], [], [], [], [], []⟩
def Z2 : List UInt8 := [0, 97, 115, 109, 1, 0, 0, 0]
def zV (lo : Bool) (b : List UInt8) : Mod × Nat :=
 if b.take 8 ≠ Z2 then (Mod.none, 1)
 else
  let p := jR lo b.length ⟨{ Mod.none with version := 1 }, 0, false, ⟨b.drop 8, 0⟩⟩
  let s1 := if p.s.v = 3 then { p.s with v := 1 } else p.s
  (p.m, (if s1.v = 0 ∧ p.m.functions.length ≠ p.m.codes.length then s1.fail 2 else s1).v)
def Ym (a : Int × UInt64) : Value :=
 if a.1 = 0 then .iface 21 (.int .i32 (wrap32 (a.2.toNat : Int)))
 else if a.1 = 1 then .iface 2 (.int .i64 (wrap64 (a.2.toNat : Int)))
 else if a.1 = 2 then .iface 24 (.int .u32 (a.2.toNat : Int))
 else .iface 5 (.int .u8 (a.2.toNat : Int))
theorem zfH (a : Int × UInt64) : (Ym a).oneCell' = true := by unfold Ym; (repeat' split) <;> rfl
def okI (a : Int × UInt64) : Prop := (a.1 = 0 ∧ a.2.toNat < 4294967296) ∨ a.1 = 1 ∨ (a.1 = 2 ∧ a.2.toNat < 4294967296) ∨ (a.1 = 5 ∧ a.2.toNat < 256)
def Lay.argI : Lay (Int × UInt64) where
 size := 1
 rd _ _ cs x := cs = [Ym x] ∧ okI x
 len h := by rw [h.1]; rfl
 one h u hu := by rw [h.1] at hu; obtain rfl := List.mem_singleton.1 hu; exact zfH _
 frame h _ := h
 mono h _ := h
def yK (v : Int) : UInt64 := UInt64.ofNat (v % 18446744073709551616).toNat
theorem Ju (v : Int) : ((yK v).toNat : Int) = v % 18446744073709551616 := by
 have h : (v % 18446744073709551616).toNat < 18446744073709551616 := by omega
 show (((UInt64.ofNat (v % 18446744073709551616).toNat).toNat : Nat) : Int) = _
 rw [show (UInt64.ofNat (v % 18446744073709551616).toNat).toNat = (v % 18446744073709551616).toNat from Nat.mod_eq_of_lt h]
 omega
variable {v : Int}
theorem zfI (h : -2147483648 ≤ v ∧ v < 2147483648) : Ym (0, yK (v % 4294967296)) = .iface 21 (.int .i32 v) := by
 have := Ju (v % 4294967296)
 unfold Ym
 simp only [if_true]
 congr 2
 rw [this]; unfold wrap32; omega
theorem zfJ (h : -9223372036854775808 ≤ v ∧ v < 9223372036854775808) : Ym (1, yK v) = .iface 2 (.int .i64 v) := by
 have := Ju v
 unfold Ym
 rw [if_neg (show ¬ (1 : Int) = 0 by decide), if_pos rfl]
 congr 2
 rw [this]; unfold wrap64; omega
inductive PR (α : Type) where
 | ok (x : α) (r : List UInt8)
 | bad
 | any
namespace PR
variable {α β γ : Type}
def bind (p : PR α) (f : α → List UInt8 → PR β) : PR β := match p with
 | ok x r => f x r
 | bad => bad
 | any => any
theorem bind_ok (x : α) (r : List UInt8) (f : α → List UInt8 → PR β) : (ok x r).bind f = f x r := rfl
theorem bind_bind (p : PR α) (f : α → List UInt8 → PR β) (g : β → List UInt8 → PR γ) : (p.bind f).bind g = p.bind fun x r => (f x r).bind g := by cases p <;> rfl
theorem ne_any {p : PR α} {f : α → List UInt8 → PR β} (h : p.bind f ≠ any) : p ≠ any := fun e => h (by rw [e]; rfl)
end PR
def y7 : List UInt8 → PR UInt8
 | [] => .any
 | c :: r => .ok c r
def pNum (bs : List UInt8) : PR UInt32 := match jq 0 0 bs with
 | some (n, r) => .ok (UInt32.ofNat (n % 4294967296)) r
 | none => .any
def ZY (n : Nat) (bs : List UInt8) : PR (List UInt8) := if n ≤ bs.length then .ok (bs.take n) (bs.drop n) else .any
def zR (bs : List UInt8) : PR (List UInt8) := (pNum bs).bind fun n r => ZY n.toNat r
def pRep {α : Type} (p : List UInt8 → PR α) : Nat → List UInt8 → PR (List α)
 | 0, bs => .ok [] bs
 | n + 1, bs => (p bs).bind fun x r => (pRep p n r).bind fun xs r' => .ok (x :: xs) r'
theorem ja (p : List UInt8 → PR α) (n : Nat) (bs : List UInt8) : pRep p (n + 1) bs = (p bs).bind fun x r => (pRep p n r).bind fun xs r' => .ok (x :: xs) r' := rfl
def pVec {α : Type} (p : List UInt8 → PR α) (bs : List UInt8) : PR (List α) := (pNum bs).bind fun n r => pRep p n.toNat r
theorem ZQ (p : List UInt8 → PR α) : ∀ (i k : Nat) (bs : List UInt8), pRep p (i + k) bs = (pRep p i bs).bind fun xs r => (pRep p k r).bind fun ys r' => .ok (xs ++ ys) r'
 | 0, k, bs => by
  rw [Nat.zero_add]
  show _ = (pRep p k bs).bind fun ys r' => .ok ([] ++ ys) r'
  cases pRep p k bs <;> rfl
 | i + 1, k, bs => by
  rw [show i + 1 + k = (i + k) + 1 from by omega]
  rw [ja, ja]
  cases h : p bs with
  | ok x r =>
   simp only [PR.bind_ok, ZQ p i k r, PR.bind_bind]
   cases pRep p i r with
   | ok xs r1 => simp only [PR.bind_ok]; cases pRep p k r1 <;> simp [PR.bind]
   | bad => rfl
   | any => rfl
  | bad => rfl
  | any => rfl
theorem zg5 (p : List UInt8 → PR α) (bs : List UInt8) : pRep p 1 bs = (p bs).bind fun x r => .ok [x] r := by
 show (p bs).bind _ = _
 cases p bs <;> rfl
variable {p : List UInt8 → PR α} {i : Nat} {bs r : List UInt8} {xs : List α}
theorem yu {r' : List UInt8} {x : α} (h : pRep p i bs = .ok xs r) (h1 : p r = .ok x r') : pRep p (i + 1) bs = .ok (xs ++ [x]) r' := by
 rw [ZQ, h, PR.bind_ok, zg5, h1]; rfl
theorem yE (h : pRep p i bs = .ok xs r) (hn : i < n) (ag : pRep p n bs ≠ .any) : p r ≠ .any := by
 intro e
 apply ag
 rw [show n = i + ((n - i - 1) + 1) from by omega, ZQ, h, PR.bind_ok]
 rw [ja, e]; rfl
theorem jg (h : pRep p i bs = .ok xs r) (hn : i < n) (hb : p r = .bad) : pRep p n bs = .bad := by
 rw [show n = i + ((n - i - 1) + 1) from by omega, ZQ, h, PR.bind_ok]
 rw [ja, hb]; rfl
theorem jN : ∀ {n : Nat} {bs r : List UInt8} {xs : List α}, pRep p n bs = .ok xs r → xs.length = n
 | 0, bs, r, xs, h => by injection h with h1 h2; rw [← h1]; rfl
 | n + 1, bs, r, xs, h => by
  rw [ja] at h
  cases h1 : p bs with
  | ok x r1 =>
   rw [h1, PR.bind_ok] at h
   cases h2 : pRep p n r1 with
   | ok ys r2 =>
    rw [h2, PR.bind_ok] at h
    injection h with h3 h4
    rw [← h3, List.length_cons, jN h2]
   | bad => rw [h2] at h; cases h
   | any => rw [h2] at h; cases h
  | bad => rw [h1] at h; cases h
  | any => rw [h1] at h; cases h
def pChk (P : Prop) [Decidable P] (bs : List UInt8) : PR Unit := if P then .ok () bs else .bad
def pVT (bs : List UInt8) : PR Int := (y7 bs).bind fun c r => (pChk (124 ≤ c.toNat ∧ c.toNat ≤ 127) r).bind fun _ r => .ok (127 - (c.toNat : Int)) r
def pFT (bs : List UInt8) : PR FT := (y7 bs).bind fun c r => (pChk (c.toNat = 96) r).bind fun _ r => (pVec pVT r).bind fun ps r1 => (pVec pVT r1).bind fun rs r2 => .ok ⟨ps, rs⟩ r2
def pLim (bs : List UInt8) : PR Lim := (y7 bs).bind fun c r => (pNum r).bind fun m r1 => if c.toNat = 1 then (pNum r1).bind fun x r2 => .ok ⟨m, true, x⟩ r2 else (pChk (c.toNat = 0) r1).bind fun _ r1 => .ok ⟨m, false, 0⟩ r1
def pTab (bs : List UInt8) : PR Lim := (y7 bs).bind fun c r => (pChk (c.toNat = 112) r).bind fun _ r => pLim r
def zeC (c : UInt8) (mdl nm : List UInt8) (bs : List UInt8) : PR Imp :=
 if c.toNat = 0 then (pNum bs).bind fun i r3 => .ok ⟨mdl, nm, 0, i, ⟨0, false, 0⟩, 0, false⟩ r3
 else if c.toNat = 1 then (pTab bs).bind fun l r3 => .ok ⟨mdl, nm, 1, 0, l, 0, false⟩ r3
 else if c.toNat = 2 then (pLim bs).bind fun l r3 => .ok ⟨mdl, nm, 2, 0, l, 0, false⟩ r3
 else if c.toNat = 3 then .any else .bad
def pImp (bs : List UInt8) : PR Imp := (zR bs).bind fun mdl r => (zR r).bind fun nm r1 => (y7 r1).bind fun c r2 => zeC c mdl nm r2
def pEnd (bs : List UInt8) : PR Unit := (y7 bs).bind fun c r => if c.toNat = 11 then .ok () r else .any
def pA32 (bs : List UInt8) : PR (List (Int × UInt64)) := match yM 0 0 bs with
 | some (v, r) => .ok [(0, yK (wrap32 v % 4294967296))] r
 | none => .any
def pA64 (bs : List UInt8) : PR (List (Int × UInt64)) := match yM 0 0 bs with
 | some (v, r) => .ok [(1, yK v)] r
 | none => .any
def jb (bs : List UInt8) : PR (List Ins) := (y7 bs).bind fun c r =>
 if c.toNat = 65 then (pA32 r).bind fun a r1 => (pEnd r1).bind fun _ r2 => .ok [.mk 65 a false (-1) []] r2
 else if c.toNat = 66 then (pA64 r).bind fun a r1 => (pEnd r1).bind fun _ r2 => .ok [.mk 66 a false (-1) []] r2
 else .any
def pBit (bs : List UInt8) : PR Bool := (y7 bs).bind fun c r => (pChk (c.toNat ≤ 1) r).bind fun _ r => .ok (decide (c.toNat = 1)) r
def Zr (bs : List UInt8) : PR Glob := (pVT bs).bind fun t r => (pBit r).bind fun b r1 => (jb r1).bind fun l r2 => .ok ⟨t, b, l⟩ r2
def JR (bs : List UInt8) : PR Expo := (zR bs).bind fun n r => (y7 r).bind fun c r1 => (pChk (c.toNat ≤ 3) r1).bind fun _ r1 => (pNum r1).bind fun i r2 => .ok ⟨n, (c.toNat : Int), i⟩ r2
def ZZ (bs : List UInt8) : PR Elem := (pNum bs).bind fun i r => (jb r).bind fun c r1 => (pVec pNum r1).bind fun l r2 => .ok ⟨i, c, l⟩ r2
def pDat (bs : List UInt8) : PR Dat := (pNum bs).bind fun i r => (jb r).bind fun c r1 => (zR r1).bind fun l r2 => .ok ⟨i, c, l⟩ r2
def pNam (f : UInt32) (bs : List UInt8) : PR Nam := (pNum bs).bind fun i r => (zR r).bind fun n r1 => .ok ⟨f, i, n⟩ r1
def Jv (bs : List UInt8) : PR (List Nam) := (pNum bs).bind fun f r => pVec (pNam f) r
def zaJ (bs : List UInt8) : PR (List Nam) := (pVec Jv bs).bind fun ls r => .ok ls.flatten r
def Zs (id : Nat) (m : Mod) (bs : List UInt8) : PR Mod :=
 if id = 0 then (zR bs).bind fun n r => .ok { m with named := n } r
 else if id = 1 then (pVec (pNam 0) bs).bind fun n r => .ok { m with funcs := n } r
 else if id = 2 then (zaJ bs).bind fun n r => .ok { m with locals := m.locals ++ n } r
 else .any
def Jg : Nat → Mod → List UInt8 → PR Mod
 | 0, _, _ => .any
 | f + 1, m, bs => match bs with
  | [] => .ok m []
  | c :: r => (pNum r).bind fun n r1 => (ZY n.toNat r1).bind fun s r2 => (Zs c.toNat m s).bind fun m1 _ => Jg f m1 r2
def YN (m : Mod) (bs : List UInt8) : PR Mod := (zR bs).bind fun n r => if n = zdC then Jg (r.length + 1) m r else .ok { m with customs := m.customs ++ [⟨n, r⟩] } []
def zq (id : Nat) (m : Mod) (bs : List UInt8) : PR Mod :=
 if id = 0 then YN m bs
 else if id = 1 then if m.types = [] then (pVec pFT bs).bind fun x r => .ok { m with types := x } r else .any
 else if id = 2 then if m.imports = [] then (pVec pImp bs).bind fun x r => .ok { m with imports := x } r else .any
 else if id = 3 then (pVec pNum bs).bind fun x r => .ok { m with functions := x } r
 else if id = 4 then if m.tables = [] then (pVec pTab bs).bind fun x r => .ok { m with tables := x } r else .any
 else if id = 5 then if m.memories = [] then (pVec pLim bs).bind fun x r => .ok { m with memories := x } r else .any
 else if id = 6 then if m.globals = [] then (pVec Zr bs).bind fun x r => .ok { m with globals := x } r else .any
 else if id = 7 then if m.exports = [] then (pVec JR bs).bind fun x r => .ok { m with exports := x } r else .any
 else if id = 8 then (pNum bs).bind fun x r => .ok { m with hasStart := true, start := x } r
 else if id = 9 then if m.elements = [] then (pVec ZZ bs).bind fun x r => .ok { m with elements := x } r else .any
 else if id = 10 then if m.codes = [] then (pVec zR bs).bind fun x r => .ok { m with codes := x } r else .any
 else if id = 11 then if m.datas = [] then (pVec pDat bs).bind fun x r => .ok { m with datas := x } r else .any
 else .any
def yf : Nat → Mod → List UInt8 → PR Mod
 | 0, _, _ => .any
 | f + 1, m, bs => match bs with
  | [] => .ok m []
  | c :: r => (pNum r).bind fun n r1 => if n.toNat ≤ r1.length then (zq c.toNat m (r1.take n.toNat)).bind fun m1 _ => yf f m1 (r1.drop n.toNat) else if r1 = [] then .any else .bad
def yA (bs : List UInt8) : PR Mod :=
 if bs.take 8 = Z2 then yf (bs.length + 1) Mod.none (bs.drop 8) else .bad
end Go.Proofs.YtejgninpjhcgnaaGreatDoor
