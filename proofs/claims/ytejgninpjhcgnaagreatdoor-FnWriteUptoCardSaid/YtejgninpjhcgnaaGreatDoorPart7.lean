/- Texts of this proof, one behind the other. -/
import Derived.Test.YtejgninpjhcgnaaGreatDoorPart6
namespace Go.Proofs.YtejgninpjhcgnaaGreatDoor
open Go.RowKit
set_option linter.unusedSimpArgs false
set_option linter.unusedVariables false
set_option maxRecDepth 100000
set_option maxHeartbeats 8000000
theorem zgD : (Tryz.prog.info? 3).map (fun i => (i.zero, i.size, i.bytes)) = some (some (.int .i64 0), Lay.int.size, 8) := by kernel_rfl
theorem zjZ : (Tryz.prog.info? 91).map (fun i => (i.zero, i.size, i.bytes)) = some (some (.agg #[.slice none 0 0, .slice none 0 0]), Lay.ft.size, 48) := by kernel_rfl
theorem Jt (s : St) : -9223372036854775808 ≤ (zj s).1 ∧ (zj s).1 ≤ 9223372036854775807 := by
 have := jr s
 have e : (zj s).1 = 127 - ((zn s).1 : Int) := rfl
 omega
theorem yD (s : St) : (zj s).2.b.length ≤ s.b.length := by
 have := yu s
 show (if _ then _ else _ : St).b.length ≤ _
 split
 ·exact nzQ _
 ·exact this
def rFT0 (s : St) : St := if (zn s).2.v = 0 ∧ (zn s).1 ≠ 96 then (zn s).2.fail 1 else (zn s).2
def rVTs (s : St) : List Int × St := zR zj s
def rFT (s : St) : FT × St := (⟨(rVTs (rFT0 s)).1, (rVTs (rVTs (rFT0 s)).2).1⟩, (rVTs (rVTs (rFT0 s)).2).2)
def yI (s : St) : List FT × St := zR rFT s
theorem ze7 (s : St) : (rFT0 s).b.length ≤ s.b.length := by
 have := yu s
 unfold rFT0
 split
 ·exact nzQ _
 ·exact this
theorem zdv {α : Type} (rd : St → α × St) (h : ∀ s, (rd s).2.b.length ≤ s.b.length) (s : St) : (zR rd s).2.b.length ≤ s.b.length := nlQ (yK rd h _ _) (yg s).2
theorem zcH (s : St) : (rVTs s).2.b.length ≤ s.b.length := zdv _ yD s
theorem zjd (s : St) : (rFT s).2.b.length ≤ s.b.length := by
 have h1 := zcH (rVTs (rFT0 s)).2
 have h2 := zcH (rFT0 s)
 have h3 := ze7 s
 have e : (rFT s).2 = (rVTs (rVTs (rFT0 s)).2).2 := by rw [rFT]
 rw [e]
 generalize rVTs (rVTs (rFT0 s)).2 = a at *
 generalize rVTs (rFT0 s) = b at *
 generalize rFT0 s = d at *
 omega
variable {D : Nat → Prop} {g : Nat} {lo : Bool} {s : St} {w : World}
theorem zbl (h : SpR D g lo s w) (hl : s.b.length ≤ 33554432) :
 Calls Tryz.prog 93 #[.pointer (some ⟨g, 0, none⟩)] w fun e w' => ∃ v, e = .returned v ∧ OwnG Lay.ft 91 w.heap.size (fun k => k < w.heap.size) w' v (yI s).1 ∧ SpR D g lo (yI s).2 w' ∧ Fr (fun k => k = g) w w' := by
 have H := qh (anQ h (anQ hl h.lt.1))
 have dh := qh (yg s)
 clear h hl
 go_enter Tryz.func93, Tryz.ntmps93
 go_wp2_with fail
 refine (ye H.o.1 (by have := H.o.2.1; omega)).mono ?_
 rintro e w1 ⟨rfl, k1, k2⟩
 have HR := qh (show yI s = rVec rFT (zv s).1 (zv s).2 from rfl)
 generalize (zv s).1 = n at *
 generalize (zv s).2 = s1 at *
 have H1 := qh (anQ k1 k2)
 clear k1 k2
 have mX : (n : Int) ≤ 33554432 := by have := H.o.2.1; have := dh.o.1; omega
 go_wp2_with fail
 go_loopw [2, 7] (fun s2 s7 w' => ∃ (i : Nat), i ≤ n ∧ s7 = .int .i64 i ∧ Hd (OwnG Lay.ft 91 w.heap.size (fun k => k < w.heap.size) w' s2 (rVec rFT i s1).1 ∧ SpR D g lo (rVec rFT i s1).2 w' ∧ Fr (fun k => k = g) w w')) (fun _ s7 _ => n - (intOf s7).toNat)
 case atStart => exact ⟨0, nzQ _, rfl, zK _ _ _ _ _, H1.o⟩
 case round =>
  obtain ⟨io, CL, rfl, iC⟩ := hrel
  obtain ⟨go, gh, gp, rfl⟩ := iC.o.1.shape
  by_cases hlto : io < n
  ·have hI := qh (yP rFT io s1)
   have ky := qh (jg rFT io s1)
   have ii := qh (show (rVec rFT io s1).2.b.length ≤ 33554432 from nlQ (yK rFT zjd io s1) (nlQ dh.o.2 H.o.2.1))
   obtain ⟨ro, lq⟩ := exQ (rVec rFT (io + 1) s1)
   have lq := qh lq
   rw [lq.o] at hI
   generalize (rVec rFT io s1).1 = xo at *
   generalize (rVec rFT io s1).2 = so at *
   go_wp2_with fail
   refine (yo iC.o.2.1).mono ?_
   rintro e w2 ⟨rfl, k1, k2⟩
   have lU := qh (show rFT0 so = if (zn so).2.v = 0 ∧ (zn so).1 ≠ 96 then (zn so).2.fail 1 else (zn so).2 from rfl)
   have dT := qh (nlQ (ze7 so) ii.o)
   have iW := qh (show rFT so = (⟨(rVTs (rFT0 so)).1, (rVTs (rVTs (rFT0 so)).2).1⟩, (rVTs (rVTs (rFT0 so)).2).2) from rfl)
   generalize (zn so).1 = c at *
   generalize (zn so).2 = sb at *
   generalize rFT0 so = sf at *
   have H2 := qh (anQ k1 (anQ (iC.o.1.fr k2 (fun k e => .inl (by have e' : k = g := e; have := H.o.2.2; omega)) (fun k hk e => by have := (iC.o.1.lt k hk).1; have e' : k = g := e; have := H.o.2.2; omega)) (Fr.trans iC.o.2.2 k2 (U := fun k => k = g) (fun _ _ h => h) (fun _ _ h => h))))
   clear k1 k2 iC
   go_wp2_with fail
   refine (yh H2.o.1).mono ?_
   rintro e oO ⟨rfl, rfl⟩
   by_cases hv : sb.v = 0
   case' neg =>
    rw [decide_eq_false hv]
    have H3 : Hd (SpR D g lo sf oO ∧ OwnG Lay.ft 91 w.heap.size (fun k => k < w.heap.size) oO (.slice go gh gp) xo ∧ Fr (fun k => k = g) w oO) := ⟨by rw [lU.o, if_neg (fun h => hv h.1)]; exact H2.o.1, H2.o.2⟩
    obtain ⟨w3, rfl⟩ : ∃ w3, w3 = oO := ⟨_, rfl⟩
    clear hv lU H2
   case' pos =>
    rw [decide_eq_true hv]
    by_cases hc : c = 96
    case' neg =>
     have dc : ((c : Int) != 96) = true := by rw [bne_iff_ne]; omega
     go_wp2_with fail
     refine (zr D g lo sb 1 oO H2.o.1).mono ?_
     rintro e w3 ⟨rfl, k1, k2⟩
     have H3 : Hd (SpR D g lo sf w3 ∧ OwnG Lay.ft 91 w.heap.size (fun k => k < w.heap.size) w3 (.slice go gh gp) xo ∧ Fr (fun k => k = g) w w3) := ⟨by rw [lU.o, if_pos ⟨hv, hc⟩]; exact k1, H2.o.2.1.fr k2 (fun k e => .inl (by have e' : k = g := e; have := H.o.2.2; omega)) (fun k hk e => by have := (H2.o.2.1.lt k hk).1; have e' : k = g := e; have := H.o.2.2; omega), Fr.trans H2.o.2.2 k2 (fun _ _ h => h) (fun _ _ h => h)⟩
     clear k1 k2 hv hc lU H2
    case' pos =>
     have dc : ((c : Int) != 96) = false := by rw [bne_eq_false_iff_eq]; omega
     have H3 : Hd (SpR D g lo sf oO ∧ OwnG Lay.ft 91 w.heap.size (fun k => k < w.heap.size) oO (.slice go gh gp) xo ∧ Fr (fun k => k = g) w oO) := ⟨by rw [lU.o, if_neg (fun h => h.2 hc)]; exact H2.o.1, H2.o.2⟩
     obtain ⟨w3, rfl⟩ : ∃ w3, w3 = oO := ⟨_, rfl⟩
     clear hv hc lU H2
   all_goals
    go_wp2_with fail
    obtain ⟨gt, kD⟩ := exQ (w3.heap.size)
    obtain ⟨W3, eS⟩ := exQ (w3.alloc (.cells #[.slice none 0 0, .slice none 0 0] 91))
    have HG : Hd (SpR D g lo sf W3 ∧ Blk W3 gt #[.slice none 0 0, .slice none 0 0] 91 ∧ Ext w3 W3 ∧ w3.heap.size = gt) := by
     subst eS
     exact ⟨H3.o.1.ext (za _ _), kD ▸ zk _ _ _, za _ _, kD⟩
    have aO : Hd (g ≠ gt ∧ (∀ k, D k → k ≠ gt) ∧ g < gt) := ⟨by have := H3.o.1.lt.1; omega, fun k hk => by have := (H3.o.1.lt.2 k hk).1; omega, by have := H3.o.1.lt.1; omega⟩
    have An := qh kD
    rw [eS, kD]
    clear eS kD
    refine (ye HG.o.1 (by have := dT.o; omega)).mono ?_
    rintro e w4 ⟨rfl, k1, k2⟩
    have tv := qh (show rVTs sf = rVec zj (zv sf).1 (zv sf).2 from rfl)
    have ek := yg sf
    generalize (zv sf).1 = n1 at *
    generalize (zv sf).2 = u1 at *
    have dJ : (n1 : Int) ≤ 33554432 := by have := dT.o; omega
    have pr := qh (show u1.b.length ≤ 33554432 from by have := dT.o; omega)
    have qy : Hd (SpR D g lo u1 w4 ∧ Blk w4 gt #[.slice none 0 0, .slice none 0 0] 91 ∧ Fr (fun k => k = g) w3 w4) := ⟨k1, HG.o.2.1.fr k2 (fun e => aO.o.1 e.symm), Ext.fr HG.o.2.2.1 k2⟩
    have kv : Hd (gt < w4.heap.size ∧ g ≠ gt ∧ ∀ k, D k → k ≠ gt ∧ k < w4.heap.size) := ⟨qy.o.2.1.lt, aO.o.1, fun k hk => ⟨aO.o.2.1 k hk, (qy.o.1.lt.2 k hk).1⟩⟩
    clear k1 k2 ek HG
    go_wp2_with fail
    go_loopw [21] (fun rW w' => ∃ (i : Nat) (va : Value), i ≤ n1 ∧ rW = .int .i64 i ∧ Hd (Blk w' gt #[va, .slice none 0 0] 91 ∧ OwnG (Lay.int) 3 w4.heap.size (fun k => k = g ∨ k = gt) w' (va) (rVec zj i u1).1 ∧ SpR D g lo (rVec zj i u1).2 w' ∧ Fr (fun k => k = g ∨ k = gt) w4 w')) (fun rW _ => n1 - (intOf rW).toNat)
    case atStart => exact ⟨0, _, nzQ _, rfl, qy.o.2.1, zK _ _ _ _ _, qy.o.1, Fr.refl _ _⟩
    case round =>
     obtain ⟨i, va, hi, rfl, hV⟩ := hrel
     obtain ⟨aN, aw, az, rfl⟩ := hV.o.2.1.shape
     by_cases ah : i < n1
     ·have hst := qh (yP zj i u1)
      have gC := qh (jg zj i u1)
      have cW := qh (show (rVec zj i u1).2.b.length ≤ 33554432 from nlQ (yK zj yD i u1) pr.o)
      obtain ⟨r2, bR⟩ := exQ (rVec zj (i + 1) u1)
      have bR := qh bR
      rw [bR.o] at hst
      generalize (rVec zj i u1).1 = xs at *
      generalize (rVec zj i u1).2 = t0 at *
      have cj := qh (show g < w4.heap.size from (qy.o.1).lt.1)
      go_wp2_with fail
      refine zi (y4 (fun k => k = g)) [kT 0, kT 1, kT 2, kR 3, kR 4, kL 5, kT 6, kL 7] (by kernel_rfl) (by kernel_rfl) ?_
      simp only [zy, gzQ, gsQ]
      have HC := qh (fun W' (h : Fr (fun k => k = g) wr.drew W') => (hV.o.1.fr ((zb _).fr h) (fun e => kv.o.2.1 e.symm)).cell)
      have bU : Hd (Blk wr.drew gt #[(.slice aN aw az), .slice none 0 0] 91 ∧ OwnG (Lay.int) 3 w4.heap.size (fun k => k = g ∨ k = gt) wr.drew ((.slice aN aw az)) xs ∧ SpR D g lo t0 wr.drew ∧ Fr (fun k => k = g ∨ k = gt) w4 wr.drew) := ⟨hV.o.1.ext (zb _), hV.o.2.1.ext (zb _), hV.o.2.2.1.ext (zb _), hV.o.2.2.2.ext (zb _)⟩
      have au := qh (show ∀ k, (Value.slice aN aw az).ownBlock = some k → w4.heap.size ≤ k ∧ k < wr.drew.heap.size from bU.o.2.1.lt)
      have dF := qh (show g < wr.drew.heap.size ∧ gt < wr.drew.heap.size ∧ (∀ k, D k → k ≠ g ∧ k ≠ gt ∧ k < w4.heap.size) from ⟨bU.o.2.2.1.lt.1, bU.o.1.lt, fun k hk => ⟨(bU.o.2.2.1.lt.2 k hk).2, kv.o.2.2 k hk⟩⟩)
      clear hV
      have ll := qh bU.o.2.2.2.size
      generalize wr.drew = W0 at *
      have i2 := qh (show zj t0 = ((zj t0).1, (zj t0).2) from rfl)
      repeat (apply item_take; rfl; rfl; rfl; rfl; exact fun _ _ _ _ h => h; (intro W e _ k; have q := HC.o W e; go_simp; exact k))
      apply ze; rfl; intro K hK; go_simp
      refine (jP bU.o.2.2.1).mono ?_
      rintro e W1 ⟨rfl, ks, kf⟩
      have fR := qh kf.size
      refine hK _ _ kf ?_
      have cU := qh (Jt t0)
      have bS := qh (show (zj t0).2.b.length ≤ 33554432 from nlQ (yD t0) cW.o)
      generalize (zj t0).1 = x0 at *
      generalize (zj t0).2 = t1 at *
      have bZ : Hd (Blk W1 gt #[(.slice aN aw az), .slice none 0 0] 91 ∧ OwnG (Lay.int) 3 w4.heap.size (fun k => k = g ∨ k = gt) W1 ((.slice aN aw az)) xs ∧ SpR D g lo t1 W1 ∧ Fr (fun k => k = g ∨ k = gt) w4 W1) := ⟨bU.o.1.fr kf (fun e => kv.o.2.1 e.symm), bU.o.2.1.fr kf (fun k e => .inl (.inl e)) (fun k hk e => by have e' : k = g := e; have := au.o k hk; have := cj.o; omega), ks, Fr.trans bU.o.2.2.2 kf (fun _ _ h => h) (fun _ _ h => .inl h)⟩
      clear hK K kf ks bU
      repeat (apply item_take; rfl; rfl; rfl; rfl; exact fun _ _ _ _ h => h; (intro _ _ _ k; go_simp; exact k))
      apply ze; rfl; intro K hK; go_simp
      refine hK _ _ (za _ _).to ?_
      clear hK K
      apply zu; rfl; intro K hK
      refine jM (Lay.int) w4.heap.size (.tmp 24) (.tmp 27) _ _ _ 8 rfl Tryz.underlying23 zgD rfl (by omega) (by decide) (.slice aN aw az) xs x0 _ rfl rfl bZ.o.2.1 ?_ bZ.o.2.2.2.size (by rw [gC.o]; omega) ?_
      ·refine zjY (W0 := W0) (wL := w4) ?_ dF.o.1 dF.o.2.1 dF.o.2.2 au.o
       exact ⟨rfl, cU.o.1, cU.o.2⟩
      intro v1 Wa h1 h2 h3
      refine hK _ _ ?_
      clear hK K
      obtain ⟨aR, aV, aU, rfl⟩ := h1.shape
      have ch := jc (f := 0) bZ.o.1 bZ.o.2.1 bZ.o.2.2.2 (X := (fun k => k = g ∨ k = gt)) (S := (fun k => k = g ∨ k = gt)) (.inr rfl) (.inr rfl) kv.o.1 rfl h1 h2
      have h6 : Hd (Blk Wa gt #[(.slice aN aw az), .slice none 0 0] 91 ∧ Blk (Wa.setCell ⟨gt, 0, none⟩ (.slice aR aV aU)) gt #[(.slice aR aV aU), .slice none 0 0] 91 ∧ OwnG (Lay.int) 3 w4.heap.size (fun k => k = g ∨ k = gt) (Wa.setCell ⟨gt, 0, none⟩ (.slice aR aV aU)) ((.slice aR aV aU)) r2.1 ∧ SpR D g lo r2.2 (Wa.setCell ⟨gt, 0, none⟩ (.slice aR aV aU)) ∧ Fr (fun k => k = g ∨ k = gt) w4 (Wa.setCell ⟨gt, 0, none⟩ (.slice aR aV aU))) := by
       rw [hst.o]
       have gL := bZ.o.2.2.1.fr h2 (fun e => by have := au.o g e.symm; have := cj.o; omega) (fun k hk e => by have := au.o k e.symm; have := dF.o.2.2 k hk; omega)
       refine ⟨ch.1, ?_, ch.2.2.1, gL.fr (zh _ _ _) (fun e => kv.o.2.1 e) (fun k hk e => (dF.o.2.2 k hk).2.1 e), ch.2.2.2⟩
       have := ch.2.1
       simpa using this
      have fV := h6.o.1.cell
      have dV := h6.o.1.frz
      clear h1 h2 h3 ch bZ
      repeat (apply item_take; rfl; rfl; rfl; rfl; exact fun _ _ _ _ h => h; (intro _ _ _ k; go_simp; exact k))
      apply zu; rfl; intro K hK; go_simp
      refine hK _ _ ?_
      clear hK K fV dV
      apply zl
      have dy := qh h6.o.2
      go_wp2
      go_roundw
      case rel => exact ⟨i + 1, _, by omega, by go_num, by rw [bR.o]; exact dy.o⟩
      case measure => simp [intOf]; omega
     ·obtain rfl : i = n1 := by omega
      obtain ⟨nw, nb, nd, BA⟩ : ∃ a b c, Value.slice aN aw az = .slice a b c := ⟨_, _, _, rfl⟩
      have HP : Hd (Blk wr gt #[.slice nw nb nd, .slice none 0 0] 91 ∧ OwnG Lay.int 3 w4.heap.size (fun k => k = g ∨ k = gt) wr (.slice nw nb nd) (rVTs sf).1 ∧ SpR D g lo (rVTs sf).2 wr ∧ Fr (fun k => k = g ∨ k = gt) w4 wr) := by rw [tv.o, ← BA]; exact hV.o
      have fp := qh (show (rVTs sf).2.b.length ≤ 33554432 from nlQ (zcH sf) dT.o)
      clear BA hV tv
      generalize (rVTs sf).1 = ps at *
      generalize (rVTs sf).2 = sg at *
      go_wp2_with fail
      refine (ye HP.o.2.2.1 (by have := fp.o; omega)).mono ?_
      rintro e w6 ⟨rfl, k1, k2⟩
      have sK := qh (show rVTs sg = rVec zj (zv sg).1 (zv sg).2 from rfl)
      have ek := yg sg
      generalize (zv sg).1 = n2 at *
      generalize (zv sg).2 = u2 at *
      have eU : (n2 : Int) ≤ 33554432 := by have := fp.o; omega
      have qO := qh (show u2.b.length ≤ 33554432 from by have := fp.o; omega)
      have ny : Hd (SpR D g lo u2 w6 ∧ Blk w6 gt #[.slice nw nb nd, .slice none 0 0] 91 ∧ OwnG Lay.int 3 w4.heap.size (fun k => k = g ∨ k = gt) w6 (.slice nw nb nd) ps ∧ Fr (fun k => k = g ∨ k = gt) w4 w6) :=
       ⟨k1, HP.o.1.fr k2 (fun e => aO.o.1 e.symm), HP.o.2.1.fr k2 (fun k e => .inl (.inl e)) (fun k hk e => by have e' : k = g := e; have := (HP.o.2.1.lt k hk).1; have := kv.o.1; have := aO.o.2.2; omega), Fr.trans HP.o.2.2.2 k2 (fun _ _ h => h) (fun _ _ h => .inl h)⟩
      have mI : Hd (gt < w6.heap.size ∧ g ≠ gt ∧ ∀ k, D k → k ≠ gt ∧ k < w6.heap.size) := ⟨ny.o.2.1.lt, aO.o.1, fun k hk => ⟨aO.o.2.1 k hk, (ny.o.1.lt.2 k hk).1⟩⟩
      clear k1 k2 ek HP
      go_wp2_with fail
      go_loopw [33] (fun i9 w' => ∃ (i : Nat) (va : Value), i ≤ n2 ∧ i9 = .int .i64 i ∧ Hd (Blk w' gt #[.slice nw nb nd, va] 91 ∧ OwnG (Lay.int) 3 w6.heap.size (fun k => k = g ∨ k = gt) w' (va) (rVec zj i u2).1 ∧ SpR D g lo (rVec zj i u2).2 w' ∧ Fr (fun k => k = g ∨ k = gt) w6 w')) (fun i9 _ => n2 - (intOf i9).toNat)
      case atStart => exact ⟨0, _, nzQ _, rfl, ny.o.2.1, zK _ _ _ _ _, ny.o.1, Fr.refl _ _⟩
      case round =>
       obtain ⟨i, va, hi, rfl, hV⟩ := hrel
       obtain ⟨aN, aw, az, rfl⟩ := hV.o.2.1.shape
       by_cases ah : i < n2
       ·have hst := qh (yP zj i u2)
        have gC := qh (jg zj i u2)
        have cW := qh (show (rVec zj i u2).2.b.length ≤ 33554432 from nlQ (yK zj yD i u2) qO.o)
        obtain ⟨r2, bR⟩ := exQ (rVec zj (i + 1) u2)
        have bR := qh bR
        rw [bR.o] at hst
        generalize (rVec zj i u2).1 = xs at *
        generalize (rVec zj i u2).2 = t0 at *
        have cj := qh (show g < w6.heap.size from (ny.o.1).lt.1)
        go_wp2_with fail
        refine zi (y4 (fun k => k = g)) [kT 0, kT 1, kT 2, kR 3, kR 4, kL 5, kT 6, kL 7] (by kernel_rfl) (by kernel_rfl) ?_
        simp only [zy, gzQ, gsQ]
        have HC := qh (fun W' (h : Fr (fun k => k = g) wr.drew W') => (hV.o.1.fr ((zb _).fr h) (fun e => mI.o.2.1 e.symm)).cell)
        have bU : Hd (Blk wr.drew gt #[.slice nw nb nd, (.slice aN aw az)] 91 ∧ OwnG (Lay.int) 3 w6.heap.size (fun k => k = g ∨ k = gt) wr.drew ((.slice aN aw az)) xs ∧ SpR D g lo t0 wr.drew ∧ Fr (fun k => k = g ∨ k = gt) w6 wr.drew) := ⟨hV.o.1.ext (zb _), hV.o.2.1.ext (zb _), hV.o.2.2.1.ext (zb _), hV.o.2.2.2.ext (zb _)⟩
        have au := qh (show ∀ k, (Value.slice aN aw az).ownBlock = some k → w6.heap.size ≤ k ∧ k < wr.drew.heap.size from bU.o.2.1.lt)
        have dF := qh (show g < wr.drew.heap.size ∧ gt < wr.drew.heap.size ∧ (∀ k, D k → k ≠ g ∧ k ≠ gt ∧ k < w6.heap.size) from ⟨bU.o.2.2.1.lt.1, bU.o.1.lt, fun k hk => ⟨(bU.o.2.2.1.lt.2 k hk).2, mI.o.2.2 k hk⟩⟩)
        clear hV
        have ll := qh bU.o.2.2.2.size
        generalize wr.drew = W0 at *
        have i2 := qh (show zj t0 = ((zj t0).1, (zj t0).2) from rfl)
        repeat (apply item_take; rfl; rfl; rfl; rfl; exact fun _ _ _ _ h => h; (intro W e _ k; have q := HC.o W e; go_simp; exact k))
        apply ze; rfl; intro K hK; go_simp
        refine (jP bU.o.2.2.1).mono ?_
        rintro e W1 ⟨rfl, ks, kf⟩
        have fR := qh kf.size
        refine hK _ _ kf ?_
        have cU := qh (Jt t0)
        have bS := qh (show (zj t0).2.b.length ≤ 33554432 from nlQ (yD t0) cW.o)
        generalize (zj t0).1 = x0 at *
        generalize (zj t0).2 = t1 at *
        have bZ : Hd (Blk W1 gt #[.slice nw nb nd, (.slice aN aw az)] 91 ∧ OwnG (Lay.int) 3 w6.heap.size (fun k => k = g ∨ k = gt) W1 ((.slice aN aw az)) xs ∧ SpR D g lo t1 W1 ∧ Fr (fun k => k = g ∨ k = gt) w6 W1) := ⟨bU.o.1.fr kf (fun e => mI.o.2.1 e.symm), bU.o.2.1.fr kf (fun k e => .inl (.inl e)) (fun k hk e => by have e' : k = g := e; have := au.o k hk; have := cj.o; omega), ks, Fr.trans bU.o.2.2.2 kf (fun _ _ h => h) (fun _ _ h => .inl h)⟩
        clear hK K kf ks bU
        repeat (apply item_take; rfl; rfl; rfl; rfl; exact fun _ _ _ _ h => h; (intro _ _ _ k; go_simp; exact k))
        apply ze; rfl; intro K hK; go_simp
        refine hK _ _ (za _ _).to ?_
        clear hK K
        apply zu; rfl; intro K hK
        refine jM (Lay.int) w6.heap.size (.tmp 36) (.tmp 39) _ _ _ 8 rfl Tryz.underlying23 zgD rfl (by omega) (by decide) (.slice aN aw az) xs x0 _ rfl rfl bZ.o.2.1 ?_ bZ.o.2.2.2.size (by rw [gC.o]; omega) ?_
        ·refine zjY (W0 := W0) (wL := w6) ?_ dF.o.1 dF.o.2.1 dF.o.2.2 au.o
         exact ⟨rfl, cU.o.1, cU.o.2⟩
        intro v1 Wa h1 h2 h3
        refine hK _ _ ?_
        clear hK K
        obtain ⟨aR, aV, aU, rfl⟩ := h1.shape
        have ch := jc (f := 1) bZ.o.1 bZ.o.2.1 bZ.o.2.2.2 (X := (fun k => k = g ∨ k = gt)) (S := (fun k => k = g ∨ k = gt)) (.inr rfl) (.inr rfl) mI.o.1 rfl h1 h2
        have h6 : Hd (Blk Wa gt #[.slice nw nb nd, (.slice aN aw az)] 91 ∧ Blk (Wa.setCell ⟨gt, 1, none⟩ (.slice aR aV aU)) gt #[.slice nw nb nd, (.slice aR aV aU)] 91 ∧ OwnG (Lay.int) 3 w6.heap.size (fun k => k = g ∨ k = gt) (Wa.setCell ⟨gt, 1, none⟩ (.slice aR aV aU)) ((.slice aR aV aU)) r2.1 ∧ SpR D g lo r2.2 (Wa.setCell ⟨gt, 1, none⟩ (.slice aR aV aU)) ∧ Fr (fun k => k = g ∨ k = gt) w6 (Wa.setCell ⟨gt, 1, none⟩ (.slice aR aV aU))) := by
         rw [hst.o]
         have gL := bZ.o.2.2.1.fr h2 (fun e => by have := au.o g e.symm; have := cj.o; omega) (fun k hk e => by have := au.o k e.symm; have := dF.o.2.2 k hk; omega)
         refine ⟨ch.1, ?_, ch.2.2.1, gL.fr (zh _ _ _) (fun e => mI.o.2.1 e) (fun k hk e => (dF.o.2.2 k hk).2.1 e), ch.2.2.2⟩
         have := ch.2.1
         simpa using this
        have fV := h6.o.1.cell
        have dV := h6.o.1.frz
        clear h1 h2 h3 ch bZ
        repeat (apply item_take; rfl; rfl; rfl; rfl; exact fun _ _ _ _ h => h; (intro _ _ _ k; go_simp; exact k))
        apply zu; rfl; intro K hK; go_simp
        refine hK _ _ ?_
        clear hK K fV dV
        apply zl
        have dy := qh h6.o.2
        go_wp2
        go_roundw
        case rel => exact ⟨i + 1, _, by omega, by go_num, by rw [bR.o]; exact dy.o⟩
        case measure => simp [intOf]; omega
       ·obtain rfl : i = n2 := by omega
        obtain ⟨Cj, B9, Bc, AT⟩ : ∃ a b c, Value.slice aN aw az = .slice a b c := ⟨_, _, _, rfl⟩
        have HQ : Hd (Blk wr gt #[.slice nw nb nd, .slice Cj B9 Bc] 91 ∧ OwnG Lay.int 3 w6.heap.size (fun k => k = g ∨ k = gt) wr (.slice Cj B9 Bc) (rVTs sg).1 ∧ SpR D g lo (rVTs sg).2 wr ∧ Fr (fun k => k = g ∨ k = gt) w6 wr) := by rw [sK.o, ← AT]; exact hV.o
        clear AT hV sK
        have pU := ny.o.2.2.1.fr HQ.o.2.2.2 (fun k e => .inl e) (fun k hk e => by have := (ny.o.2.2.1.lt k hk).1; have := kv.o.1; have := aO.o.2.2; rcases e with e | e <;> omega)
        have dS : Fr (fun k => k = g) w3 wr := (Fr.trans (Fr.trans qy.o.2.2 ny.o.2.2.2 (U := fun k => k = g ∨ k = gt) (fun _ _ h => .inl h) (fun _ _ h => h)) HQ.o.2.2.2 (U := fun k => k = g ∨ k = gt) (fun _ _ h => h) (fun _ _ h => h)).mono (fun k hk e => e.elim id (fun e => by have := H3.o.1.lt; have := An.o; omega))
        have fO : Hd (OwnG Lay.ft 91 w.heap.size (fun k => k < w.heap.size) wr (.slice go gh gp) xo ∧ Fr (fun k => k = g) w wr) := ⟨H3.o.2.1.fr dS (fun k e => .inl (by have e' : k = g := e; have := H.o.2.2; omega)) (fun k hk e => by have := (H3.o.2.1.lt k hk).1; have e' : k = g := e; have := H.o.2.2; omega), Fr.trans H3.o.2.2 dS (fun _ _ h => h) (fun _ _ h => h)⟩
        have dY := HQ.o.1.cell
        go_wp2_with (at_builtin; refine Hd.o ?_)
        have hH := H.o.2.2
        have Ei := OwnG.sliceF Lay.flat_int pU
        have CC := OwnG.sliceF Lay.flat_int HQ.o.2.1
        have uN := qh (show ∀ k, w4.heap.size ≤ k → ¬ k < w.heap.size ∧ some k ≠ (Value.slice go gh gp).ownBlock from fun k hk => by
         have h1 := qy.o.2.2.size
         have h2 := H3.o.1.lt.1
         have h5 := H3.o.2.2.size
         refine ⟨by omega, fun e => ?_⟩
         have := (H3.o.2.1.lt k e.symm).2
         omega)
        refine yB Lay.ft w.heap.size wr.heap.size rfl rfl (.tmp 43) (.tmp 45) _ _ _ 48 rfl Tryz.underlying25 zjZ rfl (by omega) (by decide) (.slice go gh gp) xo ⟨ps, (rVTs sg).1⟩ _ rfl rfl fO.o.1 ?_ fO.o.2.size (by rw [ky.o]; omega) ?_
        ·exact ⟨[_], [_], rfl, Lay.mono _ Ei (fun k hk => ⟨(uN.o k hk.1).1, hk.2, (uN.o k hk.1).2⟩), Lay.mono _ CC (fun k hk => ⟨(uN.o k (by have := ny.o.2.2.2.size; omega)).1, hk.2, (uN.o k (by have := ny.o.2.2.2.size; omega)).2⟩)⟩
        ·intro v1 w8 h1 h2 h3
         have iO : ∀ k, some k = (Value.slice go gh gp).ownBlock → w.heap.size ≤ k ∧ k < w3.heap.size := fun k e => H3.o.2.1.lt k e.symm
         have bf : Hd (OwnG Lay.ft 91 w.heap.size (fun k => k < w.heap.size) w8 v1 ro.1 ∧ SpR D g lo ro.2 w8 ∧ Fr (fun k => k = g) w w8) := by
          rw [hI.o, iW.o]
          refine ⟨h1, HQ.o.2.2.1.fr h2 (fun e => by have := iO g e; omega) (fun k hk e => by have := iO k e; have := (H.o.1.lt.2 k hk).1; omega), ?_⟩
          exact Fr.trans fO.o.2 h2 (fun _ _ h => h) (fun k hk e => absurd hk (by have := iO k e; omega))
         obtain ⟨aR, aV, aU, rfl⟩ := h1.shape
         clear h1 h2 h3 iO
         go_wp2
         go_roundw
         case rel => exact ⟨io + 1, by omega, by go_num, by rw [lq.o]; exact bf.o⟩
         case measure => simp [intOf]; omega
  ·obtain rfl : io = n := by omega
   have lS := qh (show OwnG Lay.ft 91 w.heap.size (fun k => k < w.heap.size) wr (.slice go gh gp) (yI s).1 ∧ SpR D g lo (yI s).2 wr ∧ Fr (fun k => k = g) w wr from by rw [HR.o]; exact iC.o)
   clear iC
   go_wp2
   go_ret
   exact ⟨_, rfl, lS.o⟩
theorem zbm : (Tryz.prog.info? 65).map (fun i => (i.zero, i.size, i.bytes)) = some (some (.agg #[.string ⟨#[]⟩, .string ⟨#[]⟩, .int .i64 0, .int .u32 0, .int .u32 0, .bool false, .int .u32 0, .int .i64 0, .bool false]), Lay.imp.size, 72) := by kernel_rfl
abbrev js (x : Imp) : Array Value := #[.string (zc x.mdl), .string (zc x.name), .int .i64 x.kind, .int .u32 (x.index.toNat : Int), .int .u32 (x.lim.min.toNat : Int), .bool x.lim.bounded, .int .u32 (x.lim.max.toNat : Int), .int .i64 x.ty, .bool x.mtb]
def Jo (x : Imp) : Prop := (zc x.mdl).size ≤ maxLen ∧ (zc x.name).size ≤ maxLen ∧ (-9223372036854775808 ≤ x.kind ∧ x.kind ≤ 9223372036854775807) ∧ (-9223372036854775808 ≤ x.ty ∧ x.ty ≤ 9223372036854775807)
theorem zdw {A : Nat → Prop} {x : Imp} (h : Jo x) : Lay.imp.rd A w (js x).toList x :=
 ⟨[_], _, rfl, ⟨rfl, h.1⟩, [_], _, rfl, ⟨rfl, h.2.1⟩, [_], _, rfl, ⟨rfl, h.2.2.1⟩, [_], _, rfl, rfl, [_, _, _], _, rfl, ⟨[_], _, rfl, rfl, [_], _, rfl, rfl, rfl⟩, [_], _, rfl, ⟨rfl, h.2.2.2⟩, rfl⟩
def j4 (s : St) : Imp := ⟨(zF s).1, (zF (zF s).2).1, ((zn (zF (zF s).2).2).1 : Int), 0, ⟨0, false, 0⟩, 0, false⟩
def rImp (s : St) : Imp × St :=
 let b := zn (zF (zF s).2).2
 if b.1 = 0 then ({ j4 s with index := UInt32.ofNat (zd b.2).1 }, (zd b.2).2)
 else if b.1 = 1 then ({ j4 s with lim := (z6 b.2).1 }, (z6 b.2).2)
 else if b.1 = 2 then ({ j4 s with lim := (zE b.2).1 }, (zE b.2).2)
 else if b.1 = 3 then ({ j4 s with ty := (zj b.2).1, mtb := (Zf (zj b.2).2).1 }, (Zf (zj b.2).2).2)
 else (j4 s, b.2.fail 1)
def ju (s : St) : List Imp × St := zR rImp s
theorem jR (s : St) : (zF s).2.b.length ≤ s.b.length := by
 have h1 := jQ (zd s).1 (zd s).2
 have h2 := zJ s
 show (if _ then _ else _ : St).b.length ≤ _
 split
 ·omega
 ·exact nzQ _
theorem JB (s : St) : (zF s).1.length ≤ s.b.length := by
 have h2 := zJ s
 show (zW (zd s).1 (zd s).2).1.length ≤ _
 unfold zW
 split
 ·exact nzQ _
 ·rw [ltQ]; omega
theorem zbn (s : St) : (Zf s).2.b.length ≤ s.b.length := by
 have := yu s
 show (if _ then _ else _ : St).b.length ≤ _
 split
 ·exact nzQ _
 ·exact this
theorem Yc (s : St) : (zE s).2.b.length ≤ s.b.length := by
 have h1 := yu s
 have h6 : (zE s).2 = (if (zn s).1 = 1 then (zd (zd (if 1 < (zn s).1 then (zn s).2.fail 2 else (zn s).2)).2).2 else (zd (if 1 < (zn s).1 then (zn s).2.fail 2 else (zn s).2)).2) := by
  show (if _ then _ else _ : Lim × St).2 = _
  split <;> rfl
 rw [h6]
 have h3 : (if 1 < (zn s).1 then (zn s).2.fail 2 else (zn s).2).b.length ≤ s.b.length := by
  split
  ·exact nzQ _
  ·exact h1
 generalize (if 1 < (zn s).1 then (zn s).2.fail 2 else (zn s).2) = t at *
 have h4 := zJ t
 have h5 := zJ (zd t).2
 split <;> omega
theorem Y6 (s : St) : (z6 s).2.b.length ≤ s.b.length := by
 have h1 := yu s
 unfold z6
 refine nlQ (Yc _) ?_
 split
 ·exact nzQ _
 ·exact h1
theorem zh5 (s : St) : (rImp s).2.b.length ≤ s.b.length := by
 have h0 : (zn (zF (zF s).2).2).2.b.length ≤ s.b.length := nlQ (yu _) (nlQ (jR _) (jR s))
 unfold rImp
 generalize zn (zF (zF s).2).2 = b at *
 have h1 := zJ b.2
 have h2 := Y6 b.2
 have h3 := Yc b.2
 have h4 := yD b.2
 have h5 := zbn (zj b.2).2
 dsimp only
 repeat' split
 all_goals first | exact nzQ _ | (dsimp only; omega)
theorem Jh {n : Nat} (h : n < 4294967296) : (UInt32.ofNat n).toNat = n := Nat.mod_eq_of_lt h
theorem yv {l : List UInt8} (h : l.length ≤ 140737488355328) : (zc l).size ≤ maxLen := by rw [zB]; simp only [maxLen]; omega
theorem zcI (h : SpR D g lo s w) (hl : s.b.length ≤ 1048576) :
 Calls Tryz.prog 94 #[.pointer (some ⟨g, 0, none⟩)] w fun e w' => ∃ v, e = .returned v ∧ OwnG Lay.imp 65 w.heap.size (fun k => k = g) w' v (ju s).1 ∧ SpR D g lo (ju s).2 w' ∧ Fr (fun k => k = g) w w' := by
 have H := qh (anQ h (anQ hl h.lt.1))
 have dh := qh (yg s)
 clear h hl
 go_enter Tryz.func94, Tryz.ntmps94
 go_wp2_with fail
 refine (ye H.o.1 (by have := H.o.2.1; omega)).mono ?_
 rintro e w1 ⟨rfl, k1, k2⟩
 have HR := qh (show ju s = rVec rImp (zv s).1 (zv s).2 from rfl)
 generalize (zv s).1 = n at *
 generalize (zv s).2 = s1 at *
 have H1 := qh (anQ k1 k2)
 clear k1 k2
 have mX : (n : Int) ≤ 1048576 := by have := H.o.2.1; have := dh.o.1; omega
 go_wp2_with fail
 go_loopw [2, 6] (fun s2 s6 w' => ∃ (i : Nat), i ≤ n ∧ s6 = .int .i64 i ∧ Hd (OwnG Lay.imp 65 w.heap.size (fun k => k = g) w' s2 (rVec rImp i s1).1 ∧ SpR D g lo (rVec rImp i s1).2 w' ∧ Fr (fun k => k = g) w w')) (fun _ s6 _ => n - (intOf s6).toNat)
 case atStart => exact ⟨0, nzQ _, rfl, zK _ _ _ _ _, H1.o⟩
 case round =>
  obtain ⟨io, CL, rfl, iC⟩ := hrel
  obtain ⟨go, gh, gp, rfl⟩ := iC.o.1.shape
  by_cases hlto : io < n
  ·have hI := qh (yP rImp io s1)
   have ky := qh (jg rImp io s1)
   have ii := qh (show (rVec rImp io s1).2.b.length ≤ 1048576 from nlQ (yK rImp zh5 io s1) (nlQ dh.o.2 H.o.2.1))
   obtain ⟨ro, lq⟩ := exQ (rVec rImp (io + 1) s1)
   have lq := qh lq
   rw [lq.o] at hI
   generalize (rVec rImp io s1).1 = xo at *
   generalize (rVec rImp io s1).2 = so at *
   have au := qh (show ∀ k, (Value.slice go gh gp).ownBlock = some k → w.heap.size ≤ k ∧ k < wr.heap.size from iC.o.1.lt)
   have dI : Hd (∀ k, (Value.slice go gh gp).ownBlock = some k → ¬ k = g) := fun k hk e => by have := (au.o k hk).1; have := H.o.2.2; omega
   have iW := qh (show rImp so = (if (zn (zF (zF so).2).2).1 = 0 then ({ j4 so with index := UInt32.ofNat (zd (zn (zF (zF so).2).2).2).1 }, (zd (zn (zF (zF so).2).2).2).2)
    else if (zn (zF (zF so).2).2).1 = 1 then ({ j4 so with lim := (z6 (zn (zF (zF so).2).2).2).1 }, (z6 (zn (zF (zF so).2).2).2).2)
    else if (zn (zF (zF so).2).2).1 = 2 then ({ j4 so with lim := (zE (zn (zF (zF so).2).2).2).1 }, (zE (zn (zF (zF so).2).2).2).2)
    else if (zn (zF (zF so).2).2).1 = 3 then ({ j4 so with ty := (zj (zn (zF (zF so).2).2).2).1, mtb := (Zf (zj (zn (zF (zF so).2).2).2).2).1 }, (Zf (zj (zn (zF (zF so).2).2).2).2).2)
    else (j4 so, (zn (zF (zF so).2).2).2.fail 1)) from rfl)
   have dD := qh (show j4 so = ⟨(zF so).1, (zF (zF so).2).1, ((zn (zF (zF so).2).2).1 : Int), 0, ⟨0, false, 0⟩, 0, false⟩ from rfl)
   go_wp2_with fail
   refine (Jz iC.o.2.1 (by have := ii.o; omega)).mono ?_
   rintro e w2 ⟨rfl, k1, k2⟩
   have fh := qh (JB so)
   have dw := qh (show (zF so).2.b.length ≤ 1048576 from nlQ (jR so) ii.o)
   generalize (zF so).1 = mdl at *
   generalize (zF so).2 = sa at *
   have H2 := qh (anQ k1 (anQ (iC.o.1.fr k2 (fun k e => .inl e) dI.o) (Fr.trans iC.o.2.2 k2 (U := fun k => k = g) (fun _ _ h => h) (fun _ _ h => h))))
   clear k1 k2 iC
   go_wp2_with fail
   refine (Jz H2.o.1 (by have := dw.o; omega)).mono ?_
   rintro e w3 ⟨rfl, k1, k2⟩
   have iu := qh (JB sa)
   have cV := qh (show (zF sa).2.b.length ≤ 1048576 from nlQ (jR sa) dw.o)
   generalize (zF sa).1 = nm at *
   generalize (zF sa).2 = sb at *
   have H3 := qh (anQ k1 (anQ (H2.o.2.1.fr k2 (fun k e => .inl e) dI.o) (Fr.trans H2.o.2.2 k2 (U := fun k => k = g) (fun _ _ h => h) (fun _ _ h => h))))
   clear k1 k2 H2
   go_wp2_with fail
   refine (yo H3.o.1).mono ?_
   rintro e w4 ⟨rfl, k1, k2⟩
   have f9 := qh (show (zn sb).2.b.length ≤ 1048576 from nlQ (yu sb) cV.o)
   have sm := jr sb
   generalize (zn sb).1 = c at *
   generalize (zn sb).2 = sc at *
   have H4 := qh (anQ k1 (anQ (H3.o.2.1.fr k2 (fun k e => .inl e) dI.o) (Fr.trans H3.o.2.2 k2 (U := fun k => k = g) (fun _ _ h => h) (fun _ _ h => h))))
   clear k1 k2 H3
   by_cases h0 : c = 0
   ·subst h0
    have eD : Hd (Jo (j4 so)) := by
     show Jo _
     rw [dD.o]
     have := ii.o
     have := fh.o
     have := iu.o
     have := dw.o
     exact ⟨yv (by dsimp only; omega), yv (by dsimp only; omega), by dsimp only; omega, by dsimp only; omega⟩
    go_wp2_with fail
    obtain ⟨gi, eh⟩ := exQ (w4.heap.size)
    obtain ⟨W4, cT⟩ := exQ (w4.alloc (.cells #[.string (zc mdl), .string (zc nm), .int .i64 0, .int .u32 0, .int .u32 0, .bool false, .int .u32 0, .int .i64 0, .bool false] 65))
    have HG : Hd (SpR D g lo sc W4 ∧ Fr (fun k => k = g) w4 W4 ∧ Blk W4 gi (js (j4 so)) 65) := by
     subst cT
     refine ⟨H4.o.1.ext (za _ _), (za _ _).to, ?_⟩
     rw [dD.o, ← eh]
     exact zk _ _ _
    have aO : Hd (¬ gi = g ∧ (∀ k, D k → ¬ k = gi) ∧ w4.heap.size ≤ gi) := ⟨by have := H4.o.1.lt.1; omega, fun k hk => by have := (H4.o.1.lt.2 k hk).1; omega, by omega⟩
    rw [cT, eh]
    clear cT eh
    have dD := qh dD.o
    generalize j4 so = kr at *
    refine (zN D g lo sc W4 HG.o.1 (by have := f9.o; omega)).mono ?_
    rintro e W5 ⟨rfl, k1, k2⟩
    have fd := zX sc
    generalize (zd sc).1 = x at *
    generalize (zd sc).2 = sN at *
    have fi : Hd (SpR D g lo sN W5 ∧ Fr (fun k => k = g) w4 W5 ∧ Blk W5 gi (js kr) 65) :=
     ⟨k1, Fr.trans HG.o.2.1 k2 (fun _ _ h => h) (fun _ _ h => h), HG.o.2.2.fr k2 aO.o.1⟩
    clear k1 k2 HG
    have ag := fi.o.2.2.cell
    have eL := fi.o.2.2.frz
    go_wp2_with (at_builtin; refine Hd.o ?_)
    clear ag eL
    obtain ⟨im, gc⟩ : ∃ im, ({ kr with index := UInt32.ofNat x } : Imp) = im := ⟨_, rfl⟩
    obtain ⟨W9, fK⟩ : ∃ W9, (W5.setCell ⟨gi, 3, none⟩ (.int .u32 (x : Int))) = W9 := ⟨_, rfl⟩
    have eK : Fr (fun k => k = gi) W5 W9 := by subst fK; exact Fr.setCell (Fr.refl (fun k => k = gi) _) (p := ⟨gi, 3, none⟩) (.inl rfl) _
    have cl : W9.heap.size = W5.heap.size := by subst fK; simp
    have HT : Hd (SpR D g lo sN W9 ∧ Fr (fun k => k = g) w4 W9 ∧ rImp so = (im, sN) ∧ Jo im) := by
     refine ⟨fi.o.1.fr eK (fun e => aO.o.1 e.symm) aO.o.2.1, (Fr.trans fi.o.2.1 eK (U := fun k => k = g ∨ k = gi) (fun _ _ h => .inl h) (fun _ _ h => .inr h)).mono (fun k hk e => e.elim id (fun e => by have := aO.o.2.2; omega)), ?_, ?_⟩
     ·rw [iW.o, ← gc]
      rfl
     ·rw [← gc]
      exact eD.o
    rw [fK]
    clear fK eK
    have fO : Hd (OwnG Lay.imp 65 w.heap.size (fun k => k = g) W9 (.slice go gh gp) xo ∧ Fr (fun k => k = g) w W9) := ⟨H4.o.2.1.fr HT.o.2.1 (fun k e => .inl e) dI.o, Fr.trans H4.o.2.2 HT.o.2.1 (fun _ _ h => h) (fun _ _ h => h)⟩
    refine yB Lay.imp w.heap.size W5.heap.size cl rfl (.tmp 42) (.tmp 44) _ _ _ 72 rfl Tryz.underlying26 zbm rfl (by omega) (by decide) (.slice go gh gp) xo im _ rfl rfl fO.o.1 ?_ fO.o.2.size (by rw [ky.o]; omega) ?_
    ·refine (congrArg (fun c => Lay.imp.rd _ _ c im) ?_).mpr (zdw HT.o.2.2.2)
     rw [← gc]
     show _ = [_, _, _, Value.int .u32 ((UInt32.ofNat x).toNat : Int), _, _, _, _, _]
     rw [Jh fd]
    ·intro v1 w8 h1 h2 h3
     have bf : Hd (OwnG Lay.imp 65 w.heap.size (fun k => k = g) w8 v1 ro.1 ∧ SpR D g lo ro.2 w8 ∧ Fr (fun k => k = g) w w8) := by
      rw [hI.o, HT.o.2.2.1]
      refine ⟨h1, HT.o.1.fr h2 (fun e => dI.o g e.symm rfl) (fun k hk e => by have := (au.o k e.symm).1; have := (H.o.1.lt.2 k hk).1; omega), ?_⟩
      exact Fr.trans fO.o.2 h2 (fun _ _ h => h) (fun k hk e => absurd hk (by have := (au.o k e.symm).1; omega))
     obtain ⟨aR, aV, aU, rfl⟩ := h1.shape
     clear h1 h2 h3
     go_wp2
     go_roundw
     case rel => exact ⟨io + 1, by omega, by go_num, by rw [lq.o]; exact bf.o⟩
     case measure => simp [intOf]; omega
   ·by_cases h1 : c = 1
    ·subst h1
     have eD : Hd (Jo (j4 so)) := by
      show Jo _
      rw [dD.o]
      have := ii.o
      have := fh.o
      have := iu.o
      have := dw.o
      exact ⟨yv (by dsimp only; omega), yv (by dsimp only; omega), by dsimp only; omega, by dsimp only; omega⟩
     go_wp2_with fail
     obtain ⟨gi, eh⟩ := exQ (w4.heap.size)
     obtain ⟨W4, cT⟩ := exQ (w4.alloc (.cells #[.string (zc mdl), .string (zc nm), .int .i64 1, .int .u32 0, .int .u32 0, .bool false, .int .u32 0, .int .i64 0, .bool false] 65))
     have HG : Hd (SpR D g lo sc W4 ∧ Fr (fun k => k = g) w4 W4 ∧ Blk W4 gi (js (j4 so)) 65) := by
      subst cT
      refine ⟨H4.o.1.ext (za _ _), (za _ _).to, ?_⟩
      rw [dD.o, ← eh]
      exact zk _ _ _
     have aO : Hd (¬ gi = g ∧ (∀ k, D k → ¬ k = gi) ∧ w4.heap.size ≤ gi) := ⟨by have := H4.o.1.lt.1; omega, fun k hk => by have := (H4.o.1.lt.2 k hk).1; omega, by omega⟩
     rw [cT, eh]
     clear cT eh
     have dD := qh dD.o
     generalize j4 so = kr at *
     refine (zbi HG.o.1 (by have := f9.o; omega)).mono ?_
     rintro e W5 ⟨rfl, k1, k2⟩
     generalize (z6 sc).1 = x at *
     generalize (z6 sc).2 = sN at *
     have fi : Hd (SpR D g lo sN W5 ∧ Fr (fun k => k = g) w4 W5 ∧ Blk W5 gi (js kr) 65) :=
      ⟨k1, Fr.trans HG.o.2.1 k2 (fun _ _ h => h) (fun _ _ h => h), HG.o.2.2.fr k2 aO.o.1⟩
     clear k1 k2 HG
     have ag := fi.o.2.2.cell
     have eL := fi.o.2.2.frz
     go_wp2_with (at_builtin; refine Hd.o ?_)
     clear ag eL
     obtain ⟨im, gc⟩ : ∃ im, ({ kr with lim := x } : Imp) = im := ⟨_, rfl⟩
     obtain ⟨W9, fK⟩ : ∃ W9, (((W5.setCell ⟨gi, 4, none⟩ (.int .u32 (x.min.toNat : Int))).setCell ⟨gi, 5, none⟩ (.bool x.bounded)).setCell ⟨gi, 6, none⟩ (.int .u32 (x.max.toNat : Int))) = W9 := ⟨_, rfl⟩
     have eK : Fr (fun k => k = gi) W5 W9 := by subst fK; exact Fr.setCell (Fr.setCell (Fr.setCell (Fr.refl (fun k => k = gi) _) (p := ⟨gi, 4, none⟩) (.inl rfl) _) (p := ⟨gi, 5, none⟩) (.inl rfl) _) (p := ⟨gi, 6, none⟩) (.inl rfl) _
     have cl : W9.heap.size = W5.heap.size := by subst fK; simp
     have HT : Hd (SpR D g lo sN W9 ∧ Fr (fun k => k = g) w4 W9 ∧ rImp so = (im, sN) ∧ Jo im) := by
      refine ⟨fi.o.1.fr eK (fun e => aO.o.1 e.symm) aO.o.2.1, (Fr.trans fi.o.2.1 eK (U := fun k => k = g ∨ k = gi) (fun _ _ h => .inl h) (fun _ _ h => .inr h)).mono (fun k hk e => e.elim id (fun e => by have := aO.o.2.2; omega)), ?_, ?_⟩
      ·rw [iW.o, ← gc]
       rfl
      ·rw [← gc]
       exact eD.o
     rw [fK]
     clear fK eK
     have fO : Hd (OwnG Lay.imp 65 w.heap.size (fun k => k = g) W9 (.slice go gh gp) xo ∧ Fr (fun k => k = g) w W9) := ⟨H4.o.2.1.fr HT.o.2.1 (fun k e => .inl e) dI.o, Fr.trans H4.o.2.2 HT.o.2.1 (fun _ _ h => h) (fun _ _ h => h)⟩
     refine yB Lay.imp w.heap.size W5.heap.size cl rfl (.tmp 42) (.tmp 44) _ _ _ 72 rfl Tryz.underlying26 zbm rfl (by omega) (by decide) (.slice go gh gp) xo im _ rfl rfl fO.o.1 ?_ fO.o.2.size (by rw [ky.o]; omega) ?_
     ·refine (congrArg (fun c => Lay.imp.rd _ _ c im) ?_).mpr (zdw HT.o.2.2.2)
      rw [← gc]
     ·intro v1 w8 h1 h2 h3
      have bf : Hd (OwnG Lay.imp 65 w.heap.size (fun k => k = g) w8 v1 ro.1 ∧ SpR D g lo ro.2 w8 ∧ Fr (fun k => k = g) w w8) := by
       rw [hI.o, HT.o.2.2.1]
       refine ⟨h1, HT.o.1.fr h2 (fun e => dI.o g e.symm rfl) (fun k hk e => by have := (au.o k e.symm).1; have := (H.o.1.lt.2 k hk).1; omega), ?_⟩
       exact Fr.trans fO.o.2 h2 (fun _ _ h => h) (fun k hk e => absurd hk (by have := (au.o k e.symm).1; omega))
      obtain ⟨aR, aV, aU, rfl⟩ := h1.shape
      clear h1 h2 h3
      go_wp2
      go_roundw
      case rel => exact ⟨io + 1, by omega, by go_num, by rw [lq.o]; exact bf.o⟩
      case measure => simp [intOf]; omega
    ·by_cases h2 : c = 2
     ·subst h2
      have eD : Hd (Jo (j4 so)) := by
       show Jo _
       rw [dD.o]
       have := ii.o
       have := fh.o
       have := iu.o
       have := dw.o
       exact ⟨yv (by dsimp only; omega), yv (by dsimp only; omega), by dsimp only; omega, by dsimp only; omega⟩
      go_wp2_with fail
      obtain ⟨gi, eh⟩ := exQ (w4.heap.size)
      obtain ⟨W4, cT⟩ := exQ (w4.alloc (.cells #[.string (zc mdl), .string (zc nm), .int .i64 2, .int .u32 0, .int .u32 0, .bool false, .int .u32 0, .int .i64 0, .bool false] 65))
      have HG : Hd (SpR D g lo sc W4 ∧ Fr (fun k => k = g) w4 W4 ∧ Blk W4 gi (js (j4 so)) 65) := by
       subst cT
       refine ⟨H4.o.1.ext (za _ _), (za _ _).to, ?_⟩
       rw [dD.o, ← eh]
       exact zk _ _ _
      have aO : Hd (¬ gi = g ∧ (∀ k, D k → ¬ k = gi) ∧ w4.heap.size ≤ gi) := ⟨by have := H4.o.1.lt.1; omega, fun k hk => by have := (H4.o.1.lt.2 k hk).1; omega, by omega⟩
      rw [cT, eh]
      clear cT eh
      have dD := qh dD.o
      generalize j4 so = kr at *
      refine (ZB D g lo sc W4 HG.o.1 (by have := f9.o; omega)).mono ?_
      rintro e W5 ⟨rfl, k1, k2⟩
      generalize (zE sc).1 = x at *
      generalize (zE sc).2 = sN at *
      have fi : Hd (SpR D g lo sN W5 ∧ Fr (fun k => k = g) w4 W5 ∧ Blk W5 gi (js kr) 65) :=
       ⟨k1, Fr.trans HG.o.2.1 k2 (fun _ _ h => h) (fun _ _ h => h), HG.o.2.2.fr k2 aO.o.1⟩
      clear k1 k2 HG
      have ag := fi.o.2.2.cell
      have eL := fi.o.2.2.frz
      go_wp2_with (at_builtin; refine Hd.o ?_)
      clear ag eL
      obtain ⟨im, gc⟩ : ∃ im, ({ kr with lim := x } : Imp) = im := ⟨_, rfl⟩
      obtain ⟨W9, fK⟩ : ∃ W9, (((W5.setCell ⟨gi, 4, none⟩ (.int .u32 (x.min.toNat : Int))).setCell ⟨gi, 5, none⟩ (.bool x.bounded)).setCell ⟨gi, 6, none⟩ (.int .u32 (x.max.toNat : Int))) = W9 := ⟨_, rfl⟩
      have eK : Fr (fun k => k = gi) W5 W9 := by subst fK; exact Fr.setCell (Fr.setCell (Fr.setCell (Fr.refl (fun k => k = gi) _) (p := ⟨gi, 4, none⟩) (.inl rfl) _) (p := ⟨gi, 5, none⟩) (.inl rfl) _) (p := ⟨gi, 6, none⟩) (.inl rfl) _
      have cl : W9.heap.size = W5.heap.size := by subst fK; simp
      have HT : Hd (SpR D g lo sN W9 ∧ Fr (fun k => k = g) w4 W9 ∧ rImp so = (im, sN) ∧ Jo im) := by
       refine ⟨fi.o.1.fr eK (fun e => aO.o.1 e.symm) aO.o.2.1, (Fr.trans fi.o.2.1 eK (U := fun k => k = g ∨ k = gi) (fun _ _ h => .inl h) (fun _ _ h => .inr h)).mono (fun k hk e => e.elim id (fun e => by have := aO.o.2.2; omega)), ?_, ?_⟩
       ·rw [iW.o, ← gc]
        rfl
       ·rw [← gc]
        exact eD.o
      rw [fK]
      clear fK eK
      have fO : Hd (OwnG Lay.imp 65 w.heap.size (fun k => k = g) W9 (.slice go gh gp) xo ∧ Fr (fun k => k = g) w W9) := ⟨H4.o.2.1.fr HT.o.2.1 (fun k e => .inl e) dI.o, Fr.trans H4.o.2.2 HT.o.2.1 (fun _ _ h => h) (fun _ _ h => h)⟩
      refine yB Lay.imp w.heap.size W5.heap.size cl rfl (.tmp 42) (.tmp 44) _ _ _ 72 rfl Tryz.underlying26 zbm rfl (by omega) (by decide) (.slice go gh gp) xo im _ rfl rfl fO.o.1 ?_ fO.o.2.size (by rw [ky.o]; omega) ?_
      ·refine (congrArg (fun c => Lay.imp.rd _ _ c im) ?_).mpr (zdw HT.o.2.2.2)
       rw [← gc]
      ·intro v1 w8 h1 h2 h3
       have bf : Hd (OwnG Lay.imp 65 w.heap.size (fun k => k = g) w8 v1 ro.1 ∧ SpR D g lo ro.2 w8 ∧ Fr (fun k => k = g) w w8) := by
        rw [hI.o, HT.o.2.2.1]
        refine ⟨h1, HT.o.1.fr h2 (fun e => dI.o g e.symm rfl) (fun k hk e => by have := (au.o k e.symm).1; have := (H.o.1.lt.2 k hk).1; omega), ?_⟩
        exact Fr.trans fO.o.2 h2 (fun _ _ h => h) (fun k hk e => absurd hk (by have := (au.o k e.symm).1; omega))
       obtain ⟨aR, aV, aU, rfl⟩ := h1.shape
       clear h1 h2 h3
       go_wp2
       go_roundw
       case rel => exact ⟨io + 1, by omega, by go_num, by rw [lq.o]; exact bf.o⟩
       case measure => simp [intOf]; omega
     ·by_cases h3 : c = 3
      ·subst h3
       have eD : Hd (Jo (j4 so)) := by
        show Jo _
        rw [dD.o]
        have := ii.o
        have := fh.o
        have := iu.o
        have := dw.o
        exact ⟨yv (by dsimp only; omega), yv (by dsimp only; omega), by dsimp only; omega, by dsimp only; omega⟩
       go_wp2_with fail
       obtain ⟨gi, eh⟩ := exQ (w4.heap.size)
       obtain ⟨W4, cT⟩ := exQ (w4.alloc (.cells #[.string (zc mdl), .string (zc nm), .int .i64 3, .int .u32 0, .int .u32 0, .bool false, .int .u32 0, .int .i64 0, .bool false] 65))
       have HG : Hd (SpR D g lo sc W4 ∧ Fr (fun k => k = g) w4 W4 ∧ Blk W4 gi (js (j4 so)) 65) := by
        subst cT
        refine ⟨H4.o.1.ext (za _ _), (za _ _).to, ?_⟩
        rw [dD.o, ← eh]
        exact zk _ _ _
       have aO : Hd (¬ gi = g ∧ (∀ k, D k → ¬ k = gi) ∧ w4.heap.size ≤ gi) := ⟨by have := H4.o.1.lt.1; omega, fun k hk => by have := (H4.o.1.lt.2 k hk).1; omega, by omega⟩
       rw [cT, eh]
       clear cT eh
       have dD := qh dD.o
       generalize j4 so = kr at *
       refine (jP HG.o.1).mono ?_
       rintro e W5 ⟨rfl, k1, k2⟩
       have Ej := qh (Jt sc)
       generalize (zj sc).1 = vt at *
       generalize (zj sc).2 = sv at *
       have fi : Hd (SpR D g lo sv W5 ∧ Fr (fun k => k = g) w4 W5 ∧ Blk W5 gi (js kr) 65) :=
        ⟨k1, Fr.trans HG.o.2.1 k2 (fun _ _ h => h) (fun _ _ h => h), HG.o.2.2.fr k2 aO.o.1⟩
       clear k1 k2 HG
       have ag := fi.o.2.2.cell
       have eL := fi.o.2.2.frz
       go_wp2_with fail
       refine (zb1 fi.o.1).mono ?_
       rintro e W6 ⟨rfl, k1, k2⟩
       generalize (Zf sv).1 = fl at *
       generalize (Zf sv).2 = sN at *
       have vq : Hd (SpR D g lo sN W6 ∧ Fr (fun k => k = g) w4 W6 ∧ Blk W6 gi (js kr) 65) :=
        ⟨k1, Fr.trans fi.o.2.1 k2 (fun _ _ h => h) (fun _ _ h => h), fi.o.2.2.fr k2 aO.o.1⟩
       clear k1 k2 fi
       have ag := vq.o.2.2.cell
       have eL := vq.o.2.2.frz
       go_wp2_with (at_builtin; refine Hd.o ?_)
       clear ag eL
       obtain ⟨im, gc⟩ : ∃ im, ({ kr with ty := vt, mtb := fl } : Imp) = im := ⟨_, rfl⟩
       obtain ⟨W9, fK⟩ := exQ (((W6.setCell ⟨gi, 7, none⟩ (.int .i64 vt)).setCell ⟨gi, 8, none⟩ (.bool fl)))
       have eK : Fr (fun k => k = gi) W6 W9 := by subst fK; exact Fr.setCell (Fr.setCell (Fr.refl (fun k => k = gi) _) (p := ⟨gi, 7, none⟩) (.inl rfl) _) (p := ⟨gi, 8, none⟩) (.inl rfl) _
       have cl : W9.heap.size = W6.heap.size := by subst fK; simp
       have HT : Hd (SpR D g lo sN W9 ∧ Fr (fun k => k = g) w4 W9 ∧ rImp so = (im, sN) ∧ Jo im) := by
        refine ⟨vq.o.1.fr eK (fun e => aO.o.1 e.symm) aO.o.2.1, (Fr.trans vq.o.2.1 eK (U := fun k => k = g ∨ k = gi) (fun _ _ h => .inl h) (fun _ _ h => .inr h)).mono (fun k hk e => e.elim id (fun e => by have := aO.o.2.2; omega)), ?_, ?_⟩
        ·rw [iW.o, ← gc]
         rfl
        ·rw [← gc]
         exact ⟨eD.o.1, eD.o.2.1, eD.o.2.2.1, Ej.o⟩
       rw [fK]
       clear fK eK
       have fO : Hd (OwnG Lay.imp 65 w.heap.size (fun k => k = g) W9 (.slice go gh gp) xo ∧ Fr (fun k => k = g) w W9) := ⟨H4.o.2.1.fr HT.o.2.1 (fun k e => .inl e) dI.o, Fr.trans H4.o.2.2 HT.o.2.1 (fun _ _ h => h) (fun _ _ h => h)⟩
       refine yB Lay.imp w.heap.size W6.heap.size cl rfl (.tmp 42) (.tmp 44) _ _ _ 72 rfl Tryz.underlying26 zbm rfl (by omega) (by decide) (.slice go gh gp) xo im _ rfl rfl fO.o.1 ?_ fO.o.2.size (by rw [ky.o]; omega) ?_
       ·refine (congrArg (fun c => Lay.imp.rd _ _ c im) ?_).mpr (zdw HT.o.2.2.2)
        rw [← gc]
       ·intro v1 w8 h1 h2 h3
        have bf : Hd (OwnG Lay.imp 65 w.heap.size (fun k => k = g) w8 v1 ro.1 ∧ SpR D g lo ro.2 w8 ∧ Fr (fun k => k = g) w w8) := by
         rw [hI.o, HT.o.2.2.1]
         refine ⟨h1, HT.o.1.fr h2 (fun e => dI.o g e.symm rfl) (fun k hk e => by have := (au.o k e.symm).1; have := (H.o.1.lt.2 k hk).1; omega), ?_⟩
         exact Fr.trans fO.o.2 h2 (fun _ _ h => h) (fun k hk e => absurd hk (by have := (au.o k e.symm).1; omega))
        obtain ⟨aR, aV, aU, rfl⟩ := h1.shape
        clear h1 h2 h3
        go_wp2
        go_roundw
        case rel => exact ⟨io + 1, by omega, by go_num, by rw [lq.o]; exact bf.o⟩
        case measure => simp [intOf]; omega
      ·skip
       have n0 := bfQ (a := (c : Int)) (b := 0) (by omega)
       have n1 := bfQ (a := (c : Int)) (b := 1) (by omega)
       have n2 := bfQ (a := (c : Int)) (b := 2) (by omega)
       have n3 := bfQ (a := (c : Int)) (b := 3) (by omega)
       have eD : Hd (Jo (j4 so)) := by
        show Jo _
        rw [dD.o]
        have := ii.o
        have := fh.o
        have := iu.o
        have := dw.o
        exact ⟨yv (by dsimp only; omega), yv (by dsimp only; omega), by dsimp only; omega, by dsimp only; omega⟩
       go_wp2_with fail
       obtain ⟨gi, eh⟩ := exQ (w4.heap.size)
       obtain ⟨W4, cT⟩ : ∃ W4, w4.alloc (.cells #[.string (zc mdl), .string (zc nm), .int .i64 (c : Int), .int .u32 0, .int .u32 0, .bool false, .int .u32 0, .int .i64 0, .bool false] 65) = W4 := ⟨_, rfl⟩
       have HG : Hd (SpR D g lo sc W4 ∧ Fr (fun k => k = g) w4 W4 ∧ Blk W4 gi (js (j4 so)) 65) := by
        subst cT
        refine ⟨H4.o.1.ext (za _ _), (za _ _).to, ?_⟩
        rw [dD.o, ← eh]
        exact zk _ _ _
       have aO : Hd (¬ gi = g ∧ (∀ k, D k → ¬ k = gi) ∧ w4.heap.size ≤ gi) := ⟨by have := H4.o.1.lt.1; omega, fun k hk => by have := (H4.o.1.lt.2 k hk).1; omega, by omega⟩
       rw [cT, eh]
       clear cT eh
       have dD := qh dD.o
       generalize j4 so = kr at *
       refine (zr D g lo sc 1 W4 HG.o.1).mono ?_
       rintro e W5 ⟨rfl, k1, k2⟩
       have fi : Hd (SpR D g lo (sc.fail 1) W5 ∧ Fr (fun k => k = g) w4 W5 ∧ Blk W5 gi (js kr) 65) :=
        ⟨k1, Fr.trans HG.o.2.1 k2 (fun _ _ h => h) (fun _ _ h => h), HG.o.2.2.fr k2 aO.o.1⟩
       clear k1 k2 HG
       have ag := fi.o.2.2.cell
       have eL := fi.o.2.2.frz
       go_wp2_with (at_builtin; refine Hd.o ?_)
       clear ag eL
       obtain ⟨im, gc⟩ := exQ (kr)
       obtain ⟨W9, fK⟩ := exQ (W5)
       have eK : Fr (fun k => k = gi) W5 W9 := by subst fK; exact Fr.refl (fun k => k = gi) _
       have cl : W9.heap.size = W5.heap.size := by subst fK; simp
       have HT : Hd (SpR D g lo (sc.fail 1) W9 ∧ Fr (fun k => k = g) w4 W9 ∧ rImp so = (im, (sc.fail 1)) ∧ Jo im) := by
        refine ⟨fi.o.1.fr eK (fun e => aO.o.1 e.symm) aO.o.2.1, (Fr.trans fi.o.2.1 eK (U := fun k => k = g ∨ k = gi) (fun _ _ h => .inl h) (fun _ _ h => .inr h)).mono (fun k hk e => e.elim id (fun e => by have := aO.o.2.2; omega)), ?_, ?_⟩
        ·rw [iW.o, ← gc]
         simp only [if_neg h0, if_neg h1, if_neg h2, if_neg h3]
        ·rw [← gc]
         exact eD.o
       rw [fK]
       clear fK eK
       have fO : Hd (OwnG Lay.imp 65 w.heap.size (fun k => k = g) W9 (.slice go gh gp) xo ∧ Fr (fun k => k = g) w W9) := ⟨H4.o.2.1.fr HT.o.2.1 (fun k e => .inl e) dI.o, Fr.trans H4.o.2.2 HT.o.2.1 (fun _ _ h => h) (fun _ _ h => h)⟩
       refine yB Lay.imp w.heap.size W9.heap.size rfl rfl (.tmp 42) (.tmp 44) _ _ _ 72 rfl Tryz.underlying26 zbm rfl (by omega) (by decide) (.slice go gh gp) xo im _ rfl rfl fO.o.1 ?_ fO.o.2.size (by rw [ky.o]; omega) ?_
       ·refine (congrArg (fun c => Lay.imp.rd _ _ c im) ?_).mpr (zdw HT.o.2.2.2)
        rw [← gc]
       ·intro v1 w8 h1 h2 h3
        have bf : Hd (OwnG Lay.imp 65 w.heap.size (fun k => k = g) w8 v1 ro.1 ∧ SpR D g lo ro.2 w8 ∧ Fr (fun k => k = g) w w8) := by
         rw [hI.o, HT.o.2.2.1]
         refine ⟨h1, HT.o.1.fr h2 (fun e => dI.o g e.symm rfl) (fun k hk e => by have := (au.o k e.symm).1; have := (H.o.1.lt.2 k hk).1; omega), ?_⟩
         exact Fr.trans fO.o.2 h2 (fun _ _ h => h) (fun k hk e => absurd hk (by have := (au.o k e.symm).1; omega))
        obtain ⟨aR, aV, aU, rfl⟩ := h1.shape
        clear h1 h2 h3
        go_wp2
        go_roundw
        case rel => exact ⟨io + 1, by omega, by go_num, by rw [lq.o]; exact bf.o⟩
        case measure => simp [intOf]; omega
  ·obtain rfl : io = n := by omega
   have lS := qh (show OwnG Lay.imp 65 w.heap.size (fun k => k = g) wr (.slice go gh gp) (ju s).1 ∧ SpR D g lo (ju s).2 wr ∧ Fr (fun k => k = g) w wr from by rw [HR.o]; exact iC.o)
   clear iC
   go_wp2
   go_ret
   exact ⟨_, rfl, lS.o⟩
def Ju (s : St) : Glob × St :=
 let t := zj s
 let f := Zf t.2
 let c := yH f.2
 (⟨t.1, f.1, c.1⟩, c.2)
def Ji (s : St) : Expo × St :=
 let n := zF s
 let k := zn n.2
 let i := rNum k.2
 (⟨n.1, (k.1 : Int), i.1⟩, if i.2.v = 0 ∧ 3 < k.1 then i.2.fail 1 else i.2)
def Jv (s : St) : Elem × St :=
 let i := rNum s
 let c := yH i.2
 let l := yp c.2
 (⟨i.1, c.1, l.1⟩, l.2)
def y7 (s : St) : List UInt8 × St := zW (zd s).1 (zd s).2
def rDat (s : St) : Dat × St :=
 let i := rNum s
 let c := yH i.2
 let t := y7 c.2
 (⟨i.1, c.1, t.1⟩, t.2)
def zO (id : Nat) (m : Mod) (s : St) : Mod × St :=
 if id = 1 then ({ m with types := (yI s).1 }, (yI s).2)
 else if id = 2 then ({ m with imports := (ju s).1 }, (ju s).2)
 else if id = 3 then ({ m with functions := (yp s).1 }, (yp s).2)
 else if id = 4 then ({ m with tables := (zR z6 s).1 }, (zR z6 s).2)
 else if id = 5 then ({ m with memories := (zR zE s).1 }, (zR zE s).2)
 else if id = 6 then ({ m with globals := (zR Ju s).1 }, (zR Ju s).2)
 else if id = 7 then ({ m with exports := (zR Ji s).1 }, (zR Ji s).2)
 else if id = 8 then ({ m with hasStart := true, start := (rNum s).1 }, (rNum s).2)
 else if id = 9 then ({ m with elements := (zR Jv s).1 }, (zR Jv s).2)
 else if id = 10 then ({ m with codes := (zR y7 s).1 }, (zR y7 s).2)
 else if id = 11 then ({ m with datas := (zR rDat s).1 }, (zR rDat s).2)
 else (m, s)
def zdx (l : List Nam) (i : UInt32) : Bool := match l.getLast? with
 | some x => decide (i.toNat ≤ x.idx.toNat)
 | none => false
def yN {σ : Type} (step : σ → σ) : Nat → σ → σ
 | 0, s => s
 | n + 1, s => step (yN step n s)
def yb (f : UInt32) (p : List Nam × St) : List Nam × St :=
 let i := rNum p.2
 let m := zF i.2
 (p.1 ++ [⟨f, i.1, m.1⟩], if zdx p.1 i.1 then m.2.fail 2 else m.2)
def ya (f : UInt32) (s : St) : List Nam × St := yN (yb f) (zv s).1 ([], (zv s).2)
structure LocSt where
 seen : List UInt32
 last : UInt32
 o : List Nam
 s : St
def yw (lo : Bool) (p : LocSt) : LocSt :=
 let f := rNum p.s
 let s1 := if f.1 ∈ p.seen ∨ (f.1.toNat < p.last.toNat ∧ lo = false) then f.2.fail 2 else f.2
 let l := ya f.1 s1
 ⟨f.1 :: p.seen, f.1, p.o ++ l.1, l.2⟩
def yZ (lo : Bool) (s : St) : List Nam × St :=
 let p := yN (yw lo) (zv s).1 ⟨[], 0, [], (zv s).2⟩
 (p.o, p.s)
def JN (lo : Bool) (id : Nat) (m : Mod) (s : St) : Mod × St :=
 if id = 0 then ({ m with named := (zF s).1 }, (zF s).2)
 else if id = 1 then ({ m with funcs := (ya 0 s).1 }, (ya 0 s).2)
 else ({ m with locals := (yZ lo s).1 }, (yZ lo s).2)
def zx (lo : Bool) : Nat → Mod → Nat → St → Mod × St
 | 0, m, _, s => (m, s)
 | f + 1, m, last, s =>
  if s.v = 0 ∧ s.b ≠ [] then
   let id := zn s
   let n := zd id.2
   let t := zW n.1 n.2
   if t.2.v ≠ 0 ∨ id.1 < last ∨ 2 < id.1 then (m, t.2.fail 2)
   else
    let p := JN lo id.1 m ⟨t.1, 0⟩
    zx lo f p.1 (id.1 + 1) (if p.2.v ≠ 0 ∨ p.2.b ≠ [] then t.2.fail 2 else t.2)
  else (m, s)
def ji : List UInt8 := [110, 97, 109, 101]
def zz (lo : Bool) (m : Mod) (seen : Bool) (s : St) : Mod × Bool × St :=
 let n := zF s
 if n.2.v ≠ 0 then (m, seen, n.2)
 else if n.1 ≠ ji then ({ m with customs := m.customs ++ [⟨n.1, n.2.b⟩] }, seen, n.2)
 else
  let s1 := if seen then n.2.fail 2 else n.2
  let p := zx lo 4 m 0 s1
  (p.1, true, if p.2.v ≠ 0 then { p.2 with v := 2 } else p.2)
structure ModSt where
 m : Mod
 last : Nat
 names : Bool
 s : St
def Zg (s : St) : St := if s.v = 3 then { s with v := 2 } else s
def YJ (lo : Bool) (p : ModSt) : ModSt × Bool :=
 let id := zn p.s
 let s1 := if id.2.b = [] then id.2.fail 2 else id.2
 let n := zd s1
 let s2 := Zg n.2
 let s3 := if s2.v = 0 ∧ (n.1 = 0 ∨ s2.b = [] ∨ (id.1 = 0 ∧ s2.b.length < n.1)) then s2.fail 2 else s2
 let t := zW n.1 s3
 if t.2.v ≠ 0 then ({ p with s := t.2 }, false)
 else
  let q : ModSt :=
   if id.1 = 0 then
    let c := zz lo p.m p.names ⟨t.1, 0⟩
    ⟨c.1, p.last, c.2.1, c.2.2⟩
   else if 11 < id.1 ∨ id.1 ≤ p.last ∨ p.names then ⟨p.m, p.last, p.names, St.fail ⟨t.1, 0⟩ 2⟩
   else
    let c := zO id.1 p.m ⟨t.1, 0⟩
    ⟨c.1, id.1, p.names, if c.2.v = 0 ∧ c.2.b ≠ [] then c.2.fail 2 else c.2⟩
  let s4 := Zg q.s
  ({ q with s := if s4.v ≠ 0 then t.2.fail s4.v else t.2 }, true)
def Yg (lo : Bool) : Nat → ModSt → ModSt
 | 0, p => p
 | f + 1, p => if p.s.v = 0 ∧ p.s.b ≠ [] then (if (YJ lo p).2 then Yg lo f (YJ lo p).1 else (YJ lo p).1) else p
def Mod.none : Mod := ⟨0, false, 0, [], [], [], [], [], [], [], [], [], [], [], [], [], []⟩
def YK : List UInt8 := [0, 97, 115, 109, 1, 0, 0, 0]
def yl (lo : Bool) (b : List UInt8) : Mod × Nat :=
 if b.take 8 ≠ YK then (Mod.none, 1)
 else
  let p := Yg lo b.length ⟨{ Mod.none with version := 1 }, 0, false, ⟨b.drop 8, 0⟩⟩
  let s1 := if p.s.v = 3 then { p.s with v := 1 } else p.s
  (p.m, (if s1.v = 0 ∧ p.m.functions.length ≠ p.m.codes.length then s1.fail 2 else s1).v)
def zp (k mb : Nat) : List UInt8 :=
 if k = 0 then sleb (wrap32 (mb : Int)) else if k = 1 then sleb (wrap64 (mb : Int)) else if k = 2 then uleb (mb % 4294967296) else if k = 3 then zG 4 mb else if k = 4 then zG 8 mb else if k = 5 then [UInt8.ofNat (mb % 256)] else uleb mb
theorem zZ (k : Nat) (hk : k < 6) (b : UInt64) : zt ((k : Int), b) = zp k b.toNat := by
 have h : k = 0 ∨ k = 1 ∨ k = 2 ∨ k = 3 ∨ k = 4 ∨ k = 5 := by omega
 rcases h with rfl | rfl | rfl | rfl | rfl | rfl <;> simp [zt, zp, wrap32, wrap64]
theorem ZE (k : Int) (hk : ¬ (k = 0 ∨ k = 1 ∨ k = 2 ∨ k = 3 ∨ k = 4 ∨ k = 5)) (b : UInt64) : zt (k, b) = zp 6 b.toNat := by
 simp only [not_or] at hk
 simp [zt, zp, hk.1, hk.2.1, hk.2.2.1, hk.2.2.2.1, hk.2.2.2.2.1, hk.2.2.2.2.2]
theorem YL (n : Nat) : zG 4 (n % 4294967296) = zG 4 n := by
 simp only [zG, List.cons.injEq, and_true]
 refine ⟨?_, ?_, ?_, ?_⟩ <;> (congr 1; omega)
theorem zdy (a : Int × UInt64) : (zt a).length ≤ 10 := by
 obtain ⟨k, b⟩ := a
 have hb := b.toNat_lt
 have dN : -9223372036854775808 ≤ wrap32 (b.toNat : Int) ∧ wrap32 (b.toNat : Int) ≤ 9223372036854775807 := by unfold wrap32; omega
 have dQ : -9223372036854775808 ≤ wrap64 (b.toNat : Int) ∧ wrap64 (b.toNat : Int) ≤ 9223372036854775807 := by unfold wrap64; omega
 have key : ∀ q : Nat, (zp q b.toNat).length ≤ 10 := by
  intro q
  unfold zp
  split
  ·exact J9 _ dN.1 dN.2
  split
  ·exact J9 _ dQ.1 dQ.2
  split
  ·exact zI _ (by omega)
  split
  ·simp [zG]
  split
  ·simp [zG]
  split
  ·simp
  ·exact zI _ hb
 by_cases h : k = 0 ∨ k = 1 ∨ k = 2 ∨ k = 3 ∨ k = 4 ∨ k = 5
 ·obtain ⟨q, rfl⟩ := Int.eq_ofNat_of_zero_le (by omega : 0 ≤ k)
  rw [show ((q : Nat) : Int) = (q : Int) from rfl, zZ q (by omega) b]
  exact key q
 ·rw [ZE k h]
  exact key 6
mutual
def zdz : Ins → List UInt8
 | .mk op args st ty body => UInt8.ofNat (op % 256).toNat :: (args.flatMap zt ++ (if st then YF ty :: (jJ body ++ [11]) else []))
def jJ : List Ins → List UInt8
 | [] => []
 | x :: xs => zdz x ++ jJ xs
end
mutual
def zj0 : Ins → Prop
 | .mk _ _ st ty body => st = true → ty ≤ 3 ∧ zaV body
def zaV : List Ins → Prop
 | [] => True
 | x :: xs => zj0 x ∧ zaV xs
end
theorem ze8 : ∀ {l : List Ins}, zaV l → ∀ (i : Nat) (h : i < l.length), zj0 l[i]
 | _ :: _, h, 0, _ => h.1
 | _ :: _, h, i + 1, hi => ze8 h.2 i (by simpa using hi)
theorem ZZ : ∀ (l m : List Ins), jJ (l ++ m) = jJ l ++ jJ m
 | [], m => rfl
 | x :: l, m => by simp only [List.cons_append, jJ, ZZ l m, List.append_assoc]
variable {l : List Ins} {i : Nat}
theorem zfx (h : i < l.length) : jJ (l.take (i + 1)) = jJ (l.take i) ++ zdz l[i] := by
 rw [tsQ h, ZZ]; simp [jJ]
theorem zer (h : i < l.length) : ∃ m, jJ l = jJ (l.take i) ++ (zdz l[i] ++ m) := by
 refine ⟨jJ (l.drop (i + 1)), ?_⟩
 have : l = l.take i ++ (l[i] :: l.drop (i + 1)) := by rw [← List.drop_eq_getElem_cons h, List.take_append_drop]
 conv => lhs; rw [this]
 rw [ZZ, jJ]
theorem zb4 {l : List (Int × UInt64)} (h : i < l.length) : ∃ m, l.flatMap zt = (l.take i).flatMap zt ++ (zt l[i] ++ m) := by
 refine ⟨(l.drop (i + 1)).flatMap zt, ?_⟩
 have : l = l.take i ++ (l[i] :: l.drop (i + 1)) := by rw [← List.drop_eq_getElem_cons h, List.take_append_drop]
 conv => lhs; rw [this]
 rw [List.flatMap_append, List.flatMap_cons]
theorem zdA {l : List (Int × UInt64)} (h : i < l.length) : (l.take (i + 1)).flatMap zt = (l.take i).flatMap zt ++ zt l[i] := by
 rw [tsQ h, List.flatMap_append]; simp
def wVT (t : Int) : List UInt8 := [UInt8.ofNat (127 - t).toNat]
def wVec {α : Type} (f : α → List UInt8) (l : List α) : List UInt8 := uleb l.length ++ l.flatMap f
def zq (s : List UInt8) : List UInt8 := uleb s.length ++ s
def wNum (n : UInt32) : List UInt8 := uleb n.toNat
def wLim (l : Lim) : List UInt8 := if l.bounded then 1 :: (uleb l.min.toNat ++ uleb l.max.toNat) else 0 :: uleb l.min.toNat
def wTab (l : Lim) : List UInt8 := 112 :: wLim l
def wFT (t : FT) : List UInt8 := 96 :: (wVec wVT t.ps ++ wVec wVT t.rs)
def zdB (b : Bool) : List UInt8 := [if b then 1 else 0]
def zbo (x : Imp) : List UInt8 :=
 if x.kind = 0 then 0 :: uleb x.index.toNat
 else if x.kind = 1 then 1 :: wTab x.lim
 else if x.kind = 2 then 2 :: wLim x.lim
 else 3 :: (wVT x.ty ++ zdB x.mtb)
def wImp (x : Imp) : List UInt8 := zq x.mdl ++ (zq x.name ++ zbo x)
def wKon (l : List Ins) : List UInt8 := jJ l ++ [11]
def jC (g : Glob) : List UInt8 := wVT g.ty ++ (zdB g.mtb ++ wKon g.init)
def jS (e : Expo) : List UInt8 := zq e.name ++ (UInt8.ofNat e.kind.toNat :: uleb e.index.toNat)
def jT (e : Elem) : List UInt8 := uleb e.index.toNat ++ (wKon e.off ++ wVec wNum e.ids)
def wDat (d : Dat) : List UInt8 := uleb d.index.toNat ++ (wKon d.off ++ zq d.init)
def wNam (n : Nam) : List UInt8 := uleb n.idx.toNat ++ zq n.name
def wSec (id : UInt8) (b : List UInt8) : List UInt8 := id :: zq b
def zD {α : Type} (id : UInt8) (f : α → List UInt8) (l : List α) : List UInt8 := if l.length = 0 then [] else wSec id (wVec f l)
def zdC (m : Mod) : List UInt8 := if m.hasStart then wSec 8 (uleb m.start.toNat) else []
def yL (s : List UInt8) : List UInt8 := if s.length = 0 then [] else wSec 0 (zq s)
def wGrp (g : UInt32 × List Nam) : List UInt8 := uleb g.1.toNat ++ wVec wNam g.2
def Yl (m : Mod) (gs : List (UInt32 × List Nam)) : List UInt8 :=
 if m.named.length = 0 ∧ m.funcs.length = 0 ∧ m.locals.length = 0 then [] else wSec 0 (zq ji ++ (yL m.named ++ (zD 1 wNam m.funcs ++ zD 2 wGrp gs)))
def wCus (c : Cus) : List UInt8 := wSec 0 (zq c.name ++ c.data)
def zfy (m : Mod) (gs : List (UInt32 × List Nam)) : List UInt8 :=
 zD 1 wFT m.types ++ (zD 2 wImp m.imports ++ (zD 3 wNum m.functions ++ (zD 4 wTab m.tables ++ (zD 5 wLim m.memories ++ (zD 6 jC m.globals ++
  (zD 7 jS m.exports ++ (zdC m ++ (zD 9 jT m.elements ++ (zD 10 zq m.codes ++ (zD 11 wDat m.datas ++ (Yl m gs ++ m.customs.flatMap wCus)))))))))))
def wMod (m : Mod) (gs : List (UInt32 × List Nam)) : List UInt8 := YK ++ zfy m gs
abbrev fk (k : UInt32) (n : Nam) : Bool := decide (n.fn = k)
def jU (l : List Nam) (gs : List (UInt32 × List Nam)) : Prop :=
 (gs.map (·.1)).Nodup ∧ (∀ f, f ∈ gs.map (·.1) ↔ ∃ n ∈ l, n.fn = f) ∧ ∀ g ∈ gs, g.2 = l.filter (fun n => decide (n.fn = g.1))
def vtOk (t : Int) : Bool := decide (0 ≤ t) && decide (t ≤ 3)
def ZR (l : Lim) : Bool := l.bounded || decide (l.max = 0)
def sgn (b : UInt64) : Int := (((b.toNat : Int) + 9223372036854775808) % 18446744073709551616) - 9223372036854775808
def jK : List Ins → Bool
 | [x] => decide (x.op = 65 ∨ x.op = 66 ∨ x.op = 67 ∨ x.op = 68) && yi 0 [x] && (decide (x.op ≠ 66) || match x.args with
  | a :: _ => decide (-134217728 ≤ sgn a.2)
  | [] => true)
 | _ => false
def ftOk (t : FT) : Bool := t.ps.all vtOk && t.rs.all vtOk
def limZ (l : Lim) : Bool := decide (l.min = 0) && !l.bounded && decide (l.max = 0)
def Y7 (x : Imp) : Bool :=
 (if x.kind = 0 then limZ x.lim && decide (x.ty = 0) && !x.mtb
  else if x.kind = 1 ∨ x.kind = 2 then decide (x.index = 0) && decide (x.ty = 0) && !x.mtb
  else if x.kind = 3 then decide (x.index = 0) && limZ x.lim
  else false) && z9 x.mdl && z9 x.name && ZR x.lim && vtOk x.ty
def po (g : Glob) : Bool := vtOk g.ty && jK g.init
def o9 (e : Expo) : Bool := decide (0 ≤ e.kind) && decide (e.kind ≤ 3) && z9 e.name
def qK (c : Cus) : Bool := z9 c.name && decide (c.name ≠ ji)
def y5 (n m : Nam) : Bool := decide (m.fn.toNat < n.fn.toNat) || (decide (n.fn = m.fn) && decide (m.idx.toNat < n.idx.toNat))
def zet (l : List Nam) : Bool := (List.range l.length).all fun i => match l[i]? with
 | some n => z9 n.name && (decide (i = 0) || match l[i - 1]? with
  | some p => y5 n p
  | none => true)
 | none => true
def JU (m : Mod) : Bool :=
 decide (m.version = 1) && (m.hasStart || decide (m.start = 0)) && decide (m.functions.length = m.codes.length) && z9 m.named && m.types.all ftOk && m.imports.all Y7 && (m.tables ++ m.memories).all ZR &&
 m.globals.all po && m.exports.all o9 && m.elements.all (fun e => jK e.off) && m.datas.all (fun d => jK d.off) && m.customs.all qK && m.funcs.all (fun n => decide (n.fn = 0)) && zet m.funcs && zet m.locals
end Go.Proofs.YtejgninpjhcgnaaGreatDoor
