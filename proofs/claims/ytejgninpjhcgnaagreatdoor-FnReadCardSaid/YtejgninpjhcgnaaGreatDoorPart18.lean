/- Texts of this proof, one behind the other. -/
import Derived.Test.YtejgninpjhcgnaaGreatDoorPart17
namespace Go.Proofs.YtejgninpjhcgnaaGreatDoor
open Go.RowKit
set_option linter.unusedSimpArgs false
set_option linter.unusedVariables false
set_option maxRecDepth 100000
set_option maxHeartbeats 4000000
theorem Bj (el : List Nam) (n : Nam) : (insN el n).length = el.length + 1 := by
 unfold insN
 rw [laQ, List.length_cons, ltQ, ldQ]
 omega
theorem zc8 (l : List Nam) : (Zj l).length = l.length := by
 have key : ∀ (l bf : List Nam), (l.foldl insN bf).length = bf.length + l.length := by
  intro l
  induction l with
  | nil => intro bf; simp
  | cons x xs ih => intro bf; rw [List.foldl_cons, ih, Bj, List.length_cons]; omega
 have := key l []
 simpa [Zj] using this
theorem ze2 {l : List Nam} {i : Nat} (h : i < l.length) : Zj (l.take (i + 1)) = insN (Zj (l.take i)) l[i] := by
 unfold Zj
 rw [tsQ h, List.foldl_append]
 rfl
theorem YT : (Tryz.prog.info? 120).map (fun i => (i.zero, i.size, i.bytes)) = some (some (.agg #[.int .u32 0, .int .u32 0, .string ⟨#[]⟩]), Lay.nam.size, 24) := by kernel_rfl
theorem ZV : Lay.nam.flat := Lay.flat_via (Lay.flat_pair Lay.flat_u32 (Lay.flat_pair Lay.flat_u32 Lay.flat_strB)) _
theorem zc9 (l : List Nam) (aa : Option Addr) (m c : Nat) (A : Nat → Prop) (w : World) (hR : Lay.nam.slice.rd A w [.slice aa m c] l) (hA : ∀ k, A k → k < w.heap.size) (hl : l.length ≤ 4294967296) :
 Calls Tryz.prog 29 #[.slice aa m c] w fun e w' => ∃ v, e = .returned v ∧ Own Lay.nam 120 w.heap.size w' v (Zj l) ∧ Ext w w' := by
 obtain ⟨a', c', e, dw, cn⟩ := Lay.slice_form hR
 obtain ⟨rfl, rfl, rfl⟩ : aa = a' ∧ m = l.length ∧ c = c' := by simpa using e
 have aT : (l.length : Int) ≤ 9223372036854775807 := by omega
 have H := qh (anQ hR (anQ hA hl))
 clear hR hA hl dw cn e
 go_enter Tryz.func29, Tryz.ntmps29
 go_wp2_with fail
 go_loopw [3, 5, 6, 9] (fun s3 s5 s6 s9 w' => ∃ (i : Nat), i ≤ l.length ∧ s9 = .int .i64 i ∧ Hq (Own Lay.nam 120 w.heap.size w' s3 (Zj (l.take i)) ∧ Ext w w')) (fun _ _ _ s9 _ => l.length - (intOf s9).toNat)
 case atStart => exact ⟨0, nzQ _, rfl, J3 _ _ _ _, Fr.refl _ _⟩
 case round =>
  obtain ⟨i, hi, rfl, hV⟩ := hrel
  obtain ⟨u1, cu, rfl, rP, tP⟩ := hV.o.1.form
  have l6 := zc8 (l.take i)
  rw [ltQ, Nat.min_eq_left hi] at l6
  rw [l6] at hV rP ⊢
  by_cases aj : i < l.length
  ·obtain ⟨b, o, rfl, e0, e1, e2, aU⟩ := Lay.nam_at (Lay.fr H.o.1 hV.o.2 (fun k hk => ⟨H.o.2.1 k hk, fun h => h⟩)) i aj
   have aU := qh aU
   have vX := qh (ze2 aj)
   generalize l[i] = x at *
   have fF := qh l6
   have fO := qh (anQ rP tP)
   have BS : (cu : Int) ≤ 9223372036854775807 := by simp only [maxLen] at tP; omega
   clear l6
   generalize Zj (l.take i) = el at *
   go_wp2_with fail
   have iS := zl wr #[.int .u32 (x.fn.toNat : Int), .int .u32 (x.idx.toNat : Int), .string (zd x.name)] 120
   have df := za wr (.cells #[.int .u32 (x.fn.toNat : Int), .int .u32 (x.idx.toNat : Int), .string (zd x.name)] 120)
   generalize (wr.alloc (.cells #[.int .u32 (x.fn.toNat : Int), .int .u32 (x.idx.toNat : Int), .string (zd x.name)] 120)) = W2 at *
   obtain ⟨ge, cm⟩ := exQ (wr.heap.size)
   rw [cm] at iS ⊢
   clear cm
   have HB := qh (anQ iS (anQ df (hV.o.1.ext df)))
   clear iS df e0 e1 e2
   generalize wr = wq at *
   go_loopw [6] (fun s6 w' => ∃ (at' : Nat), at' ≤ i ∧ s6 = .int .i64 at' ∧ Hq (Yz el x.fn i = Yz el x.fn at' ∧ Ext W2 w')) (fun s6 _ => (intOf s6).toNat)
   case atStart => exact ⟨i, Nat.le_refl _, rfl, rfl, Fr.refl _ _⟩
   case round =>
    obtain ⟨at', ic, rfl, hQ⟩ := hrel
    have hO := qh (HB.o.2.2.ext hQ.o.2)
    have au := (HB.o.1.ext hQ.o.2).cell
    cases at' with
    | zero =>
     have mp := qh (show Yz el x.fn i = 0 from hQ.o.1)
     have fQ := hQ.o.2
     clear hO
     go_wp2_with fail
     go_quiet (fail)
     have da := qh (show Ext W2 (wr.drewN nq) from Ext.trans fQ ((Fr.refl _ wr).drewN _))
     generalize wr.drewN nq = W4 at *
     clear au fQ hQ
     go_wp2_with fail
     have qq := qh (show 0 ≤ el.length from by have := fF.o; omega)
     have iq := qh (show insN el x = el.take 0 ++ x :: el.drop 0 from by unfold insN; rw [fF.o, mp.o])
     have xg : (0 : Int) ≤ (cu : Int) := by have := fO.o.1; omega
     have lf : 0 ≤ cu := by have := fO.o.1; omega
     have qb := qh (show ge < W4.heap.size from nqQ HB.o.1.lt da.o.size)
     refine zj (yX (fun k => W4.heap.size ≤ k)) [(0, .take), (1, .take), (2, .take), (3, .take), (4, .take), (6, .take), (7, .take), (8, .take), (5, .run), (9, .run), (10, .run), (11, .take)] (by kernel_rfl) (by kernel_rfl) ?_
     simp only [zx, gzQ, gsQ]
     have HC := qh (fun W' (h : Fr (fun k => W4.heap.size ≤ k) W4.drew W') => ((HB.o.1.ext (Ext.trans da.o (zb _))).fr h (by have := qb.o; omega)).cell)
     have uw := qh (show W4.heap.size = W4.drew.heap.size from rfl)
     have bq := qh (Ext.trans da.o (zb W4))
     have mP := qh (HB.o.2.2.ext bq.o)
     generalize W4.drew = W5 at *
     repeat (apply item_take; rfl; rfl; rfl; rfl; exact fun _ _ _ _ h => h; (intro W e _ k; have q := HC.o W e; go_simp; exact k))
     apply zg; rfl; intro K hK; go_simp
     refine hK _ _ (za _ _).to ?_
     have lc := qh (za W5 (.cells #[.int .u32 (x.fn.toNat : Int), .int .u32 (x.idx.toNat : Int), .string (zd x.name)] 120))
     have kA := qh (Ext.trans bq.o (za W5 (.cells #[.int .u32 (x.fn.toNat : Int), .int .u32 (x.idx.toNat : Int), .string (zd x.name)] 120)))
     have mW := qh (zl W5 #[.int .u32 (x.fn.toNat : Int), .int .u32 (x.idx.toNat : Int), .string (zd x.name)] 120)
     obtain ⟨W6, g6, oQ, iw⟩ : ∃ W6 g6, (W5.alloc (.cells #[.int .u32 (x.fn.toNat : Int), .int .u32 (x.idx.toNat : Int), .string (zd x.name)] 120)) = W6 ∧ W5.heap.size = g6 := ⟨_, _, rfl, rfl⟩
     rw [oQ] at kA lc mW ⊢
     rw [iw] at mW ⊢
     have iw := qh iw
     clear oQ hK K
     have rY := qh (HB.o.2.2.ext kA.o)
     have pH : w.heap.size ≤ g6 := by have := bq.o.size; have := HB.o.2.1.size; have := hV.o.2.size; have := iw.o; omega
     have wK := Lay.rd_take rY.o.slice qq.o (Nat.le_refl 0) (nlQ lf fO.o.2)
     have mT : Own Lay.nam 120 w.heap.size W6 (.slice (some ⟨g6, 0, none⟩) 1 1) [x] := ⟨[.int .u32 (x.fn.toNat : Int), .int .u32 (x.idx.toNat : Int), .string (zd x.name)], ⟨rfl, .inr ⟨g6, 1, _, rfl, pH, mW.o, Nat.le_refl _, by decide, rfl, rfl⟩⟩, Lay.all_single ⟨[_], [_, _], rfl, rfl, [_], [_], rfl, rfl, rfl, aU.o⟩⟩
     apply zg; rfl; intro K hK
     refine jM Lay.nam w.heap.size (.tmp 35) (.tmp 38) _ _ _ 24 rfl Tryz.underlying35 YT rfl (by omega) (by decide) (.slice (some ⟨g6, 0, none⟩) 1 1) [x] (el.drop 0) u1 i cu rfl rfl mT (A := fun k => k < W6.heap.size) ?_ (fun _ hf => Lay.all_flat ZV hf) (by have := mW.o.lt; omega) (by rw [ldQ]; have := fF.o; have := H.o.2.2; simp only [List.length_cons, List.length_nil]; omega) ?_
     ·rw [List.drop_zero]
      exact Lay.mono _ rY.o.slice (fun k hk => hk.2)
     ·intro v1 w1 h1 h2 h3
      refine hK _ _ (h2.mono (fun k _ e => by have e' : some k = some g6 := e; have := Option.some.inj e'; have := iw.o; have := uw.o; show W4.heap.size ≤ k; omega)) ?_
      clear hK K
      have kO := qh (show Ext wq w1 from Fr.new (Ext.fr (Ext.trans HB.o.2.1 kA.o) h2) (fun k e => by have e' : some k = some g6 := e; have := Option.some.inj e'; have := iw.o; have := bq.o.size; have := HB.o.2.1.size; omega))
      have dI := qh (show Ext W5 w1 from Fr.new (Ext.fr lc.o h2) (fun k e => by have e' : some k = some g6 := e; have := Option.some.inj e'; have := iw.o; omega))
      obtain ⟨q1, q2, e3, cV, ev⟩ := h1.form
      subst e3
      have h1 := qh h1
      have lX := qh (Lay.fr (Lay.rd_take mP.o.slice qq.o (Nat.le_refl 0) (nlQ lf fO.o.2)) dI.o (fun k hk => ⟨hk.2, fun h => h⟩))
      apply zg; rfl; intro K hK
      refine y9 Lay.nam ZV w.heap.size (.tmp 33) (.tmp 39) _ _ _ 24 rfl Tryz.underlying35 YT rfl (by omega) (el.take 0) ([x] ++ el.drop 0) u1 q1 0 _ q2 rfl rfl lX.o h1.o.slice (by simp) (by have := kO.o.size; have := hV.o.2.size; omega) (by rw [laQ, ltQ, ldQ]; have := fF.o; have := H.o.2.2; simp only [List.length_cons, List.length_nil]; omega) ?_
      intro v2 w2 k1 k2
      refine hK _ _ k2.to ?_
      have bO : Hq (Own Lay.nam 120 w.heap.size w2 v2 (Zj (l.take (i + 1))) ∧ Ext w w2) := by
       refine ⟨?_, Ext.trans hV.o.2 (Ext.trans kO.o k2)⟩
       rw [vX.o, iq.o]
       exact k1
      obtain ⟨z1, z2, z3, rfl⟩ := k1.shape
      clear hK K k1 k2 HC
      repeat (apply item_take; rfl; rfl; rfl; rfl; exact fun _ _ _ _ h => h; (intro _ _ _ k; go_simp; exact k))
      apply zm
      go_wp2
      go_roundw
      case rel => exact ⟨i + 1, by omega, by go_num, bO⟩
      case measure => simp [intOf]; omega
    | succ k' =>
     obtain ⟨p, hp⟩ := exQ (k' + 1)
     rw [hp] at hQ ic ⊢
     obtain ⟨k, uD⟩ : ∃ k, p = k + 1 := ⟨k', hp.symm⟩
     clear hp
     have uI : k < el.length := by have := fF.o; omega
     obtain ⟨b, o, rfl, e0, e1, e2, -⟩ := Lay.nam_at hO.o.slice k uI
     have vv : el[k]? = some el[k] := List.getElem?_eq_getElem uI
     have um : Yz el x.fn (k + 1) = if x.fn.toNat < el[k].fn.toNat then Yz el x.fn k else k + 1 := by conv => lhs; unfold Yz; rw [vv]
     generalize el[k] = y at *
     have ru : wrap64 ((p : Int) - 1) = (k : Int) := by unfold wrap64; omega
     have vw : IntKind.i64.wrap ((p : Int) - 1) = (k : Int) := by rw [IntKind.wrap_i64]; omega
     have d0 : decide ((0 : Int) < (p : Int)) = true := decide_eq_true (by omega)
     by_cases i3 : x.fn.toNat < y.fn.toNat
     ·have uR := qh (show Yz el x.fn i = Yz el x.fn k from by rw [hQ.o.1, uD, um, if_pos i3])
      have dg : decide ((x.fn.toNat : Int) < (y.fn.toNat : Int)) = true := decide_eq_true (by omega)
      have fQ := qh hQ.o.2
      clear um vv hO
      go_wp2_with fail
      go_quiet (fail)
      have da := qh (show Ext W2 (wr.drewN nq) from Ext.trans fQ.o ((Fr.refl _ wr).drewN _))
      generalize wr.drewN nq = W4 at *
      clear e0 e1 e2 au hQ fQ
      go_wp2
      go_roundw
      case rel => exact ⟨k, by omega, by go_num, uR.o, da.o⟩
      case measure => simp [intOf]; omega
     ·have mp := qh (show Yz el x.fn i = p from by rw [hQ.o.1, uD, um, if_neg i3])
      have dg : decide ((x.fn.toNat : Int) < (y.fn.toNat : Int)) = false := decide_eq_false (by omega)
      have fQ := qh hQ.o.2
      clear um vv hO
      go_wp2_with fail
      go_quiet (fail)
      have da := qh (show Ext W2 (wr.drewN nq) from Ext.trans fQ.o ((Fr.refl _ wr).drewN _))
      generalize wr.drewN nq = W4 at *
      clear e0 e1 e2 au hQ fQ dg i3 d0 ru vw uD uI
      go_wp2_with fail
      have qq := qh (show p ≤ el.length from by have := fF.o; omega)
      have iq := qh (show insN el x = el.take p ++ x :: el.drop p from by unfold insN; rw [fF.o, mp.o])
      have xg : (p : Int) ≤ (cu : Int) := by have := fO.o.1; omega
      have lf : p ≤ cu := by have := fO.o.1; omega
      have qb := qh (show ge < W4.heap.size from nqQ HB.o.1.lt da.o.size)
      refine zj (yX (fun k => W4.heap.size ≤ k)) [(0, .take), (1, .take), (2, .take), (3, .take), (4, .take), (6, .take), (7, .take), (8, .take), (5, .run), (9, .run), (10, .run), (11, .take)] (by kernel_rfl) (by kernel_rfl) ?_
      simp only [zx, gzQ, gsQ]
      have HC := qh (fun W' (h : Fr (fun k => W4.heap.size ≤ k) W4.drew W') => ((HB.o.1.ext (Ext.trans da.o (zb _))).fr h (by have := qb.o; omega)).cell)
      have uw := qh (show W4.heap.size = W4.drew.heap.size from rfl)
      have bq := qh (Ext.trans da.o (zb W4))
      have mP := qh (HB.o.2.2.ext bq.o)
      generalize W4.drew = W5 at *
      repeat (apply item_take; rfl; rfl; rfl; rfl; exact fun _ _ _ _ h => h; (intro W e _ k; have q := HC.o W e; go_simp; exact k))
      apply zg; rfl; intro K hK; go_simp
      refine hK _ _ (za _ _).to ?_
      have lc := qh (za W5 (.cells #[.int .u32 (x.fn.toNat : Int), .int .u32 (x.idx.toNat : Int), .string (zd x.name)] 120))
      have kA := qh (Ext.trans bq.o (za W5 (.cells #[.int .u32 (x.fn.toNat : Int), .int .u32 (x.idx.toNat : Int), .string (zd x.name)] 120)))
      have mW := qh (zl W5 #[.int .u32 (x.fn.toNat : Int), .int .u32 (x.idx.toNat : Int), .string (zd x.name)] 120)
      obtain ⟨W6, g6, oQ, iw⟩ : ∃ W6 g6, (W5.alloc (.cells #[.int .u32 (x.fn.toNat : Int), .int .u32 (x.idx.toNat : Int), .string (zd x.name)] 120)) = W6 ∧ W5.heap.size = g6 := ⟨_, _, rfl, rfl⟩
      rw [oQ] at kA lc mW ⊢
      rw [iw] at mW ⊢
      have iw := qh iw
      clear oQ hK K
      have rY := qh (HB.o.2.2.ext kA.o)
      have pH : w.heap.size ≤ g6 := by have := bq.o.size; have := HB.o.2.1.size; have := hV.o.2.size; have := iw.o; omega
      have tv := Lay.rd_dropG rY.o.slice qq.o
      have wK := Lay.rd_take rY.o.slice qq.o (Nat.le_refl p) (nlQ lf fO.o.2)
      have mT : Own Lay.nam 120 w.heap.size W6 (.slice (some ⟨g6, 0, none⟩) 1 1) [x] := ⟨[.int .u32 (x.fn.toNat : Int), .int .u32 (x.idx.toNat : Int), .string (zd x.name)], ⟨rfl, .inr ⟨g6, 1, _, rfl, pH, mW.o, Nat.le_refl _, by decide, rfl, rfl⟩⟩, Lay.all_single ⟨[_], [_, _], rfl, rfl, [_], [_], rfl, rfl, rfl, aU.o⟩⟩
      apply zg; rfl; intro K hK
      by_cases nW : cu = p
      ·rw [if_pos nW]
       refine jM Lay.nam w.heap.size (.tmp 35) (.tmp 38) _ _ _ 24 rfl Tryz.underlying35 YT rfl (by omega) (by decide) (.slice (some ⟨g6, 0, none⟩) 1 1) [x] (el.drop p) (some ⟨b, o, none⟩) _ (cu - p) rfl rfl mT (A := fun k => k < W6.heap.size) ?_ (fun _ hf => Lay.all_flat ZV hf) (by have := mW.o.lt; omega) (by rw [ldQ]; have := fF.o; have := H.o.2.2; simp only [List.length_cons, List.length_nil]; omega) ?_
       ·have hz : el.drop p = [] := List.eq_nil_of_length_eq_zero (by rw [ldQ]; have := fO.o.1; have := fF.o; omega)
        have hH : i - p = 0 := by have := fO.o.1; omega
        rw [hz, hH]
        exact Lay.rd_end (by have := fO.o.2; omega)
       ·intro v1 w1 h1 h2 h3
        refine hK _ _ (h2.mono (fun k _ e => by have e' : some k = some g6 := e; have := Option.some.inj e'; have := iw.o; have := uw.o; show W4.heap.size ≤ k; omega)) ?_
        clear hK K
        have kO := qh (show Ext wq w1 from Fr.new (Ext.fr (Ext.trans HB.o.2.1 kA.o) h2) (fun k e => by have e' : some k = some g6 := e; have := Option.some.inj e'; have := iw.o; have := bq.o.size; have := HB.o.2.1.size; omega))
        have dI := qh (show Ext W5 w1 from Fr.new (Ext.fr lc.o h2) (fun k e => by have e' : some k = some g6 := e; have := Option.some.inj e'; have := iw.o; omega))
        obtain ⟨q1, q2, e3, cV, ev⟩ := h1.form
        subst e3
        have h1 := qh h1
        have lX := qh (Lay.fr (Lay.rd_take mP.o.slice qq.o (Nat.le_refl p) (nlQ lf fO.o.2)) dI.o (fun k hk => ⟨hk.2, fun h => h⟩))
        apply zg; rfl; intro K hK
        refine y9 Lay.nam ZV w.heap.size (.tmp 33) (.tmp 39) _ _ _ 24 rfl Tryz.underlying35 YT rfl (by omega) (el.take p) ([x] ++ el.drop p) (some ⟨b, o, none⟩) q1 p _ q2 rfl rfl lX.o h1.o.slice (by simp) (by have := kO.o.size; have := hV.o.2.size; omega) (by rw [laQ, ltQ, ldQ]; have := fF.o; have := H.o.2.2; simp only [List.length_cons, List.length_nil]; omega) ?_
        intro v2 w2 k1 k2
        refine hK _ _ k2.to ?_
        have bO : Hq (Own Lay.nam 120 w.heap.size w2 v2 (Zj (l.take (i + 1))) ∧ Ext w w2) := by
         refine ⟨?_, Ext.trans hV.o.2 (Ext.trans kO.o k2)⟩
         rw [vX.o, iq.o]
         exact k1
        obtain ⟨z1, z2, z3, rfl⟩ := k1.shape
        clear hK K k1 k2 HC
        repeat (apply item_take; rfl; rfl; rfl; rfl; exact fun _ _ _ _ h => h; (intro _ _ _ k; go_simp; exact k))
        apply zm
        go_wp2
        go_roundw
        case rel => exact ⟨i + 1, by omega, by go_num, bO⟩
        case measure => simp [intOf]; omega
      ·rw [if_neg nW]
       refine jM Lay.nam w.heap.size (.tmp 35) (.tmp 38) _ _ _ 24 rfl Tryz.underlying35 YT rfl (by omega) (by decide) (.slice (some ⟨g6, 0, none⟩) 1 1) [x] (el.drop p) _ _ _ rfl rfl mT (A := fun k => k < W6.heap.size) ?_ (fun _ hf => Lay.all_flat ZV hf) (by have := mW.o.lt; omega) (by rw [ldQ]; have := fF.o; have := H.o.2.2; simp only [List.length_cons, List.length_nil]; omega) ?_
       ·rw [fF.o, Option.map_some, yY] at tv
        exact Lay.mono _ tv (fun _ hk => hk.2)
       ·intro v1 w1 h1 h2 h3
        refine hK _ _ (h2.mono (fun k _ e => by have e' : some k = some g6 := e; have := Option.some.inj e'; have := iw.o; have := uw.o; show W4.heap.size ≤ k; omega)) ?_
        clear hK K
        have kO := qh (show Ext wq w1 from Fr.new (Ext.fr (Ext.trans HB.o.2.1 kA.o) h2) (fun k e => by have e' : some k = some g6 := e; have := Option.some.inj e'; have := iw.o; have := bq.o.size; have := HB.o.2.1.size; omega))
        have dI := qh (show Ext W5 w1 from Fr.new (Ext.fr lc.o h2) (fun k e => by have e' : some k = some g6 := e; have := Option.some.inj e'; have := iw.o; omega))
        obtain ⟨q1, q2, e3, cV, ev⟩ := h1.form
        subst e3
        have h1 := qh h1
        have lX := qh (Lay.fr (Lay.rd_take mP.o.slice qq.o (Nat.le_refl p) (nlQ lf fO.o.2)) dI.o (fun k hk => ⟨hk.2, fun h => h⟩))
        apply zg; rfl; intro K hK
        refine y9 Lay.nam ZV w.heap.size (.tmp 33) (.tmp 39) _ _ _ 24 rfl Tryz.underlying35 YT rfl (by omega) (el.take p) ([x] ++ el.drop p) (some ⟨b, o, none⟩) q1 p _ q2 rfl rfl lX.o h1.o.slice (by simp) (by have := kO.o.size; have := hV.o.2.size; omega) (by rw [laQ, ltQ, ldQ]; have := fF.o; have := H.o.2.2; simp only [List.length_cons, List.length_nil]; omega) ?_
        intro v2 w2 k1 k2
        refine hK _ _ k2.to ?_
        have bO : Hq (Own Lay.nam 120 w.heap.size w2 v2 (Zj (l.take (i + 1))) ∧ Ext w w2) := by
         refine ⟨?_, Ext.trans hV.o.2 (Ext.trans kO.o k2)⟩
         rw [vX.o, iq.o]
         exact k1
        obtain ⟨z1, z2, z3, rfl⟩ := k1.shape
        clear hK K k1 k2 HC
        repeat (apply item_take; rfl; rfl; rfl; rfl; exact fun _ _ _ _ h => h; (intro _ _ _ k; go_simp; exact k))
        apply zm
        go_wp2
        go_roundw
        case rel => exact ⟨i + 1, by omega, by go_num, bO⟩
        case measure => simp [intOf]; omega
  ·obtain rfl : i = l.length := by omega
   have bh := hV.o
   rw [tlQ] at bh
   have ky := qh bh
   clear hV bh
   go_wp2
   go_ret
   exact ⟨_, rfl, ky.o.1, ky.o.2⟩
def Wt {α : Type} (p : List UInt8 → PR α) (g : α → Nat) : Prop := ∀ bs x r, p bs = .ok x r → g x + 64 * r.length ≤ 64 * bs.length
def gL {α : Type} (g : α → Nat) (l : List α) : Nat := (l.map g).sum
variable {α : Type}
theorem zeq (g : α → Nat) : gL g [] = 0 := rfl
theorem jY (g : α → Nat) (x : α) (l : List α) : gL g (x :: l) = g x + gL g l := by simp [gL]
theorem J2 (g : α → Nat) : ∀ (l m : List α), gL g (l ++ m) = gL g l + gL g m
 | [], m => by rw [List.nil_append, zeq]; omega
 | x :: l, m => by rw [List.cons_append, jY, jY, J2 g l m]; omega
variable {g : α → Nat}
theorem JA (h : ∀ x, 64 ≤ g x) : ∀ l : List α, 64 * l.length ≤ gL g l
 | [] => Nat.le_refl _
 | x :: l => by have := h x; have := JA h l; rw [jY, List.length_cons]; omega
variable {f : α → List UInt8} {B : Nat}
theorem Jo (h : ∀ x, g x ≤ B → (f x).length ≤ g x) : ∀ l : List α, gL g l ≤ B → (l.flatMap f).length ≤ gL g l
 | [], _ => Nat.le_refl _
 | x :: l, hB => by
  rw [jY] at hB ⊢
  have := h x (by omega)
  have := Jo h l (by omega)
  rw [List.flatMap_cons, laQ]
  omega
variable {r : List UInt8}
theorem ze {β : Type} {p : PR α} {f : α → List UInt8 → PR β} {y : β} (h : p.bind f = .ok y r) : ∃ x r1, p = .ok x r1 ∧ f x r1 = .ok y r := by
 cases p with
 | ok x r1 => exact ⟨x, r1, rfl, h⟩
 | bad => cases h
 | any => cases h
theorem zP {x y : α} {s : List UInt8} (h : PR.ok x r = PR.ok y s) : x = y ∧ r = s := by injection h with h1 h2; exact ⟨h1, h2⟩
theorem Zk : Wt y7 fun _ => 64 := by
 intro bs x r h
 cases bs with
 | nil => cases h
 | cons c t => obtain ⟨-, rfl⟩ := zP h; (try dsimp only at *); rw [List.length_cons]; omega
theorem Z4 : ∀ (bs : List UInt8) (sh bf n : Nat) (r : List UInt8), jq sh bf bs = some (n, r) → r.length + 1 ≤ bs.length
 | [], _, _, _, _, h => by simp [jq] at h
 | c :: t, sh, bf, n, r, h => by
  rw [jq] at h
  split at h
  ·simp only [Option.some.injEq, Prod.mk.injEq] at h
   rw [h.2, List.length_cons]; exact Nat.le_refl _
  ·have := Z4 t _ _ _ _ h; rw [List.length_cons]; omega
theorem JM : ∀ (bs : List UInt8) (sh bf : Nat) (n : Int) (r : List UInt8), yM sh bf bs = some (n, r) → r.length + 1 ≤ bs.length
 | [], _, _, _, _, h => by simp [yM] at h
 | c :: t, sh, bf, n, r, h => by
  rw [yM] at h
  split at h
  ·simp only [Option.some.injEq, Prod.mk.injEq] at h
   rw [← h.2, List.length_cons]; exact Nat.le_refl _
  ·have := JM t _ _ _ _ h; rw [List.length_cons]; omega
theorem Jp : Wt pNum fun _ => 64 := by
 intro bs x r h
 unfold pNum at h
 split at h
 ·obtain ⟨-, rfl⟩ := zP h
  have := Z4 _ _ _ _ _ ‹_›
  (try dsimp only at *); omega
 ·cases h
theorem JB : Wt zR fun l => 64 + 64 * l.length := by
 intro bs x r h
 obtain ⟨n, r1, h1, h2⟩ := ze h
 have := Jp _ _ _ h1
 unfold ZY at h2
 split at h2
 ·obtain ⟨rfl, rfl⟩ := zP h2
  (try dsimp only at *)
  rw [ltQ, ldQ]
  (try dsimp only at *); omega
 ·cases h2
variable {p : List UInt8 → PR α}
theorem zh5 (hp : Wt p g) : ∀ n, Wt (pRep p n) (gL g)
 | 0 => by
  intro bs x r h
  obtain ⟨rfl, rfl⟩ := zP h
  rw [zeq]; (try dsimp only at *); omega
 | n + 1 => by
  intro bs x r h
  rw [ja] at h
  obtain ⟨y, r1, h1, h2⟩ := ze h
  obtain ⟨ys, r2, h3, h4⟩ := ze h2
  obtain ⟨rfl, rfl⟩ := zP h4
  have := hp _ _ _ h1
  have := zh5 hp n _ _ _ h3
  rw [jY]; (try dsimp only at *); omega
theorem j3 (hp : Wt p g) : Wt (pVec p) fun l => 64 + gL g l := by
 intro bs x r h
 obtain ⟨n, r1, h1, h2⟩ := ze h
 have := Jp _ _ _ h1
 have := zh5 hp _ _ _ _ h2
 show 64 + gL g x + _ ≤ _
 (try dsimp only at *); omega
variable {bs : List UInt8}
theorem YU {P : Prop} [Decidable P] {u : Unit} (h : pChk P bs = .ok u r) : bs = r := by
 unfold pChk at h
 split at h
 ·exact (zP h).2
 ·cases h
theorem ziP : Wt pVT fun _ => 64 := by
 intro bs x r h
 obtain ⟨c, r1, h1, h2⟩ := ze h
 obtain ⟨u, r2, h3, h4⟩ := ze h2
 obtain ⟨-, rfl⟩ := zP h4
 obtain rfl := YU h3
 exact Zk _ _ _ h1
theorem zcj (k : Nat) : ∀ l : List α, gL (fun _ => k) l = k * l.length
 | [] => rfl
 | x :: l => by rw [jY, zcj k l, List.length_cons, Nat.mul_succ]; (try dsimp only at *); omega
def gFT (t : FT) : Nat := 192 + 64 * t.ps.length + 64 * t.rs.length
theorem wt_ft : Wt pFT gFT := by
 intro bs x r h
 obtain ⟨c, r1, h1, h2⟩ := ze h
 obtain ⟨u, r2, h3, h4⟩ := ze h2
 obtain rfl := YU h3
 obtain ⟨ps, r3, h5, h6⟩ := ze h4
 obtain ⟨rs, r4, h7, h8⟩ := ze h6
 obtain ⟨rfl, rfl⟩ := zP h8
 have := Zk _ _ _ h1
 have := j3 ziP _ _ _ h5
 have := j3 ziP _ _ _ h7
 simp only [zcj] at *
 unfold gFT
 (try dsimp only at *); omega
theorem zgB : Wt pLim fun _ => 128 := by
 intro bs x r h
 obtain ⟨c, r1, h1, h2⟩ := ze h
 obtain ⟨m, r2, h3, h4⟩ := ze h2
 have := Zk _ _ _ h1
 have := Jp _ _ _ h3
 split at h4
 ·obtain ⟨y, r3, h5, h6⟩ := ze h4
  obtain ⟨-, rfl⟩ := zP h6
  have := Jp _ _ _ h5
  (try dsimp only at *); omega
 ·obtain ⟨u, r3, h5, h6⟩ := ze h4
  obtain ⟨-, rfl⟩ := zP h6
  obtain rfl := YU h5
  (try dsimp only at *); omega
theorem zh6 : Wt pTab fun _ => 128 := by
 intro bs x r h
 obtain ⟨c, r1, h1, h2⟩ := ze h
 obtain ⟨u, r2, h3, h4⟩ := ze h2
 obtain rfl := YU h3
 have := Zk _ _ _ h1
 have := zgB _ _ _ h4
 (try dsimp only at *); omega
def gImp (i : Imp) : Nat := 256 + 64 * i.mdl.length + 64 * i.name.length
theorem zjP : Wt pImp gImp := by
 intro bs x r h
 obtain ⟨md, r1, h1, h2⟩ := ze h
 obtain ⟨nm, r2, h3, h4⟩ := ze h2
 obtain ⟨c, r3, h5, h6⟩ := ze h4
 have := JB _ _ _ h1
 have := JB _ _ _ h3
 have := Zk _ _ _ h5
 unfold zeC at h6
 unfold gImp
 split at h6
 ·obtain ⟨y, r4, h7, h8⟩ := ze h6
  obtain ⟨rfl, rfl⟩ := zP h8
  have := Jp _ _ _ h7
  dsimp only
  (try dsimp only at *); omega
 split at h6
 ·obtain ⟨y, r4, h7, h8⟩ := ze h6
  obtain ⟨rfl, rfl⟩ := zP h8
  have := zh6 _ _ _ h7
  dsimp only
  (try dsimp only at *); omega
 split at h6
 ·obtain ⟨y, r4, h7, h8⟩ := ze h6
  obtain ⟨rfl, rfl⟩ := zP h8
  have := zgB _ _ _ h7
  dsimp only
  (try dsimp only at *); omega
 split at h6 <;> cases h6
def OneC (l : List Ins) : Prop := ∃ op a, l = [.mk op [a] false (-1) []] ∧ (op = 65 ∨ op = 66)
theorem zjQ {l : List (Int × UInt64)} (h : pA32 bs = .ok l r) : 64 + 64 * r.length ≤ 64 * bs.length ∧ ∃ a, l = [a] := by
 unfold pA32 at h
 split at h
 ·obtain ⟨rfl, rfl⟩ := zP h
  have := JM _ _ _ _ _ ‹_›
  exact ⟨by (try dsimp only at *); omega, _, rfl⟩
 ·cases h
theorem zjR {l : List (Int × UInt64)} (h : pA64 bs = .ok l r) : 64 + 64 * r.length ≤ 64 * bs.length ∧ ∃ a, l = [a] := by
 unfold pA64 at h
 split at h
 ·obtain ⟨rfl, rfl⟩ := zP h
  have := JM _ _ _ _ _ ‹_›
  exact ⟨by (try dsimp only at *); omega, _, rfl⟩
 ·cases h
theorem zh7 : Wt pEnd fun _ => 64 := by
 intro bs x r h
 obtain ⟨c, r1, h1, h2⟩ := ze h
 split at h2
 ·obtain ⟨-, rfl⟩ := zP h2
  exact Zk _ _ _ h1
 ·cases h2
variable {l : List Ins}
theorem ZW (h : jb bs = .ok l r) : 192 + 64 * r.length ≤ 64 * bs.length ∧ OneC l := by
 obtain ⟨c, r1, h1, h2⟩ := ze h
 have := Zk _ _ _ h1
 split at h2
 ·obtain ⟨a, r2, h3, h4⟩ := ze h2
  obtain ⟨u, r3, h5, h6⟩ := ze h4
  obtain ⟨rfl, rfl⟩ := zP h6
  obtain ⟨h7, b, rfl⟩ := zjQ h3
  have := zh7 _ _ _ h5
  exact ⟨by (try dsimp only at *); omega, 65, b, rfl, .inl rfl⟩
 split at h2
 ·obtain ⟨a, r2, h3, h4⟩ := ze h2
  obtain ⟨u, r3, h5, h6⟩ := ze h4
  obtain ⟨rfl, rfl⟩ := zP h6
  obtain ⟨h7, b, rfl⟩ := zjR h3
  have := zh7 _ _ _ h5
  exact ⟨by (try dsimp only at *); omega, 66, b, rfl, .inr rfl⟩
 ·cases h2
theorem ziQ : Wt Zr (fun _ => 320) := by
 intro bs x r h
 obtain ⟨t, r1, h1, h2⟩ := ze h
 obtain ⟨b, r2, h3, h4⟩ := ze h2
 obtain ⟨l, r3, h5, h6⟩ := ze h4
 obtain ⟨-, rfl⟩ := zP h6
 have := ziP _ _ _ h1
 have := (ZW h5).1
 obtain ⟨c, r4, h7, h8⟩ := ze h3
 obtain ⟨u, r5, h9, pD⟩ := ze h8
 obtain rfl := YU h9
 obtain ⟨-, rfl⟩ := zP pD
 have := Zk _ _ _ h7
 (try dsimp only at *); omega
def za6 (e : Expo) : Nat := 192 + 64 * e.name.length
theorem ziR : Wt JR za6 := by
 intro bs x r h
 obtain ⟨t, r1, h1, h2⟩ := ze h
 obtain ⟨b, r2, h3, h4⟩ := ze h2
 obtain ⟨u, r3, h5, h6⟩ := ze h4
 obtain rfl := YU h5
 obtain ⟨l, r3, h7, h8⟩ := ze h6
 obtain ⟨rfl, rfl⟩ := zP h8
 have := JB _ _ _ h1
 have := Zk _ _ _ h3
 have := Jp _ _ _ h7
 unfold za6
 (try dsimp only at *); omega
def za7 (e : Elem) : Nat := 320 + 64 * e.ids.length
theorem ziS : Wt ZZ za7 := by
 intro bs x r h
 obtain ⟨t, r1, h1, h2⟩ := ze h
 obtain ⟨b, r2, h3, h4⟩ := ze h2
 obtain ⟨l, r3, h5, h6⟩ := ze h4
 obtain ⟨rfl, rfl⟩ := zP h6
 have := Jp _ _ _ h1
 have := (ZW h3).1
 have := j3 Jp _ _ _ h5
 simp only [zcj] at *
 unfold za7
 (try dsimp only at *); omega
def gDat (e : Dat) : Nat := 320 + 64 * e.init.length
theorem zjS : Wt pDat gDat := by
 intro bs x r h
 obtain ⟨t, r1, h1, h2⟩ := ze h
 obtain ⟨b, r2, h3, h4⟩ := ze h2
 obtain ⟨l, r3, h5, h6⟩ := ze h4
 obtain ⟨rfl, rfl⟩ := zP h6
 have := Jp _ _ _ h1
 have := (ZW h3).1
 have := JB _ _ _ h5
 unfold gDat
 (try dsimp only at *); omega
def gNam (e : Nam) : Nat := 128 + 64 * e.name.length
theorem zh8 (f : UInt32) : Wt (pNam f) gNam := by
 intro bs x r h
 obtain ⟨t, r1, h1, h2⟩ := ze h
 obtain ⟨l, r3, h5, h6⟩ := ze h2
 obtain ⟨rfl, rfl⟩ := zP h6
 have := Jp _ _ _ h1
 have := JB _ _ _ h5
 unfold gNam
 (try dsimp only at *); omega
theorem zhw : Wt Jv fun l => 64 + gL gNam l := by
 intro bs x r h
 obtain ⟨t, r1, h1, h2⟩ := ze h
 have := Jp _ _ _ h1
 have := j3 (zh8 t) _ _ _ h2
 (try dsimp only at *); omega
theorem zbO (g : α → Nat) : ∀ ls : List (List α), gL g ls.flatten ≤ gL (fun l => 64 + gL g l) ls
 | [] => Nat.le_refl _
 | l :: ls => by rw [List.flatten_cons, J2, jY]; have := zbO g ls; (try dsimp only at *); omega
theorem ziT : Wt zaJ fun l => 64 + gL gNam l := by
 intro bs x r h
 obtain ⟨t, r1, h1, h2⟩ := ze h
 obtain ⟨rfl, rfl⟩ := zP h2
 have h3 := j3 zhw _ _ _ h1
 have := zbO gNam t
 (try dsimp only at *); omega
variable {P : α → Prop}
theorem zgC (hp : ∀ bs x r, p bs = .ok x r → P x) : ∀ (n : Nat) (bs : List UInt8) (l : List α) (r : List UInt8), pRep p n bs = .ok l r → ∀ x ∈ l, P x
 | 0, bs, l, r, h => by obtain ⟨rfl, rfl⟩ := zP h; intro x hx; cases hx
 | n + 1, bs, l, r, h => by
  rw [ja] at h
  obtain ⟨y, r1, h1, h2⟩ := ze h
  obtain ⟨ys, r2, h3, h4⟩ := ze h2
  obtain ⟨rfl, rfl⟩ := zP h4
  intro x hx
  rcases List.mem_cons.1 hx with rfl | hx
  ·exact hp _ _ _ h1
  ·exact zgC hp n _ _ _ h3 x hx
theorem zck (hp : ∀ bs x r, p bs = .ok x r → P x) {l : List α} (h : pVec p bs = .ok l r) : ∀ x ∈ l, P x := by
 obtain ⟨n, r1, h1, h2⟩ := ze h
 exact zgC hp _ _ _ _ h2
structure Nice (m : Mod) : Prop where
 globals : ∀ x ∈ m.globals, OneC x.init
 elements : ∀ x ∈ m.elements, OneC x.off
 datas : ∀ x ∈ m.datas, OneC x.off
 funcs : ∀ x ∈ m.funcs, x.fn = 0
 version : m.version = 0
def zbs (l : List UInt8) : Nat := 64 + 64 * l.length
def gCus (c : Cus) : Nat := 64 + 64 * c.name.length + 64 * c.data.length
def gMod (m : Mod) : Nat := gL gFT m.types + gL gImp m.imports + gL (fun _ => 64) m.functions + gL (fun _ => 128) m.tables + gL (fun _ => 128) m.memories + gL za7 m.elements + gL (fun _ => 320) m.globals + gL za6 m.exports + gL zbs m.codes + gL gDat m.datas + gL gCus m.customs + gL gNam m.funcs + gL gNam m.locals + 64 * m.named.length
theorem zcl (m : Mod) : gMod m = gL gFT m.types + gL gImp m.imports + gL (fun _ => 64) m.functions + gL (fun _ => 128) m.tables + gL (fun _ => 128) m.memories + gL za7 m.elements + gL (fun _ => 320) m.globals + gL za6 m.exports + gL zbs m.codes + gL gDat m.datas + gL gCus m.customs + gL gNam m.funcs + gL gNam m.locals + 64 * m.named.length := rfl
def WtM (p : Mod → List UInt8 → PR Mod) : Prop := ∀ m bs m' r, p m bs = .ok m' r → Nice m → Nice m' ∧ gMod m' + 64 * r.length ≤ gMod m + 64 * bs.length
theorem zhx (id : Nat) : WtM (Zs id) := by
 intro m bs m' r h hn
 unfold Zs at h
 split at h
 ·obtain ⟨x, r1, h1, h2⟩ := ze h
  obtain ⟨rfl, rfl⟩ := zP h2
  have := JB _ _ _ h1
  exact ⟨⟨hn.1, hn.2, hn.3, hn.4, hn.5⟩, by unfold gMod; (try dsimp only at *); omega⟩
 split at h
 ·obtain ⟨x, r1, h1, h2⟩ := ze h
  obtain ⟨rfl, rfl⟩ := zP h2
  have := j3 (zh8 0) _ _ _ h1
  refine ⟨⟨hn.globals, hn.elements, hn.datas, zck (fun bs y r hy => ?_) h1, hn.version⟩, by unfold gMod; (try dsimp only at *); omega⟩
  obtain ⟨t, r1, h1, h2⟩ := ze hy
  obtain ⟨l, r3, h5, h6⟩ := ze h2
  obtain ⟨rfl, rfl⟩ := zP h6
  rfl
 split at h
 ·obtain ⟨x, r1, h1, h2⟩ := ze h
  obtain ⟨rfl, rfl⟩ := zP h2
  have := ziT _ _ _ h1
  exact ⟨⟨hn.1, hn.2, hn.3, hn.4, hn.5⟩, by unfold gMod; (try dsimp only at *); rw [J2]; omega⟩
 ·cases h
theorem zda : ∀ f, WtM (Jg f)
 | 0 => by intro m bs m' r h; cases h
 | f + 1 => by
  intro m bs m' r h hn
  unfold Jg at h
  cases bs with
  | nil => obtain ⟨rfl, rfl⟩ := zP h; exact ⟨hn, Nat.le_refl _⟩
  | cons c t =>
   obtain ⟨n, r1, h1, h2⟩ := ze h
   obtain ⟨s, r2, h3, h4⟩ := ze h2
   obtain ⟨m1, r3, h5, h6⟩ := ze h4
   have := Jp _ _ _ h1
   obtain ⟨eG, h7⟩ := zhx c.toNat _ _ _ _ h5 hn
   obtain ⟨fy, h8⟩ := zda f _ _ _ _ h6 eG
   refine ⟨fy, ?_⟩
   unfold ZY at h3
   split at h3
   ·obtain ⟨rfl, rfl⟩ := zP h3
    rw [ltQ] at h7
    rw [ldQ] at h8
    rw [List.length_cons]
    (try dsimp only at *); omega
   ·cases h3
theorem ze3 : WtM YN := by
 intro m bs m' r h hn
 obtain ⟨n, r1, h1, h2⟩ := ze h
 have := JB _ _ _ h1
 split at h2
 ·obtain ⟨fy, h8⟩ := zda _ _ _ _ _ h2 hn
  exact ⟨fy, by omega⟩
 ·obtain ⟨rfl, rfl⟩ := zP h2
  refine ⟨⟨hn.1, hn.2, hn.3, hn.4, hn.5⟩, ?_⟩
  unfold gMod
  dsimp only
  rw [J2, jY, zeq]
  unfold gCus
  dsimp only [List.length_nil]
  (try dsimp only at *); omega
theorem zhy {id : Nat} (h : 11 < id) (m : Mod) (bs : List UInt8) : zq id m bs = .any := by
 unfold zq
 rw [if_neg (by omega), if_neg (by omega), if_neg (by omega), if_neg (by omega), if_neg (by omega), if_neg (by omega), if_neg (by omega), if_neg (by omega), if_neg (by omega), if_neg (by omega), if_neg (by omega), if_neg (by omega)]
theorem zdX (id : Nat) : WtM (zq id) := by
 intro m bs m' r h hn
 by_cases hb : 11 < id
 ·rw [zhy hb] at h; cases h
 obtain rfl | rfl | rfl | rfl | rfl | rfl | rfl | rfl | rfl | rfl | rfl | rfl : id = 0 ∨ id = 1 ∨ id = 2 ∨ id = 3 ∨ id = 4 ∨ id = 5 ∨ id = 6 ∨ id = 7 ∨ id = 8 ∨ id = 9 ∨ id = 10 ∨ id = 11 := by omega
 ·exact ze3 _ _ _ _ h hn
 ·rw [zhW] at h
  split at h
  ·rename_i hm
   obtain ⟨x, r1, h1, h2⟩ := ze h
   obtain ⟨rfl, rfl⟩ := zP h2
   have := j3 wt_ft _ _ _ h1
   exact ⟨⟨hn.1, hn.2, hn.3, hn.4, hn.5⟩, by unfold gMod; (try dsimp only at *); omega⟩
  ·cases h
 ·rw [zhX] at h
  split at h
  ·rename_i hm
   obtain ⟨x, r1, h1, h2⟩ := ze h
   obtain ⟨rfl, rfl⟩ := zP h2
   have := j3 zjP _ _ _ h1
   exact ⟨⟨hn.1, hn.2, hn.3, hn.4, hn.5⟩, by unfold gMod; (try dsimp only at *); omega⟩
  ·cases h
 ·rw [zhY] at h
  obtain ⟨x, r1, h1, h2⟩ := ze h
  obtain ⟨rfl, rfl⟩ := zP h2
  have := j3 Jp _ _ _ h1
  exact ⟨⟨hn.1, hn.2, hn.3, hn.4, hn.5⟩, by unfold gMod; (try dsimp only at *); omega⟩
 ·rw [zhZ] at h
  split at h
  ·rename_i hm
   obtain ⟨x, r1, h1, h2⟩ := ze h
   obtain ⟨rfl, rfl⟩ := zP h2
   have := j3 zh6 _ _ _ h1
   exact ⟨⟨hn.1, hn.2, hn.3, hn.4, hn.5⟩, by unfold gMod; (try dsimp only at *); omega⟩
  ·cases h
 ·rw [zh0] at h
  split at h
  ·rename_i hm
   obtain ⟨x, r1, h1, h2⟩ := ze h
   obtain ⟨rfl, rfl⟩ := zP h2
   have := j3 zgB _ _ _ h1
   exact ⟨⟨hn.1, hn.2, hn.3, hn.4, hn.5⟩, by unfold gMod; (try dsimp only at *); omega⟩
  ·cases h
 ·rw [zh1] at h
  split at h
  ·rename_i hm
   obtain ⟨x, r1, h1, h2⟩ := ze h
   obtain ⟨rfl, rfl⟩ := zP h2
   have := j3 ziQ _ _ _ h1
   refine ⟨⟨zck (fun bs y r hy => ?_) h1, hn.elements, hn.datas, hn.funcs, hn.version⟩, by unfold gMod; (try dsimp only at *); omega⟩
   obtain ⟨t, r1, h1, h2⟩ := ze hy
   obtain ⟨b, r2, h3, h4⟩ := ze h2
   obtain ⟨l, r3, h5, h6⟩ := ze h4
   obtain ⟨rfl, rfl⟩ := zP h6
   exact (ZW h5).2
  ·cases h
 ·rw [zh2] at h
  split at h
  ·rename_i hm
   obtain ⟨x, r1, h1, h2⟩ := ze h
   obtain ⟨rfl, rfl⟩ := zP h2
   have := j3 ziR _ _ _ h1
   exact ⟨⟨hn.1, hn.2, hn.3, hn.4, hn.5⟩, by unfold gMod; (try dsimp only at *); omega⟩
  ·cases h
 ·rw [zh3] at h
  obtain ⟨x, r1, h1, h2⟩ := ze h
  obtain ⟨rfl, rfl⟩ := zP h2
  have := Jp _ _ _ h1
  exact ⟨⟨hn.1, hn.2, hn.3, hn.4, hn.5⟩, by unfold gMod; (try dsimp only at *); omega⟩
 ·rw [zh4] at h
  split at h
  ·rename_i hm
   obtain ⟨x, r1, h1, h2⟩ := ze h
   obtain ⟨rfl, rfl⟩ := zP h2
   have := j3 ziS _ _ _ h1
   refine ⟨⟨hn.globals, zck (fun bs y r hy => ?_) h1, hn.datas, hn.funcs, hn.version⟩, by unfold gMod; (try dsimp only at *); omega⟩
   obtain ⟨t, r1, h1, h2⟩ := ze hy
   obtain ⟨b, r2, h3, h4⟩ := ze h2
   obtain ⟨l, r3, h5, h6⟩ := ze h4
   obtain ⟨rfl, rfl⟩ := zP h6
   exact (ZW h3).2
  ·cases h
 ·rw [zgw] at h
  split at h
  ·rename_i hm
   obtain ⟨x, r1, h1, h2⟩ := ze h
   obtain ⟨rfl, rfl⟩ := zP h2
   have := j3 JB _ _ _ h1
   refine ⟨⟨hn.1, hn.2, hn.3, hn.4, hn.5⟩, ?_⟩
   have he : gL zbs x = gL (fun l => 64 + 64 * l.length) x := rfl
   unfold gMod; dsimp only at *; (try dsimp only at *); omega
  ·cases h
 ·rw [zgx] at h
  split at h
  ·rename_i hm
   obtain ⟨x, r1, h1, h2⟩ := ze h
   obtain ⟨rfl, rfl⟩ := zP h2
   have := j3 zjS _ _ _ h1
   refine ⟨⟨hn.globals, hn.elements, zck (fun bs y r hy => ?_) h1, hn.funcs, hn.version⟩, by unfold gMod; (try dsimp only at *); omega⟩
   obtain ⟨t, r1, h1, h2⟩ := ze hy
   obtain ⟨b, r2, h3, h4⟩ := ze h2
   obtain ⟨l, r3, h5, h6⟩ := ze h4
   obtain ⟨rfl, rfl⟩ := zP h6
   exact (ZW h3).2
  ·cases h
theorem zac : ∀ f, WtM (yf f)
 | 0 => by intro m bs m' r h; cases h
 | f + 1 => by
  intro m bs m' r h hn
  unfold yf at h
  cases bs with
  | nil => obtain ⟨rfl, rfl⟩ := zP h; exact ⟨hn, Nat.le_refl _⟩
  | cons c t =>
   obtain ⟨n, r1, h1, h2⟩ := ze h
   have := Jp _ _ _ h1
   split at h2
   ·obtain ⟨m1, r3, h5, h6⟩ := ze h2
    obtain ⟨eG, h7⟩ := zdX c.toNat _ _ _ _ h5 hn
    obtain ⟨fy, h8⟩ := zac f _ _ _ _ h6 eG
    refine ⟨fy, ?_⟩
    rw [ltQ] at h7
    rw [ldQ] at h8
    rw [List.length_cons]
    (try dsimp only at *); omega
   ·split at h2 <;> cases h2
variable {m : Mod}
theorem zdb {b : List UInt8} (h : yA b = .ok m r) : Nice m ∧ gMod m ≤ 64 * b.length := by
 unfold yA at h
 split at h
 ·obtain ⟨hn, h1⟩ := zac _ _ _ _ _ h ⟨(fun _ h => nomatch h), (fun _ h => nomatch h), (fun _ h => nomatch h), (fun _ h => nomatch h), rfl⟩
  have h0 : gMod Mod.none = 0 := rfl
  rw [ldQ, h0] at h1
  exact ⟨hn, by omega⟩
 ·cases h
theorem ul (n : Nat) (h : n ≤ 4611686018427387904) : (uleb n).length ≤ 10 := jG n (by omega)
theorem ul32 (n : UInt32) : (uleb n.toNat).length ≤ 10 := ul _ (by have := n.toNat_lt; omega)
theorem ulI (n : Int) : (Jr n).length ≤ 10 := zc4 n
theorem YB (b : Bool) : (jU b).length ≤ 10 := by unfold jU; exact ul _ (by split <;> omega)
theorem zbt (l : List UInt8) (h : l.length ≤ 4611686018427387904) : (zz l).length ≤ 10 + l.length := by
 unfold zz; have := ul _ h; rw [laQ]; omega
theorem kOne (h : OneC l) : (Yy l).length ≤ 80 := by
 obtain ⟨op, a, rfl, -⟩ := h
 have h1 : Yy [.mk op [a] false (-1) []] = uleb 1 ++ ((Jr op ++ (uleb 1 ++ ((Jr a.1 ++ uleb a.2.toNat) ++ [] ++ uleb 0))) ++ []) := rfl
 have h2 := ul 1 (by omega)
 have h3 := ul 0 (by omega)
 have h4 := ulI op
 have h5 := ulI a.1
 have h6 := jG a.2.toNat a.2.toNat_lt
 generalize uleb 1 = u1 at *
 generalize uleb 0 = u0 at *
 generalize Jr op = u2 at *
 generalize Jr a.1 = u3 at *
 generalize uleb a.2.toNat = u4 at *
 rw [h1]
 simp only [laQ, List.length_nil]
 omega
theorem zjT (l : List Int) (h : l.length ≤ 1152921504606846976) : (Zh l).length ≤ 10 * l.length + 10 := Zi l (by omega)
theorem kFT (t : FT) (h : gFT t ≤ 1152921504606846976) : (Zz t).length ≤ gFT t := by
 unfold gFT at *
 have h1 := zjT t.ps (by omega)
 have h2 := zjT t.rs (by omega)
 have h3 : (Yd (t.ps, t.rs)).length = (Zh t.ps).length + (Zh t.rs).length := by unfold Yd; rw [laQ]
 have := zbt (Yd (t.ps, t.rs)) (by omega)
 unfold Zz
 omega
theorem kLim (l : Lim) : (jo l).length ≤ 30 := by
 unfold jo
 have := ul32 l.min
 have := ul32 l.max
 have := YB l.bounded
 simp only [laQ]
 split
 ·omega
 ·simp only [List.length_nil]; omega
theorem zjU (l : Lim) : (jj [l]).length ≤ 40 := by
 unfold jj
 have := kLim l
 have := ul 1 (by omega)
 simp only [laQ, List.flatMap_cons, List.flatMap_nil, List.length_nil]
 have h1 : [l].length = 1 := rfl
 rw [h1]
 omega
theorem kImp (i : Imp) (h : gImp i ≤ 1152921504606846976) : (jd i).length ≤ gImp i := by
 unfold gImp at *
 have := zbt i.mdl (by omega)
 have := zbt i.name (by omega)
 have := ulI i.kind
 have := ul32 i.index
 have := zjU i.lim
 have := ulI i.ty
 have := YB i.mtb
 unfold jd
 simp only [laQ]
 omega
theorem kNum (n : UInt32) : (Jz n).length ≤ 10 := ul32 n
theorem zjV : ∀ l : List UInt32, (l.flatMap Jz).length ≤ 10 * l.length
 | [] => Nat.le_refl _
 | x :: l => by have := kNum x; have := zjV l; rw [List.flatMap_cons, laQ, List.length_cons]; omega
theorem kIdx (l : List UInt32) (h : l.length ≤ 1152921504606846976) : (Zy l).length ≤ 10 + 10 * l.length := by
 unfold Zy
 have := ul l.length (by omega)
 have := zjV l
 rw [laQ]
 omega
theorem kElem (e : Elem) (h1 : OneC e.off) (h : za7 e ≤ 1152921504606846976) : (yG e).length ≤ za7 e := by
 unfold za7 at *
 have := kOne h1
 have := ul32 e.index
 have := kIdx e.ids (by omega)
 unfold yG
 simp only [laQ]
 omega
theorem kGlob (e : Glob) (h1 : OneC e.init) : (yH e).length ≤ 320 := by
 have := kOne h1
 have := ulI e.ty
 have := YB e.mtb
 unfold yH
 simp only [laQ]
 omega
theorem kExpo (e : Expo) (h : za6 e ≤ 1152921504606846976) : (yU e).length ≤ za6 e := by
 unfold za6 at *
 have := zbt e.name (by omega)
 have := ulI e.kind
 have := ul32 e.index
 unfold yU
 simp only [laQ]
 omega
theorem kDat (e : Dat) (h1 : OneC e.off) (h : gDat e ≤ 1152921504606846976) : (jp e).length ≤ gDat e := by
 unfold gDat at *
 have := kOne h1
 have := ul32 e.index
 have := zbt e.init (by omega)
 unfold jp
 simp only [laQ]
 omega
theorem kCus (e : Cus) (h : gCus e ≤ 1152921504606846976) : (j2 e).length ≤ gCus e := by
 unfold gCus at *
 have := zbt e.name (by omega)
 have := zbt e.data (by omega)
 unfold j2
 simp only [laQ]
 omega
theorem kNam (e : Nam) (h : gNam e ≤ 1152921504606846976) : (jA e).length ≤ gNam e := by
 unfold gNam at *
 have := zbt e.name (by omega)
 have := ul32 e.fn
 have := ul32 e.idx
 unfold jA
 simp only [laQ]
 omega
theorem kCode (e : List UInt8) (h : zbs e ≤ 1152921504606846976) : (zz e).length ≤ zbs e := by
 unfold zbs at *
 have := zbt e (by omega)
 omega
theorem zaq (h : ∀ x, P x → g x ≤ B → (f x).length ≤ g x) : ∀ l : List α, (∀ x ∈ l, P x) → gL g l ≤ B → (l.flatMap f).length ≤ gL g l
 | [], _, _ => Nat.le_refl _
 | x :: l, hP, hB => by
  rw [jY] at hB ⊢
  have := h x (hP x (.head _)) (by omega)
  have := zaq h l (fun y hy => hP y (.tail _ hy)) (by omega)
  rw [List.flatMap_cons, laQ]
  omega
theorem B9 (g : Nam → Nat) (l : List Nam) (x : Nam) : gL g (insN l x) = g x + gL g l := by
 unfold insN
 rw [J2, jY]
 have h := J2 g (l.take (Yz l x.fn l.length)) (l.drop (Yz l x.fn l.length))
 rw [List.take_append_drop] at h
 omega
theorem zhz (g : Nam → Nat) (l : List Nam) : gL g (Zj l) = gL g l := by
 have key : ∀ (l bf : List Nam), gL g (l.foldl insN bf) = gL g bf + gL g l := by
  intro l
  induction l with
  | nil => intro bf; rfl
  | cons x xs ih => intro bf; rw [List.foldl_cons, ih, B9, jY]; omega
 have := key l []
 rw [zeq] at this
 unfold Zj
 omega
theorem kRow {l : List α} (fk : ∀ x, 64 ≤ g x) (h1 : (l.flatMap f).length ≤ gL g l) (hB : gL g l ≤ 1152921504606846976) : (uleb l.length ++ l.flatMap f).length ≤ 10 + gL g l := by
 have := JA fk l
 have := ul l.length (by omega)
 rw [laQ]
 omega
theorem zer (hn : Nice m) (h : gMod m ≤ 1152921504606846976) : (yI m).length ≤ gMod m + 200 := by
 have e := zcl m
 have a0 := YB m.hasStart
 have b0 := ul32 m.start
 have a1 := kRow (f := Zz) (l := m.types) (g := gFT) (fun x => by unfold gFT; omega) (Jo kFT _ (by omega)) (by omega)
 have a2 := kRow (f := jd) (l := m.imports) (g := gImp) (fun x => by unfold gImp; omega) (Jo kImp _ (by omega)) (by omega)
 have a3 := kRow (f := Jz) (l := m.functions) (g := fun _ => 64) (fun x => Nat.le_refl _) (Jo (B := 1152921504606846976) (fun x _ => by have := kNum x; omega) _ (by omega)) (by omega)
 have a4 := kRow (f := jo) (l := m.tables) (g := fun _ => 128) (fun x => by omega) (Jo (B := 1152921504606846976) (fun x _ => by have := kLim x; omega) _ (by omega)) (by omega)
 have a5 := kRow (f := jo) (l := m.memories) (g := fun _ => 128) (fun x => by omega) (Jo (B := 1152921504606846976) (fun x _ => by have := kLim x; omega) _ (by omega)) (by omega)
 have a6 := kRow (f := yG) (l := m.elements) (g := za7) (fun x => by unfold za7; omega) (zaq kElem _ hn.elements (by omega)) (by omega)
 have a7 := kRow (f := yH) (l := m.globals) (g := fun _ => 320) (fun x => by omega) (zaq (B := 1152921504606846976) (fun x h _ => kGlob x h) _ hn.globals (by omega)) (by omega)
 have a8 := kRow (f := yU) (l := m.exports) (g := za6) (fun x => by unfold za6; omega) (Jo kExpo _ (by omega)) (by omega)
 have a9 := kRow (f := zz) (l := m.codes) (g := zbs) (fun x => by unfold zbs; omega) (Jo kCode _ (by omega)) (by omega)
 have C0 := kRow (f := jp) (l := m.datas) (g := gDat) (fun x => by unfold gDat; omega) (zaq kDat _ hn.datas (by omega)) (by omega)
 have CI := kRow (f := j2) (l := m.customs) (g := gCus) (fun x => by unfold gCus; omega) (Jo kCus _ (by omega)) (by omega)
 have DO := zbt m.named (by omega)
 have Bg := kRow (f := jA) (l := m.funcs) (g := gNam) (fun x => by unfold gNam; omega) (Jo kNam _ (by omega)) (by omega)
 have es := zhz gNam m.locals
 have BC := kRow (f := jA) (l := Zj m.locals) (g := gNam) (fun x => by unfold gNam; omega) (Jo kNam _ (by omega)) (by omega)
 have aS : (jP m).length ≤ 20 := by
  unfold jP
  rw [laQ]
  split
  ·omega
  ·rw [List.length_nil]; omega
 unfold yI Zy jj jK
 simp only [laQ] at *
 omega
theorem zdY (h : OneC l) : l.length ≤ 1048576 ∧ fitA l := by
 obtain ⟨op, a, rfl, -⟩ := h
 exact ⟨by simp, ⟨⟨by simp, by simp, trivial⟩, trivial⟩⟩
theorem zes (hn : Nice m) (h : gMod m ≤ 4294967296) : ModFit m := by
 have e := zcl m
 have a1 := JA (l := m.types) (g := gFT) (fun x => by unfold gFT; omega)
 have a2 := JA (l := m.imports) (g := gImp) (fun x => by unfold gImp; omega)
 have a4 := JA (l := m.tables) (g := fun _ => 128) (fun x => by omega)
 have a5 := JA (l := m.memories) (g := fun _ => 128) (fun x => by omega)
 have a6 := JA (l := m.elements) (g := za7) (fun x => by unfold za7; omega)
 have a7 := JA (l := m.globals) (g := fun _ => 320) (fun x => by omega)
 have a8 := JA (l := m.exports) (g := za6) (fun x => by unfold za6; omega)
 have C0 := JA (l := m.datas) (g := gDat) (fun x => by unfold gDat; omega)
 have CI := JA (l := m.customs) (g := gCus) (fun x => by unfold gCus; omega)
 have Bg := JA (l := m.funcs) (g := gNam) (fun x => by unfold gNam; omega)
 have BC := JA (l := m.locals) (g := gNam) (fun x => by unfold gNam; omega)
 exact ⟨fun x hx => zdY (hn.elements x hx), fun x hx => zdY (hn.globals x hx), fun x hx => zdY (hn.datas x hx), by omega, by omega, by omega, by omega, by omega, by omega, by omega, by omega, by omega, by omega, by omega⟩
theorem ze4 (h : gMod m ≤ 4294967296) : m.codes.length ≤ 4294967296 := by
 have e := zcl m
 have a9 := JA (l := m.codes) (g := zbs) (fun x => by unfold zbs; omega)
 omega
theorem Fr.c {w w' : World} {p : Addr} {v : Value} (h : Ext w w') (e : w.cell? p = some v) : w'.cell? p = some v := h.cell e (fun q => q)
structure CS (w : World) (A X : Nat → Prop) (gm gr g : Nat) (MC Z OC : Array Value) (Tm T : TypeId) (n : Nat) (W : World) (m : Mod) (v : ModV) : Prop where
 bm : Blk W gm MC Tm
 br : Blk W gr Z T
 bg : Blk W g OC T
 md : ModAt n (fun k => ¬ (k = g ∨ k = gr ∨ X k) ∧ k < W.heap.size) W m v
 x : Ext w W
 lo : w.heap.size ≤ gr ∧ gr < g ∧ gm ≠ g
 hA : ∀ k, A k → k < w.heap.size
 hX : ∀ k, X k → k < w.heap.size ∧ ¬ A k
abbrev CV {α : Type} (l : Lay α) (e : TypeId) (g gr : Nat) (X : Nat → Prop) (W0 : World) (OC : Array Value) (T : TypeId) (W : World) (va : Value) (xs : List α) : Prop :=
 Blk W g OC T ∧ OwnG l e W0.heap.size (fun k => k = g ∨ k = gr ∨ X k) W va xs ∧ Fr (fun k => k = g) W0 W
section
variable {w : World} {A X : Nat → Prop} {gm gr g : Nat} {MC Z OC l7 : Array Value} {Tm T : TypeId} {n : Nat} {W W' W0 W1 : World} {m m1 : Mod} {v v1 : ModV} {α : Type} {l : Lay α} {e : TypeId} {va : Value} {xs rg : List α} {Y : Nat → Prop}
theorem CS.rd (h : CS w A X gm gr g MC Z OC Tm T n W0 m v) {β : Type} {k : Lay β} {cs : List Value} {y : β} (hx : Ext w W) (r : k.rd A w cs y) : k.rd A W cs y := Lay.fr r hx (fun j hj => ⟨h.hA j hj, fun q => q⟩)
theorem CS.lt (h : CS w A X gm gr g MC Z OC Tm T n W0 m v) (hx : Ext w W) : ∀ k, A k → k < W.heap.size := fun k hk => nqQ (h.hA k hk) hx.size
theorem CS.ext (h : CS w A X gm gr g MC Z OC Tm T n W0 m v) (hf : Fr (fun k => k = g) W0 W) : Ext w W := Fr.new (Ext.fr h.x hf) (fun k q => by have q' : k = g := q; have := h.lo; omega)
theorem CS.old (h : CS w A X gm gr g MC Z OC Tm T n W0 m v) (hO : OwnG l e W0.heap.size Y W1 va xs) (hx : Ext w W) : ∀ k, A k → ¬ (k = g ∨ k = gr ∨ X k) ∧ k < W.heap.size ∧ some k ≠ va.ownBlock := fun k hk => by
 have h1 := h.hA k hk
 have h2 := h.lo
 have h3 := h.x.size
 have h4 := hx.size
 refine ⟨fun q => ?_, by omega, fun q => by have := (hO.lt k q.symm).1; omega⟩
 rcases q with q | q | q
 ·omega
 ·omega
 ·exact (h.hX k q).2 hk
theorem CS.new (h : CS w A X gm gr g MC Z OC Tm T n W0 m v) (hO : OwnG l e W0.heap.size Y W1 va xs) (h0 : W0.heap.size ≤ W1.heap.size) (h1 : W1.heap.size ≤ W.heap.size) : ∀ k, W.heap.size ≤ k ∧ k < W'.heap.size → ¬ (k = g ∨ k = gr ∨ X k) ∧ k < W'.heap.size ∧ some k ≠ va.ownBlock := fun k hk => by
 have h2 := h.bg.lt
 have h3 := h.br.lt
 have h4 := h.x.size
 refine ⟨fun q => ?_, hk.2, fun q => by have := (hO.lt k q.symm).2; omega⟩
 rcases q with q | q | q
 ·omega
 ·omega
 ·have := (h.hX k q).1; omega
theorem CS.next (h : CS w A X gm gr g MC Z OC Tm T n W0 m v) (hV : CV l e g gr X W0 l7 T W va xs) (iO : ∀ (B : Nat → Prop) (W : World), ModAt n B W m v → l.slice.rd B W [va] xs → ModAt n B W m1 v1) : CS w A X gm gr g MC Z l7 Tm T n W m1 v1 := by
 have hs := hV.2.2.size
 have h2 := h.bg.lt
 have h3 := h.br.lt
 have h4 := h.x.size
 refine ⟨h.bm.fr hV.2.2 h.lo.2.2, h.br.fr hV.2.2 (fun q => by have q' : gr = g := q; have := h.lo; omega), hV.1, iO _ _ ((h.md.fr hV.2.2 (fun k hk => ⟨hk.2, fun q => hk.1 (.inl q)⟩)).mono (fun k hk => ⟨hk.1, nqQ hk.2 hs⟩)) (hV.2.1.slice (fun k hk q => ?_)), h.ext hV.2.2, h.lo, h.hA, h.hX⟩
 rcases q with q | q | q
 ·omega
 ·omega
 ·have := (h.hX k q).1; omega
theorem CS.step (h : CS w A X gm gr g MC Z OC Tm T n W0 m v) {W1 W2 : World} {v1 : Value} (hV : CV l e g gr X W0 l7 T W va xs) (hx : Ext W W1) (f : Nat) (h1 : OwnG l e W0.heap.size (fun k => k = g ∨ k = gr ∨ X k) W2 v1 rg) (h2 : Fr (fun k => some k = va.ownBlock) W1 W2) :
 Blk W2 g l7 T ∧ CV l e g gr X W0 (l7.setIfInBounds f v1) T (W2.setCell ⟨g, f, none⟩ v1) v1 rg :=
 zgZ (f := f) (hV.1.ext hx) (hV.2.1.ext hx) (hV.2.2.ext hx) (.inl rfl) h.bg.lt rfl h1 h2
section
variable {P : Program} {aw : Array Oper} {rest : List Oper} {o : Oper} {a : Act} {Q : Exit → Act → World → Prop} {K : Act → World → Prop}
theorem CS.app (h : CS w A X gm gr g MC Z OC Tm T n W0 m v) (hV : CV l e g gr X W0 l7 T W va xs) (hx : Ext W W1) (k : Nat) (hn : W1.heap.size = k) (s x : Operand) (t : TypeId) (z : Value) (bytes : Nat)
 (ho : o.op = .call { callee := .builtin .append, args := #[s, x], argTypes := #[t, t] }) (ht : P.underlying t = some (.slice e)) (bR : (P.info? e).map (fun i => (i.zero, i.size, i.bytes)) = some (some z, l.size, bytes)) (hz : z.cells.size = l.size) (dS : 0 < bytes) (fc : 0 < l.size)
 (y : α) (cs : Array Value) (hs : a.eval s = va) (uZ : a.eval x = .slice (some ⟨k, 0, none⟩) 1 1) (HY : l.rd (fun k => ¬ (k = g ∨ k = gr ∨ X k) ∧ k < W1.heap.size ∧ some k ≠ va.ownBlock) W1 cs.toList y)
 (hl : (xs.length + 1) * bytes ≤ 140737488355328) (f : Nat) (xQ : rg = xs ++ [y])
 (hc : ∀ v1 v2 v3 w1, Blk w1 g l7 T → CV l e g gr X W0 (l7.setIfInBounds f (.slice v1 v2 v3)) T (w1.setCell ⟨g, f, none⟩ (.slice v1 v2 v3)) (.slice v1 v2 v3) rg → K (a.put o.dst (.slice v1 v2 v3)) w1) : o.wp P a (W1.alloc (.cells cs e)) K Q := by
 refine zah l W0.heap.size k hn s x t e z bytes ho ht bR hz dS fc va xs y cs hs uZ (hV.2.1.ext hx) HY (nlQ hV.2.2.size hx.size) hl ?_
 intro u w1 h1 h2 _
 obtain ⟨u1, u2, u3, rfl⟩ := h1.shape
 obtain ⟨h3, h4⟩ := h.step hV hx f h1 h2
 rw [← xQ] at h4
 exact hc _ _ _ _ h3 h4
theorem CS.appL (h : CS w A X gm gr g MC Z OC Tm T n W0 m v) (hV : CV l e g gr X W0 l7 T W va xs) (hx : Ext W W1) (k : Nat) (hn : W1.heap.size = k) (iI : o.guard = none) (s x : Operand) (t : TypeId) (z : Value) (bytes : Nat)
 (ho : o.op = .call { callee := .builtin .append, args := #[s, x], argTypes := #[t, t] }) (ht : P.underlying t = some (.slice e)) (bR : (P.info? e).map (fun i => (i.zero, i.size, i.bytes)) = some (some z, l.size, bytes)) (hz : z.cells.size = l.size) (dS : 0 < bytes) (fc : 0 < l.size)
 (y : α) (cs : Array Value) (hs : a.eval s = va) (uZ : a.eval x = .slice (some ⟨k, 0, none⟩) 1 1) (HY : l.rd (fun k => ¬ (k = g ∨ k = gr ∨ X k) ∧ k < W1.heap.size ∧ some k ≠ va.ownBlock) W1 cs.toList y)
 (hl : (xs.length + 1) * bytes ≤ 140737488355328) (f : Nat) (xQ : rg = xs ++ [y])
 (hc : ∀ v1 v2 v3 w1, Blk w1 g l7 T → CV l e g gr X W0 (l7.setIfInBounds f (.slice v1 v2 v3)) T (w1.setCell ⟨g, f, none⟩ (.slice v1 v2 v3)) (.slice v1 v2 v3) rg → wpList P aw Q rest (a.put o.dst (.slice v1 v2 v3)) w1) : wpList P aw Q (o :: rest) a (W1.alloc (.cells cs e)) :=
 wpList_plain iI fun _ hK => h.app hV hx k hn s x t z bytes ho ht bR hz dS fc y cs hs uZ HY hl f xQ fun v1 v2 v3 w1 h1 h2 => hK _ _ (hc v1 v2 v3 w1 h1 h2)
end
end
abbrev nsV : Value := .slice none 0 0
abbrev om (c0 : Value) (m : Mod) (v3 v4 v5 v6 v7 v8 v9 CB BH Br oq fA fB : Value) : Array Value := #[c0, .bool m.hasStart, .int .u32 (m.start.toNat : Int), v3, v4, v5, v6, v7, v8, v9, CB, BH, Br, oq, .string (zd m.named), fA, fB]
end Go.Proofs.YtejgninpjhcgnaaGreatDoor
