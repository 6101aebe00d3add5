/- Texts of this proof, one behind the other. -/
import Derived.Test.YtejgninpjhcgnaaGreatDoorPart7
namespace Go.Proofs.YtejgninpjhcgnaaGreatDoor
open Go.RowKit
set_option linter.unusedSimpArgs false
set_option linter.unusedVariables false
set_option maxRecDepth 100000
set_option maxHeartbeats 16000000
def zed (g : Nat) (lo : Bool) : Frm := ⟨fun w w' => w.cell? ⟨g, 2, none⟩ = some (.bool lo) → w'.cell? ⟨g, 2, none⟩ = some (.bool lo), fun _ h => h, fun _ _ _ h k q => k (h q)⟩
variable {D : Nat → Prop} {g : Nat} {lo : Bool} {s : St} {w : World}
theorem SpR.loose (h : SpR D g lo s w) : w.cell? ⟨g, 2, none⟩ = some (.bool lo) := by
 obtain ⟨aa, cap, hb, _⟩ := h
 exact hb.cell 2
theorem zbC (n : Nat) (s : St) : (zy n s).1.length ≤ s.b.length := by
 unfold zy
 split
 ·exact nzQ _
 ·rw [ltQ]; omega
theorem zS {α : Type} {l : Lay α} {B B' S : Nat → Prop} {W W' : World} {cs : List Value} {x : α} (h : l.rd B W cs x) (hf : Fr S W W') (hB : ∀ k, B k → k < W.heap.size ∧ ¬ S k) (Be : ∀ k, B k → B' k) : l.rd B' W' cs x := Lay.mono _ (Lay.fr h hf hB) Be
theorem SpR.new {ub : Bool} {b : List UInt8} {a : Option Addr} {m c : Nat} (h : SpR D g ub s w) (hr : Lay.u8.slice.rd D w [.slice a m c] b) : SpR D w.heap.size lo ⟨b, 0⟩ (w.alloc (.cells #[.slice a m c, .int .i64 0, .bool lo] 142)) := by
 obtain ⟨aa, cap, e, h1, h2, h3⟩ := id hr
 simp only [List.cons.injEq, Value.slice.injEq, and_true] at e
 obtain ⟨rfl, rfl, rfl⟩ := e
 refine ⟨_, _, zl _ _ _, Lay.frame _ hr (fun k hk => (za w _).block k (h.lt.2 k hk).1 (fun q => q)), fun k hk => ⟨by have := (h.lt.2 k hk).1; simp; omega, by have := (h.lt.2 k hk).1; omega⟩⟩
theorem zfO (lo : Bool) (f : Nat) (m : Mod) (last : Nat) (s : St) : zw lo (f + 1) m last s =
 if s.v = 0 ∧ s.b ≠ [] then
  (if (zy (zc (zi s).2).1 (zc (zi s).2).2).2.v ≠ 0 ∨ (zi s).1 < last ∨ 2 < (zi s).1 then (m, (zy (zc (zi s).2).1 (zc (zi s).2).2).2.fail 2)
   else zw lo f (jr lo (zi s).1 m ⟨(zy (zc (zi s).2).1 (zc (zi s).2).2).1, 0⟩).1 ((zi s).1 + 1)
    (if (jr lo (zi s).1 m ⟨(zy (zc (zi s).2).1 (zc (zi s).2).2).1, 0⟩).2.v ≠ 0 ∨ (jr lo (zi s).1 m ⟨(zy (zc (zi s).2).1 (zc (zi s).2).2).1, 0⟩).2.b ≠ [] then (zy (zc (zi s).2).1 (zc (zi s).2).2).2.fail 2 else (zy (zc (zi s).2).1 (zc (zi s).2).2).2))
 else (m, s) := rfl
theorem zaK (lo : Bool) (D A : Nat → Prop) (g gm : Nat) (s : St) (M : Mod) (w : World) (q0 q1 q2 q3 q4 q5 q6 q7 q8 q9 bN bk bl bp fA fB : Value) (h : SpR D g lo s w) (hB : Blk w gm #[q0, q1, q2, q3, q4, q5, q6, q7, q8, q9, bN, bk, bl, bp, .string (zd M.named), fA, fB] 37) (ag : ¬ gm = g) (dP : ∀ k, D k → ¬ k = gm) (hl : s.b.length ≤ 1048576)
 (hA : ∀ k, A k → k < w.heap.size ∧ ¬ k = g ∧ ¬ k = gm) (hf : Lay.nam.slice.rd A w [fA] M.funcs) (dw : Lay.nam.slice.rd A w [fB] M.locals) (hn : (zd M.named).size ≤ maxLen) :
 Calls Tryz.prog 92 #[.pointer (some ⟨g, 0, none⟩), .pointer (some ⟨gm, 0, none⟩)] w fun e w' => e = .returned (.tuple #[]) ∧ ∃ dX dY, Blk w' gm #[q0, q1, q2, q3, q4, q5, q6, q7, q8, q9, bN, bk, bl, bp, .string (zd (zw lo 4 M 0 s).1.named), dX, dY] 37 ∧ Lay.nam.slice.rd (fun k => (A k ∨ w.heap.size ≤ k) ∧ k < w'.heap.size) w' [dX] (zw lo 4 M 0 s).1.funcs ∧ Lay.nam.slice.rd (fun k => (A k ∨ w.heap.size ≤ k) ∧ k < w'.heap.size) w' [dY] (zw lo 4 M 0 s).1.locals ∧ (zd (zw lo 4 M 0 s).1.named).size ≤ maxLen ∧ SpR D g lo (zw lo 4 M 0 s).2 w' ∧ Fr (fun k => k = g ∨ k = gm) w w' := by
 have H := qh (anQ h.lt (anQ hl (anQ hB.lt (anQ ag (anQ dP hA)))))
 have HI : Hq (Blk w gm #[q0, q1, q2, q3, q4, q5, q6, q7, q8, q9, bN, bk, bl, bp, .string (zd M.named), fA, fB] 37 ∧ Lay.nam.slice.rd (fun k => (A k ∨ w.heap.size ≤ k) ∧ k < w.heap.size) w [fA] M.funcs ∧ Lay.nam.slice.rd (fun k => (A k ∨ w.heap.size ≤ k) ∧ k < w.heap.size) w [fB] M.locals ∧ (zd M.named).size ≤ maxLen ∧ SpR D g lo s w ∧ Fr (fun k => k = g ∨ k = gm) w w) := ⟨hB, Lay.mono _ hf (fun k hk => ⟨.inl hk, (hA k hk).1⟩), Lay.mono _ dw (fun k hk => ⟨.inl hk, (hA k hk).1⟩), hn, h, Fr.refl _ _⟩
 clear h hl hB ag dP hA hf dw hn
 go_enter Tryz.func92, Tryz.ntmps92
 go_wp2_with fail
 go_loopw [4] (fun s4 w' => ∃ (f last : Nat) (M' : Mod) (s' : St) (gh gw : Value), s4 = .int .i64 ((last : Int) - 1) ∧ last ≤ 3 ∧ 4 ≤ last + f ∧ Hq (zw lo 4 M 0 s = zw lo f M' last s' ∧ s'.b.length ≤ 1048576 ∧ Blk w' gm #[q0, q1, q2, q3, q4, q5, q6, q7, q8, q9, bN, bk, bl, bp, .string (zd M'.named), gh, gw] 37 ∧ Lay.nam.slice.rd (fun k => (A k ∨ w.heap.size ≤ k) ∧ k < w'.heap.size) w' [gh] M'.funcs ∧ Lay.nam.slice.rd (fun k => (A k ∨ w.heap.size ≤ k) ∧ k < w'.heap.size) w' [gw] M'.locals ∧ (zd M'.named).size ≤ maxLen ∧ SpR D g lo s' w' ∧ Fr (fun k => k = g ∨ k = gm) w w')) (fun s4 _ => (3 - intOf s4).toNat)
 case atStart => exact ⟨4, 0, M, s, fA, fB, rfl, by omega, by omega, rfl, H.o.2.1, HI.o⟩
 case round =>
  obtain ⟨f, last, M', s', gh, gw, rfl, BQ, CX, hV⟩ := hrel
  obtain ⟨f', rfl⟩ : ∃ f', f = f' + 1 := ⟨f - 1, by omega⟩
  have dD := qh (zfO lo f' M' last s')
  have kG : Hq (¬ (s'.v = 0 ∧ s'.b ≠ []) → zw lo 4 M 0 s = (M', s')) := fun h => by rw [hV.o.1, dD.o, if_neg h]
  obtain ⟨aa, cap, eH, fU, fT⟩ := hV.o.2.2.2.2.2.2.1
  have sL := eH.cell
  clear eH fU fT
  go_wp2_with fail
  refine (z8 hV.o.2.2.2.2.2.2.1).mono ?_
  rintro e w2 ⟨rfl, rfl⟩
  by_cases hv : s'.v = 0
  ·rw [decide_eq_true hv]
   by_cases hb : 0 < s'.b.length
   ·have dl : decide ((0 : Int) < (s'.b.length : Int)) = true := decide_eq_true (by omega)
    have uQ : decide (0 < s'.b.length) = true := decide_eq_true hb
    have dD := qh (dD.o.trans (if_pos ⟨hv, List.length_pos_iff.1 hb⟩))
    go_wp2_with fail
    clear sL
    refine (yh hV.o.2.2.2.2.2.2.1).mono ?_
    rintro e w3 ⟨rfl, k1, k2⟩
    have fM := y4 s'
    have de := qh (show (zi s').2.b.length ≤ 1048576 from nlQ (yc s') hV.o.2.1)
    generalize (zi s').1 = c at *
    generalize (zi s').2 = t0 at *
    have t9 : Hq (SpR D g lo t0 w3 ∧ Fr (fun k => k = g) w2 w3) := ⟨k1, k2⟩
    clear k1 k2
    go_wp2_with fail
    refine zj (zed g lo) [kT 0, kT 1, kT 4, kT 5, kT 6, kT 7, kR 2, kR 3, kT 8, kR 9, kT 10] (by kernel_rfl) (by kernel_rfl) ?_
    simp only [zx, gzQ, gsQ]
    have HC := qh (fun W' (h : (zed g lo).E w3.drew W') => h (t9.o.1.ext (zb _)).loose)
    have ph : Hq (SpR D g lo t0 w3.drew ∧ Fr (fun k => k = g) w2 w3.drew) := ⟨t9.o.1.ext (zb _), t9.o.2.ext (zb _)⟩
    clear t9
    generalize w3.drew = W0 at *
    repeat (apply item_take; rfl; rfl; rfl; rfl; exact fun _ _ _ _ h => h; (intro W e _ k; have q := HC.o W e; go_simp; exact k))
    apply zg; rfl; intro K hK; go_simp
    refine (zK D g lo t0 W0 ph.o.1 (by have := de.o; omega)).mono ?_
    rintro e W1 ⟨rfl, k1, k2⟩
    refine hK _ _ (fun _ => k1.loose) ?_
    have dH := zL t0
    have ct := qh (show (zc t0).2.b.length ≤ 1048576 from nlQ (zF t0) de.o)
    generalize (zc t0).1 = x at *
    generalize (zc t0).2 = t1 at *
    have wJ : Hq (SpR D g lo t1 W1 ∧ Fr (fun k => k = g) w2 W1) := ⟨k1, Fr.trans ph.o.2 k2 (fun _ _ h => h) (fun _ _ h => h)⟩
    clear k1 k2 ph hK K
    apply zg; rfl; intro K hK; go_simp
    refine (j9 x dH D g lo t1 W1 wJ.o.1 (by have := ct.o; omega)).mono ?_
    rintro e W2 ⟨ta, tm, tc, rfl, k0, k1, k2⟩
    refine hK _ _ (fun _ => k1.loose) ?_
    have iY := qh (show (zy x t1).2.b.length ≤ 1048576 from nlQ (yR x t1) ct.o)
    have bz := qh (show (zy x t1).1.length ≤ 1048576 from nlQ (zbC x t1) ct.o)
    generalize (zy x t1).1 = bs at *
    generalize (zy x t1).2 = t2 at *
    have pw : Hq (SpR D g lo t2 W2 ∧ Fr (fun k => k = g) w2 W2) := ⟨k1, Fr.trans wJ.o.2 k2 (fun _ _ h => h) (fun _ _ h => h)⟩
    have nl := qh k0
    clear k0 k1 k2 wJ hK K
    repeat (apply item_take; rfl; rfl; rfl; rfl; exact fun _ _ _ _ h => h; (intro _ _ _ k; go_simp; exact k))
    apply zg; rfl; intro K hK; go_simp
    refine hK _ _ (fun q => ((za _ _).cell q (fun h => h))) ?_
    clear hK K
    repeat (apply item_take; rfl; rfl; rfl; rfl; exact fun _ _ _ _ h => h; (intro _ _ _ k; go_simp; exact k))
    apply zm
    have HS : Hq (SpR D W2.heap.size lo ⟨bs, 0⟩ (W2.alloc (.cells #[.slice ta tm tc, .int .i64 0, .bool lo] 142)) ∧ SpR D g lo t2 (W2.alloc (.cells #[.slice ta tm tc, .int .i64 0, .bool lo] 142)) ∧ Fr (fun k => k = g) w2 (W2.alloc (.cells #[.slice ta tm tc, .int .i64 0, .bool lo] 142)) ∧ w2.heap.size ≤ W2.heap.size) :=
     ⟨pw.o.1.new nl.o, pw.o.1.ext (za _ _), pw.o.2.ext (za _ _), pw.o.2.size⟩
    obtain ⟨gs, fe⟩ := exQ (W2.heap.size)
    obtain ⟨W4, da⟩ := exQ (W2.alloc (.cells #[.slice ta tm tc, .int .i64 0, .bool lo] 142))
    rw [da, fe] at HS
    rw [da, fe]
    have ir := hV.o.2.2.1.lt
    have fR := qh (show ¬ gs = g ∧ ¬ gs = gm ∧ (∀ k, D k → ¬ k = gs) from ⟨by have := pw.o.1.lt.1; omega, by have := HS.o.2.2.2; omega, fun k hk => by have := (pw.o.1.lt.2 k hk).1; omega⟩)
    clear pw nl da fe HC ir
    go_wp2_with fail
    refine (z8 HS.o.2.1).mono ?_
    rintro e W5 ⟨rfl, rfl⟩
    have nz := hV.o.2.2.1.fr HS.o.2.2.1 H.o.2.2.2.1
    by_cases hq : t2.v ≠ 0 ∨ c < last ∨ 2 < c
    ·have dD := qh (show zw lo 4 M 0 s = (M', t2.fail 2) from by rw [hV.o.1, dD.o, if_pos hq])
     clear nz
     by_cases gY : t2.v = 0
     case' neg =>
      rw [decide_eq_false gY]
     case' pos =>
      rw [decide_eq_true gY]
      by_cases cw : c < last
      case' neg =>
       have d1 : decide ((c : Int) ≤ (last : Int) - 1) = false := decide_eq_false (by omega)
       have d2 : decide ((2 : Int) < (c : Int)) = true := decide_eq_true (by
        rcases hq with h | h | h
        ·exact absurd gY h
        ·exact absurd h cw
        ·omega)
      case' pos =>
       have d1 : decide ((c : Int) ≤ (last : Int) - 1) = true := decide_eq_true (by omega)
     all_goals
      go_wp2_with fail
      refine (zp D g lo t2 2 W5 HS.o.2.1).mono ?_
      rintro e W6 ⟨rfl, k1, k2⟩
      have qW : Fr (fun k => k = g ∨ k = gm) w2 W6 := Fr.trans HS.o.2.2.1 k2 (fun _ _ h => .inl h) (fun _ _ h => .inl h)
      have eh := qh (show ∃ dX dY, Blk W6 gm #[q0, q1, q2, q3, q4, q5, q6, q7, q8, q9, bN, bk, bl, bp, .string (zd (zw lo 4 M 0 s).1.named), dX, dY] 37 ∧ Lay.nam.slice.rd (fun k => (A k ∨ w.heap.size ≤ k) ∧ k < W6.heap.size) W6 [dX] (zw lo 4 M 0 s).1.funcs ∧ Lay.nam.slice.rd (fun k => (A k ∨ w.heap.size ≤ k) ∧ k < W6.heap.size) W6 [dY] (zw lo 4 M 0 s).1.locals ∧ (zd (zw lo 4 M 0 s).1.named).size ≤ maxLen ∧ SpR D g lo (zw lo 4 M 0 s).2 W6 ∧ Fr (fun k => k = g ∨ k = gm) w W6 from ⟨gh, gw, by
       rw [dD.o]
       have CF := (hV.o.2.2.1.fr HS.o.2.2.1 H.o.2.2.2.1).fr k2 H.o.2.2.2.1
       exact ⟨CF, zS hV.o.2.2.2.1 qW (fun k hk => ⟨hk.2, fun e => by
        rcases hk.1 with q | q
        ·rcases e with e | e
         ·exact (H.o.2.2.2.2.2 k q).2.1 e
         ·exact (H.o.2.2.2.2.2 k q).2.2 e
        ·have := H.o.1.1; have := H.o.2.2.1; rcases e with e | e <;> omega⟩) (fun k hk => ⟨hk.1, nqQ hk.2 qW.size⟩), zS hV.o.2.2.2.2.1 qW (fun k hk => ⟨hk.2, fun e => by
        rcases hk.1 with q | q
        ·rcases e with e | e
         ·exact (H.o.2.2.2.2.2 k q).2.1 e
         ·exact (H.o.2.2.2.2.2 k q).2.2 e
        ·have := H.o.1.1; have := H.o.2.2.1; rcases e with e | e <;> omega⟩) (fun k hk => ⟨hk.1, nqQ hk.2 qW.size⟩), hV.o.2.2.2.2.2.1, k1, Fr.trans hV.o.2.2.2.2.2.2.2 qW (fun _ _ h => h) (fun _ _ h => h)⟩⟩)
      clear k1 k2 qW hV HS
      go_wp2
      (try simp only [Exit.inBlock, Exit.then]); refine bodyPost_ret (results_none rfl _ _ _) rfl ?_
      exact ⟨rfl, eh.o⟩
    ·have dD := qh (show zw lo 4 M 0 s = zw lo f' (jr lo c M' ⟨bs, 0⟩).1 (c + 1) (if (jr lo c M' ⟨bs, 0⟩).2.v ≠ 0 ∨ (jr lo c M' ⟨bs, 0⟩).2.b ≠ [] then t2.fail 2 else t2) from by rw [hV.o.1, dD.o, if_neg hq])
     have gY : t2.v = 0 := Classical.byContradiction fun h => hq (.inl h)
     have cw : ¬ c < last := fun h => hq (.inr (.inl h))
     have bS : ¬ 2 < c := fun h => hq (.inr (.inr h))
     have d1 : decide ((c : Int) ≤ (last : Int) - 1) = false := decide_eq_false (by omega)
     have d2 : decide ((2 : Int) < (c : Int)) = false := decide_eq_false (by omega)
     rw [decide_eq_true gY]
     clear hq
     have cn := nz.cell
     have ng := nz.frz
     rcases (show c = 0 ∨ c = 1 ∨ c = 2 by omega) with rfl | rfl | rfl
     ·go_wp2_with fail
      refine (Ja HS.o.1 (by have := bz.o; exact nlQ this (by decide))).mono ?_
      rintro e W6 ⟨rfl, k1, k2⟩
      have lh : (zd (zr ⟨bs, 0⟩).1).size ≤ maxLen := yd (nlQ (Jc ⟨bs, 0⟩) (nlQ bz.o (by decide)))
      obtain ⟨pq, n8⟩ := exQ (zr ⟨bs, 0⟩)
      rw [n8] at k1 lh
      obtain ⟨px, p2⟩ := pq
      rw [n8]
      dsimp only at k1 lh ⊢
      have l5 := qh (show jr lo 0 M' ⟨bs, 0⟩ = ({ M' with named := px }, p2) from by show ({ M' with named := (zr ⟨bs, 0⟩).1 }, (zr ⟨bs, 0⟩).2) = _; rw [n8])
      have hK : Hq (SpR D gs lo p2 W6 ∧ Fr (fun k => k = gs) W5 W6 ∧ Blk W6 gm #[q0, q1, q2, q3, q4, q5, q6, q7, q8, q9, bN, bk, bl, bp, .string (zd M'.named), gh, gw] 37 ∧ (zd px).size ≤ maxLen) := ⟨k1, k2, nz.fr k2 (fun e => fR.o.2.1 e.symm), lh⟩
      clear k1 k2 nz cn ng
      have cn := hK.o.2.2.1.cell
      have ng := hK.o.2.2.1.frz
      go_wp2_with fail
      have fX := zf W6 ⟨gm, 14, none⟩ (.string (zd px))
      have HX : Hq (SpR D gs lo p2 (W6.setCell ⟨gm, 14, none⟩ (.string (zd px))) ∧ SpR D g lo t2 (W6.setCell ⟨gm, 14, none⟩ (.string (zd px))) ∧ Blk (W6.setCell ⟨gm, 14, none⟩ (.string (zd px))) gm #[q0, q1, q2, q3, q4, q5, q6, q7, q8, q9, bN, bk, bl, bp, .string (zd ({ M' with named := px }).named), gh, gw] 37 ∧ Fr (fun k => k = g ∨ k = gm) w2 (W6.setCell ⟨gm, 14, none⟩ (.string (zd px))) ∧ (zd px).size ≤ maxLen) := by
       refine ⟨hK.o.1.fr fX (fun e => fR.o.2.1 e) (fun k hk e => H.o.2.2.2.2.1 k hk e), (HS.o.2.1.fr hK.o.2.1 (fun e => fR.o.1 e.symm) (fun k hk e => fR.o.2.2 k hk e)).fr fX (fun e => H.o.2.2.2.1 e.symm) (fun k hk e => H.o.2.2.2.2.1 k hk e), ?_, ?_, ?_⟩
       ·have := hK.o.2.2.1.set 14 (.string (zd px))
        simpa using this
       ·exact (Fr.trans (Fr.trans HS.o.2.2.1 hK.o.2.1 (U := fun k => k = g ∨ k = gs) (fun _ _ h => .inl h) (fun _ _ h => .inr h)) fX (U := fun k => k = g ∨ k = gs ∨ k = gm) (fun _ _ h => h.elim .inl (fun h => .inr (.inl h))) (fun _ _ h => .inr (.inr h))).mono (fun k hk e => by
         rcases e with e | e | e
         ·exact .inl e
         ·have := HS.o.2.2.2; omega
         ·exact .inr e)
       ·exact hK.o.2.2.2
      clear fX cn ng hK
      generalize W6.setCell ⟨gm, 14, none⟩ (.string (zd px)) = W7 at *
      obtain ⟨AE, Au, oY, ml, mD⟩ := HX.o.1
      have lq := oY.cell
      clear oY ml mD
      refine (z8 HX.o.1).mono ?_
      rintro e W8 ⟨rfl, rfl⟩
      by_cases hp : p2.v = 0
      ·rw [decide_eq_true hp]
       by_cases cW : 0 < p2.b.length
       ·have dp : decide ((0 : Int) < (p2.b.length : Int)) = true := decide_eq_true (by omega)
        have tj : decide (0 < p2.b.length) = true := decide_eq_true cW
        go_wp2_with fail
        refine (zp D g lo t2 2 W8 HX.o.2.1).mono ?_
        rintro e W9 ⟨rfl, k1, k2⟩
        have eB : Fr (fun k => k = g ∨ k = gm) w2 W9 := Fr.trans HX.o.2.2.2.1 k2 (fun _ _ h => h) (fun _ _ h => .inl h)
        have iU := HX.o.2.2.1.fr k2 H.o.2.2.2.1
        have HN : Hq (zw lo 4 M 0 s = zw lo f' ({ M' with named := px }) 1 (t2.fail 2) ∧ ((t2.fail 2)).b.length ≤ 1048576 ∧ Blk W9 gm #[q0, q1, q2, q3, q4, q5, q6, q7, q8, q9, bN, bk, bl, bp, .string (zd ({ M' with named := px }).named), gh, gw] 37 ∧ Lay.nam.slice.rd (fun k => (A k ∨ w.heap.size ≤ k) ∧ k < W9.heap.size) W9 [gh] ({ M' with named := px }).funcs ∧ Lay.nam.slice.rd (fun k => (A k ∨ w.heap.size ≤ k) ∧ k < W9.heap.size) W9 [gw] ({ M' with named := px }).locals ∧ (zd ({ M' with named := px }).named).size ≤ maxLen ∧ SpR D g lo (t2.fail 2) W9 ∧ Fr (fun k => k = g ∨ k = gm) w W9) := ⟨by rw [dD.o, l5.o, if_pos (.inr (List.length_pos_iff.1 cW))], nzQ _, iU, zS hV.o.2.2.2.1 eB (fun k hk => ⟨hk.2, fun e => by
         rcases hk.1 with q | q
         ·rcases e with e | e
          ·exact (H.o.2.2.2.2.2 k q).2.1 e
          ·exact (H.o.2.2.2.2.2 k q).2.2 e
         ·have := H.o.1.1; have := H.o.2.2.1; rcases e with e | e <;> omega⟩) (fun k hk => ⟨hk.1, nqQ hk.2 eB.size⟩), zS hV.o.2.2.2.2.1 eB (fun k hk => ⟨hk.2, fun e => by
         rcases hk.1 with q | q
         ·rcases e with e | e
          ·exact (H.o.2.2.2.2.2 k q).2.1 e
          ·exact (H.o.2.2.2.2.2 k q).2.2 e
         ·have := H.o.1.1; have := H.o.2.2.1; rcases e with e | e <;> omega⟩) (fun k hk => ⟨hk.1, nqQ hk.2 eB.size⟩), HX.o.2.2.2.2, k1, Fr.trans hV.o.2.2.2.2.2.2.2 eB (fun _ _ h => h) (fun _ _ h => h)⟩
        clear k1 k2 eB iU hV HX HS
        go_wp2
        go_roundw
        case rel => exact ⟨f', 1, _, _, _, _, by go_num, by omega, by omega, HN.o⟩
        case measure => simp [intOf]; omega
       ·have dp : decide ((0 : Int) < (p2.b.length : Int)) = false := decide_eq_false (by omega)
        have tj : decide (0 < p2.b.length) = false := decide_eq_false cW
        have HN : Hq (zw lo 4 M 0 s = zw lo f' ({ M' with named := px }) 1 t2 ∧ (t2).b.length ≤ 1048576 ∧ Blk W8 gm #[q0, q1, q2, q3, q4, q5, q6, q7, q8, q9, bN, bk, bl, bp, .string (zd ({ M' with named := px }).named), gh, gw] 37 ∧ Lay.nam.slice.rd (fun k => (A k ∨ w.heap.size ≤ k) ∧ k < W8.heap.size) W8 [gh] ({ M' with named := px }).funcs ∧ Lay.nam.slice.rd (fun k => (A k ∨ w.heap.size ≤ k) ∧ k < W8.heap.size) W8 [gw] ({ M' with named := px }).locals ∧ (zd ({ M' with named := px }).named).size ≤ maxLen ∧ SpR D g lo t2 W8 ∧ Fr (fun k => k = g ∨ k = gm) w W8) := ⟨by rw [dD.o, l5.o, if_neg (fun h => h.elim (fun h => h hp) (fun h => cW (List.length_pos_iff.2 h)))], iY.o, HX.o.2.2.1, zS hV.o.2.2.2.1 HX.o.2.2.2.1 (fun k hk => ⟨hk.2, fun e => by
         rcases hk.1 with q | q
         ·rcases e with e | e
          ·exact (H.o.2.2.2.2.2 k q).2.1 e
          ·exact (H.o.2.2.2.2.2 k q).2.2 e
         ·have := H.o.1.1; have := H.o.2.2.1; rcases e with e | e <;> omega⟩) (fun k hk => ⟨hk.1, nqQ hk.2 HX.o.2.2.2.1.size⟩), zS hV.o.2.2.2.2.1 HX.o.2.2.2.1 (fun k hk => ⟨hk.2, fun e => by
         rcases hk.1 with q | q
         ·rcases e with e | e
          ·exact (H.o.2.2.2.2.2 k q).2.1 e
          ·exact (H.o.2.2.2.2.2 k q).2.2 e
         ·have := H.o.1.1; have := H.o.2.2.1; rcases e with e | e <;> omega⟩) (fun k hk => ⟨hk.1, nqQ hk.2 HX.o.2.2.2.1.size⟩), HX.o.2.2.2.2, HX.o.2.1, Fr.trans hV.o.2.2.2.2.2.2.2 HX.o.2.2.2.1 (fun _ _ h => h) (fun _ _ h => h)⟩
        clear hV HX HS
        go_wp2
        go_roundw
        case rel => exact ⟨f', 1, _, _, _, _, by go_num, by omega, by omega, HN.o⟩
        case measure => simp [intOf]; omega
      ·rw [decide_eq_false hp]
       go_wp2_with fail
       refine (zp D g lo t2 2 W8 HX.o.2.1).mono ?_
       rintro e W9 ⟨rfl, k1, k2⟩
       have eB : Fr (fun k => k = g ∨ k = gm) w2 W9 := Fr.trans HX.o.2.2.2.1 k2 (fun _ _ h => h) (fun _ _ h => .inl h)
       have iU := HX.o.2.2.1.fr k2 H.o.2.2.2.1
       have HN : Hq (zw lo 4 M 0 s = zw lo f' ({ M' with named := px }) 1 (t2.fail 2) ∧ ((t2.fail 2)).b.length ≤ 1048576 ∧ Blk W9 gm #[q0, q1, q2, q3, q4, q5, q6, q7, q8, q9, bN, bk, bl, bp, .string (zd ({ M' with named := px }).named), gh, gw] 37 ∧ Lay.nam.slice.rd (fun k => (A k ∨ w.heap.size ≤ k) ∧ k < W9.heap.size) W9 [gh] ({ M' with named := px }).funcs ∧ Lay.nam.slice.rd (fun k => (A k ∨ w.heap.size ≤ k) ∧ k < W9.heap.size) W9 [gw] ({ M' with named := px }).locals ∧ (zd ({ M' with named := px }).named).size ≤ maxLen ∧ SpR D g lo (t2.fail 2) W9 ∧ Fr (fun k => k = g ∨ k = gm) w W9) := ⟨by rw [dD.o, l5.o, if_pos (.inl hp)], nzQ _, iU, zS hV.o.2.2.2.1 eB (fun k hk => ⟨hk.2, fun e => by
        rcases hk.1 with q | q
        ·rcases e with e | e
         ·exact (H.o.2.2.2.2.2 k q).2.1 e
         ·exact (H.o.2.2.2.2.2 k q).2.2 e
        ·have := H.o.1.1; have := H.o.2.2.1; rcases e with e | e <;> omega⟩) (fun k hk => ⟨hk.1, nqQ hk.2 eB.size⟩), zS hV.o.2.2.2.2.1 eB (fun k hk => ⟨hk.2, fun e => by
        rcases hk.1 with q | q
        ·rcases e with e | e
         ·exact (H.o.2.2.2.2.2 k q).2.1 e
         ·exact (H.o.2.2.2.2.2 k q).2.2 e
        ·have := H.o.1.1; have := H.o.2.2.1; rcases e with e | e <;> omega⟩) (fun k hk => ⟨hk.1, nqQ hk.2 eB.size⟩), HX.o.2.2.2.2, k1, Fr.trans hV.o.2.2.2.2.2.2.2 eB (fun _ _ h => h) (fun _ _ h => h)⟩
       clear k1 k2 eB iU hV HX HS
       go_wp2
       go_roundw
       case rel => exact ⟨f', 1, _, _, _, _, by go_num, by omega, by omega, HN.o⟩
       case measure => simp [intOf]; omega
     ·go_wp2_with fail
      refine (Jh 0 D gs lo ⟨bs, 0⟩ W5 HS.o.1 bz.o).mono ?_
      rintro e W6 ⟨v, rfl, k0, k1, k2⟩
      have lh := OwnG.sliceF z7 k0
      obtain ⟨ei, eg, ek, rfl⟩ := y5 lh
      obtain ⟨pq, n8⟩ := exQ (zQ 0 ⟨bs, 0⟩)
      rw [n8] at k1 lh
      obtain ⟨px, p2⟩ := pq
      clear k0
      dsimp only at k1 lh
      have l5 := qh (show jr lo 1 M' ⟨bs, 0⟩ = ({ M' with funcs := px }, p2) from by show ({ M' with funcs := (zQ 0 ⟨bs, 0⟩).1 }, (zQ 0 ⟨bs, 0⟩).2) = _; rw [n8])
      have hK : Hq (SpR D gs lo p2 W6 ∧ Fr (fun k => k = gs) W5 W6 ∧ Blk W6 gm #[q0, q1, q2, q3, q4, q5, q6, q7, q8, q9, bN, bk, bl, bp, .string (zd M'.named), gh, gw] 37 ∧ Lay.nam.slice.rd (fun k => W5.heap.size ≤ k ∧ k < W6.heap.size) W6 [.slice ei eg ek] px) := ⟨k1, k2, nz.fr k2 (fun e => fR.o.2.1 e.symm), lh⟩
      clear k1 k2 nz cn ng
      have cn := hK.o.2.2.1.cell
      have ng := hK.o.2.2.1.frz
      go_wp2_with fail
      have fX := zf W6 ⟨gm, 15, none⟩ (.slice ei eg ek)
      have HX : Hq (SpR D gs lo p2 (W6.setCell ⟨gm, 15, none⟩ (.slice ei eg ek)) ∧ SpR D g lo t2 (W6.setCell ⟨gm, 15, none⟩ (.slice ei eg ek)) ∧ Blk (W6.setCell ⟨gm, 15, none⟩ (.slice ei eg ek)) gm #[q0, q1, q2, q3, q4, q5, q6, q7, q8, q9, bN, bk, bl, bp, .string (zd M'.named), (.slice ei eg ek), gw] 37 ∧ Fr (fun k => k = g ∨ k = gm) w2 (W6.setCell ⟨gm, 15, none⟩ (.slice ei eg ek)) ∧ Lay.nam.slice.rd (fun k => w.heap.size ≤ k ∧ k < (W6.setCell ⟨gm, 15, none⟩ (.slice ei eg ek)).heap.size) (W6.setCell ⟨gm, 15, none⟩ (.slice ei eg ek)) [.slice ei eg ek] px) := by
       refine ⟨hK.o.1.fr fX (fun e => fR.o.2.1 e) (fun k hk e => H.o.2.2.2.2.1 k hk e), (HS.o.2.1.fr hK.o.2.1 (fun e => fR.o.1 e.symm) (fun k hk e => fR.o.2.2 k hk e)).fr fX (fun e => H.o.2.2.2.1 e.symm) (fun k hk e => H.o.2.2.2.2.1 k hk e), ?_, ?_, ?_⟩
       ·have := hK.o.2.2.1.set 15 (.slice ei eg ek)
        simpa using this
       ·exact (Fr.trans (Fr.trans HS.o.2.2.1 hK.o.2.1 (U := fun k => k = g ∨ k = gs) (fun _ _ h => .inl h) (fun _ _ h => .inr h)) fX (U := fun k => k = g ∨ k = gs ∨ k = gm) (fun _ _ h => h.elim .inl (fun h => .inr (.inl h))) (fun _ _ h => .inr (.inr h))).mono (fun k hk e => by
         rcases e with e | e | e
         ·exact .inl e
         ·have := HS.o.2.2.2; omega
         ·exact .inr e)
       ·exact zS hK.o.2.2.2 fX (fun k hk => ⟨hk.2, fun e => by have e' : k = gm := e; have := hk.1; have := H.o.2.2.1; have := hV.o.2.2.2.2.2.2.2.size; have := HS.o.2.2.1.size; omega⟩) (fun k hk => ⟨by have := hk.1; have := hV.o.2.2.2.2.2.2.2.size; have := HS.o.2.2.1.size; omega, by have := hk.2; simpa using this⟩)
      clear fX cn ng hK
      generalize W6.setCell ⟨gm, 15, none⟩ (.slice ei eg ek) = W7 at *
      obtain ⟨AE, Au, oY, ml, mD⟩ := HX.o.1
      have lq := oY.cell
      clear oY ml mD
      refine (z8 HX.o.1).mono ?_
      rintro e W8 ⟨rfl, rfl⟩
      by_cases hp : p2.v = 0
      ·rw [decide_eq_true hp]
       by_cases cW : 0 < p2.b.length
       ·have dp : decide ((0 : Int) < (p2.b.length : Int)) = true := decide_eq_true (by omega)
        have tj : decide (0 < p2.b.length) = true := decide_eq_true cW
        go_wp2_with fail
        refine (zp D g lo t2 2 W8 HX.o.2.1).mono ?_
        rintro e W9 ⟨rfl, k1, k2⟩
        have eB : Fr (fun k => k = g ∨ k = gm) w2 W9 := Fr.trans HX.o.2.2.2.1 k2 (fun _ _ h => h) (fun _ _ h => .inl h)
        have iU := HX.o.2.2.1.fr k2 H.o.2.2.2.1
        have HN : Hq (zw lo 4 M 0 s = zw lo f' ({ M' with funcs := px }) 2 (t2.fail 2) ∧ ((t2.fail 2)).b.length ≤ 1048576 ∧ Blk W9 gm #[q0, q1, q2, q3, q4, q5, q6, q7, q8, q9, bN, bk, bl, bp, .string (zd ({ M' with funcs := px }).named), (.slice ei eg ek), gw] 37 ∧ Lay.nam.slice.rd (fun k => (A k ∨ w.heap.size ≤ k) ∧ k < W9.heap.size) W9 [(.slice ei eg ek)] ({ M' with funcs := px }).funcs ∧ Lay.nam.slice.rd (fun k => (A k ∨ w.heap.size ≤ k) ∧ k < W9.heap.size) W9 [gw] ({ M' with funcs := px }).locals ∧ (zd ({ M' with funcs := px }).named).size ≤ maxLen ∧ SpR D g lo (t2.fail 2) W9 ∧ Fr (fun k => k = g ∨ k = gm) w W9) := ⟨by rw [dD.o, l5.o, if_pos (.inr (List.length_pos_iff.1 cW))], nzQ _, iU, zS HX.o.2.2.2.2 k2 (fun k hk => ⟨hk.2, fun e => by have e' : k = g := e; have := H.o.1.1; have := hk.1; omega⟩) (fun k hk => ⟨.inr hk.1, nqQ hk.2 k2.size⟩), zS hV.o.2.2.2.2.1 eB (fun k hk => ⟨hk.2, fun e => by
         rcases hk.1 with q | q
         ·rcases e with e | e
          ·exact (H.o.2.2.2.2.2 k q).2.1 e
          ·exact (H.o.2.2.2.2.2 k q).2.2 e
         ·have := H.o.1.1; have := H.o.2.2.1; rcases e with e | e <;> omega⟩) (fun k hk => ⟨hk.1, nqQ hk.2 eB.size⟩), hV.o.2.2.2.2.2.1, k1, Fr.trans hV.o.2.2.2.2.2.2.2 eB (fun _ _ h => h) (fun _ _ h => h)⟩
        clear k1 k2 eB iU hV HX HS
        go_wp2
        go_roundw
        case rel => exact ⟨f', 2, _, _, _, _, by go_num, by omega, by omega, HN.o⟩
        case measure => simp [intOf]; omega
       ·have dp : decide ((0 : Int) < (p2.b.length : Int)) = false := decide_eq_false (by omega)
        have tj : decide (0 < p2.b.length) = false := decide_eq_false cW
        have HN : Hq (zw lo 4 M 0 s = zw lo f' ({ M' with funcs := px }) 2 t2 ∧ (t2).b.length ≤ 1048576 ∧ Blk W8 gm #[q0, q1, q2, q3, q4, q5, q6, q7, q8, q9, bN, bk, bl, bp, .string (zd ({ M' with funcs := px }).named), (.slice ei eg ek), gw] 37 ∧ Lay.nam.slice.rd (fun k => (A k ∨ w.heap.size ≤ k) ∧ k < W8.heap.size) W8 [(.slice ei eg ek)] ({ M' with funcs := px }).funcs ∧ Lay.nam.slice.rd (fun k => (A k ∨ w.heap.size ≤ k) ∧ k < W8.heap.size) W8 [gw] ({ M' with funcs := px }).locals ∧ (zd ({ M' with funcs := px }).named).size ≤ maxLen ∧ SpR D g lo t2 W8 ∧ Fr (fun k => k = g ∨ k = gm) w W8) := ⟨by rw [dD.o, l5.o, if_neg (fun h => h.elim (fun h => h hp) (fun h => cW (List.length_pos_iff.2 h)))], iY.o, HX.o.2.2.1, zS HX.o.2.2.2.2 (Fr.refl (fun k => k = g) W8) (fun k hk => ⟨hk.2, fun e => by have e' : k = g := e; have := H.o.1.1; have := hk.1; omega⟩) (fun k hk => ⟨.inr hk.1, nqQ hk.2 (Fr.refl (fun k => k = g) W8).size⟩), zS hV.o.2.2.2.2.1 HX.o.2.2.2.1 (fun k hk => ⟨hk.2, fun e => by
         rcases hk.1 with q | q
         ·rcases e with e | e
          ·exact (H.o.2.2.2.2.2 k q).2.1 e
          ·exact (H.o.2.2.2.2.2 k q).2.2 e
         ·have := H.o.1.1; have := H.o.2.2.1; rcases e with e | e <;> omega⟩) (fun k hk => ⟨hk.1, nqQ hk.2 HX.o.2.2.2.1.size⟩), hV.o.2.2.2.2.2.1, HX.o.2.1, Fr.trans hV.o.2.2.2.2.2.2.2 HX.o.2.2.2.1 (fun _ _ h => h) (fun _ _ h => h)⟩
        clear hV HX HS
        go_wp2
        go_roundw
        case rel => exact ⟨f', 2, _, _, _, _, by go_num, by omega, by omega, HN.o⟩
        case measure => simp [intOf]; omega
      ·rw [decide_eq_false hp]
       go_wp2_with fail
       refine (zp D g lo t2 2 W8 HX.o.2.1).mono ?_
       rintro e W9 ⟨rfl, k1, k2⟩
       have eB : Fr (fun k => k = g ∨ k = gm) w2 W9 := Fr.trans HX.o.2.2.2.1 k2 (fun _ _ h => h) (fun _ _ h => .inl h)
       have iU := HX.o.2.2.1.fr k2 H.o.2.2.2.1
       have HN : Hq (zw lo 4 M 0 s = zw lo f' ({ M' with funcs := px }) 2 (t2.fail 2) ∧ ((t2.fail 2)).b.length ≤ 1048576 ∧ Blk W9 gm #[q0, q1, q2, q3, q4, q5, q6, q7, q8, q9, bN, bk, bl, bp, .string (zd ({ M' with funcs := px }).named), (.slice ei eg ek), gw] 37 ∧ Lay.nam.slice.rd (fun k => (A k ∨ w.heap.size ≤ k) ∧ k < W9.heap.size) W9 [(.slice ei eg ek)] ({ M' with funcs := px }).funcs ∧ Lay.nam.slice.rd (fun k => (A k ∨ w.heap.size ≤ k) ∧ k < W9.heap.size) W9 [gw] ({ M' with funcs := px }).locals ∧ (zd ({ M' with funcs := px }).named).size ≤ maxLen ∧ SpR D g lo (t2.fail 2) W9 ∧ Fr (fun k => k = g ∨ k = gm) w W9) := ⟨by rw [dD.o, l5.o, if_pos (.inl hp)], nzQ _, iU, zS HX.o.2.2.2.2 k2 (fun k hk => ⟨hk.2, fun e => by have e' : k = g := e; have := H.o.1.1; have := hk.1; omega⟩) (fun k hk => ⟨.inr hk.1, nqQ hk.2 k2.size⟩), zS hV.o.2.2.2.2.1 eB (fun k hk => ⟨hk.2, fun e => by
        rcases hk.1 with q | q
        ·rcases e with e | e
         ·exact (H.o.2.2.2.2.2 k q).2.1 e
         ·exact (H.o.2.2.2.2.2 k q).2.2 e
        ·have := H.o.1.1; have := H.o.2.2.1; rcases e with e | e <;> omega⟩) (fun k hk => ⟨hk.1, nqQ hk.2 eB.size⟩), hV.o.2.2.2.2.2.1, k1, Fr.trans hV.o.2.2.2.2.2.2.2 eB (fun _ _ h => h) (fun _ _ h => h)⟩
       clear k1 k2 eB iU hV HX HS
       go_wp2
       go_roundw
       case rel => exact ⟨f', 2, _, _, _, _, by go_num, by omega, by omega, HN.o⟩
       case measure => simp [intOf]; omega
     ·go_wp2_with fail
      refine (zcL HS.o.1 bz.o).mono ?_
      rintro e W6 ⟨v, rfl, k0, k1, k2⟩
      have lh := k0.slice
      obtain ⟨ei, eg, ek, rfl⟩ := y5 lh
      obtain ⟨pq, n8⟩ := exQ (yx lo ⟨bs, 0⟩)
      rw [n8] at k1 lh
      obtain ⟨px, p2⟩ := pq
      clear k0
      dsimp only at k1 lh
      have l5 := qh (show jr lo 2 M' ⟨bs, 0⟩ = ({ M' with locals := px }, p2) from by show ({ M' with locals := (yx lo ⟨bs, 0⟩).1 }, (yx lo ⟨bs, 0⟩).2) = _; rw [n8])
      have hK : Hq (SpR D gs lo p2 W6 ∧ Fr (fun k => k = gs) W5 W6 ∧ Blk W6 gm #[q0, q1, q2, q3, q4, q5, q6, q7, q8, q9, bN, bk, bl, bp, .string (zd M'.named), gh, gw] 37 ∧ Lay.nam.slice.rd (fun k => W5.heap.size ≤ k ∧ k < W6.heap.size) W6 [.slice ei eg ek] px) := ⟨k1, k2, nz.fr k2 (fun e => fR.o.2.1 e.symm), lh⟩
      clear k1 k2 nz cn ng
      have cn := hK.o.2.2.1.cell
      have ng := hK.o.2.2.1.frz
      go_wp2_with fail
      have fX := zf W6 ⟨gm, 16, none⟩ (.slice ei eg ek)
      have HX : Hq (SpR D gs lo p2 (W6.setCell ⟨gm, 16, none⟩ (.slice ei eg ek)) ∧ SpR D g lo t2 (W6.setCell ⟨gm, 16, none⟩ (.slice ei eg ek)) ∧ Blk (W6.setCell ⟨gm, 16, none⟩ (.slice ei eg ek)) gm #[q0, q1, q2, q3, q4, q5, q6, q7, q8, q9, bN, bk, bl, bp, .string (zd M'.named), gh, (.slice ei eg ek)] 37 ∧ Fr (fun k => k = g ∨ k = gm) w2 (W6.setCell ⟨gm, 16, none⟩ (.slice ei eg ek)) ∧ Lay.nam.slice.rd (fun k => w.heap.size ≤ k ∧ k < (W6.setCell ⟨gm, 16, none⟩ (.slice ei eg ek)).heap.size) (W6.setCell ⟨gm, 16, none⟩ (.slice ei eg ek)) [.slice ei eg ek] px) := by
       refine ⟨hK.o.1.fr fX (fun e => fR.o.2.1 e) (fun k hk e => H.o.2.2.2.2.1 k hk e), (HS.o.2.1.fr hK.o.2.1 (fun e => fR.o.1 e.symm) (fun k hk e => fR.o.2.2 k hk e)).fr fX (fun e => H.o.2.2.2.1 e.symm) (fun k hk e => H.o.2.2.2.2.1 k hk e), ?_, ?_, ?_⟩
       ·have := hK.o.2.2.1.set 16 (.slice ei eg ek)
        simpa using this
       ·exact (Fr.trans (Fr.trans HS.o.2.2.1 hK.o.2.1 (U := fun k => k = g ∨ k = gs) (fun _ _ h => .inl h) (fun _ _ h => .inr h)) fX (U := fun k => k = g ∨ k = gs ∨ k = gm) (fun _ _ h => h.elim .inl (fun h => .inr (.inl h))) (fun _ _ h => .inr (.inr h))).mono (fun k hk e => by
         rcases e with e | e | e
         ·exact .inl e
         ·have := HS.o.2.2.2; omega
         ·exact .inr e)
       ·exact zS hK.o.2.2.2 fX (fun k hk => ⟨hk.2, fun e => by have e' : k = gm := e; have := hk.1; have := H.o.2.2.1; have := hV.o.2.2.2.2.2.2.2.size; have := HS.o.2.2.1.size; omega⟩) (fun k hk => ⟨by have := hk.1; have := hV.o.2.2.2.2.2.2.2.size; have := HS.o.2.2.1.size; omega, by have := hk.2; simpa using this⟩)
      clear fX cn ng hK
      generalize W6.setCell ⟨gm, 16, none⟩ (.slice ei eg ek) = W7 at *
      obtain ⟨AE, Au, oY, ml, mD⟩ := HX.o.1
      have lq := oY.cell
      clear oY ml mD
      refine (z8 HX.o.1).mono ?_
      rintro e W8 ⟨rfl, rfl⟩
      by_cases hp : p2.v = 0
      ·rw [decide_eq_true hp]
       by_cases cW : 0 < p2.b.length
       ·have dp : decide ((0 : Int) < (p2.b.length : Int)) = true := decide_eq_true (by omega)
        have tj : decide (0 < p2.b.length) = true := decide_eq_true cW
        go_wp2_with fail
        refine (zp D g lo t2 2 W8 HX.o.2.1).mono ?_
        rintro e W9 ⟨rfl, k1, k2⟩
        have eB : Fr (fun k => k = g ∨ k = gm) w2 W9 := Fr.trans HX.o.2.2.2.1 k2 (fun _ _ h => h) (fun _ _ h => .inl h)
        have iU := HX.o.2.2.1.fr k2 H.o.2.2.2.1
        have HN : Hq (zw lo 4 M 0 s = zw lo f' ({ M' with locals := px }) 3 (t2.fail 2) ∧ ((t2.fail 2)).b.length ≤ 1048576 ∧ Blk W9 gm #[q0, q1, q2, q3, q4, q5, q6, q7, q8, q9, bN, bk, bl, bp, .string (zd ({ M' with locals := px }).named), gh, (.slice ei eg ek)] 37 ∧ Lay.nam.slice.rd (fun k => (A k ∨ w.heap.size ≤ k) ∧ k < W9.heap.size) W9 [gh] ({ M' with locals := px }).funcs ∧ Lay.nam.slice.rd (fun k => (A k ∨ w.heap.size ≤ k) ∧ k < W9.heap.size) W9 [(.slice ei eg ek)] ({ M' with locals := px }).locals ∧ (zd ({ M' with locals := px }).named).size ≤ maxLen ∧ SpR D g lo (t2.fail 2) W9 ∧ Fr (fun k => k = g ∨ k = gm) w W9) := ⟨by rw [dD.o, l5.o, if_pos (.inr (List.length_pos_iff.1 cW))], nzQ _, iU, zS hV.o.2.2.2.1 eB (fun k hk => ⟨hk.2, fun e => by
         rcases hk.1 with q | q
         ·rcases e with e | e
          ·exact (H.o.2.2.2.2.2 k q).2.1 e
          ·exact (H.o.2.2.2.2.2 k q).2.2 e
         ·have := H.o.1.1; have := H.o.2.2.1; rcases e with e | e <;> omega⟩) (fun k hk => ⟨hk.1, nqQ hk.2 eB.size⟩), zS HX.o.2.2.2.2 k2 (fun k hk => ⟨hk.2, fun e => by have e' : k = g := e; have := H.o.1.1; have := hk.1; omega⟩) (fun k hk => ⟨.inr hk.1, nqQ hk.2 k2.size⟩), hV.o.2.2.2.2.2.1, k1, Fr.trans hV.o.2.2.2.2.2.2.2 eB (fun _ _ h => h) (fun _ _ h => h)⟩
        clear k1 k2 eB iU hV HX HS
        go_wp2
        go_roundw
        case rel => exact ⟨f', 3, _, _, _, _, by go_num, by omega, by omega, HN.o⟩
        case measure => simp [intOf]; omega
       ·have dp : decide ((0 : Int) < (p2.b.length : Int)) = false := decide_eq_false (by omega)
        have tj : decide (0 < p2.b.length) = false := decide_eq_false cW
        have HN : Hq (zw lo 4 M 0 s = zw lo f' ({ M' with locals := px }) 3 t2 ∧ (t2).b.length ≤ 1048576 ∧ Blk W8 gm #[q0, q1, q2, q3, q4, q5, q6, q7, q8, q9, bN, bk, bl, bp, .string (zd ({ M' with locals := px }).named), gh, (.slice ei eg ek)] 37 ∧ Lay.nam.slice.rd (fun k => (A k ∨ w.heap.size ≤ k) ∧ k < W8.heap.size) W8 [gh] ({ M' with locals := px }).funcs ∧ Lay.nam.slice.rd (fun k => (A k ∨ w.heap.size ≤ k) ∧ k < W8.heap.size) W8 [(.slice ei eg ek)] ({ M' with locals := px }).locals ∧ (zd ({ M' with locals := px }).named).size ≤ maxLen ∧ SpR D g lo t2 W8 ∧ Fr (fun k => k = g ∨ k = gm) w W8) := ⟨by rw [dD.o, l5.o, if_neg (fun h => h.elim (fun h => h hp) (fun h => cW (List.length_pos_iff.2 h)))], iY.o, HX.o.2.2.1, zS hV.o.2.2.2.1 HX.o.2.2.2.1 (fun k hk => ⟨hk.2, fun e => by
         rcases hk.1 with q | q
         ·rcases e with e | e
          ·exact (H.o.2.2.2.2.2 k q).2.1 e
          ·exact (H.o.2.2.2.2.2 k q).2.2 e
         ·have := H.o.1.1; have := H.o.2.2.1; rcases e with e | e <;> omega⟩) (fun k hk => ⟨hk.1, nqQ hk.2 HX.o.2.2.2.1.size⟩), zS HX.o.2.2.2.2 (Fr.refl (fun k => k = g) W8) (fun k hk => ⟨hk.2, fun e => by have e' : k = g := e; have := H.o.1.1; have := hk.1; omega⟩) (fun k hk => ⟨.inr hk.1, nqQ hk.2 (Fr.refl (fun k => k = g) W8).size⟩), hV.o.2.2.2.2.2.1, HX.o.2.1, Fr.trans hV.o.2.2.2.2.2.2.2 HX.o.2.2.2.1 (fun _ _ h => h) (fun _ _ h => h)⟩
        clear hV HX HS
        go_wp2
        go_roundw
        case rel => exact ⟨f', 3, _, _, _, _, by go_num, by omega, by omega, HN.o⟩
        case measure => simp [intOf]; omega
      ·rw [decide_eq_false hp]
       go_wp2_with fail
       refine (zp D g lo t2 2 W8 HX.o.2.1).mono ?_
       rintro e W9 ⟨rfl, k1, k2⟩
       have eB : Fr (fun k => k = g ∨ k = gm) w2 W9 := Fr.trans HX.o.2.2.2.1 k2 (fun _ _ h => h) (fun _ _ h => .inl h)
       have iU := HX.o.2.2.1.fr k2 H.o.2.2.2.1
       have HN : Hq (zw lo 4 M 0 s = zw lo f' ({ M' with locals := px }) 3 (t2.fail 2) ∧ ((t2.fail 2)).b.length ≤ 1048576 ∧ Blk W9 gm #[q0, q1, q2, q3, q4, q5, q6, q7, q8, q9, bN, bk, bl, bp, .string (zd ({ M' with locals := px }).named), gh, (.slice ei eg ek)] 37 ∧ Lay.nam.slice.rd (fun k => (A k ∨ w.heap.size ≤ k) ∧ k < W9.heap.size) W9 [gh] ({ M' with locals := px }).funcs ∧ Lay.nam.slice.rd (fun k => (A k ∨ w.heap.size ≤ k) ∧ k < W9.heap.size) W9 [(.slice ei eg ek)] ({ M' with locals := px }).locals ∧ (zd ({ M' with locals := px }).named).size ≤ maxLen ∧ SpR D g lo (t2.fail 2) W9 ∧ Fr (fun k => k = g ∨ k = gm) w W9) := ⟨by rw [dD.o, l5.o, if_pos (.inl hp)], nzQ _, iU, zS hV.o.2.2.2.1 eB (fun k hk => ⟨hk.2, fun e => by
        rcases hk.1 with q | q
        ·rcases e with e | e
         ·exact (H.o.2.2.2.2.2 k q).2.1 e
         ·exact (H.o.2.2.2.2.2 k q).2.2 e
        ·have := H.o.1.1; have := H.o.2.2.1; rcases e with e | e <;> omega⟩) (fun k hk => ⟨hk.1, nqQ hk.2 eB.size⟩), zS HX.o.2.2.2.2 k2 (fun k hk => ⟨hk.2, fun e => by have e' : k = g := e; have := H.o.1.1; have := hk.1; omega⟩) (fun k hk => ⟨.inr hk.1, nqQ hk.2 k2.size⟩), hV.o.2.2.2.2.2.1, k1, Fr.trans hV.o.2.2.2.2.2.2.2 eB (fun _ _ h => h) (fun _ _ h => h)⟩
       clear k1 k2 eB iU hV HX HS
       go_wp2
       go_roundw
       case rel => exact ⟨f', 3, _, _, _, _, by go_num, by omega, by omega, HN.o⟩
       case measure => simp [intOf]; omega
   ·have dl : decide ((0 : Int) < (s'.b.length : Int)) = false := decide_eq_false (by omega)
    have uQ : decide (0 < s'.b.length) = false := decide_eq_false hb
    have aV := kG.o (fun h => hb (List.length_pos_iff.2 h.2))
    have eh := qh (show ∃ dX dY, Blk w2 gm #[q0, q1, q2, q3, q4, q5, q6, q7, q8, q9, bN, bk, bl, bp, .string (zd (zw lo 4 M 0 s).1.named), dX, dY] 37 ∧ Lay.nam.slice.rd (fun k => (A k ∨ w.heap.size ≤ k) ∧ k < w2.heap.size) w2 [dX] (zw lo 4 M 0 s).1.funcs ∧ Lay.nam.slice.rd (fun k => (A k ∨ w.heap.size ≤ k) ∧ k < w2.heap.size) w2 [dY] (zw lo 4 M 0 s).1.locals ∧ (zd (zw lo 4 M 0 s).1.named).size ≤ maxLen ∧ SpR D g lo (zw lo 4 M 0 s).2 w2 ∧ Fr (fun k => k = g ∨ k = gm) w w2 from ⟨gh, gw, by rw [aV]; exact hV.o.2.2⟩)
    clear hV kG dD aV
    go_wp2
    go_end0
    exact ⟨rfl, eh.o⟩
  ·rw [decide_eq_false hv]
   have aV := kG.o (fun h => hv h.1)
   have eh := qh (show ∃ dX dY, Blk w2 gm #[q0, q1, q2, q3, q4, q5, q6, q7, q8, q9, bN, bk, bl, bp, .string (zd (zw lo 4 M 0 s).1.named), dX, dY] 37 ∧ Lay.nam.slice.rd (fun k => (A k ∨ w.heap.size ≤ k) ∧ k < w2.heap.size) w2 [dX] (zw lo 4 M 0 s).1.funcs ∧ Lay.nam.slice.rd (fun k => (A k ∨ w.heap.size ≤ k) ∧ k < w2.heap.size) w2 [dY] (zw lo 4 M 0 s).1.locals ∧ (zd (zw lo 4 M 0 s).1.named).size ≤ maxLen ∧ SpR D g lo (zw lo 4 M 0 s).2 w2 ∧ Fr (fun k => k = g ∨ k = gm) w w2 from ⟨gh, gw, by rw [aV]; exact hV.o.2.2⟩)
   clear hV kG dD aV
   go_wp2
   go_end0
   exact ⟨rfl, eh.o⟩
end Go.Proofs.YtejgninpjhcgnaaGreatDoor
