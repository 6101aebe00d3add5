/- Texts of this proof, one behind the other. -/
import Derived.Test.YtejgninpjhcgnaaGreatDoorPart10
namespace Go.Proofs.YtejgninpjhcgnaaGreatDoor
open Go.RowKit
set_option linter.unusedSimpArgs false
set_option linter.unusedVariables false
set_option maxRecDepth 100000
set_option maxHeartbeats 4000000
structure SB (S : Sink) (lo g : Nat) (w w2 : World) (bs : List UInt8) (n : Nat) (W : World) (pre : List UInt8) (bx : List (Nat × Array Value × TypeId)) : Prop where
 k : WK S lo g w w2 bs []
 b : WK z7 n n (w2.alloc (.cells (bufC (.slice none 0 0) 0) 314)) W pre bx
 hn : w2.heap.size = n
section
variable {S : Sink} {lo g n : Nat} {w w2 W W' : World} {bs pre pre' : List UInt8} {bx : List (Nat × Array Value × TypeId)} {A : Nat → Prop}
theorem SB.start (k : WK S lo g w w2 bs []) (hn : w2.heap.size = n) : SB S lo g w w2 bs n (w2.alloc (.cells (bufC (.slice none 0 0) 0) 314)) [] [] :=
 ⟨k, WK.start (zgn w2 n hn) (by simp; omega), hn⟩
theorem SB.x (h : SB S lo g w w2 bs n W pre bx) : Ext w2 W := by
 refine (Ext.fr (za w2 _) h.b.wr.fr).mono fun k hk hs => ?_
 have ww : jA (w2.alloc (.cells (bufC (.slice none 0 0) 0) 314)) n k := hs
 have h1 := (IsBf.lt (zgn w2 n h.hn) k ww).1
 have := h.hn
 omega
theorem SB.rd {α : Type} {l : Lay α} {cs : List Value} {x : α} (h : SB S lo g w w2 bs n W pre bx) (hR : l.rd A w cs x) (hA : Away S.toHold g w A) : l.rd A W cs x :=
 Lay.fr (h.k.rd hR hA) h.x (fun k hk => ⟨(h.k.away hA k hk).1, fun q => q⟩)
theorem SB.away (h : SB S lo g w w2 bs n W pre bx) (hA : Away S.toHold g w A) : Away z7.toHold n W A := fun k hk => by
 have h1 := (h.k.away hA k hk).1
 have h2 := h.x.size
 refine ⟨by omega, fun q => ?_⟩
 have q' : jA W n k := q
 have := (IsBf.lt (show IsBf n n pre W from h.b.is) k q').1
 have := h.hn
 omega
theorem SB.rdx {α : Type} {l : Lay α} {cs : List Value} {x : α} (h : SB S lo g w w2 bs n W pre bx) (hA : Away S.toHold g w A) (hx : Ext W W') (r : l.rd A W cs x) : l.rd A W' cs x := Lay.fr r hx (fun k hk => ⟨(h.away hA k hk).1, fun q => q⟩)
theorem SB.rd2 {α : Type} {l : Lay α} {cs : List Value} {x : α} {p2 : List UInt8} {b2 : List (Nat × Array Value × TypeId)} (h : SB S lo g w w2 bs n W pre bx) (h' : SB S lo g w w2 bs n W' p2 b2) (hA : Away S.toHold g w A) (r : l.rd A W cs x) : l.rd A W' cs x :=
 l.frame r (fun k hk => by have h1 := (h.k.away hA k hk).1; exact (h'.x.block k h1 (fun q => q)).trans (h.x.block k h1 (fun q => q)).symm)
theorem SB.step (h : SB S lo g w w2 bs n W pre bx) (k : Wrote z7.toHold n n W pre' W') : SB S lo g w w2 bs n W' pre' bx := ⟨h.k, h.b.step k, h.hn⟩
theorem SB.ext (h : SB S lo g w w2 bs n W pre bx) (hx : Ext W W') : SB S lo g w w2 bs n W' pre bx := ⟨h.k, h.b.ext hx, h.hn⟩
theorem SB.push (h : SB S lo g w w2 bs n W pre bx) (cs : Array Value) (T : TypeId) : SB S lo g w w2 bs n (W.alloc (.cells cs T)) pre ((W.heap.size, cs, T) :: bx) := ⟨h.k, h.b.push cs T, h.hn⟩
theorem SB.pop {b : Nat × Array Value × TypeId} (h : SB S lo g w w2 bs n W pre (b :: bx)) : SB S lo g w w2 bs n W pre bx := ⟨h.k, h.b.pop, h.hn⟩
theorem SB.eq (h : SB S lo g w w2 bs n W pre bx) (e : pre = pre') : SB S lo g w w2 bs n W pre' bx := e ▸ h
theorem SB.box0 {b : Nat} {cs : Array Value} {T : TypeId} (h : SB S lo g w w2 bs n W pre ((b, cs, T) :: bx)) : ∀ j, W.cell? ⟨b, j, none⟩ = cs[j]? := h.b.box0
theorem SB.raw (h : SB S lo g w w2 bs n W pre bx) (hp : pre.length < 4294967296) (hl : bs.length + (zq pre).length + 10 ≤ 70368744177664) :
 Calls Tryz.prog 111 #[.iface S.T (.pointer (some ⟨g, 0, none⟩)), .pointer (some ⟨n, 0, none⟩)] W fun e w' => e = .returned .nilIface ∧ Wrote S.toHold lo g w (bs ++ zq pre) w' := by
 have K := h.k.ext h.x
 refine (Z0 S lo g n n pre bs W K.is h.b.is (fun k hk q => ?_) K.lo hp hl).mono ?_
 ·have h1 := (IsBf.lt (show IsBf n n pre W from h.b.is) k hk).1
  have h2 := (S.lt h.k.is k (((S.frame h.k.is h.x (fun _ _ h => h)).2 k).1 q)).2
  have := h.hn
  omega
 ·rintro e w' ⟨rfl, k⟩
  exact ⟨rfl, (K.step k).wr⟩
end
theorem jw (S : Sink) (lo g : Nat) (b : Int) (hb : 0 ≤ b ∧ b < 256) (bs : List UInt8) (w : World) (hS : S.is lo g bs w) (ap : lo ≤ w.heap.size) (hl : bs.length + 10 ≤ 70368744177664) :
 Calls Tryz.prog 108 #[.iface S.T (.pointer (some ⟨g, 0, none⟩)), .int .u8 b] w fun e w' => e = .returned .nilIface ∧ Wrote S.toHold lo g w (bs ++ [UInt8.ofNat b.toNat]) w' := by
 obtain ⟨n, rfl⟩ := Int.eq_ofNat_of_zero_le hb.1
 exact zm S lo g n (by omega) bs w hS ap hl
variable {α : Type} {id : UInt8} {f : α → List UInt8}
theorem jy {l : List α} (h : l.length = 0) : zD id f l = [] := by unfold zD; rw [if_pos h]
theorem y0 {l : List α} (h : ¬ l.length = 0) : zD id f l = [id] ++ zq (wVec f l) := by unfold zD; rw [if_neg h]; rfl
theorem ZS (S : Sink) (lo g : Nat) (l : List FT) (aa : Option Addr) (m c : Nat) (A : Nat → Prop) (bs : List UInt8) (w : World) (hS : S.is lo g bs w) (hR : Lay.ft.slice.rd A w [.slice aa m c] l) (hA : Away S.toHold g w A) (ap : lo ≤ w.heap.size) (cN : ∀ x ∈ l, ftOk x = true) (bY : ∀ x ∈ l, x.ps.length < 4294967296 ∧ x.rs.length < 4294967296) (hn : l.length < 4294967296) (cl : (wVec wFT l).length < 4294967296) (hl : bs.length + (zD 1 wFT l).length + 100 ≤ 70368744177664) :
 Calls Tryz.prog 72 #[.iface S.T (.pointer (some ⟨g, 0, none⟩)), .agg #[.slice aa m c]] w fun e w' => e = .returned .nilIface ∧ Wrote S.toHold lo g w (bs ++ zD 1 wFT l) w' := by
 obtain ⟨a', c', e, ce, bh⟩ := Lay.slice_form hR
 obtain ⟨rfl, rfl, rfl⟩ : aa = a' ∧ m = l.length ∧ c = c' := by simpa using e
 have ao : (l.length : Int) ≤ 9223372036854775807 := by simp only [maxLen] at bh; omega
 obtain ⟨dN, dQ⟩ := jd hn
 have K0 := qh (WK.start hS ap)
 clear ce bh e hS ap
 by_cases h0 : l.length = 0
 ·have hw := qh (jy (id := 1) (f := wFT) h0)
  have K1 := qh (K0.o.push #[.slice aa 0 c] 161)
  rw [h0]
  clear hR h0 ao dN dQ
  go_enter Tryz.func72, Tryz.ntmps72
  go_wp2
  go_ret
  exact ⟨rfl, K1.o.wr.eq (by rw [hw.o, List.append_nil])⟩
 ·have hw := qh (y0 (id := 1) (f := wFT) h0)
  have aj := qh (show bs.length + ((uleb l.length).length + (l.flatMap wFT).length) + 100 ≤ 70368744177664 ∧ bs.length + (zq (wVec wFT l)).length + 100 ≤ 70368744177664 from by
   rw [hw.o] at hl
   have : (wVec wFT l).length ≤ (zq (wVec wFT l)).length := by unfold zq; rw [laQ]; omega
   unfold wVec at this hl ⊢
   simp only [laQ, List.length_cons, List.length_nil] at this hl ⊢
   omega)
  have H := qh (anQ hR (anQ hA (anQ hn (anQ cl (anQ cN bY)))))
  have gw := bfQ (a := (l.length : Int)) (b := 0) (by omega)
  clear hR hA cl hl h0 hn cN bY
  go_enter Tryz.func72, Tryz.ntmps72
  go_wp2_with fail
  have K1 := qh (K0.o.push #[.slice aa l.length c] 161)
  refine (zm S lo g 1 (by decide) bs _ K1.o.is K1.o.lo (by have := aj.o.1; omega)).mono ?_
  rintro e w2 ⟨rfl, k⟩
  have K2 := qh (K1.o.step k)
  clear k
  have ag := (K2.o.box _ (.head _)).1.ext (za w2 (.cells (bufC (.slice none 0 0) 0) 314))
  have HB := qh ag
  replace ag := ag.cell
  have da := (K2.o.box _ (.head _)).1
  have HC := qh da
  replace da := da.cell
  clear gw
  go_wp2_with fail
  obtain ⟨n0, dC⟩ := exQ (w2.heap.size)
  have B0 := qh (SB.start K2.o.pop dC)
  rw [dC]
  generalize (w2.alloc (.cells (bufC (.slice none 0 0) 0) 314)) = W3 at *
  refine (zf z7 n0 n0 l.length H.o.2.2.1 [] W3 B0.o.b.is B0.o.b.lo (by simp)).mono ?_
  rintro e w4 ⟨rfl, k⟩
  have B1 := qh (B0.o.step k)
  clear k ag da
  have ag := (HC.o.ext B1.o.x).cell
  go_wp2_with fail
  clear ag
  go_loopw [32] (fun ic w' => ∃ (i : Nat), i ≤ l.length ∧ ic = .int .i64 i ∧ Hd (SB S lo g w w2 (bs ++ [UInt8.ofNat 1]) n0 w' (uleb l.length ++ (l.take i).flatMap wFT) [])) (fun ic _ => l.length - (intOf ic).toNat)
  case atStart => exact ⟨0, nzQ _, rfl, B1.o.eq (by simp)⟩
  case round =>
   obtain ⟨i, hi, rfl, hV⟩ := hrel
   by_cases ah : i < l.length
   ·obtain ⟨b, o, a1, c1, a2, c2, rfl, e0, e1, r0, r1⟩ := Lay.ft_at (hV.o.rd H.o.1 H.o.2.1) i ah
    have aX := qh (yr (f := wFT) ah)
    have ci := qh (show bs.length + ((uleb l.length).length + (((l.take i).flatMap wFT).length + (wFT l[i]).length)) + 100 ≤ 70368744177664 from by have := y9 (f := wFT) ah (Nat.le_refl _); have := aj.o.1; omega)
    have dR := qh (List.getElem_mem ah)
    generalize l[i] = x at *
    have r0 := qh r0
    have r1 := qh r1
    go_wp2_with fail
    have K3 := qh (hV.o.push #[.slice a1 x.ps.length c1, .slice a2 x.rs.length c2] 197)
    refine (ZF z7 n0 n0 x a1 a2 c1 c2 A _ _ K3.o.b.is (hV.o.rdx H.o.2.1 (za _ _) r0.o) (hV.o.rdx H.o.2.1 (za _ _) r1.o) (K3.o.away H.o.2.1) K3.o.b.lo (H.o.2.2.2.2.1 x dR.o) (H.o.2.2.2.2.2 x dR.o) (by have := aj.o; have := ci.o; simp only [laQ, List.length_cons, List.length_nil] at this ⊢; omega)).mono ?_
    rintro e w5 ⟨rfl, k⟩
    have K9 := qh ((K3.o.step k).pop.eq (pre' := uleb l.length ++ (l.take (i + 1)).flatMap wFT) (by rw [aX.o]; simp only [List.append_assoc]))
    clear k
    go_wp2
    go_roundw
    case rel => exact ⟨i + 1, by omega, by go_num, K9⟩
    case measure => simp [intOf]; omega
   ·obtain rfl : i = l.length := by omega
    have ai := hV.o
    rw [tlQ] at ai
    have ai := qh ai
    go_wp2_with fail
    refine (ai.o.raw H.o.2.2.2.1 (by have := aj.o.2; unfold wVec at this; simp only [laQ, List.length_cons, List.length_nil] at this ⊢; omega)).mono ?_
    rintro e w5 ⟨rfl, k⟩
    have k := qh k
    go_wp2
    go_ret
    exact ⟨rfl, k.o.eq (by rw [hw.o, List.append_assoc]; rfl)⟩
theorem Zm (S : Sink) (lo g : Nat) (l : List Imp) (aa : Option Addr) (m c : Nat) (A : Nat → Prop) (bs : List UInt8) (w : World) (hS : S.is lo g bs w) (hR : Lay.wimp.slice.rd A w [.slice aa m c] l) (hA : Away S.toHold g w A) (ap : lo ≤ w.heap.size) (cN : ∀ x ∈ l, x.mdl.length < 4294967296 ∧ x.name.length < 4294967296) (bY : ∀ x ∈ l, Y7 x = true) (hn : l.length < 4294967296) (cl : (wVec wImp l).length < 4294967296) (hl : bs.length + (zD 2 wImp l).length + 100 ≤ 70368744177664) :
 Calls Tryz.prog 73 #[.iface S.T (.pointer (some ⟨g, 0, none⟩)), .agg #[.slice aa m c]] w fun e w' => e = .returned .nilIface ∧ Wrote S.toHold lo g w (bs ++ zD 2 wImp l) w' := by
 obtain ⟨a', c', e, ce, bh⟩ := Lay.slice_form hR
 obtain ⟨rfl, rfl, rfl⟩ : aa = a' ∧ m = l.length ∧ c = c' := by simpa using e
 have ao : (l.length : Int) ≤ 9223372036854775807 := by simp only [maxLen] at bh; omega
 obtain ⟨dN, dQ⟩ := jd hn
 have K0 := qh (WK.start hS ap)
 clear ce bh e hS ap
 by_cases h0 : l.length = 0
 ·have hw := qh (jy (id := 2) (f := wImp) h0)
  have K1 := qh (K0.o.push #[.slice aa 0 c] 164)
  rw [h0]
  clear hR h0 ao dN dQ
  go_enter Tryz.func73, Tryz.ntmps73
  go_wp2
  go_ret
  exact ⟨rfl, K1.o.wr.eq (by rw [hw.o, List.append_nil])⟩
 ·have hw := qh (y0 (id := 2) (f := wImp) h0)
  have aj := qh (show bs.length + ((uleb l.length).length + (l.flatMap wImp).length) + 100 ≤ 70368744177664 ∧ bs.length + (zq (wVec wImp l)).length + 100 ≤ 70368744177664 from by
   rw [hw.o] at hl
   have : (wVec wImp l).length ≤ (zq (wVec wImp l)).length := by unfold zq; rw [laQ]; omega
   unfold wVec at this hl ⊢
   simp only [laQ, List.length_cons, List.length_nil] at this hl ⊢
   omega)
  have H := qh (anQ hR (anQ hA (anQ hn (anQ cl (anQ cN bY)))))
  have gw := bfQ (a := (l.length : Int)) (b := 0) (by omega)
  clear hR hA cl hl h0 hn cN bY
  go_enter Tryz.func73, Tryz.ntmps73
  go_wp2_with fail
  have K1 := qh (K0.o.push #[.slice aa l.length c] 164)
  refine (zm S lo g 2 (by decide) bs _ K1.o.is K1.o.lo (by have := aj.o.1; omega)).mono ?_
  rintro e w2 ⟨rfl, k⟩
  have K2 := qh (K1.o.step k)
  clear k
  have ag := (K2.o.box _ (.head _)).1.ext (za w2 (.cells (bufC (.slice none 0 0) 0) 314))
  have HB := qh ag
  replace ag := ag.cell
  have da := (K2.o.box _ (.head _)).1
  have HC := qh da
  replace da := da.cell
  clear gw
  go_wp2_with fail
  obtain ⟨n0, dC⟩ := exQ (w2.heap.size)
  have B0 := qh (SB.start K2.o.pop dC)
  rw [dC]
  generalize (w2.alloc (.cells (bufC (.slice none 0 0) 0) 314)) = W3 at *
  refine (zf z7 n0 n0 l.length H.o.2.2.1 [] W3 B0.o.b.is B0.o.b.lo (by simp)).mono ?_
  rintro e w4 ⟨rfl, k⟩
  have B1 := qh (B0.o.step k)
  clear k ag da
  have ag := (HC.o.ext B1.o.x).cell
  go_wp2_with fail
  clear ag
  go_loopw [32] (fun ic w' => ∃ (i : Nat), i ≤ l.length ∧ ic = .int .i64 i ∧ Hd (SB S lo g w w2 (bs ++ [UInt8.ofNat 2]) n0 w' (uleb l.length ++ (l.take i).flatMap wImp) [])) (fun ic _ => l.length - (intOf ic).toNat)
  case atStart => exact ⟨0, nzQ _, rfl, B1.o.eq (by simp)⟩
  case round =>
   obtain ⟨i, hi, rfl, hV⟩ := hrel
   by_cases ah : i < l.length
   ·obtain ⟨b, o, T, p, rfl, e0, e1, e2, r0⟩ := Lay.wimp_at (hV.o.rd H.o.1 H.o.2.1) i ah
    have aX := qh (yr (f := wImp) ah)
    have ci := qh (show bs.length + ((uleb l.length).length + (((l.take i).flatMap wImp).length + (wImp l[i]).length)) + 100 ≤ 70368744177664 from by have := y9 (f := wImp) ah (Nat.le_refl _); have := aj.o.1; omega)
    have dR := qh (List.getElem_mem ah)
    generalize l[i] = x at *
    have r0 := qh r0
    go_wp2_with fail
    have K3 := qh (hV.o.push #[.string (zc x.mdl), .string (zc x.name), .iface T p] 202)
    refine (Y9 z7 n0 n0 x T p A _ _ K3.o.b.is (hV.o.rdx H.o.2.1 (za _ _) r0.o) (K3.o.away H.o.2.1) K3.o.b.lo (H.o.2.2.2.2.1 x dR.o) (H.o.2.2.2.2.2 x dR.o) (by have := aj.o; have := ci.o; simp only [laQ, List.length_cons, List.length_nil] at this ⊢; omega)).mono ?_
    rintro e w5 ⟨rfl, k⟩
    have K9 := qh ((K3.o.step k).pop.eq (pre' := uleb l.length ++ (l.take (i + 1)).flatMap wImp) (by rw [aX.o]; simp only [List.append_assoc]))
    clear k
    go_wp2
    go_roundw
    case rel => exact ⟨i + 1, by omega, by go_num, K9⟩
    case measure => simp [intOf]; omega
   ·obtain rfl : i = l.length := by omega
    have ai := hV.o
    rw [tlQ] at ai
    have ai := qh ai
    go_wp2_with fail
    refine (ai.o.raw H.o.2.2.2.1 (by have := aj.o.2; unfold wVec at this; simp only [laQ, List.length_cons, List.length_nil] at this ⊢; omega)).mono ?_
    rintro e w5 ⟨rfl, k⟩
    have k := qh k
    go_wp2
    go_ret
    exact ⟨rfl, k.o.eq (by rw [hw.o, List.append_assoc]; rfl)⟩
theorem JQ (S : Sink) (lo g : Nat) (l : List UInt32) (aa : Option Addr) (m c : Nat) (A : Nat → Prop) (bs : List UInt8) (w : World) (hS : S.is lo g bs w) (hR : Lay.u32.slice.rd A w [.slice aa m c] l) (hA : Away S.toHold g w A) (ap : lo ≤ w.heap.size) (hn : l.length < 4294967296) (cl : (wVec wNum l).length < 4294967296) (hl : bs.length + (zD 3 wNum l).length + 100 ≤ 70368744177664) :
 Calls Tryz.prog 74 #[.iface S.T (.pointer (some ⟨g, 0, none⟩)), .agg #[.slice aa m c]] w fun e w' => e = .returned .nilIface ∧ Wrote S.toHold lo g w (bs ++ zD 3 wNum l) w' := by
 obtain ⟨a', c', e, ce, bh⟩ := Lay.slice_form hR
 obtain ⟨rfl, rfl, rfl⟩ : aa = a' ∧ m = l.length ∧ c = c' := by simpa using e
 have ao : (l.length : Int) ≤ 9223372036854775807 := by simp only [maxLen] at bh; omega
 obtain ⟨dN, dQ⟩ := jd hn
 have K0 := qh (WK.start hS ap)
 clear ce bh e hS ap
 by_cases h0 : l.length = 0
 ·have hw := qh (jy (id := 3) (f := wNum) h0)
  have K1 := qh (K0.o.push #[.slice aa 0 c] 166)
  rw [h0]
  clear hR h0 ao dN dQ
  go_enter Tryz.func74, Tryz.ntmps74
  go_wp2
  go_ret
  exact ⟨rfl, K1.o.wr.eq (by rw [hw.o, List.append_nil])⟩
 ·have hw := qh (y0 (id := 3) (f := wNum) h0)
  have aj := qh (show bs.length + ((uleb l.length).length + (l.flatMap wNum).length) + 100 ≤ 70368744177664 ∧ bs.length + (zq (wVec wNum l)).length + 100 ≤ 70368744177664 from by
   rw [hw.o] at hl
   have : (wVec wNum l).length ≤ (zq (wVec wNum l)).length := by unfold zq; rw [laQ]; omega
   unfold wVec at this hl ⊢
   simp only [laQ, List.length_cons, List.length_nil] at this hl ⊢
   omega)
  have H := qh (anQ hR (anQ hA (anQ hn (anQ cl True.intro))))
  have gw := bfQ (a := (l.length : Int)) (b := 0) (by omega)
  clear hR hA cl hl h0 hn
  go_enter Tryz.func74, Tryz.ntmps74
  go_wp2_with fail
  have K1 := qh (K0.o.push #[.slice aa l.length c] 166)
  refine (zm S lo g 3 (by decide) bs _ K1.o.is K1.o.lo (by have := aj.o.1; omega)).mono ?_
  rintro e w2 ⟨rfl, k⟩
  have K2 := qh (K1.o.step k)
  clear k
  have ag := (K2.o.box _ (.head _)).1.ext (za w2 (.cells (bufC (.slice none 0 0) 0) 314))
  have HB := qh ag
  replace ag := ag.cell
  have da := (K2.o.box _ (.head _)).1
  have HC := qh da
  replace da := da.cell
  clear gw
  go_wp2_with fail
  obtain ⟨n0, dC⟩ := exQ (w2.heap.size)
  have B0 := qh (SB.start K2.o.pop dC)
  rw [dC]
  generalize (w2.alloc (.cells (bufC (.slice none 0 0) 0) 314)) = W3 at *
  refine (zf z7 n0 n0 l.length H.o.2.2.1 [] W3 B0.o.b.is B0.o.b.lo (by simp)).mono ?_
  rintro e w4 ⟨rfl, k⟩
  have B1 := qh (B0.o.step k)
  clear k ag da
  have ag := (HC.o.ext B1.o.x).cell
  go_wp2_with fail
  clear ag
  go_loopw [32] (fun ic w' => ∃ (i : Nat), i ≤ l.length ∧ ic = .int .i64 i ∧ Hd (SB S lo g w w2 (bs ++ [UInt8.ofNat 3]) n0 w' (uleb l.length ++ (l.take i).flatMap wNum) [])) (fun ic _ => l.length - (intOf ic).toNat)
  case atStart => exact ⟨0, nzQ _, rfl, B1.o.eq (by simp)⟩
  case round =>
   obtain ⟨i, hi, rfl, hV⟩ := hrel
   by_cases ah : i < l.length
   ·obtain ⟨b, o, rfl, e0⟩ := ze9 (f := fun x : UInt32 => Value.int .u32 (x.toNat : Int)) (h1 := fun _ => rfl) (hV.o.rd H.o.1 H.o.2.1) i ah
    have aX := qh (yr (f := wNum) ah)
    have ci := qh (show bs.length + ((uleb l.length).length + (((l.take i).flatMap wNum).length + (wNum l[i]).length)) + 100 ≤ 70368744177664 from by have := y9 (f := wNum) ah (Nat.le_refl _); have := aj.o.1; omega)
    have dR := qh (List.getElem_mem ah)
    generalize l[i] = x at *
    have sX := x.toNat_lt
    have iq := qh (show wNum x = uleb x.toNat from rfl)
    generalize wNum x = q at *
    generalize x.toNat = nx at *
    go_wp2_with fail
    refine (zf z7 n0 n0 nx (by omega) _ wr hV.o.b.is hV.o.b.lo (by have := aj.o; have := ci.o; have := iq.o; subst this; simp only [laQ, List.length_cons, List.length_nil] at this ⊢; omega)).mono ?_
    rintro e w5 ⟨rfl, k⟩
    rw [← iq.o] at k
    have K9 := qh ((hV.o.step k).eq (pre' := uleb l.length ++ (l.take (i + 1)).flatMap wNum) (by rw [aX.o]; simp only [List.append_assoc]))
    clear k
    go_wp2
    go_roundw
    case rel => exact ⟨i + 1, by omega, by go_num, K9⟩
    case measure => simp [intOf]; omega
   ·obtain rfl : i = l.length := by omega
    have ai := hV.o
    rw [tlQ] at ai
    have ai := qh ai
    go_wp2_with fail
    refine (ai.o.raw H.o.2.2.2.1 (by have := aj.o.2; unfold wVec at this; simp only [laQ, List.length_cons, List.length_nil] at this ⊢; omega)).mono ?_
    rintro e w5 ⟨rfl, k⟩
    have k := qh k
    go_wp2
    go_ret
    exact ⟨rfl, k.o.eq (by rw [hw.o, List.append_assoc]; rfl)⟩
theorem ZG (S : Sink) (lo g : Nat) (l : List Lim) (aa : Option Addr) (m c : Nat) (A : Nat → Prop) (bs : List UInt8) (w : World) (hS : S.is lo g bs w) (hR : Lay.wtab.slice.rd A w [.slice aa m c] l) (hA : Away S.toHold g w A) (ap : lo ≤ w.heap.size) (hn : l.length < 4294967296) (cl : (wVec wTab l).length < 4294967296) (hl : bs.length + (zD 4 wTab l).length + 100 ≤ 70368744177664) :
 Calls Tryz.prog 75 #[.iface S.T (.pointer (some ⟨g, 0, none⟩)), .agg #[.slice aa m c]] w fun e w' => e = .returned .nilIface ∧ Wrote S.toHold lo g w (bs ++ zD 4 wTab l) w' := by
 obtain ⟨a', c', e, ce, bh⟩ := Lay.slice_form hR
 obtain ⟨rfl, rfl, rfl⟩ : aa = a' ∧ m = l.length ∧ c = c' := by simpa using e
 have ao : (l.length : Int) ≤ 9223372036854775807 := by simp only [maxLen] at bh; omega
 obtain ⟨dN, dQ⟩ := jd hn
 have K0 := qh (WK.start hS ap)
 clear ce bh e hS ap
 by_cases h0 : l.length = 0
 ·have hw := qh (jy (id := 4) (f := wTab) h0)
  have K1 := qh (K0.o.push #[.slice aa 0 c] 169)
  rw [h0]
  clear hR h0 ao dN dQ
  go_enter Tryz.func75, Tryz.ntmps75
  go_wp2
  go_ret
  exact ⟨rfl, K1.o.wr.eq (by rw [hw.o, List.append_nil])⟩
 ·have hw := qh (y0 (id := 4) (f := wTab) h0)
  have aj := qh (show bs.length + ((uleb l.length).length + (l.flatMap wTab).length) + 100 ≤ 70368744177664 ∧ bs.length + (zq (wVec wTab l)).length + 100 ≤ 70368744177664 from by
   rw [hw.o] at hl
   have : (wVec wTab l).length ≤ (zq (wVec wTab l)).length := by unfold zq; rw [laQ]; omega
   unfold wVec at this hl ⊢
   simp only [laQ, List.length_cons, List.length_nil] at this hl ⊢
   omega)
  have H := qh (anQ hR (anQ hA (anQ hn (anQ cl True.intro))))
  have gw := bfQ (a := (l.length : Int)) (b := 0) (by omega)
  clear hR hA cl hl h0 hn
  go_enter Tryz.func75, Tryz.ntmps75
  go_wp2_with fail
  have K1 := qh (K0.o.push #[.slice aa l.length c] 169)
  refine (zm S lo g 4 (by decide) bs _ K1.o.is K1.o.lo (by have := aj.o.1; omega)).mono ?_
  rintro e w2 ⟨rfl, k⟩
  have K2 := qh (K1.o.step k)
  clear k
  have ag := (K2.o.box _ (.head _)).1.ext (za w2 (.cells (bufC (.slice none 0 0) 0) 314))
  have HB := qh ag
  replace ag := ag.cell
  have da := (K2.o.box _ (.head _)).1
  have HC := qh da
  replace da := da.cell
  clear gw
  go_wp2_with fail
  obtain ⟨n0, dC⟩ := exQ (w2.heap.size)
  have B0 := qh (SB.start K2.o.pop dC)
  rw [dC]
  generalize (w2.alloc (.cells (bufC (.slice none 0 0) 0) 314)) = W3 at *
  refine (zf z7 n0 n0 l.length H.o.2.2.1 [] W3 B0.o.b.is B0.o.b.lo (by simp)).mono ?_
  rintro e w4 ⟨rfl, k⟩
  have B1 := qh (B0.o.step k)
  clear k ag da
  have ag := (HC.o.ext B1.o.x).cell
  go_wp2_with fail
  clear ag
  go_loopw [33] (fun i9 w' => ∃ (i : Nat), i ≤ l.length ∧ i9 = .int .i64 i ∧ Hd (SB S lo g w w2 (bs ++ [UInt8.ofNat 4]) n0 w' (uleb l.length ++ (l.take i).flatMap wTab) [])) (fun i9 _ => l.length - (intOf i9).toNat)
  case atStart => exact ⟨0, nzQ _, rfl, B1.o.eq (by simp)⟩
  case round =>
   obtain ⟨i, hi, rfl, hV⟩ := hrel
   by_cases ah : i < l.length
   ·obtain ⟨b, o, q, rfl, e0, e1, e2, r0⟩ := Lay.wtab_at (hV.o.rd H.o.1 H.o.2.1) i ah
    have aX := qh (yr (f := wTab) ah)
    have ci := qh (show bs.length + ((uleb l.length).length + (((l.take i).flatMap wTab).length + (wTab l[i]).length)) + 100 ≤ 70368744177664 from by have := y9 (f := wTab) ah (Nat.le_refl _); have := aj.o.1; omega)
    have dR := qh (List.getElem_mem ah)
    generalize l[i] = x at *
    have r0 := qh r0
    go_wp2_with fail
    have K3 := qh (hV.o.push #[.int .i64 0, .int .u32 (x.min.toNat : Int), .pointer q] 208)
    refine (zm z7 n0 n0 112 (by decide) _ _ K3.o.b.is K3.o.b.lo (by have := aj.o; have := ci.o; simp only [laQ, List.length_cons, List.length_nil] at this ⊢; omega)).mono ?_
    rintro e w5 ⟨rfl, k⟩
    have K4 := qh (K3.o.step k)
    clear k e0 e1 e2
    have ag := K4.o.box0
    go_wp2_with fail
    refine (jk z7 n0 n0 x q A _ w5 K4.o.b.is (hV.o.rd2 K4.o H.o.2.1 r0.o) (K4.o.away H.o.2.1) K4.o.b.lo (by have := aj.o; have := ci.o; simp only [laQ, List.length_cons, List.length_nil] at this ⊢; omega)).mono ?_
    rintro e w6 ⟨rfl, k⟩
    have K9 := qh ((K4.o.step k).pop.eq (pre' := uleb l.length ++ (l.take (i + 1)).flatMap wTab) (by rw [aX.o, show wTab x = [UInt8.ofNat 112] ++ wLim x from rfl]; simp only [List.append_assoc]))
    clear k ag
    go_wp2
    go_roundw
    case rel => exact ⟨i + 1, by omega, by go_num, K9⟩
    case measure => simp [intOf]; omega
   ·obtain rfl : i = l.length := by omega
    have ai := hV.o
    rw [tlQ] at ai
    have ai := qh ai
    go_wp2_with fail
    refine (ai.o.raw H.o.2.2.2.1 (by have := aj.o.2; unfold wVec at this; simp only [laQ, List.length_cons, List.length_nil] at this ⊢; omega)).mono ?_
    rintro e w5 ⟨rfl, k⟩
    have k := qh k
    go_wp2
    go_ret
    exact ⟨rfl, k.o.eq (by rw [hw.o, List.append_assoc]; rfl)⟩
theorem Zn (S : Sink) (lo g : Nat) (l : List Lim) (aa : Option Addr) (m c : Nat) (A : Nat → Prop) (bs : List UInt8) (w : World) (hS : S.is lo g bs w) (hR : Lay.wlim.slice.rd A w [.slice aa m c] l) (hA : Away S.toHold g w A) (ap : lo ≤ w.heap.size) (hn : l.length < 4294967296) (cl : (wVec wLim l).length < 4294967296) (hl : bs.length + (zD 5 wLim l).length + 100 ≤ 70368744177664) :
 Calls Tryz.prog 76 #[.iface S.T (.pointer (some ⟨g, 0, none⟩)), .agg #[.slice aa m c]] w fun e w' => e = .returned .nilIface ∧ Wrote S.toHold lo g w (bs ++ zD 5 wLim l) w' := by
 obtain ⟨a', c', e, ce, bh⟩ := Lay.slice_form hR
 obtain ⟨rfl, rfl, rfl⟩ : aa = a' ∧ m = l.length ∧ c = c' := by simpa using e
 have ao : (l.length : Int) ≤ 9223372036854775807 := by simp only [maxLen] at bh; omega
 obtain ⟨dN, dQ⟩ := jd hn
 have K0 := qh (WK.start hS ap)
 clear ce bh e hS ap
 by_cases h0 : l.length = 0
 ·have hw := qh (jy (id := 5) (f := wLim) h0)
  have K1 := qh (K0.o.push #[.slice aa 0 c] 172)
  rw [h0]
  clear hR h0 ao dN dQ
  go_enter Tryz.func76, Tryz.ntmps76
  go_wp2
  go_ret
  exact ⟨rfl, K1.o.wr.eq (by rw [hw.o, List.append_nil])⟩
 ·have hw := qh (y0 (id := 5) (f := wLim) h0)
  have aj := qh (show bs.length + ((uleb l.length).length + (l.flatMap wLim).length) + 100 ≤ 70368744177664 ∧ bs.length + (zq (wVec wLim l)).length + 100 ≤ 70368744177664 from by
   rw [hw.o] at hl
   have : (wVec wLim l).length ≤ (zq (wVec wLim l)).length := by unfold zq; rw [laQ]; omega
   unfold wVec at this hl ⊢
   simp only [laQ, List.length_cons, List.length_nil] at this hl ⊢
   omega)
  have H := qh (anQ hR (anQ hA (anQ hn (anQ cl True.intro))))
  have gw := bfQ (a := (l.length : Int)) (b := 0) (by omega)
  clear hR hA cl hl h0 hn
  go_enter Tryz.func76, Tryz.ntmps76
  go_wp2_with fail
  have K1 := qh (K0.o.push #[.slice aa l.length c] 172)
  refine (zm S lo g 5 (by decide) bs _ K1.o.is K1.o.lo (by have := aj.o.1; omega)).mono ?_
  rintro e w2 ⟨rfl, k⟩
  have K2 := qh (K1.o.step k)
  clear k
  have ag := (K2.o.box _ (.head _)).1.ext (za w2 (.cells (bufC (.slice none 0 0) 0) 314))
  have HB := qh ag
  replace ag := ag.cell
  have da := (K2.o.box _ (.head _)).1
  have HC := qh da
  replace da := da.cell
  clear gw
  go_wp2_with fail
  obtain ⟨n0, dC⟩ := exQ (w2.heap.size)
  have B0 := qh (SB.start K2.o.pop dC)
  rw [dC]
  generalize (w2.alloc (.cells (bufC (.slice none 0 0) 0) 314)) = W3 at *
  refine (zf z7 n0 n0 l.length H.o.2.2.1 [] W3 B0.o.b.is B0.o.b.lo (by simp)).mono ?_
  rintro e w4 ⟨rfl, k⟩
  have B1 := qh (B0.o.step k)
  clear k ag da
  have ag := (HC.o.ext B1.o.x).cell
  go_wp2_with fail
  clear ag
  go_loopw [32] (fun ic w' => ∃ (i : Nat), i ≤ l.length ∧ ic = .int .i64 i ∧ Hd (SB S lo g w w2 (bs ++ [UInt8.ofNat 5]) n0 w' (uleb l.length ++ (l.take i).flatMap wLim) [])) (fun ic _ => l.length - (intOf ic).toNat)
  case atStart => exact ⟨0, nzQ _, rfl, B1.o.eq (by simp)⟩
  case round =>
   obtain ⟨i, hi, rfl, hV⟩ := hrel
   by_cases ah : i < l.length
   ·obtain ⟨b, o, q, rfl, e0, e1, r0⟩ := Lay.wlim_at (hV.o.rd H.o.1 H.o.2.1) i ah
    have aX := qh (yr (f := wLim) ah)
    have ci := qh (show bs.length + ((uleb l.length).length + (((l.take i).flatMap wLim).length + (wLim l[i]).length)) + 100 ≤ 70368744177664 from by have := y9 (f := wLim) ah (Nat.le_refl _); have := aj.o.1; omega)
    have dR := qh (List.getElem_mem ah)
    generalize l[i] = x at *
    have r0 := qh r0
    go_wp2_with fail
    have K3 := qh (hV.o.push #[.int .u32 (x.min.toNat : Int), .pointer q] 211)
    refine (jk z7 n0 n0 x q A _ _ K3.o.b.is (hV.o.rdx H.o.2.1 (za _ _) r0.o) (K3.o.away H.o.2.1) K3.o.b.lo (by have := aj.o; have := ci.o; simp only [laQ, List.length_cons, List.length_nil] at this ⊢; omega)).mono ?_
    rintro e w5 ⟨rfl, k⟩
    have K9 := qh ((K3.o.step k).pop.eq (pre' := uleb l.length ++ (l.take (i + 1)).flatMap wLim) (by rw [aX.o]; simp only [List.append_assoc]))
    clear k
    go_wp2
    go_roundw
    case rel => exact ⟨i + 1, by omega, by go_num, K9⟩
    case measure => simp [intOf]; omega
   ·obtain rfl : i = l.length := by omega
    have ai := hV.o
    rw [tlQ] at ai
    have ai := qh ai
    go_wp2_with fail
    refine (ai.o.raw H.o.2.2.2.1 (by have := aj.o.2; unfold wVec at this; simp only [laQ, List.length_cons, List.length_nil] at this ⊢; omega)).mono ?_
    rintro e w5 ⟨rfl, k⟩
    have k := qh k
    go_wp2
    go_ret
    exact ⟨rfl, k.o.eq (by rw [hw.o, List.append_assoc]; rfl)⟩
theorem Zo (S : Sink) (nn : Nat) (lo g : Nat) (l : List Glob) (aa : Option Addr) (m c : Nat) (A : Nat → Prop) (bs : List UInt8) (w : World) (hS : S.is lo g bs w) (hR : (Lay.wglob nn).slice.rd A w [.slice aa m c] l) (hA : Away S.toHold g w A) (ap : lo ≤ w.heap.size) (cN : ∀ x ∈ l, vtOk x.ty = true) (bY : ∀ x ∈ l, zaV x.init) (hn : l.length < 4294967296) (cl : (wVec jC l).length < 4294967296) (hl : bs.length + (zD 6 jC l).length + 100 ≤ 70368744177664) :
 Calls Tryz.prog 77 #[.iface S.T (.pointer (some ⟨g, 0, none⟩)), .agg #[.slice aa m c]] w fun e w' => e = .returned .nilIface ∧ Wrote S.toHold lo g w (bs ++ zD 6 jC l) w' := by
 obtain ⟨a', c', e, ce, bh⟩ := Lay.slice_form hR
 obtain ⟨rfl, rfl, rfl⟩ : aa = a' ∧ m = l.length ∧ c = c' := by simpa using e
 have ao : (l.length : Int) ≤ 9223372036854775807 := by simp only [maxLen] at bh; omega
 obtain ⟨dN, dQ⟩ := jd hn
 have K0 := qh (WK.start hS ap)
 clear ce bh e hS ap
 by_cases h0 : l.length = 0
 ·have hw := qh (jy (id := 6) (f := jC) h0)
  have K1 := qh (K0.o.push #[.slice aa 0 c] 178)
  rw [h0]
  clear hR h0 ao dN dQ
  go_enter Tryz.func77, Tryz.ntmps77
  go_wp2
  go_ret
  exact ⟨rfl, K1.o.wr.eq (by rw [hw.o, List.append_nil])⟩
 ·have hw := qh (y0 (id := 6) (f := jC) h0)
  have aj := qh (show bs.length + ((uleb l.length).length + (l.flatMap jC).length) + 100 ≤ 70368744177664 ∧ bs.length + (zq (wVec jC l)).length + 100 ≤ 70368744177664 from by
   rw [hw.o] at hl
   have : (wVec jC l).length ≤ (zq (wVec jC l)).length := by unfold zq; rw [laQ]; omega
   unfold wVec at this hl ⊢
   simp only [laQ, List.length_cons, List.length_nil] at this hl ⊢
   omega)
  have H := qh (anQ hR (anQ hA (anQ hn (anQ cl (anQ cN bY)))))
  have gw := bfQ (a := (l.length : Int)) (b := 0) (by omega)
  clear hR hA cl hl h0 hn cN bY
  go_enter Tryz.func77, Tryz.ntmps77
  go_wp2_with fail
  have K1 := qh (K0.o.push #[.slice aa l.length c] 178)
  refine (zm S lo g 6 (by decide) bs _ K1.o.is K1.o.lo (by have := aj.o.1; omega)).mono ?_
  rintro e w2 ⟨rfl, k⟩
  have K2 := qh (K1.o.step k)
  clear k
  have ag := (K2.o.box _ (.head _)).1.ext (za w2 (.cells (bufC (.slice none 0 0) 0) 314))
  have HB := qh ag
  replace ag := ag.cell
  have da := (K2.o.box _ (.head _)).1
  have HC := qh da
  replace da := da.cell
  clear gw
  go_wp2_with fail
  obtain ⟨n0, dC⟩ := exQ (w2.heap.size)
  have B0 := qh (SB.start K2.o.pop dC)
  rw [dC]
  generalize (w2.alloc (.cells (bufC (.slice none 0 0) 0) 314)) = W3 at *
  refine (zf z7 n0 n0 l.length H.o.2.2.1 [] W3 B0.o.b.is B0.o.b.lo (by simp)).mono ?_
  rintro e w4 ⟨rfl, k⟩
  have B1 := qh (B0.o.step k)
  clear k ag da
  have ag := (HC.o.ext B1.o.x).cell
  go_wp2_with fail
  clear ag
  go_loopw [32] (fun ic w' => ∃ (i : Nat), i ≤ l.length ∧ ic = .int .i64 i ∧ Hd (SB S lo g w w2 (bs ++ [UInt8.ofNat 6]) n0 w' (uleb l.length ++ (l.take i).flatMap jC) [])) (fun ic _ => l.length - (intOf ic).toNat)
  case atStart => exact ⟨0, nzQ _, rfl, B1.o.eq (by simp)⟩
  case round =>
   obtain ⟨i, hi, rfl, hV⟩ := hrel
   by_cases ah : i < l.length
   ·obtain ⟨b, o, a1, c1, rfl, e0, e1, e2, r0⟩ := Lay.wglob_at (hV.o.rd H.o.1 H.o.2.1) i ah
    have aX := qh (yr (f := jC) ah)
    have ci := qh (show bs.length + ((uleb l.length).length + (((l.take i).flatMap jC).length + (jC l[i]).length)) + 100 ≤ 70368744177664 from by have := y9 (f := jC) ah (Nat.le_refl _); have := aj.o.1; omega)
    have dR := qh (List.getElem_mem ah)
    generalize l[i] = x at *
    have r0 := qh r0
    go_wp2_with fail
    have K3 := qh (hV.o.push #[.int .i64 x.ty, .bool x.mtb, .slice a1 x.init.length c1] 220)
    refine (Y8 z7 nn n0 n0 x a1 c1 A _ _ K3.o.b.is (hV.o.rdx H.o.2.1 (za _ _) r0.o) (K3.o.away H.o.2.1) K3.o.b.lo (H.o.2.2.2.2.1 x dR.o) (H.o.2.2.2.2.2 x dR.o) (by have := aj.o; have := ci.o; simp only [laQ, List.length_cons, List.length_nil] at this ⊢; omega)).mono ?_
    rintro e w5 ⟨rfl, k⟩
    have K9 := qh ((K3.o.step k).pop.eq (pre' := uleb l.length ++ (l.take (i + 1)).flatMap jC) (by rw [aX.o]; simp only [List.append_assoc]))
    clear k
    go_wp2
    go_roundw
    case rel => exact ⟨i + 1, by omega, by go_num, K9⟩
    case measure => simp [intOf]; omega
   ·obtain rfl : i = l.length := by omega
    have ai := hV.o
    rw [tlQ] at ai
    have ai := qh ai
    go_wp2_with fail
    refine (ai.o.raw H.o.2.2.2.1 (by have := aj.o.2; unfold wVec at this; simp only [laQ, List.length_cons, List.length_nil] at this ⊢; omega)).mono ?_
    rintro e w5 ⟨rfl, k⟩
    have k := qh k
    go_wp2
    go_ret
    exact ⟨rfl, k.o.eq (by rw [hw.o, List.append_assoc]; rfl)⟩
theorem J5 (S : Sink) (nn : Nat) (lo g : Nat) (l : List Elem) (aa : Option Addr) (m c : Nat) (A : Nat → Prop) (bs : List UInt8) (w : World) (hS : S.is lo g bs w) (hR : (Lay.welem nn).slice.rd A w [.slice aa m c] l) (hA : Away S.toHold g w A) (ap : lo ≤ w.heap.size) (cN : ∀ x ∈ l, zaV x.off) (bY : ∀ x ∈ l, x.ids.length < 4294967296) (hn : l.length < 4294967296) (cl : (wVec jT l).length < 4294967296) (hl : bs.length + (zD 9 jT l).length + 100 ≤ 70368744177664) :
 Calls Tryz.prog 80 #[.iface S.T (.pointer (some ⟨g, 0, none⟩)), .agg #[.slice aa m c]] w fun e w' => e = .returned .nilIface ∧ Wrote S.toHold lo g w (bs ++ zD 9 jT l) w' := by
 obtain ⟨a', c', e, ce, bh⟩ := Lay.slice_form hR
 obtain ⟨rfl, rfl, rfl⟩ : aa = a' ∧ m = l.length ∧ c = c' := by simpa using e
 have ao : (l.length : Int) ≤ 9223372036854775807 := by simp only [maxLen] at bh; omega
 obtain ⟨dN, dQ⟩ := jd hn
 have K0 := qh (WK.start hS ap)
 clear ce bh e hS ap
 by_cases h0 : l.length = 0
 ·have hw := qh (jy (id := 9) (f := jT) h0)
  have K1 := qh (K0.o.push #[.slice aa 0 c] 175)
  rw [h0]
  clear hR h0 ao dN dQ
  go_enter Tryz.func80, Tryz.ntmps80
  go_wp2
  go_ret
  exact ⟨rfl, K1.o.wr.eq (by rw [hw.o, List.append_nil])⟩
 ·have hw := qh (y0 (id := 9) (f := jT) h0)
  have aj := qh (show bs.length + ((uleb l.length).length + (l.flatMap jT).length) + 100 ≤ 70368744177664 ∧ bs.length + (zq (wVec jT l)).length + 100 ≤ 70368744177664 from by
   rw [hw.o] at hl
   have : (wVec jT l).length ≤ (zq (wVec jT l)).length := by unfold zq; rw [laQ]; omega
   unfold wVec at this hl ⊢
   simp only [laQ, List.length_cons, List.length_nil] at this hl ⊢
   omega)
  have H := qh (anQ hR (anQ hA (anQ hn (anQ cl (anQ cN bY)))))
  have gw := bfQ (a := (l.length : Int)) (b := 0) (by omega)
  clear hR hA cl hl h0 hn cN bY
  go_enter Tryz.func80, Tryz.ntmps80
  go_wp2_with fail
  have K1 := qh (K0.o.push #[.slice aa l.length c] 175)
  refine (zm S lo g 9 (by decide) bs _ K1.o.is K1.o.lo (by have := aj.o.1; omega)).mono ?_
  rintro e w2 ⟨rfl, k⟩
  have K2 := qh (K1.o.step k)
  clear k
  have ag := (K2.o.box _ (.head _)).1.ext (za w2 (.cells (bufC (.slice none 0 0) 0) 314))
  have HB := qh ag
  replace ag := ag.cell
  have da := (K2.o.box _ (.head _)).1
  have HC := qh da
  replace da := da.cell
  clear gw
  go_wp2_with fail
  obtain ⟨n0, dC⟩ := exQ (w2.heap.size)
  have B0 := qh (SB.start K2.o.pop dC)
  rw [dC]
  generalize (w2.alloc (.cells (bufC (.slice none 0 0) 0) 314)) = W3 at *
  refine (zf z7 n0 n0 l.length H.o.2.2.1 [] W3 B0.o.b.is B0.o.b.lo (by simp)).mono ?_
  rintro e w4 ⟨rfl, k⟩
  have B1 := qh (B0.o.step k)
  clear k ag da
  have ag := (HC.o.ext B1.o.x).cell
  go_wp2_with fail
  clear ag
  go_loopw [34] (fun mK w' => ∃ (i : Nat), i ≤ l.length ∧ mK = .int .i64 i ∧ Hd (SB S lo g w w2 (bs ++ [UInt8.ofNat 9]) n0 w' (uleb l.length ++ (l.take i).flatMap jT) [])) (fun mK _ => l.length - (intOf mK).toNat)
  case atStart => exact ⟨0, nzQ _, rfl, B1.o.eq (by simp)⟩
  case round =>
   obtain ⟨i, hi, rfl, hV⟩ := hrel
   by_cases ah : i < l.length
   ·obtain ⟨b, o, a1, c1, a2, c2, rfl, e0, e1, e2, r0, r1⟩ := Lay.welem_at (hV.o.rd H.o.1 H.o.2.1) i ah
    have aX := qh (yr (f := jT) ah)
    have ci := qh (show bs.length + ((uleb l.length).length + (((l.take i).flatMap jT).length + (jT l[i]).length)) + 100 ≤ 70368744177664 from by have := y9 (f := jT) ah (Nat.le_refl _); have := aj.o.1; omega)
    have dR := qh (List.getElem_mem ah)
    generalize l[i] = x at *
    have r0 := qh r0
    have r1 := qh r1
    have nP := x.index.toNat_lt
    have iq := qh (show jT x = uleb x.index.toNat ++ (jJ x.off ++ [11] ++ wVec wNum x.ids) from rfl)
    generalize hX : jT x = X at *
    generalize x.index.toNat = nx at *
    have ci := qh (show bs.length + ((uleb l.length).length + (((l.take i).flatMap jT).length + ((uleb nx).length + ((jJ x.off).length + 1 + (wVec wNum x.ids).length)))) + 100 ≤ 70368744177664 from by have := ci.o; rw [iq.o] at this; simp only [laQ, List.length_cons, List.length_nil] at this; omega)
    go_wp2_with fail
    have K3 := qh (hV.o.push #[.int .u32 (nx : Int), .slice a1 x.off.length c1, .slice a2 x.ids.length c2] 216)
    refine (zf z7 n0 n0 nx (by omega) _ _ K3.o.b.is K3.o.b.lo (by have := aj.o; have := ci.o; simp only [laQ, List.length_cons, List.length_nil] at this ⊢; omega)).mono ?_
    rintro e w4 ⟨rfl, k⟩
    have K4 := qh (K3.o.step k)
    clear k e0 e1 e2
    have ag := K4.o.box0
    go_wp2_with fail
    refine (yX z7 nn x.off n0 n0 a1 _ c1 A _ w4 K4.o.b.is (hV.o.rd2 K4.o H.o.2.1 r0.o) (K4.o.away H.o.2.1) K4.o.b.lo (H.o.2.2.2.2.1 x dR.o) (by have := aj.o; have := ci.o; simp only [laQ, List.length_cons, List.length_nil] at this ⊢; omega)).mono ?_
    rintro e w5 ⟨rfl, k⟩
    have K5 := qh (K4.o.step k)
    clear k ag
    have ag := K5.o.box0
    go_wp2_with fail
    refine (JP z7 n0 n0 x.ids a2 _ c2 A _ w5 K5.o.b.is (hV.o.rd2 K5.o H.o.2.1 r1.o) (K5.o.away H.o.2.1) K5.o.b.lo (H.o.2.2.2.2.2 x dR.o) (by have := aj.o; have := ci.o; simp only [laQ, List.length_cons, List.length_nil] at this ⊢; omega)).mono ?_
    rintro e w9 ⟨rfl, k⟩
    have K9 := qh ((K5.o.step k).pop.eq (pre' := uleb l.length ++ (l.take (i + 1)).flatMap jT) (by rw [aX.o, iq.o]; simp only [List.append_assoc]))
    clear k ag
    go_wp2
    go_roundw
    case rel => exact ⟨i + 1, by omega, by go_num, K9⟩
    case measure => simp [intOf]; omega
   ·obtain rfl : i = l.length := by omega
    have ai := hV.o
    rw [tlQ] at ai
    have ai := qh ai
    go_wp2_with fail
    refine (ai.o.raw H.o.2.2.2.1 (by have := aj.o.2; unfold wVec at this; simp only [laQ, List.length_cons, List.length_nil] at this ⊢; omega)).mono ?_
    rintro e w5 ⟨rfl, k⟩
    have k := qh k
    go_wp2
    go_ret
    exact ⟨rfl, k.o.eq (by rw [hw.o, List.append_assoc]; rfl)⟩
theorem ZT (S : Sink) (nn : Nat) (lo g : Nat) (l : List Dat) (aa : Option Addr) (m c : Nat) (A : Nat → Prop) (bs : List UInt8) (w : World) (hS : S.is lo g bs w) (hR : (Lay.wdat nn).slice.rd A w [.slice aa m c] l) (hA : Away S.toHold g w A) (ap : lo ≤ w.heap.size) (cN : ∀ x ∈ l, zaV x.off) (bY : ∀ x ∈ l, x.init.length < 4294967296) (hn : l.length < 4294967296) (cl : (wVec wDat l).length < 4294967296) (hl : bs.length + (zD 11 wDat l).length + 100 ≤ 70368744177664) :
 Calls Tryz.prog 82 #[.iface S.T (.pointer (some ⟨g, 0, none⟩)), .agg #[.slice aa m c]] w fun e w' => e = .returned .nilIface ∧ Wrote S.toHold lo g w (bs ++ zD 11 wDat l) w' := by
 obtain ⟨a', c', e, ce, bh⟩ := Lay.slice_form hR
 obtain ⟨rfl, rfl, rfl⟩ : aa = a' ∧ m = l.length ∧ c = c' := by simpa using e
 have ao : (l.length : Int) ≤ 9223372036854775807 := by simp only [maxLen] at bh; omega
 obtain ⟨dN, dQ⟩ := jd hn
 have K0 := qh (WK.start hS ap)
 clear ce bh e hS ap
 by_cases h0 : l.length = 0
 ·have hw := qh (jy (id := 11) (f := wDat) h0)
  have K1 := qh (K0.o.push #[.slice aa 0 c] 187)
  rw [h0]
  clear hR h0 ao dN dQ
  go_enter Tryz.func82, Tryz.ntmps82
  go_wp2
  go_ret
  exact ⟨rfl, K1.o.wr.eq (by rw [hw.o, List.append_nil])⟩
 ·have hw := qh (y0 (id := 11) (f := wDat) h0)
  have aj := qh (show bs.length + ((uleb l.length).length + (l.flatMap wDat).length) + 100 ≤ 70368744177664 ∧ bs.length + (zq (wVec wDat l)).length + 100 ≤ 70368744177664 from by
   rw [hw.o] at hl
   have : (wVec wDat l).length ≤ (zq (wVec wDat l)).length := by unfold zq; rw [laQ]; omega
   unfold wVec at this hl ⊢
   simp only [laQ, List.length_cons, List.length_nil] at this hl ⊢
   omega)
  have H := qh (anQ hR (anQ hA (anQ hn (anQ cl (anQ cN bY)))))
  have gw := bfQ (a := (l.length : Int)) (b := 0) (by omega)
  clear hR hA cl hl h0 hn cN bY
  go_enter Tryz.func82, Tryz.ntmps82
  go_wp2_with fail
  have K1 := qh (K0.o.push #[.slice aa l.length c] 187)
  refine (zm S lo g 11 (by decide) bs _ K1.o.is K1.o.lo (by have := aj.o.1; omega)).mono ?_
  rintro e w2 ⟨rfl, k⟩
  have K2 := qh (K1.o.step k)
  clear k
  have ag := (K2.o.box _ (.head _)).1.ext (za w2 (.cells (bufC (.slice none 0 0) 0) 314))
  have HB := qh ag
  replace ag := ag.cell
  have da := (K2.o.box _ (.head _)).1
  have HC := qh da
  replace da := da.cell
  clear gw
  go_wp2_with fail
  obtain ⟨n0, dC⟩ := exQ (w2.heap.size)
  have B0 := qh (SB.start K2.o.pop dC)
  rw [dC]
  generalize (w2.alloc (.cells (bufC (.slice none 0 0) 0) 314)) = W3 at *
  refine (zf z7 n0 n0 l.length H.o.2.2.1 [] W3 B0.o.b.is B0.o.b.lo (by simp)).mono ?_
  rintro e w4 ⟨rfl, k⟩
  have B1 := qh (B0.o.step k)
  clear k ag da
  have ag := (HC.o.ext B1.o.x).cell
  go_wp2_with fail
  clear ag
  go_loopw [34] (fun mK w' => ∃ (i : Nat), i ≤ l.length ∧ mK = .int .i64 i ∧ Hd (SB S lo g w w2 (bs ++ [UInt8.ofNat 11]) n0 w' (uleb l.length ++ (l.take i).flatMap wDat) [])) (fun mK _ => l.length - (intOf mK).toNat)
  case atStart => exact ⟨0, nzQ _, rfl, B1.o.eq (by simp)⟩
  case round =>
   obtain ⟨i, hi, rfl, hV⟩ := hrel
   by_cases ah : i < l.length
   ·obtain ⟨b, o, a1, c1, a2, c2, rfl, e0, e1, e2, r0, r1⟩ := Lay.wdat_at (hV.o.rd H.o.1 H.o.2.1) i ah
    have aX := qh (yr (f := wDat) ah)
    have ci := qh (show bs.length + ((uleb l.length).length + (((l.take i).flatMap wDat).length + (wDat l[i]).length)) + 100 ≤ 70368744177664 from by have := y9 (f := wDat) ah (Nat.le_refl _); have := aj.o.1; omega)
    have dR := qh (List.getElem_mem ah)
    generalize l[i] = x at *
    have r0 := qh r0
    have r1 := qh r1
    have nP := x.index.toNat_lt
    have iq := qh (show wDat x = uleb x.index.toNat ++ (jJ x.off ++ [11] ++ zq x.init) from rfl)
    generalize hX : wDat x = X at *
    generalize x.index.toNat = nx at *
    have ci := qh (show bs.length + ((uleb l.length).length + (((l.take i).flatMap wDat).length + ((uleb nx).length + ((jJ x.off).length + 1 + (zq x.init).length)))) + 100 ≤ 70368744177664 from by have := ci.o; rw [iq.o] at this; simp only [laQ, List.length_cons, List.length_nil] at this; omega)
    go_wp2_with fail
    have K3 := qh (hV.o.push #[.int .u32 (nx : Int), .slice a1 x.off.length c1, .slice a2 x.init.length c2] 229)
    refine (zf z7 n0 n0 nx (by omega) _ _ K3.o.b.is K3.o.b.lo (by have := aj.o; have := ci.o; simp only [laQ, List.length_cons, List.length_nil] at this ⊢; omega)).mono ?_
    rintro e w4 ⟨rfl, k⟩
    have K4 := qh (K3.o.step k)
    clear k e0 e1 e2
    have ag := K4.o.box0
    go_wp2_with fail
    refine (yX z7 nn x.off n0 n0 a1 _ c1 A _ w4 K4.o.b.is (hV.o.rd2 K4.o H.o.2.1 r0.o) (K4.o.away H.o.2.1) K4.o.b.lo (H.o.2.2.2.2.1 x dR.o) (by have := aj.o; have := ci.o; simp only [laQ, List.length_cons, List.length_nil] at this ⊢; omega)).mono ?_
    rintro e w5 ⟨rfl, k⟩
    have K5 := qh (K4.o.step k)
    clear k ag
    have ag := K5.o.box0
    go_wp2_with fail
    refine (je z7 n0 n0 x.init a2 _ c2 A _ w5 K5.o.b.is (hV.o.rd2 K5.o H.o.2.1 r1.o) (K5.o.away H.o.2.1) K5.o.b.lo (H.o.2.2.2.2.2 x dR.o) (by have := aj.o; have := ci.o; simp only [laQ, List.length_cons, List.length_nil] at this ⊢; omega)).mono ?_
    rintro e w9 ⟨rfl, k⟩
    have K9 := qh ((K5.o.step k).pop.eq (pre' := uleb l.length ++ (l.take (i + 1)).flatMap wDat) (by rw [aX.o, iq.o]; simp only [List.append_assoc]))
    clear k ag
    go_wp2
    go_roundw
    case rel => exact ⟨i + 1, by omega, by go_num, K9⟩
    case measure => simp [intOf]; omega
   ·obtain rfl : i = l.length := by omega
    have ai := hV.o
    rw [tlQ] at ai
    have ai := qh ai
    go_wp2_with fail
    refine (ai.o.raw H.o.2.2.2.1 (by have := aj.o.2; unfold wVec at this; simp only [laQ, List.length_cons, List.length_nil] at this ⊢; omega)).mono ?_
    rintro e w5 ⟨rfl, k⟩
    have k := qh k
    go_wp2
    go_ret
    exact ⟨rfl, k.o.eq (by rw [hw.o, List.append_assoc]; rfl)⟩
theorem J6 (S : Sink) (lo g : Nat) (l : List (List UInt8)) (aa : Option Addr) (m c : Nat) (A : Nat → Prop) (bs : List UInt8) (w : World) (hS : S.is lo g bs w) (hR : Lay.wraw.slice.rd A w [.slice aa m c] l) (hA : Away S.toHold g w A) (ap : lo ≤ w.heap.size) (cN : ∀ x ∈ l, x.length < 4294967296) (hn : l.length < 4294967296) (cl : (wVec zq l).length < 4294967296) (hl : bs.length + (zD 10 zq l).length + 100 ≤ 70368744177664) :
 Calls Tryz.prog 81 #[.iface S.T (.pointer (some ⟨g, 0, none⟩)), .agg #[.slice aa m c]] w fun e w' => e = .returned .nilIface ∧ Wrote S.toHold lo g w (bs ++ zD 10 zq l) w' := by
 obtain ⟨a', c', e, ce, bh⟩ := Lay.slice_form hR
 obtain ⟨rfl, rfl, rfl⟩ : aa = a' ∧ m = l.length ∧ c = c' := by simpa using e
 have ao : (l.length : Int) ≤ 9223372036854775807 := by simp only [maxLen] at bh; omega
 obtain ⟨dN, dQ⟩ := jd hn
 have K0 := qh (WK.start hS ap)
 clear ce bh e hS ap
 by_cases h0 : l.length = 0
 ·have hw := qh (jy (id := 10) (f := zq) h0)
  have K1 := qh (K0.o.push #[.slice aa 0 c] 184)
  rw [h0]
  clear hR h0 ao dN dQ
  go_enter Tryz.func81, Tryz.ntmps81
  go_wp2
  go_ret
  exact ⟨rfl, K1.o.wr.eq (by rw [hw.o, List.append_nil])⟩
 ·have hw := qh (y0 (id := 10) (f := zq) h0)
  have aj := qh (show bs.length + ((uleb l.length).length + (l.flatMap zq).length) + 100 ≤ 70368744177664 ∧ bs.length + (zq (wVec zq l)).length + 100 ≤ 70368744177664 from by
   rw [hw.o] at hl
   have : (wVec zq l).length ≤ (zq (wVec zq l)).length := by unfold zq; rw [laQ]; omega
   unfold wVec at this hl ⊢
   simp only [laQ, List.length_cons, List.length_nil] at this hl ⊢
   omega)
  have H := qh (anQ hR (anQ hA (anQ hn (anQ cl cN))))
  have gw := bfQ (a := (l.length : Int)) (b := 0) (by omega)
  clear hR hA cl hl h0 hn cN
  go_enter Tryz.func81, Tryz.ntmps81
  go_wp2_with fail
  have K1 := qh (K0.o.push #[.slice aa l.length c] 184)
  refine (zm S lo g 10 (by decide) bs _ K1.o.is K1.o.lo (by have := aj.o.1; omega)).mono ?_
  rintro e w2 ⟨rfl, k⟩
  have K2 := qh (K1.o.step k)
  clear k
  have ag := (K2.o.box _ (.head _)).1.ext (za w2 (.cells (bufC (.slice none 0 0) 0) 314))
  have HB := qh ag
  replace ag := ag.cell
  have da := (K2.o.box _ (.head _)).1
  have HC := qh da
  replace da := da.cell
  clear gw
  go_wp2_with fail
  obtain ⟨n0, dC⟩ := exQ (w2.heap.size)
  have B0 := qh (SB.start K2.o.pop dC)
  rw [dC]
  generalize (w2.alloc (.cells (bufC (.slice none 0 0) 0) 314)) = W3 at *
  refine (zf z7 n0 n0 l.length H.o.2.2.1 [] W3 B0.o.b.is B0.o.b.lo (by simp)).mono ?_
  rintro e w4 ⟨rfl, k⟩
  have B1 := qh (B0.o.step k)
  clear k ag da
  have ag := (HC.o.ext B1.o.x).cell
  go_wp2_with fail
  clear ag
  go_loopw [34] (fun mK w' => ∃ (i : Nat), i ≤ l.length ∧ mK = .int .i64 i ∧ Hd (SB S lo g w w2 (bs ++ [UInt8.ofNat 10]) n0 w' (uleb l.length ++ (l.take i).flatMap zq) [])) (fun mK _ => l.length - (intOf mK).toNat)
  case atStart => exact ⟨0, nzQ _, rfl, B1.o.eq (by simp)⟩
  case round =>
   obtain ⟨i, hi, rfl, hV⟩ := hrel
   by_cases ah : i < l.length
   ·obtain ⟨b, o, a1, c1, rfl, e0, r0⟩ := Lay.wraw_at (hV.o.rd H.o.1 H.o.2.1) i ah
    have aX := qh (yr (f := zq) ah)
    have ci := qh (show bs.length + ((uleb l.length).length + (((l.take i).flatMap zq).length + (zq l[i]).length)) + 100 ≤ 70368744177664 from by have := y9 (f := zq) ah (Nat.le_refl _); have := aj.o.1; omega)
    have dR := qh (List.getElem_mem ah)
    generalize l[i] = x at *
    have r0 := qh r0
    have fd := H.o.2.2.2.2 x dR.o
    obtain ⟨dH, lT⟩ := jd fd
    have ci := qh (show bs.length + ((uleb l.length).length + (((l.take i).flatMap zq).length + ((uleb x.length).length + x.length))) + 100 ≤ 70368744177664 from by have := ci.o; rw [show (zq x).length = (uleb x.length).length + x.length from by unfold zq; rw [laQ]] at this; omega)
    go_wp2_with fail
    have K3 := qh (hV.o.push #[.slice a1 x.length c1] 227)
    refine (zf z7 n0 n0 x.length fd _ _ K3.o.b.is K3.o.b.lo (by have := aj.o; have := ci.o; simp only [laQ, List.length_cons, List.length_nil] at this ⊢; omega)).mono ?_
    rintro e w4 ⟨rfl, k⟩
    have K4 := qh (K3.o.step k)
    clear k e0
    have ag := K4.o.box0
    go_wp2_with fail
    refine (Yj n0 n0 _ x w4 A a1 _ c1 K4.o.b.is (hV.o.rd2 K4.o H.o.2.1 r0.o) K4.o.b.lo (by have := aj.o; have := ci.o; simp only [laQ, List.length_cons, List.length_nil] at this ⊢; omega)).mono ?_
    rintro e w9 ⟨rfl, k1, k2, k3⟩
    have k : Wrote z7.toHold n0 n0 w4 _ w9 := ⟨k1, k2, k3⟩
    have K9 := qh ((K4.o.step k).pop.eq (pre' := uleb l.length ++ (l.take (i + 1)).flatMap zq) (by rw [aX.o, show zq x = uleb x.length ++ x from rfl]; simp only [List.append_assoc]))
    clear k k1 k2 k3 ag
    go_wp2
    go_roundw
    case rel => exact ⟨i + 1, by omega, by go_num, K9⟩
    case measure => simp [intOf]; omega
   ·obtain rfl : i = l.length := by omega
    have ai := hV.o
    rw [tlQ] at ai
    have ai := qh ai
    go_wp2_with fail
    refine (ai.o.raw H.o.2.2.2.1 (by have := aj.o.2; unfold wVec at this; simp only [laQ, List.length_cons, List.length_nil] at this ⊢; omega)).mono ?_
    rintro e w5 ⟨rfl, k⟩
    have k := qh k
    go_wp2
    go_ret
    exact ⟨rfl, k.o.eq (by rw [hw.o, List.append_assoc]; rfl)⟩
theorem Zp (S : Sink) (lo g : Nat) (l : List Expo) (aa : Option Addr) (m c : Nat) (A : Nat → Prop) (bs : List UInt8) (w : World) (hS : S.is lo g bs w) (hR : Lay.expo.slice.rd A w [.slice aa m c] l) (hA : Away S.toHold g w A) (ap : lo ≤ w.heap.size) (cN : ∀ x ∈ l, (0 ≤ x.kind ∧ x.kind ≤ 3) ∧ x.name.length < 4294967296) (hn : l.length < 4294967296) (cl : (wVec jS l).length < 4294967296) (hl : bs.length + (zD 7 jS l).length + 100 ≤ 70368744177664) :
 Calls Tryz.prog 78 #[.iface S.T (.pointer (some ⟨g, 0, none⟩)), .agg #[.slice aa m c]] w fun e w' => e = .returned .nilIface ∧ Wrote S.toHold lo g w (bs ++ zD 7 jS l) w' := by
 obtain ⟨a', c', e, ce, bh⟩ := Lay.slice_form hR
 obtain ⟨rfl, rfl, rfl⟩ : aa = a' ∧ m = l.length ∧ c = c' := by simpa using e
 have ao : (l.length : Int) ≤ 9223372036854775807 := by simp only [maxLen] at bh; omega
 obtain ⟨dN, dQ⟩ := jd hn
 have K0 := qh (WK.start hS ap)
 clear ce bh e hS ap
 by_cases h0 : l.length = 0
 ·have hw := qh (jy (id := 7) (f := jS) h0)
  have K1 := qh (K0.o.push #[.slice aa 0 c] 181)
  rw [h0]
  clear hR h0 ao dN dQ
  go_enter Tryz.func78, Tryz.ntmps78
  go_wp2
  go_ret
  exact ⟨rfl, K1.o.wr.eq (by rw [hw.o, List.append_nil])⟩
 ·have hw := qh (y0 (id := 7) (f := jS) h0)
  have aj := qh (show bs.length + ((uleb l.length).length + (l.flatMap jS).length) + 100 ≤ 70368744177664 ∧ bs.length + (zq (wVec jS l)).length + 100 ≤ 70368744177664 from by
   rw [hw.o] at hl
   have : (wVec jS l).length ≤ (zq (wVec jS l)).length := by unfold zq; rw [laQ]; omega
   unfold wVec at this hl ⊢
   simp only [laQ, List.length_cons, List.length_nil] at this hl ⊢
   omega)
  have H := qh (anQ hR (anQ hA (anQ hn (anQ cl cN))))
  have gw := bfQ (a := (l.length : Int)) (b := 0) (by omega)
  clear hR hA cl hl h0 hn cN
  go_enter Tryz.func78, Tryz.ntmps78
  go_wp2_with fail
  have K1 := qh (K0.o.push #[.slice aa l.length c] 181)
  refine (zm S lo g 7 (by decide) bs _ K1.o.is K1.o.lo (by have := aj.o.1; omega)).mono ?_
  rintro e w2 ⟨rfl, k⟩
  have K2 := qh (K1.o.step k)
  clear k
  have ag := (K2.o.box _ (.head _)).1.ext (za w2 (.cells (bufC (.slice none 0 0) 0) 314))
  have HB := qh ag
  replace ag := ag.cell
  have da := (K2.o.box _ (.head _)).1
  have HC := qh da
  replace da := da.cell
  clear gw
  go_wp2_with fail
  obtain ⟨n0, dC⟩ := exQ (w2.heap.size)
  have B0 := qh (SB.start K2.o.pop dC)
  rw [dC]
  generalize (w2.alloc (.cells (bufC (.slice none 0 0) 0) 314)) = W3 at *
  refine (zf z7 n0 n0 l.length H.o.2.2.1 [] W3 B0.o.b.is B0.o.b.lo (by simp)).mono ?_
  rintro e w4 ⟨rfl, k⟩
  have B1 := qh (B0.o.step k)
  clear k ag da
  have ag := (HC.o.ext B1.o.x).cell
  go_wp2_with fail
  clear ag
  go_loopw [35] (fun wY w' => ∃ (i : Nat), i ≤ l.length ∧ wY = .int .i64 i ∧ Hd (SB S lo g w w2 (bs ++ [UInt8.ofNat 7]) n0 w' (uleb l.length ++ (l.take i).flatMap jS) [])) (fun wY _ => l.length - (intOf wY).toNat)
  case atStart => exact ⟨0, nzQ _, rfl, B1.o.eq (by simp)⟩
  case round =>
   obtain ⟨i, hi, rfl, hV⟩ := hrel
   by_cases ah : i < l.length
   ·obtain ⟨b, o, rfl, e0, e1, e2, r0, r1⟩ := Lay.expo_at (hV.o.rd H.o.1 H.o.2.1) i ah
    have aX := qh (yr (f := jS) ah)
    have ci := qh (show bs.length + ((uleb l.length).length + (((l.take i).flatMap jS).length + (jS l[i]).length)) + 100 ≤ 70368744177664 from by have := y9 (f := jS) ah (Nat.le_refl _); have := aj.o.1; omega)
    have dR := qh (List.getElem_mem ah)
    generalize l[i] = x at *
    have hx := qh (H.o.2.2.2.2 x dR.o)
    obtain ⟨name, kind, index⟩ := x
    simp only at e0 e1 e2 r0 r1 hx
    have CE : kind = 0 ∨ kind = 1 ∨ kind = 2 ∨ kind = 3 := by have := hx.o.1; omega
    have nP := index.toNat_lt
    have iq := qh (show jS ⟨name, kind, index⟩ = zq name ++ ([UInt8.ofNat kind.toNat] ++ uleb index.toNat) from rfl)
    generalize jS ⟨name, kind, index⟩ = X at *
    generalize index.toNat = nx at *
    have ci := qh (show bs.length + ((uleb l.length).length + (((l.take i).flatMap jS).length + ((zq name).length + (1 + (uleb nx).length)))) + 100 ≤ 70368744177664 from by have := ci.o; rw [iq.o] at this; simp only [laQ, List.length_cons, List.length_nil] at this; omega)
    have eN := yJ name
    clear r0 r1
    have K3 := qh (hV.o.push #[.string (zc name), .int .i64 kind, .int .u32 (nx : Int)] 225)
    rcases CE with rfl | rfl | rfl | rfl
    all_goals
     go_wp2_with fail
     refine (zS z7 n0 n0 name _ _ (wr.heap.size + 1) (by simp) K3.o.b.is K3.o.b.lo hx.o.2 (by have := aj.o; have := ci.o; simp only [laQ, List.length_cons, List.length_nil] at this ⊢; omega)).mono ?_
     rintro e w4 ⟨rfl, k⟩
     have K4 := qh (K3.o.step k)
     clear k e0 e1 e2 eN
     have ag := K4.o.box0
     go_wp2_with fail
     refine (jw z7 n0 n0 _ (by decide) _ w4 K4.o.b.is K4.o.b.lo (by have := aj.o; have := ci.o; simp only [laQ, List.length_cons, List.length_nil] at this ⊢; omega)).mono ?_
     rintro e w5 ⟨rfl, k⟩
     have K5 := qh (K4.o.step k)
     clear k ag
     have ag := K5.o.box0
     go_wp2_with fail
     refine (zf z7 n0 n0 nx (by omega) _ w5 K5.o.b.is K5.o.b.lo (by have := aj.o; have := ci.o; simp only [laQ, List.length_cons, List.length_nil] at this ⊢; omega)).mono ?_
     rintro e w9 ⟨rfl, k⟩
     have K9 := qh ((K5.o.step k).pop.eq (pre' := uleb l.length ++ (l.take (i + 1)).flatMap jS) (by rw [aX.o, iq.o]; simp only [List.append_assoc]))
     clear k ag
     go_wp2
     go_roundw
     case rel => exact ⟨i + 1, by omega, by go_num, K9⟩
     case measure => simp [intOf]; omega
   ·obtain rfl : i = l.length := by omega
    have ai := hV.o
    rw [tlQ] at ai
    have ai := qh ai
    go_wp2_with fail
    refine (ai.o.raw H.o.2.2.2.1 (by have := aj.o.2; unfold wVec at this; simp only [laQ, List.length_cons, List.length_nil] at this ⊢; omega)).mono ?_
    rintro e w5 ⟨rfl, k⟩
    have k := qh k
    go_wp2
    go_ret
    exact ⟨rfl, k.o.eq (by rw [hw.o, List.append_assoc]; rfl)⟩
def zaW (l : List Nam) (gs : List (UInt32 × List Nam)) : Prop := (gs.map (·.1)).Nodup ∧ (∀ g ∈ gs, ∃ n ∈ l, n.fn = g.1) ∧ ∀ g ∈ gs, g.2 = l.filter (fk g.1)
theorem zdK (f : Nam → Nat) (k : UInt32) : ∀ l : List Nam, (l.map f).sum = ((l.filter (fk k)).map f).sum + ((l.filter (fun n => !fk k n)).map f).sum
 | [] => rfl
 | x :: l => by
  have ih := zdK f k l
  cases h : fk k x with
  | true => rw [List.filter_cons_of_pos h, List.filter_cons_of_neg (by rw [h]; simp), List.map_cons, List.map_cons, List.sum_cons, List.sum_cons, ih]; omega
  | false => rw [List.filter_cons_of_neg (by rw [h]; simp), List.filter_cons_of_pos (by rw [h]; rfl), List.map_cons, List.map_cons, List.sum_cons, List.sum_cons, ih]; omega
theorem zaa (f : Nam → Nat) : ∀ (ks : List UInt32), ks.Nodup → ∀ l : List Nam, (ks.map fun k => ((l.filter (fk k)).map f).sum).sum ≤ (l.map f).sum
 | [], _, _ => nzQ _
 | k :: ks, hn, l => by
  rw [List.nodup_cons] at hn
  have ih := zaa f ks hn.2 (l.filter (fun n => !fk k n))
  have e : (ks.map fun q => (((l.filter (fun n => !fk k n)).filter (fk q)).map f).sum) = ks.map fun q => ((l.filter (fk q)).map f).sum := List.map_congr_left fun q hq => by
   rw [List.filter_filter]
   congr 2
   refine List.filter_congr fun x _ => ?_
   by_cases h : x.fn = q
   ·have : x.fn ≠ k := fun e => hn.1 (by rw [← e, h]; exact hq)
    simp [fk, h]
    rw [← h]; exact this
   ·simp [fk, h]
  rw [e] at ih
  rw [List.map_cons, List.sum_cons, zdK f k l]
  omega
theorem zgI (f : α → List UInt8) : ∀ l : List α, (l.flatMap f).length = (l.map fun x => (f x).length).sum
 | [] => rfl
 | x :: l => by rw [List.flatMap_cons, laQ, List.map_cons, List.sum_cons, zgI f l]
theorem zgJ {f g : α → Nat} : ∀ {l : List α}, (∀ x ∈ l, f x ≤ g x) → (l.map f).sum ≤ (l.map g).sum
 | [], _ => Nat.le_refl _
 | x :: l, h => by
  rw [List.map_cons, List.map_cons, List.sum_cons, List.sum_cons]
  have h1 := h x (List.mem_cons_self ..)
  have h2 := zgJ (fun y hy => h y (List.mem_cons_of_mem _ hy))
  omega
theorem zgK (c : Nat) : ∀ l : List Nam, (l.map fun n => c + (wNam n).length).sum = c * l.length + (l.map fun n => (wNam n).length).sum
 | [] => by simp
 | x :: l => by
  rw [List.map_cons, List.map_cons, List.sum_cons, List.sum_cons, zgK c l, List.length_cons, Nat.mul_succ]
  omega
variable {l : List Nam} {gs : List (UInt32 × List Nam)}
theorem zfa (h : zaW l gs) (hl : l.length < 4294967296) : (gs.flatMap wGrp).length ≤ (l.map fun n => 20 + (wNam n).length).sum := by
 obtain ⟨h1, h2, h3⟩ := h
 refine nlQ ?_ (zaa (fun n => 20 + (wNam n).length) _ h1 l)
 rw [zgI, List.map_map]
 refine zgJ fun g hg => ?_
 obtain ⟨n, hn, hf⟩ := h2 g hg
 have iJ : n ∈ l.filter (fk g.1) := List.mem_filter.2 ⟨hn, by simp [fk, hf]⟩
 have ov : 0 < (l.filter (fk g.1)).length := List.length_pos_of_mem iJ
 have kg := List.length_filter_le (fk g.1) l
 have u1 := zI g.1.toNat (by have := g.1.toNat_lt; omega)
 have u2 := zI (l.filter (fk g.1)).length (by omega)
 show (wGrp g).length ≤ ((l.filter (fk g.1)).map fun n => 20 + (wNam n).length).sum
 unfold wGrp wVec
 rw [h3 g hg, laQ, laQ, zgI, zgK]
 omega
theorem zab (h : zaW l gs) : gs.length ≤ l.length := by
 obtain ⟨h1, h2, h3⟩ := h
 have e1 := zaa (fun _ => 1) _ h1 l
 have e2 : ∀ m : List Nam, (m.map fun _ => 1).sum = m.length := fun m => by induction m with
  | nil => rfl
  | cons x m ih => rw [List.map_cons, List.sum_cons, ih, List.length_cons]; omega
 rw [e2] at e1
 have e3 : gs.length = (gs.map fun _ => 1).sum := by
  clear h1 h2 h3 e1
  induction gs with
  | nil => rfl
  | cons x m ih => rw [List.map_cons, List.sum_cons, ← ih, List.length_cons]; omega
 rw [e3]
 refine nlQ ?_ e1
 rw [List.map_map]
 refine zgJ fun g hg => ?_
 obtain ⟨n, hn, hf⟩ := h2 g hg
 show 1 ≤ ((l.filter (fk g.1)).map fun _ => 1).sum
 rw [e2]
 exact List.length_pos_of_mem (List.mem_filter.2 ⟨hn, by simp [fk, hf]⟩ : n ∈ _)
theorem zgL (h : zaW l gs) {y : UInt32} (hy : y ∉ gs.map (·.1)) (hl : ∃ n ∈ l, n.fn = y) : zaW l (gs ++ [(y, l.filter (fk y))]) := by
 obtain ⟨h1, h2, h3⟩ := h
 refine ⟨?_, fun g hg => ?_, fun g hg => ?_⟩
 ·rw [List.map_append, List.nodup_append]
  refine ⟨h1, by simp, fun a ha b hb => ?_⟩
  simp only [List.map_cons, List.map_nil, List.mem_singleton] at hb
  subst hb
  exact fun e => hy (e ▸ ha)
 ·rcases List.mem_append.1 hg with q | q
  ·exact h2 g q
  ·rw [List.mem_singleton.1 q]; exact hl
 ·rcases List.mem_append.1 hg with q | q
  ·exact h3 g q
  ·rw [List.mem_singleton.1 q]
theorem zh9 (h : zaW l gs) (cr : ∀ y, (∃ n ∈ l, n.fn = y) → y ∈ gs.map (·.1)) : jU l gs :=
 ⟨h.1, fun f => ⟨fun hf => by
  obtain ⟨g, hg, rfl⟩ := List.mem_map.1 hf
  exact h.2.1 g hg, cr f⟩, h.2.2⟩
theorem zgM [DecidableEq α] : ∀ {l m : List α}, l.Nodup → (∀ x ∈ l, x ∈ m) → l.length ≤ m.length
 | [], _, _, _ => nzQ _
 | x :: l, m, hn, h => by
  rw [List.nodup_cons] at hn
  have hx := h x (List.mem_cons_self ..)
  have := zgM (l := l) (m := m.erase x) hn.2 (fun y hy => (List.mem_erase_of_ne (show y ≠ x from fun e => hn.1 (by rw [← e]; exact hy))).2 (h y (List.mem_cons_of_mem _ hy)))
  rw [List.length_erase_of_mem hx] at this
  have := List.length_pos_of_mem hx
  rw [List.length_cons]
  omega
end Go.Proofs.YtejgninpjhcgnaaGreatDoor
