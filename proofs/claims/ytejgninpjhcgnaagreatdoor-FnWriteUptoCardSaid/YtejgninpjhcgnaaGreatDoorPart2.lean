/- Texts of this proof, one behind the other. -/
import Derived.Test.YtejgninpjhcgnaaGreatDoorPart1
import Derived.Deep.WholeRow
import Derived.Deep.MidRow
import Derived.Laws.Tables
namespace Go.Proofs.YtejgninpjhcgnaaGreatDoor
open Go.RowKit
set_option linter.unusedSimpArgs false
set_option linter.unusedVariables false
set_option maxRecDepth 100000
set_option maxHeartbeats 400000
def jA (w : World) (g : Nat) : Nat → Prop := fun k => k = g ∨ ∃ v, w.cell? ⟨g, 0, none⟩ = some v ∧ v.ownBlock = some k
structure Hold where
 is : Nat → Nat → List UInt8 → World → Prop
 foot : World → Nat → Nat → Prop
 lt : ∀ {lo g bs w}, is lo g bs w → ∀ k, foot w g k → lo ≤ k ∧ k < w.heap.size
 frame : ∀ {lo g bs w w' S}, is lo g bs w → Fr S w w' → (∀ k, foot w g k → ¬ S k) → is lo g bs w' ∧ ∀ k, foot w' g k ↔ foot w g k
structure Wrote (S : Hold) (lo g : Nat) (w : World) (bs : List UInt8) (w' : World) : Prop where
 is : S.is lo g bs w'
 fr : Fr (S.foot w g) w w'
 foot : ∀ k, S.foot w' g k → S.foot w g k ∨ w.heap.size ≤ k
variable {S : Hold} {lo g : Nat} {w w1 w2 : World} {bs pf : List UInt8}
theorem Wrote.trans (h : Wrote S lo g w bs w1) (k : Wrote S lo g w1 pf w2) : Wrote S lo g w pf w2 :=
 ⟨k.is, h.fr.trans k.fr (fun _ _ h => h) (fun i hi hs => by
  rcases h.foot i hs with h' | h'
  ·exact h'
  ·omega), fun i hi => by
  rcases k.foot i hi with h' | h'
  ·exact h.foot i h'
  ·have := h.fr.size
   exact .inr (by omega)⟩
theorem Wrote.refl (h : S.is lo g bs w) : Wrote S lo g w bs w := ⟨h, Fr.refl _ _, fun _ h => .inl h⟩
theorem Wrote.after (h : S.is lo g bs w) (hx : Ext w w1) (k : Wrote S lo g w1 pf w2) : Wrote S lo g w pf w2 :=
 Wrote.trans ⟨(S.frame h hx (fun _ _ h => h)).1, hx.to, fun i hi => .inl (((S.frame h hx (fun _ _ h => h)).2 i).1 hi)⟩ k
theorem Wrote.ext (h : Wrote S lo g w bs w1) (hx : Ext w1 w2) : Wrote S lo g w bs w2 :=
 h.trans ⟨(S.frame h.is hx (fun _ _ h => h)).1, hx.to, fun i hi => .inl (((S.frame h.is hx (fun _ _ h => h)).2 i).1 hi)⟩
variable {w' : World}
theorem Wrote.below {Du : List UInt8} (h : S.is lo g Du w) (hw : Wrote S lo g w bs w') : Fr (fun k => lo ≤ k) w w' := hw.fr.mono fun k _ hk => (S.lt h k hk).1
def IsB (T : TypeId) (lo g : Nat) (bs : List UInt8) (w : World) : Prop := lo ≤ g ∧ ∃ v, Blk w g #[v] T ∧ OwnB lo w v bs ∧ v.ownBlock ≠ some g
variable {T : TypeId}
theorem IsB.lt (h : IsB T lo g bs w) : ∀ k, jA w g k → lo ≤ k ∧ k < w.heap.size := by
 obtain ⟨hg, v, hb, ho, aO⟩ := h
 rintro k (rfl | ⟨v', hc, hk⟩)
 ·exact ⟨hg, hb.lt⟩
 ·rw [hb.cell 0] at hc
  simp only [List.getElem?_toArray, List.getElem?_cons_zero, Option.some.injEq] at hc
  subst hc
  exact ho.lt k hk
theorem IsB.frame {S : Nat → Prop} (h : IsB T lo g bs w) (hf : Fr S w w') (hs : ∀ k, jA w g k → ¬ S k) : IsB T lo g bs w' ∧ ∀ k, jA w' g k ↔ jA w g k := by
 have ah := h.lt
 obtain ⟨hg, v, hb, ho, aO⟩ := h
 have en : w.cell? ⟨g, 0, none⟩ = some v := hb.cell 0
 have kW := hb.fr hf (hs g (.inl rfl))
 have ek : w'.cell? ⟨g, 0, none⟩ = some v := kW.cell 0
 refine ⟨⟨hg, v, kW, ?_, aO⟩, fun k => ?_⟩
 ·exact Own.only Lay.flat_u8 ho hf (fun k hk => hs k (.inr ⟨v, en, hk⟩))
 ·unfold jA
  rw [en, ek]
def zfu (T : TypeId) : Hold := ⟨IsB T, jA, IsB.lt, IsB.frame⟩
theorem zi4 (T : TypeId) (w : World) : IsB T w.heap.size w.heap.size [] (w.alloc (.cells #[.slice none 0 0] T)) :=
 ⟨Nat.le_refl _, .slice none 0 0, zk w _ _, jz _ _ _ _, by simp [Value.ownBlock]⟩
theorem zgk (h : Wrote (zfu T) w.heap.size w.heap.size (w.alloc (.cells #[.slice none 0 0] T)) bs w1) :
 ∃ v, w1.cell? ⟨w.heap.size, 0, none⟩ = some v ∧ OwnB w.heap.size w1 v bs ∧ Ext w w1 := by
 obtain ⟨⟨hg, v, hb, ho, aO⟩, hf, -⟩ := h
 refine ⟨v, hb.cell 0, ho, Ext.fr (za w _) hf |>.mono fun k hk hs => ?_⟩
 rcases hs with rfl | ⟨v', hc, ib⟩
 ·omega
 ·rw [(zk w _ _).cell 0] at hc
  simp at hc
  subst hc
  simp [Value.ownBlock] at ib
theorem zgl (T : TypeId) (w : World) (n : Nat) (hn : w.heap.size = n) : (zfu T).is n n [] (w.alloc (.cells #[.slice none 0 0] T)) := by subst hn; exact zi4 T w
theorem zcx {n : Nat} (hn : w.heap.size = n) (h : Wrote (zfu T) n n (w.alloc (.cells #[.slice none 0 0] T)) bs w1) :
 ∃ v, w1.cell? ⟨n, 0, none⟩ = some v ∧ OwnB n w1 v bs ∧ Ext w w1 := by subst hn; exact zgk h
variable {v v1 : Value}
theorem YC (hg : lo ≤ g) (hb : Blk w g #[v] T) (aO : v.ownBlock ≠ some g)
 (h1 : OwnB lo w1 v1 pf) (h2 : Fr (fun k => some k = v.ownBlock) w w1) (h3 : ∀ k, v1.ownBlock = some k → v.ownBlock = some k ∨ w.heap.size ≤ k) : Wrote (zfu T) lo g w pf (w1.setCell ⟨g, 0, none⟩ v1) := by
 have dw := hb.fr h2 (fun e => aO e.symm)
 have ur : v1.ownBlock ≠ some g := fun e => by
  rcases h3 g e with h | h
  ·exact aO h
  ·have := hb.lt
   omega
 have en : w.cell? ⟨g, 0, none⟩ = some v := hb.cell 0
 have cV : Blk (w1.setCell ⟨g, 0, none⟩ v1) g #[v1] _ := dw.set 0 _
 refine ⟨⟨hg, _, cV, Own.only Lay.flat_u8 h1 (zh w1 _ _) (fun k hk e => ur (by rw [hk, e])), ur⟩, ?_, ?_⟩
 ·exact h2.trans (zh w1 _ _) (fun k _ e => .inr ⟨v, en, e.symm⟩) (fun k _ e => .inl e)
 ·rintro k (rfl | ⟨v', hc, hk⟩)
  ·exact .inl (.inl rfl)
  ·rw [cV.cell 0] at hc
   simp at hc
   subst hc
   rcases h3 k hk with h | h
   ·exact .inl (.inr ⟨v, en, h⟩)
   ·exact .inr h
def Away (S : Hold) (g : Nat) (w : World) (A : Nat → Prop) : Prop := ∀ k, A k → k < w.heap.size ∧ ¬ S.foot w g k
variable {A : Nat → Prop}
theorem Away.step (h : Away S g w A) (hW : Wrote S lo g w bs w') : Away S g w' A := fun k hk =>
 ⟨nqQ (h k hk).1 hW.fr.size, fun hf => by
  rcases hW.foot k hf with h' | h'
  ·exact (h k hk).2 h'
  ·have := (h k hk).1; omega⟩
theorem ZM (n : Nat) (hv : n < 18446744073709551616) (lo : Nat) (v : Value) (bs : List UInt8) (w : World) (hO : OwnB lo w v bs) (ap : lo ≤ w.heap.size) (hl : bs.length + 10 ≤ 140737488355328) :
 Calls Tryz.prog 146 #[v, .int .u64 n] w fun e w' => ∃ v1, e = .returned v1 ∧ OwnB lo w' v1 (bs ++ uleb n) ∧ Fr (fun k => some k = v.ownBlock) w w' ∧ (∀ k, v1.ownBlock = some k → v.ownBlock = some k ∨ w.heap.size ≤ k) := by
 have kP := zI n hv
 have kP := qh kP
 have hO := qh hO
 have ap := qh ap
 have hl := qh hl
 go_enter Tryz.func146, Tryz.ntmps146
 go_wp2_with fail
 go_loopw [0, 1] (fun s0 s1 w' => ∃ (x : Nat) (pre : List UInt8), s1 = .int .u64 x ∧ Hd (pre ++ uleb x = uleb n) ∧ Hd (x ≤ n) ∧ Hd (OwnB lo w' s0 (bs ++ pre)) ∧ Hd (Fr (fun k => some k = v.ownBlock) w w') ∧ Hd (∀ k, s0.ownBlock = some k → v.ownBlock = some k ∨ w.heap.size ≤ k)) (fun _ s1 _ => (intOf s1).toNat)
 case atStart => exact ⟨n, [], rfl, rfl, Nat.le_refl _, (by rw [List.append_nil]; exact hO.o), Fr.refl _ _, fun k h => .inl h⟩
 case round =>
  obtain ⟨x, pre, rfl, hp, hx, au, hb, hk⟩ := hrel
  have Df : x < 18446744073709551616 := Nat.lt_of_le_of_lt hx.o hv
  have e1 := zfs (x : Int) (by omega) (by omega)
  have ao : Hd (pre.length + 1 ≤ 10) := by
   have h1 := congrArg List.length hp.o
   rw [laQ] at h1
   have h2 : 0 < (uleb x).length := by rw [uleb]; split <;> simp
   have h3 := kP.o
   show _ ≤ _
   omega
  by_cases hc : x < 128
  ·have ek : ((x : Int) / 128 != 0) = false := by rw [bne_eq_false_iff_eq]; omega
   have e3 : bits .and .u8 ((x : Int) % 128) 128 = 0 := by rw [YA _ (by omega) (by omega), if_pos (by omega)]
   go_wp2_with (at_builtin; refine Hd.o ?_)
   refine appB lo rfl (.tmp 15) (.tmp 17) rfl _ (bs ++ pre) (UInt8.ofNat (x % 128)) _ (zhX x) rfl rfl au.o (nlQ ap.o hb.o.size) (by have := ao.o; have := hl.o; rw [laQ]; omega) ?_
   intro v1 w1 h1 h2 h3
   have H := qh (anQ h1 (anQ h2 h3))
   clear h1 h2 h3
   go_wp2
   go_ret
   obtain ⟨h1, h2, h3⟩ := H.o
   refine ⟨_, rfl, ?_, hb.o.trans h2 (fun _ _ h => h) ?_, ?_⟩
   ·rw [← hp.o, jF hc, ← List.append_assoc]
    rw [Nat.mod_eq_of_lt hc] at h1
    exact h1
   ·intro k ib hs
    rcases hk.o k hs.symm with h | h
    ·exact h.symm
    ·omega
   ·intro k ib
    rcases h3 k ib with h | h
    ·exact hk.o k h
    ·have := hb.o.size
     exact .inr (by omega)
  ·have ek : ((x : Int) / 128 != 0) = true := by rw [bne_iff_ne]; omega
   have e2 : bits .or .u8 ((x : Int) % 128) 128 = (x : Int) % 128 + 128 := by rw [ZW _ (by omega) (by omega)]; omega
   have e3 : bits .and .u8 ((x : Int) % 128 + 128) 128 = 128 := by rw [YA _ (by omega) (by omega), if_neg (by omega)]
   go_wp2_with (at_builtin; refine Hd.o ?_)
   refine appB lo rfl (.tmp 15) (.tmp 17) rfl _ (bs ++ pre) (UInt8.ofNat (x % 128 + 128)) _ (zdf x) rfl rfl au.o (nlQ ap.o hb.o.size) (by have := ao.o; have := hl.o; rw [laQ]; omega) ?_
   intro v1 w1 h1 h2 h3
   have H := qh (anQ h1 (anQ h2 h3))
   clear h1 h2 h3
   go_wp2
   go_roundw
   case rel =>
    obtain ⟨h1, h2, h3⟩ := H.o
    refine ⟨x / 128, pre ++ [UInt8.ofNat (x % 128 + 128)], by go_num, ?_, ?_, ?_, hb.o.trans h2 (fun _ _ h => h) ?_, ?_⟩
    ·show _ = _
     rw [← hp.o, Zy (n := x) (by omega), List.append_assoc, List.singleton_append]
    ·have := hx.o
     show _ ≤ _
     omega
    ·rw [← List.append_assoc]; exact h1
    ·intro k ib hs
     rcases hk.o k hs.symm with h | h
     ·exact h.symm
     ·omega
    ·intro k ib
     rcases h3 k ib with h | h
     ·exact hk.o k h
     ·have := hb.o.size
      exact .inr (by omega)
   case measure => simp [intOf]; omega
theorem ZN (n : Int) (hv : -9223372036854775808 ≤ n ∧ n ≤ 9223372036854775807) (lo : Nat) (v : Value) (bs : List UInt8) (w : World) (hO : OwnB lo w v bs) (ap : lo ≤ w.heap.size) (hl : bs.length + 10 ≤ 140737488355328) :
 Calls Tryz.prog 177 #[v, .int .i64 n] w fun e w' => ∃ v1, e = .returned v1 ∧ OwnB lo w' v1 (bs ++ sleb n) ∧ Fr (fun k => some k = v.ownBlock) w w' ∧ (∀ k, v1.ownBlock = some k → v.ownBlock = some k ∨ w.heap.size ≤ k) := by
 have kP := J9 n hv.1 hv.2
 have kP := qh kP
 have hO := qh hO
 have ap := qh ap
 have hl := qh hl
 go_enter Tryz.func177, Tryz.ntmps177
 go_wp2_with fail
 go_loopw [0, 1] (fun s0 s1 w' => ∃ (x : Int) (pre : List UInt8), s1 = .int .i64 x ∧ Hd (pre ++ sleb x = sleb n) ∧ (-9223372036854775808 ≤ x ∧ x ≤ 9223372036854775807) ∧ Hd (OwnB lo w' s0 (bs ++ pre)) ∧ Hd (Fr (fun k => some k = v.ownBlock) w w') ∧ Hd (∀ k, s0.ownBlock = some k → v.ownBlock = some k ∨ w.heap.size ≤ k)) (fun _ s1 _ => (intOf s1).natAbs)
 case atStart => exact ⟨n, [], rfl, rfl, hv, (by rw [List.append_nil]; exact hO.o), Fr.refl _ _, fun k h => .inl h⟩
 case round =>
  obtain ⟨x, pre, rfl, hp, hx, au, hb, hk⟩ := hrel
  have e1 := zft x
  have e4 := zgj x
  have ao : Hd (pre.length + 1 ≤ 10) := by
   have h1 := congrArg List.length hp.o
   rw [laQ] at h1
   have h2 : 0 < (sleb x).length := by rw [sleb]; split <;> simp
   have h3 := kP.o
   show _ ≤ _
   omega
  have mc : Hd (lo ≤ wr.heap.size) := nlQ ap.o hb.o.size
  have t6 : Hd ((bs ++ pre).length + 1 ≤ 140737488355328) := by have := ao.o; have := hl.o; show _ ≤ _; rw [laQ]; omega
  have mJ : -64 ≤ x ∧ x < 64 → Hd (sleb x = [UInt8.ofNat (x % 128).toNat]) := j2
  have sn : ¬ (-64 ≤ x ∧ x < 64) → Hd (sleb x = UInt8.ofNat ((x % 128).toNat + 128) :: sleb (x / 128)) := Z8
  have eR : Hd (x % 128 = ((UInt8.ofNat (x % 128).toNat).toNat : Int)) := by show _ = _; rw [UInt8.toNat_ofNat']; omega
  have iz : Hd (x % 128 + 128 = ((UInt8.ofNat ((x % 128).toNat + 128)).toNat : Int)) := by show _ = _; rw [UInt8.toNat_ofNat']; omega
  have Dh : -9223372036854775808 ≤ x / 128 ∧ x / 128 ≤ 9223372036854775807 := by omega
  by_cases hst : -64 ≤ x ∧ x < 64
  ·have e3 : bits .and .u8 (x % 128) 128 = 0 := by rw [YA _ (by omega) (by omega), if_pos (by omega)]
   have HS := mJ hst
   clear mJ sn iz
   by_cases dO : x % 128 < 64
   case' neg =>
    have c1 : (x / 128 != -1) = false := by rw [bne_eq_false_iff_eq]; omega
    have c3 : (x / 128 != 0) = true := by rw [bne_iff_ne]; omega
    rw [if_neg dO] at e4
   case' pos =>
    have c1 : (x / 128 != -1) = true := by rw [bne_iff_ne]; omega
    have c3 : (x / 128 != 0) = false := by rw [bne_eq_false_iff_eq]; omega
    rw [if_pos dO] at e4
   all_goals
    clear dO hst
    go_wp2_with (at_builtin; refine Hd.o ?_)
    refine appB lo rfl (.tmp 31) (.tmp 33) rfl _ (bs ++ pre) _ _ eR.o rfl rfl au.o mc.o t6.o ?_
    intro v1 w1 h1 h2 h3
    have H := qh (anQ h1 (anQ h2 h3))
    clear h1 h2 h3
    go_wp2
    go_ret
    obtain ⟨h1, h2, h3⟩ := H.o
    refine ⟨_, rfl, by rw [← hp.o, HS.o, ← List.append_assoc]; exact h1, ze0 hb.o h2 hk.o, zcw hb.o hk.o h3⟩
  ·have e2 : bits .or .u8 (x % 128) 128 = x % 128 + 128 := by rw [ZW _ (by omega) (by omega)]; omega
   have e3 : bits .and .u8 (x % 128 + 128) 128 = 128 := by rw [YA _ (by omega) (by omega), if_neg (by omega)]
   have HS := sn hst
   have hM : Hd ((x / 128).natAbs < x.natAbs) := by show _ < _; omega
   clear mJ sn eR
   have iK : ((x % 128 < 64 ∧ (x / 128 != 0) = true) ∧ (x / 128 != -1) = true) ∨ ((x % 128 < 64 ∧ (x / 128 != 0) = true) ∧ (x / 128 != -1) = false) ∨ ((¬ x % 128 < 64 ∧ (x / 128 != -1) = true) ∧ (x / 128 != 0) = true) ∨ ((¬ x % 128 < 64 ∧ (x / 128 != -1) = true) ∧ (x / 128 != 0) = false) := by
    simp only [bne_iff_ne, bne_eq_false_iff_eq]
    omega
   clear hst
   rcases iK with ⟨⟨dO, c1⟩, c3⟩ | ⟨⟨dO, c1⟩, c3⟩ | ⟨⟨dO, c1⟩, c3⟩ | ⟨⟨dO, c1⟩, c3⟩
   all_goals
    first | rw [if_pos dO] at e4 | rw [if_neg dO] at e4
    clear dO
    go_wp2_with (at_builtin; refine Hd.o ?_)
    refine appB lo rfl (.tmp 31) (.tmp 33) rfl _ (bs ++ pre) _ _ iz.o rfl rfl au.o mc.o t6.o ?_
    intro v1 w1 h1 h2 h3
    have H := qh (anQ h1 (anQ h2 h3))
    clear h1 h2 h3
    go_wp2
    go_roundw
    case rel =>
     obtain ⟨h1, h2, h3⟩ := H.o
     refine ⟨x / 128, pre ++ [UInt8.ofNat ((x % 128).toNat + 128)], rfl, ?_, Dh, ?_, ze0 hb.o h2 hk.o, zcw hb.o hk.o h3⟩
     ·show _ = _
      rw [← hp.o, HS.o, List.append_assoc, List.singleton_append]
     ·rw [← List.append_assoc]; exact h1
    case measure => exact hM.o
structure Sink extends Hold where
 T : TypeId
 f : FuncId
 nil : ∀ (g : Nat) (W : World), (nilAhead 559 T (.pointer (some ⟨g, 0, none⟩)) "Write").run Tryz.prog W = .ok (some false) W
 meth : ∀ (g : Nat) (W : World), (method 559 T (.pointer (some ⟨g, 0, none⟩)) "Write").run Tryz.prog W = .ok (f, .pointer (some ⟨g, 0, none⟩)) W
 call : ∀ (args : Array Value) (W : World), (callFunc f args).run Tryz.prog W = .ok (.enter f args) W
 write : ∀ (lo g : Nat) (bs ys : List UInt8) (w : World) (A : Nat → Prop) (aa : Option Addr) (m c : Nat), is lo g bs w → Lay.u8.slice.rd A w [.slice aa m c] ys → lo ≤ w.heap.size → bs.length + ys.length ≤ 70368744177664 →
  Calls Tryz.prog f #[.pointer (some ⟨g, 0, none⟩), .slice aa m c] w fun e w' => e = .returned (.tuple #[.int .i64 m, .nilIface]) ∧ is lo g (bs ++ ys) w' ∧ Fr (foot w g) w w' ∧ ∀ k, foot w' g k → foot w g k ∨ w.heap.size ≤ k
theorem zf (S : Sink) (lo g n : Nat) (hn : n < 4294967296) (bs : List UInt8) (w : World) (hS : S.is lo g bs w) (ap : lo ≤ w.heap.size) (hl : bs.length + 10 ≤ 70368744177664) :
 Calls Tryz.prog 109 #[.iface S.T (.pointer (some ⟨g, 0, none⟩)), .int .u32 n] w fun e w' => e = .returned .nilIface ∧ Wrote S.toHold lo g w (bs ++ uleb n) w' := by
 have oc := S.nil g
 have nK := S.meth g
 have oe := S.call
 have e1 : IntKind.u64.wrap (n : Int) = n := by rw [IntKind.wrap_u64]; omega
 have hS := qh hS
 have ap := qh ap
 have hl := qh hl
 go_enter Tryz.func109, Tryz.ntmps109
 go_wp2_with fail
 refine zi (y4 (S.foot w g)) [kT 0, kT 1, kT 2, kT 3, kT 5, kT 6, kT 7, kR 4, kR 8, kT 9, kT 10, kT 11, kT 12, kT 13] (by kernel_rfl) (by kernel_rfl) ?_
 simp only [zy, gzQ, gsQ]
 repeat (apply item_take; rfl; rfl; rfl; rfl; exact fun _ _ _ _ h => h; (intro _ _ _ k; go_simp; exact k))
 apply ze; rfl; intro K hK; go_simp
 refine (ZM n (by omega) w.heap.size (.slice none 0 0) [] w.drew (jz _ _ _ _) (Nat.le_refl _) (by simp)).mono ?_
 rintro e w1 ⟨v1, rfl, h1, h2, h3⟩
 have iY : Ext w.drew w1 := h2.mono (fun k _ h => by simp [Value.ownBlock] at h)
 have hx := qh ((zb w).trans iY)
 refine hK _ _ iY.to ?_
 clear hK K iY
 rw [List.nil_append] at h1
 obtain ⟨aa, cap, rfl, -, -⟩ := h1.form
 have H := qh h1.slice
 clear h1 h2 h3
 have ig := qh (S.frame hS.o hx.o (fun _ _ h => h))
 apply ze; rfl; intro K hK; go_simp
 refine (S.write lo g bs (uleb n) w1 _ aa _ cap ig.o.1 H.o (nlQ ap.o hx.o.size) (by have := zI n (by omega); have := hl.o; omega)).mono ?_
 rintro e w2 ⟨rfl, h1, h2, h3⟩
 have hW : Hd (Wrote S.toHold lo g w (bs ++ uleb n) w2) := Wrote.after hS.o hx.o ⟨h1, h2, h3⟩
 refine hK _ _ (h2.mono fun k _ hk => (ig.o.2 k).1 hk) ?_
 clear hK K h1 h2 h3
 repeat (apply item_take; rfl; rfl; rfl; rfl; exact fun _ _ _ _ h => h; (intro _ _ _ k; go_simp; exact k))
 apply zl
 go_wp2
 go_ret
 exact ⟨rfl, hW.o⟩
theorem Jm (S : Sink) (lo g n : Nat) (hn : n < 18446744073709551616) (bs : List UInt8) (w : World) (hS : S.is lo g bs w) (ap : lo ≤ w.heap.size) (hl : bs.length + 10 ≤ 70368744177664) :
 Calls Tryz.prog 153 #[.iface S.T (.pointer (some ⟨g, 0, none⟩)), .int .u64 n] w fun e w' => e = .returned .nilIface ∧ Wrote S.toHold lo g w (bs ++ uleb n) w' := by
 have oc := S.nil g
 have nK := S.meth g
 have oe := S.call
 have hS := qh hS
 have ap := qh ap
 have hl := qh hl
 go_enter Tryz.func153, Tryz.ntmps153
 go_wp2_with fail
 refine zi (y4 (S.foot w g)) [kT 0, kT 1, kT 2, kT 4, kT 5, kT 6, kR 3, kR 7, kT 8, kT 9, kT 10, kT 11, kT 12] (by kernel_rfl) (by kernel_rfl) ?_
 simp only [zy, gzQ, gsQ]
 repeat (apply item_take; rfl; rfl; rfl; rfl; exact fun _ _ _ _ h => h; (intro _ _ _ k; go_simp; exact k))
 apply ze; rfl; intro K hK; go_simp
 refine (ZM n hn w.heap.size (.slice none 0 0) [] w.drew (jz _ _ _ _) (Nat.le_refl _) (by simp)).mono ?_
 rintro e w1 ⟨v1, rfl, h1, h2, h3⟩
 have iY : Ext w.drew w1 := h2.mono (fun k _ h => by simp [Value.ownBlock] at h)
 have hx := qh ((zb w).trans iY)
 refine hK _ _ iY.to ?_
 clear hK K iY
 rw [List.nil_append] at h1
 obtain ⟨aa, cap, rfl, -, -⟩ := h1.form
 have H := qh h1.slice
 clear h1 h2 h3
 have ig := qh (S.frame hS.o hx.o (fun _ _ h => h))
 apply ze; rfl; intro K hK; go_simp
 refine (S.write lo g bs (uleb n) w1 _ aa _ cap ig.o.1 H.o (nlQ ap.o hx.o.size) (by have := zI n hn; have := hl.o; omega)).mono ?_
 rintro e w2 ⟨rfl, h1, h2, h3⟩
 have hW : Hd (Wrote S.toHold lo g w (bs ++ uleb n) w2) := Wrote.after hS.o hx.o ⟨h1, h2, h3⟩
 refine hK _ _ (h2.mono fun k _ hk => (ig.o.2 k).1 hk) ?_
 clear hK K h1 h2 h3
 repeat (apply item_take; rfl; rfl; rfl; rfl; exact fun _ _ _ _ h => h; (intro _ _ _ k; go_simp; exact k))
 apply zl
 go_wp2
 go_ret
 exact ⟨rfl, hW.o⟩
theorem JE (S : Sink) (lo g : Nat) (n : Int) (hn : -2147483648 ≤ n ∧ n ≤ 2147483647) (bs : List UInt8) (w : World) (hS : S.is lo g bs w) (ap : lo ≤ w.heap.size) (hl : bs.length + 10 ≤ 70368744177664) :
 Calls Tryz.prog 151 #[.iface S.T (.pointer (some ⟨g, 0, none⟩)), .int .i32 n] w fun e w' => e = .returned .nilIface ∧ Wrote S.toHold lo g w (bs ++ sleb n) w' := by
 have oc := S.nil g
 have nK := S.meth g
 have oe := S.call
 have e1 : IntKind.i64.wrap n = n := by rw [IntKind.wrap_i64]; omega
 have hS := qh hS
 have ap := qh ap
 have hl := qh hl
 go_enter Tryz.func151, Tryz.ntmps151
 go_wp2_with fail
 refine zi (y4 (S.foot w g)) [kT 0, kT 1, kT 2, kT 3, kT 5, kT 6, kT 7, kR 4, kR 8, kT 9, kT 10, kT 11, kT 12, kT 13] (by kernel_rfl) (by kernel_rfl) ?_
 simp only [zy, gzQ, gsQ]
 repeat (apply item_take; rfl; rfl; rfl; rfl; exact fun _ _ _ _ h => h; (intro _ _ _ k; go_simp; exact k))
 apply ze; rfl; intro K hK; go_simp
 refine (ZN n (by omega) w.heap.size (.slice none 0 0) [] w.drew (jz _ _ _ _) (Nat.le_refl _) (by simp)).mono ?_
 rintro e w1 ⟨v1, rfl, h1, h2, h3⟩
 have iY : Ext w.drew w1 := h2.mono (fun k _ h => by simp [Value.ownBlock] at h)
 have hx := qh ((zb w).trans iY)
 refine hK _ _ iY.to ?_
 clear hK K iY
 rw [List.nil_append] at h1
 obtain ⟨aa, cap, rfl, -, -⟩ := h1.form
 have H := qh h1.slice
 clear h1 h2 h3
 have ig := qh (S.frame hS.o hx.o (fun _ _ h => h))
 apply ze; rfl; intro K hK; go_simp
 refine (S.write lo g bs (sleb n) w1 _ aa _ cap ig.o.1 H.o (nlQ ap.o hx.o.size) (by have := J9 n (by omega) (by omega); have := hl.o; omega)).mono ?_
 rintro e w2 ⟨rfl, h1, h2, h3⟩
 have hW : Hd (Wrote S.toHold lo g w (bs ++ sleb n) w2) := Wrote.after hS.o hx.o ⟨h1, h2, h3⟩
 refine hK _ _ (h2.mono fun k _ hk => (ig.o.2 k).1 hk) ?_
 clear hK K h1 h2 h3
 repeat (apply item_take; rfl; rfl; rfl; rfl; exact fun _ _ _ _ h => h; (intro _ _ _ k; go_simp; exact k))
 apply zl
 go_wp2
 go_ret
 exact ⟨rfl, hW.o⟩
theorem JF (S : Sink) (lo g : Nat) (n : Int) (hn : -9223372036854775808 ≤ n ∧ n ≤ 9223372036854775807) (bs : List UInt8) (w : World) (hS : S.is lo g bs w) (ap : lo ≤ w.heap.size) (hl : bs.length + 10 ≤ 70368744177664) :
 Calls Tryz.prog 152 #[.iface S.T (.pointer (some ⟨g, 0, none⟩)), .int .i64 n] w fun e w' => e = .returned .nilIface ∧ Wrote S.toHold lo g w (bs ++ sleb n) w' := by
 have oc := S.nil g
 have nK := S.meth g
 have oe := S.call
 have hS := qh hS
 have ap := qh ap
 have hl := qh hl
 go_enter Tryz.func152, Tryz.ntmps152
 go_wp2_with fail
 refine zi (y4 (S.foot w g)) [kT 0, kT 1, kT 2, kT 4, kT 5, kT 6, kR 3, kR 7, kT 8, kT 9, kT 10, kT 11, kT 12] (by kernel_rfl) (by kernel_rfl) ?_
 simp only [zy, gzQ, gsQ]
 repeat (apply item_take; rfl; rfl; rfl; rfl; exact fun _ _ _ _ h => h; (intro _ _ _ k; go_simp; exact k))
 apply ze; rfl; intro K hK; go_simp
 refine (ZN n hn w.heap.size (.slice none 0 0) [] w.drew (jz _ _ _ _) (Nat.le_refl _) (by simp)).mono ?_
 rintro e w1 ⟨v1, rfl, h1, h2, h3⟩
 have iY : Ext w.drew w1 := h2.mono (fun k _ h => by simp [Value.ownBlock] at h)
 have hx := qh ((zb w).trans iY)
 refine hK _ _ iY.to ?_
 clear hK K iY
 rw [List.nil_append] at h1
 obtain ⟨aa, cap, rfl, -, -⟩ := h1.form
 have H := qh h1.slice
 clear h1 h2 h3
 have ig := qh (S.frame hS.o hx.o (fun _ _ h => h))
 apply ze; rfl; intro K hK; go_simp
 refine (S.write lo g bs (sleb n) w1 _ aa _ cap ig.o.1 H.o (nlQ ap.o hx.o.size) (by have := J9 n hn.1 hn.2; have := hl.o; omega)).mono ?_
 rintro e w2 ⟨rfl, h1, h2, h3⟩
 have hW : Hd (Wrote S.toHold lo g w (bs ++ sleb n) w2) := Wrote.after hS.o hx.o ⟨h1, h2, h3⟩
 refine hK _ _ (h2.mono fun k _ hk => (ig.o.2 k).1 hk) ?_
 clear hK K h1 h2 h3
 repeat (apply item_take; rfl; rfl; rfl; rfl; exact fun _ _ _ _ h => h; (intro _ _ _ k; go_simp; exact k))
 apply zl
 go_wp2
 go_ret
 exact ⟨rfl, hW.o⟩
abbrev IsW := IsB 135
theorem YD (lo g : Nat) (bs ys : List UInt8) (w : World) (A : Nat → Prop) (aa : Option Addr) (m c : Nat) (hS : IsW lo g bs w) (hR : Lay.u8.slice.rd A w [.slice aa m c] ys) (ap : lo ≤ w.heap.size) (hl : bs.length + ys.length ≤ 70368744177664) :
 Calls Tryz.prog 206 #[.pointer (some ⟨g, 0, none⟩), .slice aa m c] w fun e w' => e = .returned (.tuple #[.int .i64 m, .nilIface]) ∧ IsW lo g (bs ++ ys) w' ∧ Fr (jA w g) w w' ∧ ∀ k, jA w' g k → jA w g k ∨ w.heap.size ≤ k := by
 have EW := qh hS
 obtain ⟨hg, v, hb, ho, aO⟩ := hS
 have hc := hb.cell 0
 have hf := hb.frz 0
 simp only [List.getElem?_toArray, List.getElem?_cons_zero] at hc
 have H := qh (anQ hg (anQ hb (anQ ho (anQ aO (anQ hR (anQ ap hl))))))
 clear hg hb ho aO hR ap hl
 go_enter Tryz.func206, Tryz.ntmps206
 go_wp2_with (at_builtin; refine Hd.o ?_)
 obtain ⟨hg, hb, ho, aO, hR, ap, hl⟩ := H.o
 refine JD Lay.u8 lo rfl (.tmp 10) (.tmp 11) _ _ (.int .u8 0) 1 rfl Tryz.underlying22 zi3 rfl (by omega) (by decide) v bs ys aa m c rfl rfl ho hR (fun _ h => Lay.all_flat Lay.flat_u8 h) ap (by omega) ?_
 intro v1 w1 h1 h2 h3
 clear hc hf
 have dw := hb.fr h2 (fun e => aO e.symm)
 have ek := dw.cell 0
 have iw := dw.frz 0
 simp only [List.getElem?_toArray, List.getElem?_cons_zero] at ek
 obtain ⟨kF, n1, cR, e1⟩ := h1.shape
 subst e1
 have H1 := qh (anQ h1 (anQ h2 h3))
 clear hg hb ho aO hR ap hl h1 h2 h3 dw
 go_wp2
 go_ret2
 obtain ⟨hg, hb, ho, aO, hR, ap, hl⟩ := H.o
 obtain ⟨h1, h2, h3⟩ := H1.o
 exact ⟨rfl, (YC hg hb aO h1 h2 h3).is, (YC hg hb aO h1 h2 h3).fr, (YC hg hb aO h1 h2 h3).foot⟩
def zi5 : Sink where
 toHold := zfu 135
 T := 133
 f := 206
 nil _ _ := by kernel_rfl
 meth _ _ := by kernel_rfl
 call _ _ := by kernel_rfl
 write := YD
section
variable {P : Program} {ar : Array Oper} {rest : List Oper} {o : Oper} {a : Act} {Q : Exit → Act → World → Prop} {K : Act → World → Prop}
theorem yT {α : Type} (l : Lay α) {W : World} (lo n : Nat) (hn : W.heap.size = n) (ir : o.guard = none) (s x : Operand) (t e : TypeId) (z : Value) (bytes : Nat)
 (ho : o.op = .call { callee := .builtin .append, args := #[s, x], argTypes := #[t, t] })
 (ht : P.underlying t = some (.slice e)) (bj : (P.info? e).map (fun i => (i.zero, i.size, i.bytes)) = some (some z, l.size, bytes)) (hz : z.cells.size = l.size) (ct : 0 < bytes) (dr : 0 < l.size)
 (v : Value) (xs : List α) (y : α) (cs : Array Value) (hs : a.eval s = v) (hx : a.eval x = .slice (some ⟨n, 0, none⟩) 1 1)
 (HO : Own l e lo W v xs) (HY : l.rd (fun k => lo ≤ k ∧ k < W.heap.size ∧ some k ≠ v.ownBlock) W cs.toList y)
 (ap : lo ≤ W.heap.size) (hl : (xs.length + 1) * bytes ≤ 140737488355328)
 (h : ∀ v1 w1, Own l e lo w1 v1 (xs ++ [y]) → Fr (fun k => some k = v.ownBlock) W w1 → (∀ k, v1.ownBlock = some k → v.ownBlock = some k ∨ W.heap.size ≤ k) → wpList P ar Q rest (a.put o.dst v1) w1) :
 wpList P ar Q (o :: rest) a (W.alloc (.cells cs e)) := by
 subst hn
 exact Yq l lo ir s x t e z bytes ho ht bj hz ct dr v xs y cs hs hx HO HY ap hl h
end
variable {W : World}
theorem ext_up (h : Fr (fun k => w.heap.size ≤ k) w W) : Ext w W := h.mono (fun k hk h => absurd hk (by have h' : w.heap.size ≤ k := h; omega))
theorem Fr.new {S : Nat → Prop} (h : Fr S w W) (hS : ∀ k, S k → w.heap.size ≤ k) : Ext w W := h.mono (fun k hk h => absurd hk (by have := hS k h; omega))
theorem Zb (b : Nat) (hb : b < 256) : Value.int .u8 ((UInt8.ofNat b).toNat : Int) = Value.int .u8 (b : Int) := by rw [UInt8.toNat_ofNat', Nat.mod_eq_of_lt (by omega)]
variable {P : Program} {cs : Array Value}
theorem Blk.load (h : Blk w g cs T) (n : Nat) (hn : cs.size = n) : (loadCellsFrom ⟨g, 0, none⟩ 0 n #[]).run P w = .ok cs w := by
 subst hn
 have := run_loadCells_list (P := P) w ⟨g, 0, none⟩ cs.toList (fun j v hv => by rw [jL, Nat.zero_add, h.cell j]; simpa using hv)
 simpa [loadCells] using this
variable {ty : TypeId}
theorem Blk.loadAt (h : Blk w g cs T) (d : TypeDesc) (hu : P.underlying ty = some d) (hd : d.isRow = true) (hi : (P.info? ty).map (·.size) = some cs.size) :
 (Instr.loadAt ty (.pointer (some ⟨g, 0, none⟩))).run P w = .ok (.agg cs) w :=
 run_loadAt_mid w g 0 ty cs.toList d (fun j v hv => by rw [Nat.zero_add, h.cell j]; simpa using hv) hu hd (by simpa using hi)
theorem Blk.loadVar (h : Blk w g cs T) (d : TypeDesc) (hu : P.underlying ty = some d) (hd : d.isRow = true) (hi : (P.info? ty).map (·.size) = some cs.size) :
 (loadVar ty ⟨g, 0, none⟩).run P w = .ok (.agg cs) w :=
 run_loadVar_mid w g 0 ty cs.toList d (fun j v hv => by rw [Nat.zero_add, h.cell j]; simpa using hv) hu hd (by simpa using hi)
theorem Blk.setRow (h : Blk w g cs T) (gV : Array Value) : Blk (w.setRow g gV) g gV T := setRow_heap w g cs gV T (0, 0) h
theorem yE (w : World) (g : Nat) (cs : Array Value) : Fr (fun k => k = g) w (w.setRow g cs) := ⟨rfl, rfl, rfl, by rw [World.setRow, Array.size_modify]; omega, fun k _ hk => setRow_other w g k _ (fun e => hk e)⟩
theorem Blk.store (h : Blk w g cs T) (l : List Value) (hn : l.length = cs.size) (h1 : ∀ v ∈ l, v.oneCell' = true) : (storeCells ⟨g, 0, none⟩ l 0).run P w = .ok () (w.setRow g l.toArray) := by
 have := run_storeCells_from (P := P) g T l 0 cs w h (by omega) h1
 simpa using this
section
variable {P : Program} {ar : Array Oper} {rest : List Oper} {o : Oper} {a : Act} {Q : Exit → Act → World → Prop}
theorem Blk.wpList_load {w : World} {g : Nat} {cs : Array Value} {T : TypeId} (hB : Blk w g cs T) (ir : o.guard = none) (ty : TypeId) (x : Operand) (ho : o.op = .load ty x) (hx : a.eval x = .pointer (some ⟨g, 0, none⟩)) (d : TypeDesc)
 (hu : P.underlying ty = some d) (hd : d.isRow = true) (hi : (P.info? ty).map (·.size) = some cs.size) (h : wpList P ar Q rest (a.put o.dst (.agg cs)) w) : wpList P ar Q (o :: rest) a w :=
 wpList_load_mid ir ty x ho g 0 hx cs.toList d (fun j v hv => by rw [Nat.zero_add, hB.cell j]; simpa using hv) hu hd (by simpa using hi) h
theorem Blk.wpList_store {w : World} {g : Nat} {cs gV : Array Value} {T : TypeId} (hB : Blk w g cs T) (ir : o.guard = none) (ty : TypeId) (x y : Operand) (ho : o.op = .store ty x y) (hx : a.eval x = .pointer (some ⟨g, 0, none⟩)) (hy : a.eval y = .agg gV)
 (hi : (P.info? ty).map (·.size) = some gV.size) (hs : cs.size = gV.size) (h1 : gV.toList.all (·.oneCell') = true) (h : wpList P ar Q rest (a.put o.dst undef) (w.setRow g gV)) : wpList P ar Q (o :: rest) a w :=
 wpList_plain ir fun _ hK => by
  unfold Oper.wp execOp
  simp only [ho, hx, hy, Instr.storeAt, Instr.sureAddr, Sem.run_bind, Sem.run_pure, Result.andThen_ok, run_storeVar_row (P := P) w g T ty cs gV hB hi hs (by rw [← Array.all_toList]; exact h1)]
  exact hK _ _ h
end
namespace Lay
variable {α : Type}
end Lay
def OwnG {α : Type} (l : Lay α) (e : TypeId) (lo : Nat) (X : Nat → Prop) (w : World) (v : Value) (xs : List α) : Prop :=
 ∃ flat, w.ownsRow lo e l.size v xs.length flat ∧ l.all (fun k => ¬ X k ∧ k < w.heap.size ∧ some k ≠ v.ownBlock) w flat xs
variable {α : Type}
theorem zK (l : Lay α) (e : TypeId) (lo : Nat) (X : Nat → Prop) (w : World) : OwnG l e lo X w (.slice none 0 0) [] := ⟨[], World.ownsRow_nil _ _ _ _, rfl⟩
variable {l : Lay α} {e : TypeId} {X : Nat → Prop} {xs : List α}
theorem OwnG.lt (h : OwnG l e lo X w v xs) : ∀ k, v.ownBlock = some k → lo ≤ k ∧ k < w.heap.size := by
 obtain ⟨flat, h, _⟩ := h
 exact h.lt
theorem OwnG.fr {S : Nat → Prop} (h : OwnG l e lo X w v xs) (hf : Fr S w w') (hs : ∀ k, S k → X k ∨ w.heap.size ≤ k) (ho : ∀ k, v.ownBlock = some k → ¬ S k) : OwnG l e lo X w' v xs := by
 have ah := h.lt
 obtain ⟨flat, h, k⟩ := h
 refine ⟨flat, ?_, Lay.all_mono (fun k hk => ⟨hk.1, nqQ hk.2.1 hf.size, hk.2.2⟩) (Lay.all_frame (fun k hk => hf.block k hk.2.1 (fun hS => (hs k hS).elim hk.1 (fun h => absurd hk.2.1 (by omega)))) k)⟩
 obtain ⟨h1, h2⟩ := h
 refine ⟨h1, h2.imp id ?_⟩
 rintro ⟨g, cap, bO, rfl, hg, hh, r⟩
 have := ah g rfl
 exact ⟨g, cap, bO, rfl, hg, (hf.block g this.2 (ho g rfl)).trans hh, r⟩
theorem OwnG.ext (h : OwnG l e lo X w v xs) (hf : Ext w w') : OwnG l e lo X w' v xs := h.fr hf (fun _ h => h.elim) (fun _ _ h => h)
theorem OwnG.slice (h : OwnG l e lo X w v xs) (hX : ∀ k, lo ≤ k → ¬ X k) : l.slice.rd (fun k => ¬ X k ∧ k < w.heap.size) w [v] xs := by
 obtain ⟨flat, ⟨h1, h2⟩, k⟩ := h
 rcases h2 with ⟨rfl, h0⟩ | ⟨g, cap, bO, rfl, hg, hh, hn, hm, hs, ht⟩
 ·have : xs = [] := List.eq_nil_of_length_eq_zero h0
  subst this
  exact ⟨none, 0, rfl, Nat.le_refl _, by simp [maxLen], fun h => absurd h (by simp)⟩
 ·refine ⟨_, cap, rfl, hn, hm, fun _ => ⟨g, 0, bO, e, (0, 0), flat, rfl, ⟨hX g hg, (Zw hh)⟩, hh, Lay.all_mono (fun k hk => ⟨hk.1, hk.2.1⟩) k, fun j hj => ?_⟩⟩
  rw [Nat.zero_add, ← ht, List.getElem?_take, if_pos (by omega)]
  simp
theorem OwnG.form (h : OwnG l e lo X w v xs) : ∃ a cap, v = .slice a xs.length cap ∧ xs.length ≤ cap ∧ cap ≤ maxLen := by
 obtain ⟨flat, ⟨h1, h2⟩, k⟩ := h
 rcases h2 with ⟨rfl, h0⟩ | ⟨g, cap, bO, rfl, hg, hh, hn, hm, hs, ht⟩
 ·exact ⟨none, 0, by rw [h0], by omega, by simp [maxLen]⟩
 ·exact ⟨_, cap, rfl, hn, hm⟩
theorem OwnG.shape (h : OwnG l e lo X w v xs) : ∃ a n cap, v = .slice a n cap := by
 obtain ⟨a, cap, e, _⟩ := h.form
 exact ⟨a, _, cap, e⟩
section
variable {P : Program} {ar : Array Oper} {rest : List Oper} {o : Oper} {a : Act} {Q : Exit → Act → World → Prop} {K : Act → World → Prop}
theorem Yi {α : Type} (l : Lay α) {W : World} (lo : Nat) {X : Nat → Prop} (s x : Operand) (t e : TypeId) (z : Value) (bytes : Nat)
 (ho : o.op = .call { callee := .builtin .append, args := #[s, x], argTypes := #[t, t] })
 (ht : P.underlying t = some (.slice e)) (bj : (P.info? e).map (fun i => (i.zero, i.size, i.bytes)) = some (some z, l.size, bytes)) (hz : z.cells.size = l.size) (ct : 0 < bytes) (dr : 0 < l.size)
 (v : Value) (xs ys : List α) (ij : List Value) (ad : Addr) (m c : Nat) (hs : a.eval s = v) (hx : a.eval x = .slice (some ad) m c) (hm : ys.length = m)
 (HO : OwnG l e lo X W v xs) (HN : l.all (fun k => ¬ X k ∧ k < W.heap.size ∧ some k ≠ v.ownBlock) W ij ys) (m0 : ∀ j u, ij[j]? = some u → W.cell? (ad.add j) = some u)
 (ap : lo ≤ W.heap.size) (hl : (xs.length + m) * bytes ≤ 140737488355328)
 (h : ∀ v1 w1, OwnG l e lo X w1 v1 (xs ++ ys) → Fr (fun k => some k = v.ownBlock) W w1 → (v1.ownBlock = v.ownBlock ∨ v1.ownBlock = some W.heap.size) → K (a.put o.dst v1) w1) :
 o.wp P a W K Q := by
 obtain ⟨i0, hi, kY⟩ := Option.map_eq_some_iff.1 bj
 simp only [Prod.mk.injEq] at kY
 obtain ⟨fh, iu, nz⟩ := kY
 have ah := HO.lt
 obtain ⟨flat, HO, HF⟩ := HO
 have ao : xs.length + m ≤ 140737488355328 := nlQ (Nat.le_mul_of_pos_right _ ct) hl
 obtain ⟨v1, w1, hr, au, hg, _, fo⟩ := run_append_own_at (P := P) W lo t o.type e i0 z l.size bytes ht hi fh iu nz hz dr v xs.length flat HO ad m c ij (by rw [Lay.all_len HN, hm]) m0 (Lay.all_one HN) (by simp only [maxLen]; omega) hl ap
 unfold Oper.wp execOp
 simp only [ho, resolve, invoke, builtin, Sem.run_bind, Sem.run_pure, Result.andThen_ok, List.map_toArray, List.map_cons, List.map_nil, hs, hx, hr]
 show K _ _
 refine h v1 w1 ⟨flat ++ ij, by rw [laQ, hm]; exact au, ?_⟩ (Jp hg) fo
 have vZ := au.lt
 have hA : ∀ k, (¬ X k ∧ k < W.heap.size ∧ some k ≠ v.ownBlock) → (¬ X k ∧ k < w1.heap.size ∧ some k ≠ v1.ownBlock) := fun k hk => ⟨hk.1, nqQ hk.2.1 hg.size, fun e => by
  rcases fo with fo | fo
  ·exact hk.2.2 (e.trans fo)
  ·rw [fo] at e
   injection e with e
   omega⟩
 exact Lay.all_append (Lay.all_mono hA (Lay.all_frame (fun k hk => hg.block k hk.2.1 hk.2.2) HF)) (Lay.all_mono hA (Lay.all_frame (fun k hk => hg.block k hk.2.1 hk.2.2) HN))
theorem jM {α : Type} (l : Lay α) {W : World} (lo : Nat) {X : Nat → Prop} (s x : Operand) (t e : TypeId) (z : Value) (bytes : Nat)
 (ho : o.op = .call { callee := .builtin .append, args := #[s, x], argTypes := #[t, t] })
 (ht : P.underlying t = some (.slice e)) (bj : (P.info? e).map (fun i => (i.zero, i.size, i.bytes)) = some (some z, l.size, bytes)) (hz : z.cells.size = l.size) (ct : 0 < bytes) (dr : 0 < l.size)
 (v : Value) (xs : List α) (y : α) (cs : Array Value) (hs : a.eval s = v) (hx : a.eval x = .slice (some ⟨W.heap.size, 0, none⟩) 1 1)
 (HO : OwnG l e lo X W v xs) (HY : l.rd (fun k => ¬ X k ∧ k < W.heap.size ∧ some k ≠ v.ownBlock) W cs.toList y)
 (ap : lo ≤ W.heap.size) (hl : (xs.length + 1) * bytes ≤ 140737488355328)
 (h : ∀ v1 w1, OwnG l e lo X w1 v1 (xs ++ [y]) → Fr (fun k => some k = v.ownBlock) W w1 → (∀ k, v1.ownBlock = some k → v.ownBlock = some k ∨ W.heap.size ≤ k) → K (a.put o.dst v1) w1) :
 o.wp P a (W.alloc (.cells cs e)) K Q := by
 have ah := HO.lt
 refine Yi l lo s x t e z bytes ho ht bj hz ct dr v xs [y] cs.toList ⟨W.heap.size, 0, none⟩ 1 1 hs hx rfl (HO.ext (za _ _)) ?_ ?_ (by simp; omega) hl ?_
 ·exact Lay.all_single (l.mono (l.frame HY (fun k hk => Below.heap_alloc _ _ _ hk.2.1)) (fun k hk => ⟨hk.1, by simp; omega, hk.2.2⟩))
 ·intro j u hj
  rw [show ((⟨W.heap.size, 0, none⟩ : Addr).add j) = ⟨W.heap.size, j, none⟩ from by unfold Addr.add; split <;> simp_all, (zk W cs e).cell j]
  simpa using hj
 ·intro v1 w1 h1 h2 h3
  refine h v1 w1 h1 (Fr.trans (za W _) h2 (fun _ _ h => h.elim) (fun _ _ h => h)) (fun k hk => ?_)
  rcases h3 with h3 | h3
  ·exact .inl (h3 ▸ hk)
  ·rw [h3] at hk
   injection hk with hk
   refine .inr ?_
   simp at hk
   omega
theorem yB {α : Type} (l : Lay α) {W : World} {X : Nat → Prop} (lo n : Nat) (hn : W.heap.size = n) (ir : o.guard = none) (s x : Operand) (t e : TypeId) (z : Value) (bytes : Nat)
 (ho : o.op = .call { callee := .builtin .append, args := #[s, x], argTypes := #[t, t] })
 (ht : P.underlying t = some (.slice e)) (bj : (P.info? e).map (fun i => (i.zero, i.size, i.bytes)) = some (some z, l.size, bytes)) (hz : z.cells.size = l.size) (ct : 0 < bytes) (dr : 0 < l.size)
 (v : Value) (xs : List α) (y : α) (cs : Array Value) (hs : a.eval s = v) (hx : a.eval x = .slice (some ⟨n, 0, none⟩) 1 1)
 (HO : OwnG l e lo X W v xs) (HY : l.rd (fun k => ¬ X k ∧ k < W.heap.size ∧ some k ≠ v.ownBlock) W cs.toList y)
 (ap : lo ≤ W.heap.size) (hl : (xs.length + 1) * bytes ≤ 140737488355328)
 (h : ∀ v1 w1, OwnG l e lo X w1 v1 (xs ++ [y]) → Fr (fun k => some k = v.ownBlock) W w1 → (∀ k, v1.ownBlock = some k → v.ownBlock = some k ∨ W.heap.size ≤ k) → wpList P ar Q rest (a.put o.dst v1) w1) :
 wpList P ar Q (o :: rest) a (W.alloc (.cells cs e)) := by
 subst hn
 exact wpList_plain ir fun _ hK => jM l lo s x t e z bytes ho ht bj hz ct dr v xs y cs hs hx HO HY ap hl fun v1 w1 h1 h2 h3 => hK _ _ (h v1 w1 h1 h2 h3)
theorem zaT {α : Type} (l : Lay α) {W : World} {X : Nat → Prop} (lo n : Nat) (hn : W.heap.size = n) (s x : Operand) (t e : TypeId) (z : Value) (bytes : Nat)
 (ho : o.op = .call { callee := .builtin .append, args := #[s, x], argTypes := #[t, t] })
 (ht : P.underlying t = some (.slice e)) (bj : (P.info? e).map (fun i => (i.zero, i.size, i.bytes)) = some (some z, l.size, bytes)) (hz : z.cells.size = l.size) (ct : 0 < bytes) (dr : 0 < l.size)
 (v : Value) (xs : List α) (y : α) (cs : Array Value) (hs : a.eval s = v) (hx : a.eval x = .slice (some ⟨n, 0, none⟩) 1 1)
 (HO : OwnG l e lo X W v xs) (HY : l.rd (fun k => ¬ X k ∧ k < W.heap.size ∧ some k ≠ v.ownBlock) W cs.toList y)
 (ap : lo ≤ W.heap.size) (hl : (xs.length + 1) * bytes ≤ 140737488355328)
 (h : ∀ v1 w1, OwnG l e lo X w1 v1 (xs ++ [y]) → Fr (fun k => some k = v.ownBlock) W w1 → (∀ k, v1.ownBlock = some k → v.ownBlock = some k ∨ W.heap.size ≤ k) → K (a.put o.dst v1) w1) :
 o.wp P a (W.alloc (.cells cs e)) K Q := by
 subst hn
 exact jM l lo s x t e z bytes ho ht bj hz ct dr v xs y cs hs hx HO HY ap hl h
end
theorem ze1 {f : Nat} {w0 : World} {ys : List α} 
 (hB : Blk W g cs T) (hO : OwnG l e lo X W v xs) (hF : Fr (fun k => k = g) w0 W) (hX : X g) (hg : g < lo) (ap : lo = w0.heap.size)
 (h1 : OwnG l e lo X w1 v1 ys) (h2 : Fr (fun k => some k = v.ownBlock) W w1) :
 Blk w1 g cs T ∧ (Blk (w1.setCell ⟨g, f, none⟩ v1) g (cs.setIfInBounds f v1) T ∧ OwnG l e lo X (w1.setCell ⟨g, f, none⟩ v1) v1 ys ∧ Fr (fun k => k = g) w0 (w1.setCell ⟨g, f, none⟩ v1)) := by
 have cY := hB.fr h2 (fun e => by have := (hO.lt g e.symm).1; omega)
 have hs := zh w1 ⟨g, f, none⟩ v1
 refine ⟨cY, cY.set f v1, h1.fr hs (fun k e => .inl (by have e' : k = g := e; rw [e']; exact hX)) (fun k hk e => by have := (h1.lt k hk).1; have e' : k = g := e; omega), ?_⟩
 exact Fr.trans (Fr.trans hF h2 (fun _ _ h => h) (fun k hk e => absurd hk (by have := (hO.lt k e.symm).1; omega))) hs (fun _ _ h => h) (fun _ _ h => h)
section
variable {P : Program} {ar : Array Oper} {rest : List Oper} {a : Act} {w : World} {Q : Exit → Act → World → Prop}
theorem Jx (T : TypeId) {d : Option Tmp} {x y : Operand} {ty : TypeId} {p : String} {af : Array Edge} {g : Option (Nat × Bool)} (h : Hd (wpList P ar Q ({ dst := d, op := .store T x y, type := ty, pos := p, after := af, guard := g } :: rest) a w)) :
 wpList P ar Q ({ dst := d, op := .store T x y, type := ty, pos := p, after := af, guard := g } :: rest) a w := h.o
theorem Zc (T : TypeId) {d : Option Tmp} {x : Operand} {ty : TypeId} {p : String} {af : Array Edge} {g : Option (Nat × Bool)} (h : Hd (wpList P ar Q ({ dst := d, op := .load T x, type := ty, pos := p, after := af, guard := g } :: rest) a w)) :
 wpList P ar Q ({ dst := d, op := .load T x, type := ty, pos := p, after := af, guard := g } :: rest) a w := h.o
theorem Y1 (T : TypeId) {d : Option Tmp} {g9 : Array (Nat × Operand)} {ty : TypeId} {p : String} {af : Array Edge} {g : Option (Nat × Bool)} (h : Hd (wpList P ar Q ({ dst := d, op := .build T g9, type := ty, pos := p, after := af, guard := g } :: rest) a w)) :
 wpList P ar Q ({ dst := d, op := .build T g9, type := ty, pos := p, after := af, guard := g } :: rest) a w := h.o
theorem Zd {o : Oper} (hg : o.guard = none) (t : TypeId) (g9 : Array (Nat × Operand)) (ho : o.op = .build t g9) (cells : Array Value)
 (hf : P.built t (g9.map fun (i, x) => (i, a.eval x)).toList = some cells) (h : wpList P ar Q rest (a.put o.dst (.agg cells)) w) : wpList P ar Q (o :: rest) a w :=
 wpList_build hg t g9 ho (by rw [hf]; rfl) (by rw [hf]; exact h)
end
theorem jG {fn : Func} {a ty : Nat} (h : fn.results = #[.cell a ty]) (tmps : Array Value) (hp : tmps.getD a undef = .pointer (some ⟨g, 0, none⟩)) (hB : Blk w g cs T) (d : TypeDesc)
 (hu : P.underlying ty = some d) (hd : d.isRow = true) (hi : (P.info? ty).map (·.size) = some cs.size) : (results fn tmps).run P w = .ok (.agg cs) w := by
 have xO : tmps[a]?.getD undef = .pointer (some ⟨g, 0, none⟩) := by simpa using hp
 simp [results, h, xO, asAddr, hB.loadVar d hu hd hi]
theorem Lay.slice_one (h : (Lay.slice l).rd A w [v] xs) : v.oneCell' = true := (Lay.slice l).one h v (.head _)
end Go.Proofs.YtejgninpjhcgnaaGreatDoor
