/- Texts of this proof, one behind the other. -/
import Derived.OrdersHeld
import Derived.Deep.RegionHeld3
import Derived.Below
import Derived.WalkKit
import Derived.Lib.Hide
import Derived.Maps.AppendAt
import Derived.Lib.Builder
import Derived.Laws.MakeOwn
import Derived.Deep.Draws
import Derived.ProofKit
import Derived.OpenShut
import Derived.Carry
import Derived.KernelRfl
import Derived.Deep.QuietTactic
import Derived.BigQuiet
import Derived.Laws.CopyOwn
import Derived.Test.YtejgninpjhcgnaaGreatDoorProg
namespace Go.Proofs.YtejgninpjhcgnaaGreatDoor
open Go.RowKit
open Go.ChangeShapes Go.WideShapes Go.ChangeAt Go.RowKit
set_option linter.unusedSimpArgs false
set_option linter.unusedVariables false
set_option maxRecDepth 100000
set_option maxHeartbeats 200000
def Hq (p : Prop) : Prop := p
variable {p : Prop}
theorem Hq.o (h : Hq p) : p := h
theorem qh (h : p) : Hq p := h
theorem anQ {a b : Prop} (h : a) (k : b) : a ∧ b := ⟨h, k⟩
theorem nqQ {a b c : Nat} (h : a < b) (k : b ≤ c) : a < c := Nat.lt_of_lt_of_le h k
theorem nlQ {a b c : Nat} (h : a ≤ b) (k : b ≤ c) : a ≤ c := Nat.le_trans h k
theorem nzQ (n : Nat) : 0 ≤ n := Nat.zero_le n
variable {α : Type} {x d : α}
theorem gzQ {l : List α} : (x :: l).getD 0 d = x := rfl
variable {n : Nat}
theorem gsQ {l : List α} : (x :: l).getD (n + 1) d = l.getD n d := rfl
theorem laQ {l m : List α} : (l ++ m).length = l.length + m.length := List.length_append
theorem tsQ {l : List α} {i : Nat} (h : i < l.length) : l.take (i + 1) = l.take i ++ [l[i]] := List.take_succ_eq_append_getElem h
theorem ltQ {l : List α} : (l.take n).length = min n l.length := List.length_take
theorem ldQ {l : List α} : (l.drop n).length = l.length - n := List.length_drop
theorem tlQ {l : List α} : l.take l.length = l := List.take_length
theorem exQ {α : Sort _} (a : α) : ∃ b, a = b := ⟨_, rfl⟩
theorem bfQ {a b : Int} (h : a ≠ b) : (a == b) = false := by rw [beq_eq_false_iff_ne]; exact h
section
variable {P : Program} {aw : Array Oper} {Q : Exit → Act → World → Prop} {md : Region.Mode} {E : World → World → Prop} {ds : List Nat}
def Z0 (md : Region.Mode) (aw : Array Oper) (i : Nat) : Nat → Nat → Bool
 | 0, _ => false
 | fuel + 1, d => match aw[d]? with
  | some o => o.after.any fun e => Region.binds md e && (e.on == i || Z0 md aw i fuel e.on)
  | none => false
def zdq (md : Region.Mode) (aw : Array Oper) (ao : Array Bool) : Bool :=
 (List.range aw.size).all fun j => !ao.getD j false || match aw[j]? with
  | some o => o.after.all fun e => !Region.binds md e || ao.getD e.on false
  | none => true
def zje (md : Region.Mode) (aw : Array Oper) (ao : Array Bool) (ds : List Nat) (i : Nat) : Bool :=
 ds.all fun d => ao.getD d true || Z0 md aw i aw.size d
def yQ (md : Region.Mode) (aw : Array Oper) (ao : Array Bool) : Prop :=
 ∀ j oj, aw[j]? = some oj → ao.getD j false = true → ∀ e ∈ oj.after, Region.binds md e = true → ao.getD e.on false = true
theorem Y1 {ao : Array Bool} (h : zdq md aw ao = true) : yQ md aw ao := by
 intro j oj hj hl e he hb
 have aj : j < aw.size := (Array.getElem?_eq_some_iff.1 hj).1
 have h1 := List.all_eq_true.1 h j (List.mem_range.2 aj)
 simp only [hl, hj, Bool.not_true, Bool.false_or] at h1
 have h2 := Array.all_eq_true_iff_forall_mem.1 h1 e he
 simpa [hb] using h2
theorem yQ.set {ao : Array Bool} {i : Nat} (h : yQ md aw ao) (hi : i ∈ Region.ready md aw ao) : yQ md aw (ao.setIfInBounds i true) := by
 obtain ⟨_, oi, Dg, cO⟩ := mem_ready.1 hi
 intro j oj hj hl e he hb
 by_cases qF : i = j
 ·subst qF
  have : oj = oi := Option.some.inj (hj.symm.trans Dg)
  subst this
  exact getD_set_true (cO e he hb)
 ·rw [getD_set_ne false qF] at hl
  exact getD_set_true (h j oj hj hl e he hb)
theorem Y2 {ao : Array Bool} {i : Nat} (hc : yQ md aw ao) : ∀ (fuel d : Nat), Z0 md aw i fuel d = true → ao.getD d false = true → ao.getD i false = true
 | 0, _, h, _ => by simp [Z0] at h
 | fuel + 1, d, h, hl => by
  unfold Z0 at h
  cases ho : aw[d]? with
  | none => rw [ho] at h; simp at h
  | some o =>
   rw [ho] at h
   obtain ⟨e, he, h1⟩ := Array.any_eq_true'.1 h
   simp only [Bool.and_eq_true, Bool.or_eq_true, beq_iff_eq] at h1
   have lj := hc d o ho hl e he h1.1
   rcases h1.2 with h2 | h2
   ·rw [← h2]; exact lj
   ·exact Y2 hc fuel e.on h2 lj
theorem zar {ao : Array Bool} {i d fuel : Nat} (hc : yQ md aw ao) (hr : Z0 md aw i fuel d = true) (dD : ao.getD i true = false) : d ∉ Region.ready md aw ao := by
 intro hd
 obtain ⟨_, o, ho, cO⟩ := mem_ready.1 hd
 have hi : ao.getD i false = true := by
  cases fuel with
  | zero => simp [Z0] at hr
  | succ n =>
   unfold Z0 at hr
   rw [ho] at hr
   obtain ⟨e, he, h1⟩ := Array.any_eq_true'.1 hr
   simp only [Bool.and_eq_true, Bool.or_eq_true, beq_iff_eq] at h1
   have lj := cO e he h1.1
   rcases h1.2 with h2 | h2
   ·rw [← h2]; exact lj
   ·exact Y2 hc n e.on h2 lj
 rcases Nat.lt_or_ge i ao.size with h' | h'
 ·simp [h'] at dD hi
  rw [dD] at hi
  cases hi
 ·simp [Array.getElem?_eq_none h'] at dD
def JN (P : Program) (md : Region.Mode) (aw : Array Oper) (Q : Exit → Act → World → Prop) (E : World → World → Prop) (ds : List Nat) : Nat → Array Bool → Act → World → Prop
 | 0, ao, a, w => Region.ready md aw ao = [] ∧ Q .normal a w
 | fuel + 1, ao, a, w =>
  (Region.ready md aw ao = [] → Q .normal a w) ∧
  ∀ i ∈ Region.ready md aw ao, wpOp P aw Q i (fun a' w' => (i ∉ ds → E w w') ∧ JN P md aw Q E ds fuel (ao.setIfInBounds i true) a' w') a w
theorem YF : ∀ (fuel : Nat) (ao : Array Bool) (a : Act) (w : World), JN P md aw Q E ds fuel ao a w → wpAny P md aw Q fuel ao a w
 | 0, _, _, _, h => h
 | fuel + 1, _, _, _, h => ⟨h.1, fun i hi => wpOp_mono (fun a' w' h' => YF fuel _ a' w' h'.2) (h.2 i hi)⟩
theorem Y3 (dk : ∀ w, E w w) (c5 : ∀ a b c, E a b → E b c → E a c) {i : Nat} {oi : Oper} {v : Value} (hi : aw[i]? = some oi) (rM : ∀ (j : Nat) (o : Oper) cs b, aw[j]? = some o → o.op ≠ .select cs b)
 (hQ : ∀ c a w, Q (.panic c) (a.put oi.dst v) w → Q (.panic c) a w) (n : Nat) :
 ∀ (fuel : Nat) (ao : Array Bool) (a : Act) (w : World),
  (∀ j oj, aw[j]? = some oj → j ≠ i → ao.getD j true = false → (∀ e ∈ oj.after, Region.binds md e = true → e.on ≠ i) → oi.apart aw oj = true) →
  yQ md aw ao → (∀ d ∈ ds, ao.getD d true = false → Z0 md aw i n d = true) →
  i ∈ Region.ready md aw ao → YieldsIf P aw (E w) oi v a →
  JN P md aw Q E ds fuel (ao.setIfInBounds i true) (a.put oi.dst v) w → JN P md aw Q E ds (fuel + 1) ao a w := by
 intro fuel
 induction fuel with
 | zero =>
  intro ao a w _ _ _ hr hy H
  refine ⟨fun h => (by rw [h] at hr; cases hr), fun j hj => ?_⟩
  by_cases hji : j = i
  ·subst hji; exact hy.wpOp hi (dk w) ⟨fun _ => dk w, H⟩
  ·have := ready_mono hj hji
   rw [H.1] at this
   cases this
 | succ fuel ih =>
  intro ao a w oP hc hd hr hy H
  refine ⟨fun h => (by rw [h] at hr; cases hr), fun j hj => ?_⟩
  by_cases hji : j = i
  ·subst hji; exact hy.wpOp hi (dk w) ⟨fun _ => dk w, H⟩
  ·have h1 := H.2 j (ready_mono hj hji)
   obtain ⟨nI, oj, xv, cO⟩ := mem_ready.1 hj
   have qo := (mem_ready.1 hr).1
   have xR : ∀ e ∈ oj.after, Region.binds md e = true → e.on ≠ i := fun e he hb un => by
    have h1 := cO e he hb
    rw [un] at h1
    rcases Nat.lt_or_ge i ao.size with h' | h'
    ·simp [h'] at qo h1; rw [qo] at h1; cases h1
    ·simp [Array.getElem?_eq_none h'] at h1
   have CQ : j ∉ ds := fun hm => zar hc (hd j hm nI) qo hj
   have h2 := wpOp_putIf xv (oP j oj xv hji nI xR) (fun cs b => rM i oi cs b hi) (fun cs b => rM j oj cs b xv) hQ hy h1
   have qc : ∀ k ok, aw[k]? = some ok → k ≠ i → (ao.setIfInBounds j true).getD k true = false →
    (∀ e ∈ ok.after, Region.binds md e = true → e.on ≠ i) → oi.apart aw ok = true := fun k ok hk rH dD rq => by
    refine oP k ok hk rH ?_ rq
    by_cases hjk : j = k
    ·subst hjk; exact nI
    ·rw [getD_set_ne true hjk] at dD; exact dD
   have Bq : ∀ d ∈ ds, (ao.setIfInBounds j true).getD d true = false → Z0 md aw i n d = true := fun d hm dD => by
    refine hd d hm ?_
    by_cases hjk : j = d
    ·subst hjk; exact nI
    ·rw [getD_set_ne true hjk] at dD; exact dD
   refine wpOp_mono (fun a' w' h3 => ⟨h3.2.1, ih (ao.setIfInBounds j true) a' w' qc (hc.set hj) Bq (ready_mono hr (Ne.symm hji)) ?_ ?_⟩) h2
   ·exact h3.1.imp (fun ⟨x, y⟩ => ⟨x, fun vT hE => y vT (c5 _ _ _ (h3.2.1 CQ) hE)⟩) id
   ·rw [Array.setIfInBounds_comm _ _ hji]
    exact h3.2.2
inductive Tag where
 | take | run | last | two (j : Nat) | both (j : Nat)
 deriving DecidableEq
def zbQ (P : Program) (aw : Array Oper) (Q : Exit → Act → World → Prop) (E : World → World → Prop) : List (Nat × Tag) → Act → World → Prop
 | [], a, w => Q .normal a w
 | (i, .take) :: rest, a, w => ∃ oi v, aw[i]? = some oi ∧ (∀ c a w, Q (.panic c) (a.put oi.dst v) w → Q (.panic c) a w) ∧ YieldsIf P aw (E w) oi v a ∧ zbQ P aw Q E rest (a.put oi.dst v) w
 | (i, .run) :: rest, a, w => wpOp P aw Q i (fun a' w' => E w w' ∧ zbQ P aw Q E rest a' w') a w
 | (i, .last) :: rest, a, w => wpOp P aw Q i (fun a' w' => zbQ P aw Q E rest a' w') a w
 | (i, .two j) :: rest, a, w => ∃ J : Act → World → Prop, (∀ a' w', J a' w' → zbQ P aw Q E rest a' w') ∧
  wpOp P aw Q i (fun a1 w1 => E w w1 ∧ wpOp P aw Q j (fun a2 w2 => E w1 w2 ∧ J a2 w2) a1 w1) a w ∧
  wpOp P aw Q j (fun a1 w1 => E w w1 ∧ wpOp P aw Q i (fun a2 w2 => E w1 w2 ∧ J a2 w2) a1 w1) a w
 | (i, .both j) :: rest, a, w => ∃ J : Act → World → Prop, (∀ a' w', J a' w' → zbQ P aw Q E rest a' w') ∧
  wpOp P aw Q i (fun a1 w1 => wpOp P aw Q j J a1 w1) a w ∧ wpOp P aw Q j (fun a1 w1 => wpOp P aw Q i J a1 w1) a w
def j0 : List (Nat × Tag) → Nat
 | [] => 0
 | (_, .two _) :: rest | (_, .both _) :: rest => j0 rest + 2
 | _ :: rest => j0 rest + 1
def Yg (md : Region.Mode) (aw : Array Oper) (ds : List Nat) : List (Nat × Tag) → Array Bool → Bool
 | [], l => Region.ready md aw l == []
 | (i, .take) :: rest, l => Region.free md aw l i && (Region.ready md aw l).contains i && zdq md aw l && zje md aw l ds i && Yg md aw ds rest (l.setIfInBounds i true)
 | (i, .run) :: rest, l => (Region.ready md aw l == [i]) && Yg md aw ds rest (l.setIfInBounds i true)
 | (i, .last) :: rest, l => (Region.ready md aw l == [i]) && ds.contains i && Yg md aw ds rest (l.setIfInBounds i true)
 | (i, .two j) :: rest, l => (Region.ready md aw l == [i, j]) && (Region.ready md aw (l.setIfInBounds i true) == [j]) && (Region.ready md aw (l.setIfInBounds j true) == [i]) &&
  Yg md aw ds rest ((l.setIfInBounds i true).setIfInBounds j true) && i != j
 | (i, .both j) :: rest, l => (Region.ready md aw l == [i, j]) && (Region.ready md aw (l.setIfInBounds i true) == [j]) && (Region.ready md aw (l.setIfInBounds j true) == [i]) &&
  Yg md aw ds rest ((l.setIfInBounds i true).setIfInBounds j true) && i != j && ds.contains i && ds.contains j
def dsOf : List (Nat × Tag) → List Nat
 | [] => []
 | (i, .last) :: rest => i :: dsOf rest
 | (i, .both j) :: rest => i :: j :: dsOf rest
 | _ :: rest => dsOf rest
theorem jE {i : Nat} {n : Nat} {l : Array Bool} {a : Act} {w : World} (hr : Region.ready md aw l = [i])
 (h : wpOp P aw Q i (fun a' w' => (i ∉ ds → E w w') ∧ JN P md aw Q E ds n (l.setIfInBounds i true) a' w') a w) : JN P md aw Q E ds (n + 1) l a w := by
 refine ⟨fun h0 => absurd (hr ▸ h0) (by simp), fun j hj => ?_⟩
 rw [hr] at hj
 obtain rfl : j = i := by simpa using hj
 exact h
theorem YG {i j : Nat} {n : Nat} {l : Array Bool} {a : Act} {w : World} (hr : Region.ready md aw l = [i, j])
 (hi : wpOp P aw Q i (fun a' w' => (i ∉ ds → E w w') ∧ JN P md aw Q E ds n (l.setIfInBounds i true) a' w') a w)
 (hj : wpOp P aw Q j (fun a' w' => (j ∉ ds → E w w') ∧ JN P md aw Q E ds n (l.setIfInBounds j true) a' w') a w) : JN P md aw Q E ds (n + 1) l a w := by
 refine ⟨fun h0 => absurd (hr ▸ h0) (by simp), fun k hk => ?_⟩
 rw [hr] at hk
 rcases List.mem_cons.1 hk with rfl | hk
 ·exact hi
 ·obtain rfl : k = j := by simpa using hk
  exact hj
theorem yo (dk : ∀ w, E w w) (c5 : ∀ a b c, E a b → E b c → E a c) (hs : Region.noSelect aw = true) : ∀ (l : List (Nat × Tag)) (ao : Array Bool) (a : Act) (w : World),
 Yg md aw ds l ao = true → zbQ P aw Q E l a w → JN P md aw Q E ds (j0 l) ao a w
 | [], ao, a, w, hc, h => by
  simp only [Yg, beq_iff_eq] at hc
  exact ⟨hc, h⟩
 | (i, .take) :: rest, ao, a, w, hc, h => by
  simp only [Yg, Bool.and_eq_true] at hc
  obtain ⟨⟨⟨⟨h1, h2⟩, h3⟩, h4⟩, h5⟩ := hc
  obtain ⟨oi, v, hi, hQ, hy, lO⟩ := h
  exact Y3 dk c5 hi (Region.noSelect_spec hs) hQ aw.size (j0 rest) ao a w (Region.free_spec hi h1) (Y1 h3)
   (fun d hm dD => by have := List.all_eq_true.1 h4 d hm; rw [dD] at this; simpa using this) (by simpa using h2) hy (yo dk c5 hs rest _ _ _ h5 lO)
 | (i, .run) :: rest, ao, a, w, hc, h => by
  simp only [Yg, Bool.and_eq_true, beq_iff_eq] at hc
  obtain ⟨h1, h2⟩ := hc
  exact jE h1 (wpOp_mono (fun a' w' h' => ⟨fun _ => h'.1, yo dk c5 hs rest _ _ _ h2 h'.2⟩) h)
 | (i, .last) :: rest, ao, a, w, hc, h => by
  simp only [Yg, Bool.and_eq_true, beq_iff_eq] at hc
  obtain ⟨⟨h1, h3⟩, h2⟩ := hc
  exact jE h1 (wpOp_mono (fun a' w' h' => ⟨fun hn => absurd (by simpa using h3) hn, yo dk c5 hs rest _ _ _ h2 h'⟩) h)
 | (i, .two j) :: rest, ao, a, w, hc, h => by
  simp only [Yg, Bool.and_eq_true, beq_iff_eq, bne_iff_ne, ne_eq] at hc
  obtain ⟨⟨⟨⟨h1, h2⟩, h3⟩, h4⟩, qF⟩ := hc
  obtain ⟨J, hJ, hi, hj⟩ := h
  refine YG h1 (wpOp_mono (fun a1 w1 h' => ⟨fun _ => h'.1, jE h2 (wpOp_mono (fun a2 w2 nT => ⟨fun _ => nT.1, ?_⟩) h'.2)⟩) hi)
   (wpOp_mono (fun a1 w1 h' => ⟨fun _ => h'.1, jE h3 (wpOp_mono (fun a2 w2 nT => ⟨fun _ => nT.1, ?_⟩) h'.2)⟩) hj)
  ·exact yo dk c5 hs rest _ _ _ h4 (hJ _ _ nT.2)
  ·rw [Array.setIfInBounds_comm _ _ (Ne.symm qF)]
   exact yo dk c5 hs rest _ _ _ h4 (hJ _ _ nT.2)
 | (i, .both j) :: rest, ao, a, w, hc, h => by
  simp only [Yg, Bool.and_eq_true, beq_iff_eq, bne_iff_ne, ne_eq] at hc
  obtain ⟨⟨⟨⟨⟨⟨h1, h2⟩, h3⟩, h4⟩, qF⟩, AV⟩, xV⟩ := hc
  obtain ⟨J, hJ, hi, hj⟩ := h
  refine YG h1 (wpOp_mono (fun a1 w1 h' => ⟨fun hn => absurd (by simpa using AV) hn, jE h2 (wpOp_mono (fun a2 w2 nT => ⟨fun hn => absurd (by simpa using xV) hn, ?_⟩) h')⟩) hi)
   (wpOp_mono (fun a1 w1 h' => ⟨fun hn => absurd (by simpa using xV) hn, jE h3 (wpOp_mono (fun a2 w2 nT => ⟨fun hn => absurd (by simpa using AV) hn, ?_⟩) h')⟩) hj)
  ·exact yo dk c5 hs rest _ _ _ h4 (hJ _ _ nT)
  ·rw [Array.setIfInBounds_comm _ _ (Ne.symm qF)]
   exact yo dk c5 hs rest _ _ _ h4 (hJ _ _ nT)
def zif (aw : Array Oper) (l : List (Nat × Tag)) : Bool :=
 Region.noSelect aw && Yg .any aw (dsOf l) l (Array.replicate aw.size false) && j0 l == aw.size
theorem zbR (E : World → World → Prop) (dk : ∀ w, E w w) (c5 : ∀ a b c, E a b → E b c → E a c) (l : List (Nat × Tag)) {id : Nat} {a : Act} {w : World} (hm : P.follows .mixedOrders = true)
 (fS : zif aw l = true) (h : zbQ P aw Q E l a w.drew) : (Code.region id aw true).wp P Q a w := by
 simp only [zif, Bool.and_eq_true, beq_iff_eq] at fS
 obtain ⟨⟨h1, h2⟩, h3⟩ := fS
 refine wp_region_any hm (YF (E := E) (ds := dsOf l) _ _ _ _ ?_)
 rw [← h3]
 have := yo dk c5 h1 l _ a w.drew h2 h
 rwa [← h3] at this
structure Frm where
 E : World → World → Prop
 refl : ∀ w, E w w
 trans : ∀ a b c, E a b → E b c → E a c
inductive Item where
 | take (o : Oper) | run (o : Oper) | last (o : Oper)
 | two (i j : Oper) | both (i j : Oper)
def Zt : Oper := { dst := none, op := .move (.const undef), type := 0, pos := "", after := #[], guard := none }
def zx (aw : Array Oper) : List (Nat × Tag) → List Item
 | [] => []
 | (i, .take) :: rest => .take (aw.toList.getD i Zt) :: zx aw rest
 | (i, .run) :: rest => .run (aw.toList.getD i Zt) :: zx aw rest
 | (i, .last) :: rest => .last (aw.toList.getD i Zt) :: zx aw rest
 | (i, .two j) :: rest => .two (aw.toList.getD i Zt) (aw.toList.getD j Zt) :: zx aw rest
 | (i, .both j) :: rest => .both (aw.toList.getD i Zt) (aw.toList.getD j Zt) :: zx aw rest
def Jd (n : Nat) : List (Nat × Tag) → Bool
 | [] => true
 | (i, .two j) :: rest | (i, .both j) :: rest => decide (i < n) && decide (j < n) && Jd n rest
 | (i, _) :: rest => decide (i < n) && Jd n rest
def wpG (P : Program) (aw : Array Oper) (Q : Exit → Act → World → Prop) (o : Oper) (K : Act → World → Prop) (a : Act) (w : World) : Prop :=
 if Region.wanted o (yielded aw a.tmps) = true then o.wp P a w K Q else K (a.put o.dst undef) w
variable {R : Frm}
def yz (P : Program) (aw : Array Oper) (Q : Exit → Act → World → Prop) (R : Frm) : List Item → Act → World → Prop
 | [], a, w => Q .normal a w
 | .take o :: rest, a, w => ∃ v, (∀ c a w, Q (.panic c) (a.put o.dst v) w → Q (.panic c) a w) ∧ YieldsIf P aw (R.E w) o v a ∧ yz P aw Q R rest (a.put o.dst v) w
 | .run o :: rest, a, w => wpG P aw Q o (fun a' w' => R.E w w' ∧ yz P aw Q R rest a' w') a w
 | .last o :: rest, a, w => wpG P aw Q o (fun a' w' => yz P aw Q R rest a' w') a w
 | .two i j :: rest, a, w => ∃ J : Act → World → Prop, (∀ a' w', J a' w' → yz P aw Q R rest a' w') ∧
  wpG P aw Q i (fun a1 w1 => R.E w w1 ∧ wpG P aw Q j (fun a2 w2 => R.E w1 w2 ∧ J a2 w2) a1 w1) a w ∧
  wpG P aw Q j (fun a1 w1 => R.E w w1 ∧ wpG P aw Q i (fun a2 w2 => R.E w1 w2 ∧ J a2 w2) a1 w1) a w
 | .both i j :: rest, a, w => ∃ J : Act → World → Prop, (∀ a' w', J a' w' → yz P aw Q R rest a' w') ∧
  wpG P aw Q i (fun a1 w1 => wpG P aw Q j J a1 w1) a w ∧ wpG P aw Q j (fun a1 w1 => wpG P aw Q i J a1 w1) a w
theorem zct {i : Nat} (h : i < aw.size) : aw[i]? = some (aw.toList.getD i Zt) := by
 rw [List.getD_eq_getElem?_getD, Array.getElem?_toList, Array.getElem?_eq_getElem h]
 rfl
theorem yL {i : Nat} (h : i < aw.size) {K : Act → World → Prop} {a : Act} {w : World} (hg : wpG P aw Q (aw.toList.getD i Zt) K a w) : wpOp P aw Q i K a w := by
 unfold wpOp
 rw [zct h]
 unfold wpG at hg
 dsimp only
 split
 ·rename_i hw; rw [if_pos hw] at hg; exact .inl hg
 ·rename_i hw; rw [if_neg hw] at hg; exact hg
theorem Js {o : Oper} {K K' : Act → World → Prop} {a : Act} {w : World} (hk : ∀ a w, K a w → K' a w) (h : wpG P aw Q o K a w) : wpG P aw Q o K' a w := by
 unfold wpG at *
 split
 ·rename_i hw
  rw [if_pos hw] at h
  unfold Oper.wp at *
  cases hr : (execOp a.eval o).run P w with
  | ok n w' =>
   rw [hr] at h
   cases n with
   | value v => exact hk _ _ h
   | skip => exact hk _ _ h
   | defer d => exact hk _ _ h
   | enter f args => exact Calls.mono h (fun e vT hh => by cases e <;> first | exact hk _ _ hh | exact hh)
   | row r args => exact Rows.mono h (fun v vT hh => hk _ _ hh)
   | _ => exact (h : False).elim
  | halt x w' =>
   rw [hr] at h
   cases x <;> first | exact (h : False).elim | exact h
 ·rename_i hw
  rw [if_neg hw] at h
  exact hk _ _ h
theorem yp : ∀ (l : List (Nat × Tag)) (a : Act) (w : World), Jd aw.size l = true → yz P aw Q R (zx aw l) a w → zbQ P aw Q R.E l a w
 | [], _, _, _, h => h
 | (i, .take) :: rest, a, w, hr, h => by
  simp only [Jd, Bool.and_eq_true, decide_eq_true_eq] at hr
  obtain ⟨v, hQ, hy, h⟩ := h
  exact ⟨_, v, zct hr.1, hQ, hy, yp rest _ _ hr.2 h⟩
 | (i, .run) :: rest, a, w, hr, h => by
  simp only [Jd, Bool.and_eq_true, decide_eq_true_eq] at hr
  exact yL hr.1 (Js (fun a w h => ⟨h.1, yp rest _ _ hr.2 h.2⟩) h)
 | (i, .last) :: rest, a, w, hr, h => by
  simp only [Jd, Bool.and_eq_true, decide_eq_true_eq] at hr
  exact yL hr.1 (Js (fun a w h => yp rest _ _ hr.2 h) h)
 | (i, .two j) :: rest, a, w, hr, h => by
  simp only [Jd, Bool.and_eq_true, decide_eq_true_eq] at hr
  obtain ⟨J, hJ, hi, hj⟩ := h
  exact ⟨J, fun a w h => yp rest _ _ hr.2 (hJ _ _ h), yL hr.1.1 (Js (fun a w h => ⟨h.1, yL hr.1.2 h.2⟩) hi),
   yL hr.1.2 (Js (fun a w h => ⟨h.1, yL hr.1.1 h.2⟩) hj)⟩
 | (i, .both j) :: rest, a, w, hr, h => by
  simp only [Jd, Bool.and_eq_true, decide_eq_true_eq] at hr
  obtain ⟨J, hJ, hi, hj⟩ := h
  exact ⟨J, fun a w h => yp rest _ _ hr.2 (hJ _ _ h), yL hr.1.1 (Js (fun a w h => yL hr.1.2 h) hi),
   yL hr.1.2 (Js (fun a w h => yL hr.1.1 h) hj)⟩
theorem zj (R : Frm) (l : List (Nat × Tag)) {id : Nat} {os : List Oper} {a : Act} {w : World} (hm : P.follows .mixedOrders = true)
 (fS : (zif os.toArray l && Jd os.toArray.size l) = true) (h : yz P os.toArray Q R (zx os.toArray l) a w.drew) : (Code.region id os.toArray true).wp P Q a w := by
 rw [Bool.and_eq_true] at fS
 exact zbR R.E R.refl R.trans l hm fS.1 (yp l a _ fS.2 h)
theorem run_v {s : Sem Value} {w w' : World} {n : Next} (h : (do pure (Next.value (← s)) : Sem Next).run P w = .ok n w') : ∃ v, n = .value v := by
 rw [Sem.run_bind] at h
 cases hr : s.run P w with
 | ok v w1 =>
  rw [hr] at h
  simp only [Result.andThen_ok, Sem.run_pure, Result.ok.injEq] at h
  exact ⟨v, h.1.symm⟩
 | halt x w1 =>
  rw [hr] at h
  simp [Result.andThen] at h
def VV (s : Sem Next) : Prop := ∀ P w n w', s.run P w = .ok n w' → ∃ v, n = .value v
theorem zbS (v : Value) : VV (pure (.value v)) := fun P w n w' h => by
 simp only [Sem.run_pure, Result.ok.injEq] at h
 exact ⟨v, h.1.symm⟩
theorem zas {α : Type} {s : Sem α} {k : α → Sem Next} (h : ∀ x, VV (k x)) : VV (s >>= k) := fun P w n w' hr => by
 rw [Sem.run_bind] at hr
 cases hs : s.run P w with
 | ok v w1 => rw [hs] at hr; exact h v P w1 n w' hr
 | halt x w1 => rw [hs] at hr; simp [Result.andThen] at hr
theorem zig {h : Halt} : VV (Sem.halt h) := fun P w n w' hr => by simp [Sem.run] at hr
def zhN : Op → Bool
 | .move _ | .assign _ | .pick .. | .build .. | .load .. | .nilCheck _ | .binOp .. | .unOp .. | .convert .. | .makeInterface .. | .makeFunc .. | .slice .. | .fieldAddr .. | .field .. | .indexAddr .. | .index .. | .lookup .. | .typeAssert .. | .extract .. => true
 | .call { callee := .builtin .len, .. } | .call { callee := .builtin .cap, .. } | .call { callee := .builtin .min, .. } | .call { callee := .builtin .max, .. } => true
 | _ => false
theorem zdr {ρ : Operand → Value} {o : Oper} (hq : zhN o.op = true) {w w' : World} {n : Next} (h : (execOp ρ o).run P w = .ok n w') : ∃ v, n = .value v := by
 obtain ⟨dst, op, type, pos, after, guard⟩ := o
 unfold execOp at h
 cases op <;> dsimp only at hq h <;> first | exact run_v h | (cases hq; done) | skip
 ·simp only [Sem.run_pure, Result.ok.injEq] at h; exact ⟨_, h.1.symm⟩
 ·simp only [Sem.run_pure, Result.ok.injEq] at h; exact ⟨_, h.1.symm⟩
 ·rename_i c a b
  rw [Sem.run_bind] at h
  cases hr : (asBool (ρ c)).run P w with
  | ok v w1 => rw [hr] at h; simp only [Result.andThen_ok, Sem.run_pure, Result.ok.injEq] at h; exact ⟨_, h.1.symm⟩
  | halt x w1 => rw [hr] at h; simp [Result.andThen] at h
 ·rename_i x
  split at h
  ·simp [runtimePanic] at h
  ·simp [runtimePanic] at h
  ·simp [runtimePanic] at h
  ·refine (show VV _ from ?_) P w n w' h
   split
   ·exact zas fun p => by dsimp only; exact zig
   ·refine zas fun p => zas fun r => ?_
    split
    ·exact zas fun _ => zbS _
    ·exact zbS _
   ·exact zbS _
  ·simp only [Sem.run_pure, Result.ok.injEq] at h; exact ⟨_, h.1.symm⟩
 ·rename_i c
  obtain ⟨callee, args, argTypes⟩ := c
  cases callee with
  | value f => cases hq
  | invoke r m => cases hq
  | builtin b =>
   refine (show VV _ from ?_) P w n w' h
   change VV (builtin b _ _ _ _)
   cases b <;> first | (cases hq; done) | exact zas fun _ => zbS _
theorem item_take {o : Oper} {rest : List Item} {a a1 : Act} {w : World} {d : Tmp} (hq : zhN o.op = true) (hd : o.dst = some d) (aj : Nat.blt d a.tmps.size = true) (hw : Region.wanted o (yielded aw a.tmps) = true)
 (hQ : ∀ v c a w, Q (.panic c) (a.put o.dst v) w → Q (.panic c) a w)
 (hy : ∀ W, R.E w W → ∀ K : Act → World → Prop, K a1 W → o.wp P a W K (fun _ _ _ => False)) (h : yz P aw Q R rest a1 w) : yz P aw Q R (.take o :: rest) a w := by
 have key : ∀ W, R.E w W → ∃ v, (execOp a.eval o).run P W = .ok (.value v) W ∧ a.put o.dst v = a1 := fun W hE => by
  have h1 := hy W hE (fun a' w' => a' = a1 ∧ w' = W) ⟨rfl, rfl⟩
  unfold Oper.wp at h1
  cases hr : (execOp a.eval o).run P W with
  | ok n w' =>
   rw [hr] at h1
   obtain ⟨v, rfl⟩ := zdr hq hr
   obtain ⟨h2, rfl⟩ := h1
   exact ⟨v, rfl, h2⟩
  | halt x w' =>
   rw [hr] at h1
   cases x <;> exact (h1 : False).elim
 have aj := Nat.le_of_ble_eq_true aj
 change d < a.tmps.size at aj
 obtain ⟨v, hv, ha⟩ := key w (R.refl w)
 refine ⟨v, hQ v, .inl ⟨hw, fun W hE => ?_⟩, by rw [ha]; exact h⟩
 obtain ⟨v', qm, Bh⟩ := key W hE
 have : v' = v := by
  have h2 := congrArg (fun x : Act => x.tmps[d]?) (Bh.trans ha.symm)
  simp only [hd, Act.put, Array.getElem?_setIfInBounds, aj, if_true, Option.some.injEq] at h2
  exact h2
 rw [← this]
 exact qm
theorem zg {o : Oper} {rest : List Item} {a : Act} {w : World} (hw : Region.wanted o (yielded aw a.tmps) = true)
 (h : ∀ K : Act → World → Prop, (∀ a' w', R.E w w' → yz P aw Q R rest a' w' → K a' w') → o.wp P a w K Q) : yz P aw Q R (.run o :: rest) a w := by
 simp only [yz, wpG, hw, if_true]
 exact h _ fun a' w' hE hs => ⟨hE, hs⟩
theorem zn {o : Oper} {rest : List Item} {a : Act} {w : World} (hw : Region.wanted o (yielded aw a.tmps) = true)
 (h : ∀ K : Act → World → Prop, (∀ a' w', yz P aw Q R rest a' w' → K a' w') → o.wp P a w K Q) : yz P aw Q R (.last o :: rest) a w := by
 simp only [yz, wpG, hw, if_true]
 exact h _ fun a' w' hs => hs
theorem zm {a : Act} {w : World} (h : Q .normal a w) : yz P aw Q R [] a w := h
end
abbrev kT (n : Nat) : Nat × Tag := (n, .take)
abbrev kR (n : Nat) : Nat × Tag := (n, .run)
abbrev kL (n : Nat) : Nat × Tag := (n, .last)
structure Fr (S : Nat → Prop) (w w' : World) : Prop where
 os : w'.os = w.os
 tape : w'.tape = w.tape
 output : w'.output = w.output
 size : w.heap.size ≤ w'.heap.size
 block : ∀ k, k < w.heap.size → ¬ S k → w'.heap[k]? = w.heap[k]?
abbrev Ext (w w' : World) : Prop := Fr (fun _ => False) w w'
theorem Fr.refl (S : Nat → Prop) (w : World) : Fr S w w := ⟨rfl, rfl, rfl, Nat.le_refl _, fun _ _ _ => rfl⟩
variable {a b c : World} {S U : Nat → Prop}
theorem Fr.trans {T : Nat → Prop} (h : Fr S a b) (k : Fr T b c) (hS : ∀ k, k < a.heap.size → S k → U k) (hT : ∀ k, k < a.heap.size → T k → U k) : Fr U a c :=
 ⟨k.os.trans h.os, k.tape.trans h.tape, k.output.trans h.output, nlQ h.size k.size, fun i hi hu =>
  (k.block i (nqQ hi h.size) (fun ht => hu (hT i hi ht))).trans (h.block i hi (fun hs => hu (hS i hi hs)))⟩
theorem Fr.mono (h : Fr S a b) (hS : ∀ k, k < a.heap.size → S k → U k) : Fr U a b :=
 ⟨h.os, h.tape, h.output, h.size, fun i hi hu => h.block i hi (fun hs => hu (hS i hi hs))⟩
theorem Fr.ext (h : Fr S a b) (k : Ext b c) : Fr S a c := h.trans k (fun _ _ h => h) (fun _ _ h => h.elim)
theorem Ext.fr (h : Ext a b) (k : Fr S b c) : Fr S a c := Fr.trans h k (fun _ _ h => h.elim) (fun _ _ h => h)
theorem Ext.trans (h : Ext a b) (k : Ext b c) : Ext a c := Fr.ext h k
theorem Ext.to (h : Ext a b) : Fr S a b := h.mono (fun _ _ h => h.elim)
theorem za (w : World) (o : Obj) : Ext w (w.alloc o) := ⟨rfl, rfl, rfl, by simp, fun k hk _ => Below.heap_alloc _ _ _ hk⟩
variable {w : World}
theorem Fr.alloc (h : Fr S a w) (o : Obj) : Fr S a (w.alloc o) := h.ext (za w o)
theorem zb (w : World) : Ext w w.drew := ⟨rfl, rfl, rfl, Nat.le_refl _, fun _ _ _ => rfl⟩
theorem Fr.drew (h : Fr S a w) : Fr S a w.drew := h.ext (zb w)
theorem yC (w : World) (n : Nat) : Ext w (w.drewN n) := ⟨rfl, rfl, rfl, Nat.le_refl _, fun _ _ _ => rfl⟩
theorem Fr.drewN (h : Fr S a w) (n : Nat) : Fr S a (w.drewN n) := h.ext (yC w n)
theorem zf (w : World) (p : Addr) (u : Value) : Fr (fun k => k = p.block) w (w.setCell p u) :=
 ⟨rfl, rfl, rfl, by simp [World.setCell], fun k _ hk => Below.heap_setCell _ _ _ _ hk⟩
theorem Fr.setCell (h : Fr S a w) {p : Addr} (hp : S p.block ∨ a.heap.size ≤ p.block) (u : Value) : Fr S a (w.setCell p u) :=
 h.trans (zf w p u) (fun _ _ h => h) (fun k hk e => by subst e; rcases hp with h | h; exact h; omega)
variable {w' : World} {row : Option Nat}
theorem Fr.grown (h : Fr S a w) (hg : w.grownBy w' row) (hr : ∀ k, row = some k → S k ∨ a.heap.size ≤ k) : Fr S a w' :=
 ⟨hg.os.trans h.os, hg.tape.trans h.tape, hg.output.trans h.output, nlQ h.size hg.size, fun k hk hs =>
  (hg.block k (nqQ hk h.size) (fun e => by rcases hr k e.symm with h | h; exact hs h; omega)).trans (h.block k hk hs)⟩
theorem yW (hg : w.grownBy w' row) : Fr (fun k => some k = row) w w' := ⟨hg.os, hg.tape, hg.output, hg.size, hg.block⟩
theorem Fr.grownBy (h : Fr (fun k => some k = row) w w') : w.grownBy w' row := ⟨h.os, h.tape, h.output, h.size, h.block⟩
theorem Ext.below (h : Ext w w') : Below w.heap.size w w' := ⟨h.os, h.tape, h.output, h.size, fun k hk => h.block k hk (fun h => h)⟩
variable {v : Value}
theorem Fr.cell (h : Fr S w w') {p : Addr} (hc : w.cell? p = some v) (hp : ¬ S p.block) : w'.cell? p = some v :=
 (World.cell?_of_block (h.block _ (World.block_lt_of_cell? w p hc) hp)).trans hc
def jQ : Frm := ⟨Ext, Fr.refl _, fun _ _ _ => Ext.trans⟩
def yX (S : Nat → Prop) : Frm := ⟨Fr S, Fr.refl S, fun _ _ _ h k => h.trans k (fun _ _ h => h) (fun _ _ h => h)⟩
theorem yY (b o j : Nat) : (⟨b, o, none⟩ : Addr).add j = ⟨b, o + j, none⟩ := by
 unfold Addr.add
 split
 ·rename_i h; subst h; rfl
 ·rfl
variable {g : Nat}
theorem Z6 {o : Obj} (h : w.heap[g]? = some o) : g < w.heap.size := (Array.getElem?_eq_some_iff.1 h).1
def Blk (w : World) (g : Nat) (cs : Array Value) (T : TypeId) : Prop := w.heap[g]? = some (.cells cs T (0, 0))
variable {cs : Array Value} {T : TypeId}
theorem Blk.lt (h : Blk w g cs T) : g < w.heap.size := (Array.getElem?_eq_some_iff.1 h).1
theorem Blk.cell (h : Blk w g cs T) : ∀ j, w.cell? ⟨g, j, none⟩ = cs[j]? := fun j => Lib.cell_of_heap h j
theorem Blk.frz (h : Blk w g cs T) : ∀ j, w.frozen? ⟨g, j, none⟩ = false := fun j => by
 have : w.heap[g]? = some (.cells cs T (0, 0)) := h
 simp [World.frozen?, this]
theorem Blk.fr (h : Blk w g cs T) (hf : Fr S w w') (hs : ¬ S g) : Blk w' g cs T := (hf.block g h.lt hs).trans h
theorem Blk.ext (h : Blk w g cs T) (hf : Ext w w') : Blk w' g cs T := h.fr hf (fun h => h)
theorem zl (w : World) (cs : Array Value) (T : TypeId) : Blk (w.alloc (.cells cs T)) w.heap.size cs T := heap_alloc_new w _
theorem Blk.set (h : Blk w g cs T) (j : Nat) (v : Value) : Blk (w.setCell ⟨g, j, none⟩ v) g (cs.setIfInBounds j v) T := by
 have h' : w.heap[g]? = some (.cells cs T (0, 0)) := h
 show ((w.heap.modify g _)[g]? : Option Obj) = _
 rw [Array.getElem?_modify, if_pos rfl, h']
 rfl
structure Lay (α : Type) where
 size : Nat
 rd : (Nat → Prop) → World → List Value → α → Prop
 len : ∀ {A w cs x}, rd A w cs x → cs.length = size
 one : ∀ {A w cs x}, rd A w cs x → ∀ u ∈ cs, u.oneCell' = true
 frame : ∀ {A w w' cs x}, rd A w cs x → (∀ k, A k → w'.heap[k]? = w.heap[k]?) → rd A w' cs x
 mono : ∀ {A A' w cs x}, rd A w cs x → (∀ k, A k → A' k) → rd A' w cs x
namespace Lay
variable {α β γ : Type}
theorem fr {l : Lay α} {A S : Nat → Prop} {w w' : World} {cs : List Value} {x : α} (h : l.rd A w cs x) (hf : Fr S w w') (ha : ∀ k, A k → k < w.heap.size ∧ ¬ S k) : l.rd A w' cs x :=
 l.frame h fun k hk => hf.block k (ha k hk).1 (ha k hk).2
def cell1 (f : α → Value) (h1 : ∀ x, (f x).oneCell' = true) : Lay α where
 size := 1
 rd _ _ cs x := cs = [f x]
 len h := by rw [h]; rfl
 one h u hu := by rw [h] at hu; obtain rfl := List.mem_singleton.1 hu; exact h1 _
 frame h _ := h
 mono h _ := h
def u8 : Lay UInt8 := cell1 (fun x => .int .u8 (x.toNat : Int)) (fun _ => rfl)
def u32 : Lay UInt32 := cell1 (fun x => .int .u32 (x.toNat : Int)) (fun _ => rfl)
def u64 : Lay UInt64 := cell1 (fun x => .int .u64 (x.toNat : Int)) (fun _ => rfl)
def bool : Lay Bool := cell1 (fun x => .bool x) (fun _ => rfl)
def str : Lay ByteArray where
 size := 1
 rd _ _ cs x := cs = [.string x] ∧ x.size ≤ maxLen
 len h := by rw [h.1]; rfl
 one h u hu := by rw [h.1] at hu; obtain rfl := List.mem_singleton.1 hu; rfl
 frame h _ := h
 mono h _ := h
def int : Lay Int where
 size := 1
 rd _ _ cs x := cs = [.int .i64 x] ∧ -9223372036854775808 ≤ x ∧ x ≤ 9223372036854775807
 len h := by rw [h.1]; rfl
 one h u hu := by rw [h.1] at hu; obtain rfl := List.mem_singleton.1 hu; rfl
 frame h _ := h
 mono h _ := h
def pair (a : Lay α) (b : Lay β) : Lay (α × β) where
 size := a.size + b.size
 rd A w cs x := ∃ c d, cs = c ++ d ∧ a.rd A w c x.1 ∧ b.rd A w d x.2
 len := by rintro A w cs x ⟨c, d, rfl, h, k⟩; rw [laQ, a.len h, b.len k]
 one := by
  rintro A w cs x ⟨c, d, rfl, h, k⟩ u hu
  rcases List.mem_append.1 hu with hu | hu
  ·exact a.one h u hu
  ·exact b.one k u hu
 frame := by rintro A w w' cs x ⟨c, d, rfl, h, k⟩ hf; exact ⟨c, d, rfl, a.frame h hf, b.frame k hf⟩
 mono := by rintro A A' w cs x ⟨c, d, rfl, h, k⟩ hf; exact ⟨c, d, rfl, a.mono h hf, b.mono k hf⟩
def via (a : Lay α) (f : β → α) : Lay β where
 size := a.size
 rd A w cs x := a.rd A w cs (f x)
 len h := a.len h
 one h := a.one h
 frame h hf := a.frame h hf
 mono h hf := a.mono h hf
def all (l : Lay α) (A : Nat → Prop) (w : World) : List Value → List α → Prop
 | cs, [] => cs = []
 | cs, x :: xs => ∃ c d, cs = c ++ d ∧ l.rd A w c x ∧ all l A w d xs
theorem all_len {l : Lay α} {A : Nat → Prop} {w : World} : ∀ {xs : List α} {cs : List Value}, l.all A w cs xs → cs.length = xs.length * l.size
 | [], _, h => by rw [show _ = _ from h]; simp
 | x :: xs, _, h => by
  obtain ⟨c, d, rfl, h, k⟩ := h
  rw [laQ, l.len h, all_len k, List.length_cons, Nat.succ_mul, Nat.add_comm]
theorem all_one {l : Lay α} {A : Nat → Prop} {w : World} : ∀ {xs : List α} {cs : List Value}, l.all A w cs xs → ∀ u ∈ cs, u.oneCell' = true
 | [], _, h, u, hu => by rw [show _ = _ from h] at hu; cases hu
 | x :: xs, _, h, u, hu => by
  obtain ⟨c, d, rfl, h, k⟩ := h
  rcases List.mem_append.1 hu with hu | hu
  ·exact l.one h u hu
  ·exact all_one k u hu
theorem all_frame {l : Lay α} {A : Nat → Prop} {w w' : World} (hf : ∀ k, A k → w'.heap[k]? = w.heap[k]?) : ∀ {xs : List α} {cs : List Value}, l.all A w cs xs → l.all A w' cs xs
 | [], _, h => h
 | x :: xs, _, h => by
  obtain ⟨c, d, e, h, k⟩ := h
  exact ⟨c, d, e, l.frame h hf, all_frame hf k⟩
theorem all_mono {l : Lay α} {A A' : Nat → Prop} {w : World} (hf : ∀ k, A k → A' k) : ∀ {xs : List α} {cs : List Value}, l.all A w cs xs → l.all A' w cs xs
 | [], _, h => h
 | x :: xs, _, h => by
  obtain ⟨c, d, e, h, k⟩ := h
  exact ⟨c, d, e, l.mono h hf, all_mono hf k⟩
theorem all_append {l : Lay α} {A : Nat → Prop} {w : World} : ∀ {xs : List α} {cs : List Value} {ys : List α} {ds : List Value}, l.all A w cs xs → l.all A w ds ys → l.all A w (cs ++ ds) (xs ++ ys)
 | [], _, _, _, h, k => by rw [show _ = _ from h]; exact k
 | x :: xs, _, _, _, h, k => by
  obtain ⟨c, d, rfl, h, m⟩ := h
  exact ⟨c, _, List.append_assoc _ _ _, h, all_append m k⟩
theorem all_single {l : Lay α} {A : Nat → Prop} {w : World} {c : List Value} {x : α} (h : l.rd A w c x) : l.all A w c [x] := ⟨c, [], (List.append_nil _).symm, h, rfl⟩
theorem all_split {l : Lay α} {A : Nat → Prop} {w : World} : ∀ {xs ys : List α} {cs : List Value}, l.all A w cs (xs ++ ys) → ∃ c d, cs = c ++ d ∧ l.all A w c xs ∧ l.all A w d ys
 | [], _, cs, h => ⟨[], cs, rfl, rfl, h⟩
 | x :: xs, ys, _, h => by
  obtain ⟨c, d, rfl, h, m⟩ := h
  obtain ⟨e, f, rfl, h1, h2⟩ := all_split (xs := xs) m
  exact ⟨c ++ e, f, (List.append_assoc _ _ _).symm, ⟨c, e, rfl, h, h1⟩, h2⟩
theorem all_at {l : Lay α} {A : Nat → Prop} {w : World} {xs : List α} {cs : List Value} (h : l.all A w cs xs) (i : Nat) (hi : i < xs.length) :
 ∃ es, l.rd A w es xs[i] ∧ ∀ j, j < l.size → cs[i * l.size + j]? = es[j]? := by
 have hx : xs = xs.take i ++ (xs[i] :: xs.drop (i + 1)) := by rw [← List.drop_eq_getElem_cons hi, List.take_append_drop]
 rw [hx] at h
 obtain ⟨c, d, rfl, h1, es, f, rfl, h2, h3⟩ := all_split h
 refine ⟨es, h2, fun j hj => ?_⟩
 have hl : c.length = i * l.size := by rw [all_len h1, ltQ, Nat.min_eq_left (by omega)]
 have he := l.len h2
 rw [List.getElem?_append_right (by omega), hl, Nat.add_sub_cancel_left, List.getElem?_append_left (by omega)]
def flat (l : Lay α) : Prop := ∀ {A A' : Nat → Prop} {w w' : World} {cs : List Value} {x : α}, l.rd A w cs x → l.rd A' w' cs x
theorem all_flat {l : Lay α} (hl : l.flat) {A A' : Nat → Prop} {w w' : World} : ∀ {xs : List α} {cs : List Value}, l.all A w cs xs → l.all A' w' cs xs
 | [], _, h => h
 | x :: xs, _, h => by
  obtain ⟨c, d, e, h, k⟩ := h
  exact ⟨c, d, e, hl h, all_flat hl k⟩
theorem flat_u8 : u8.flat := fun h => h
theorem flat_u32 : u32.flat := fun h => h
theorem flat_u64 : u64.flat := fun h => h
theorem flat_bool : bool.flat := fun h => h
theorem flat_str : str.flat := fun h => h
theorem flat_int : int.flat := fun h => h
theorem flat_pair {a : Lay α} {b : Lay β} (ha : a.flat) (hb : b.flat) : (a.pair b).flat := fun ⟨c, d, e, h, k⟩ => ⟨c, d, e, ha h, hb k⟩
theorem flat_via {a : Lay α} (ha : a.flat) (f : β → α) : (a.via f).flat := fun h => ha h
def slice (l : Lay α) : Lay (List α) where
 size := 1
 rd A w cs xs := ∃ a cap, cs = [.slice a xs.length cap] ∧ xs.length ≤ cap ∧ cap ≤ maxLen ∧
  (0 < xs.length → ∃ b o cX T fz flat, a = some ⟨b, o, none⟩ ∧ A b ∧ w.heap[b]? = some (.cells cX T fz) ∧ l.all A w flat xs ∧ ∀ j, j < flat.length → cX[o + j]? = flat[j]?)
 len := by rintro A w cs x ⟨a, cap, rfl, _⟩; rfl
 one := by rintro A w cs x ⟨a, cap, rfl, _⟩ u hu; obtain rfl := List.mem_singleton.1 hu; rfl
 frame := by
  rintro A w w' cs x ⟨a, cap, rfl, h1, h2, h3⟩ hf
  refine ⟨a, cap, rfl, h1, h2, fun hp => ?_⟩
  obtain ⟨b, o, cX, T, fz, flat, e, hA, hh, cO, hc⟩ := h3 hp
  exact ⟨b, o, cX, T, fz, flat, e, hA, (hf b hA).trans hh, all_frame hf cO, hc⟩
 mono := by
  rintro A A' w cs x ⟨a, cap, rfl, h1, h2, h3⟩ hf
  refine ⟨a, cap, rfl, h1, h2, fun hp => ?_⟩
  obtain ⟨b, o, cX, T, fz, flat, e, hA, hh, cO, hc⟩ := h3 hp
  exact ⟨b, o, cX, T, fz, flat, e, hf b hA, hh, all_mono hf cO, hc⟩
theorem slice_at {l : Lay α} {A : Nat → Prop} {w : World} {a : Option Addr} {n cap : Nat} {xs : List α} (h : (slice l).rd A w [.slice a n cap] xs) (i : Nat) (hi : i < n) :
 ∃ (b o : Nat) (es : List Value) (eY : i < xs.length), a = some ⟨b, o, none⟩ ∧ A b ∧ b < w.heap.size ∧ l.rd A w es xs[i] ∧ ∀ j, j < l.size → w.cell? ⟨b, o + i * l.size + j, none⟩ = es[j]? := by
 obtain ⟨a', fV, e, h1, h2, h3⟩ := h
 simp only [List.cons.injEq, Value.slice.injEq, and_true] at e
 obtain ⟨rfl, rfl, rfl⟩ := e
 obtain ⟨b, o, cX, T, fz, flat, rfl, hA, hh, cO, hc⟩ := h3 (by omega)
 obtain ⟨es, he, oR⟩ := all_at cO i hi
 have fm := all_len cO
 refine ⟨b, o, es, hi, rfl, hA, (Z6 hh), he, fun j hj => ?_⟩
 have aj : i * l.size + j < flat.length := by
  rw [fm]
  calc i * l.size + j < i * l.size + l.size := by omega
   _ = (i + 1) * l.size := by rw [Nat.succ_mul]
   _ ≤ xs.length * l.size := Nat.mul_le_mul_right _ hi
 rw [Lib.cell_of_heap hh, Nat.add_assoc, hc _ aj, oR j hj]
theorem slice_form {l : Lay α} {A : Nat → Prop} {w : World} {v : Value} {xs : List α} (h : (slice l).rd A w [v] xs) : ∃ a cap, v = .slice a xs.length cap ∧ xs.length ≤ cap ∧ cap ≤ maxLen := by
 obtain ⟨a, cap, e, h1, h2, _⟩ := h
 exact ⟨a, cap, by simpa using e, h1, h2⟩
end Lay
def Own {α : Type} (l : Lay α) (e : TypeId) (lo : Nat) (w : World) (v : Value) (xs : List α) : Prop :=
 ∃ flat, w.ownsRow lo e l.size v xs.length flat ∧ l.all (fun k => lo ≤ k ∧ k < w.heap.size ∧ some k ≠ v.ownBlock) w flat xs
theorem J3 (l : Lay α) (e : TypeId) (lo : Nat) (w : World) : Own l e lo w (.slice none 0 0) [] := ⟨[], World.ownsRow_nil _ _ _ _, rfl⟩
variable {l : Lay α} {e : TypeId} {lo : Nat} {xs : List α}
theorem Own.lt (h : Own l e lo w v xs) : ∀ k, v.ownBlock = some k → lo ≤ k ∧ k < w.heap.size := by
 obtain ⟨flat, h, _⟩ := h
 exact h.lt
theorem Own.fr (h : Own l e lo w v xs) (hf : Fr S w w') (hs : ∀ k, lo ≤ k → k < w.heap.size → ¬ S k) : Own l e lo w' v xs := by
 have aj := h.lt
 obtain ⟨flat, h, k⟩ := h
 refine ⟨flat, ?_, Lay.all_mono (fun k hk => ⟨hk.1, nqQ hk.2.1 hf.size, hk.2.2⟩) (Lay.all_frame (fun k hk => hf.block k hk.2.1 (hs k hk.1 hk.2.1)) k)⟩
 obtain ⟨h1, h2⟩ := h
 refine ⟨h1, h2.imp id ?_⟩
 rintro ⟨g, cap, cX, rfl, hg, hh, r⟩
 have := aj g rfl
 exact ⟨g, cap, cX, rfl, hg, (hf.block g this.2 (hs g this.1 this.2)).trans hh, r⟩
theorem Own.ext (h : Own l e lo w v xs) (hf : Ext w w') : Own l e lo w' v xs := h.fr hf (fun _ _ _ h => h)
theorem Own.slice (h : Own l e lo w v xs) : l.slice.rd (fun k => lo ≤ k ∧ k < w.heap.size) w [v] xs := by
 obtain ⟨flat, ⟨h1, h2⟩, k⟩ := h
 rcases h2 with ⟨rfl, h0⟩ | ⟨g, cap, cX, rfl, hg, hh, hn, hm, hs, ht⟩
 ·have : xs = [] := List.eq_nil_of_length_eq_zero h0
  subst this
  exact ⟨none, 0, rfl, Nat.le_refl _, by simp [maxLen], fun h => absurd h (by simp)⟩
 ·refine ⟨_, cap, rfl, hn, hm, fun _ => ⟨g, 0, cX, e, (0, 0), flat, rfl, ⟨hg, (Z6 hh)⟩, hh, Lay.all_mono (fun k hk => ⟨hk.1, hk.2.1⟩) k, fun j hj => ?_⟩⟩
  rw [Nat.zero_add, ← ht, List.getElem?_take, if_pos (by omega)]
  simp
theorem Own.form (h : Own l e lo w v xs) : ∃ a cap, v = .slice a xs.length cap ∧ xs.length ≤ cap ∧ cap ≤ maxLen := Lay.slice_form h.slice
theorem Own.shape (h : Own l e lo w v xs) : ∃ a n cap, v = .slice a n cap := by
 obtain ⟨a, cap, e, _⟩ := h.form
 exact ⟨a, _, cap, e⟩
theorem Own.only (hl : l.flat) (h : Own l e lo w v xs) (hf : Fr S w w') (hs : ∀ k, v.ownBlock = some k → ¬ S k) : Own l e lo w' v xs := by
 have aj := h.lt
 obtain ⟨flat, ⟨h1, h2⟩, k⟩ := h
 refine ⟨flat, ⟨h1, h2.imp id ?_⟩, Lay.all_flat hl k⟩
 rintro ⟨g, cap, cX, rfl, hg, hh, r⟩
 exact ⟨g, cap, cX, rfl, hg, (hf.block g (aj g rfl).2 (hs g rfl)).trans hh, r⟩
theorem Own.lower {ub : Nat} (h : Own l e lo w v xs) (hl : ub ≤ lo) : Own l e ub w v xs := by
 obtain ⟨flat, ⟨h1, h2⟩, k⟩ := h
 refine ⟨flat, ⟨h1, h2.imp id ?_⟩, Lay.all_mono (fun k hk => ⟨by omega, hk.2⟩) k⟩
 rintro ⟨g, cap, cX, rfl, hg, r⟩
 exact ⟨g, cap, cX, rfl, by omega, r⟩
section
variable {P : Program} {aw : Array Oper} {rest : List Oper} {o : Oper} {a : Act} {Q : Exit → Act → World → Prop} {K : Act → World → Prop}
theorem J4 {α : Type} (l : Lay α) {W : World} (lo : Nat) (s x : Operand) (t e : TypeId) (z : Value) (bytes : Nat)
 (ho : o.op = .call { callee := .builtin .append, args := #[s, x], argTypes := #[t, t] })
 (ht : P.underlying t = some (.slice e)) (bR : (P.info? e).map (fun i => (i.zero, i.size, i.bytes)) = some (some z, l.size, bytes)) (hz : z.cells.size = l.size) (dS : 0 < bytes) (fc : 0 < l.size)
 (v : Value) (xs ys : List α) (ig : List Value) (ad : Addr) (m c : Nat) (hs : a.eval s = v) (hx : a.eval x = .slice (some ad) m c) (hm : ys.length = m)
 (HO : Own l e lo W v xs) (HN : l.all (fun k => lo ≤ k ∧ k < W.heap.size ∧ some k ≠ v.ownBlock) W ig ys) (mq : ∀ j u, ig[j]? = some u → W.cell? (ad.add j) = some u)
 (bj : lo ≤ W.heap.size) (hl : (xs.length + m) * bytes ≤ 140737488355328)
 (h : ∀ v1 w1, Own l e lo w1 v1 (xs ++ ys) → Fr (fun k => some k = v.ownBlock) W w1 → (v1.ownBlock = v.ownBlock ∨ v1.ownBlock = some W.heap.size) → K (a.put o.dst v1) w1) :
 o.wp P a W K Q := by
 obtain ⟨i0, hi, kK⟩ := Option.map_eq_some_iff.1 bR
 simp only [Prod.mk.injEq] at kK
 obtain ⟨gf, dt, dO⟩ := kK
 have aj := HO.lt
 obtain ⟨flat, HO, HF⟩ := HO
 have aT : xs.length + m ≤ 140737488355328 := nlQ (Nat.le_mul_of_pos_right _ dS) hl
 obtain ⟨v1, w1, hr, ah, hg, _, ic⟩ := run_append_own_at (P := P) W lo t o.type e i0 z l.size bytes ht hi gf dt dO hz fc v xs.length flat HO ad m c ig (by rw [Lay.all_len HN, hm]) mq (Lay.all_one HN) (by simp only [maxLen]; omega) hl bj
 unfold Oper.wp execOp
 simp only [ho, resolve, invoke, builtin, Sem.run_bind, Sem.run_pure, Result.andThen_ok, List.map_toArray, List.map_cons, List.map_nil, hs, hx, hr]
 show K _ _
 refine h v1 w1 ⟨flat ++ ig, by rw [laQ, hm]; exact ah, ?_⟩ (yW hg) ic
 have vy := ah.lt
 have hA : ∀ k, (lo ≤ k ∧ k < W.heap.size ∧ some k ≠ v.ownBlock) → (lo ≤ k ∧ k < w1.heap.size ∧ some k ≠ v1.ownBlock) := fun k hk => ⟨hk.1, nqQ hk.2.1 hg.size, fun e => by
  rcases ic with ic | ic
  ·exact hk.2.2 (e.trans ic)
  ·rw [ic] at e
   injection e with e
   omega⟩
 exact Lay.all_append (Lay.all_mono hA (Lay.all_frame (fun k hk => hg.block k hk.2.1 hk.2.2) HF)) (Lay.all_mono hA (Lay.all_frame (fun k hk => hg.block k hk.2.1 hk.2.2) HN))
theorem JC {α : Type} (l : Lay α) {W : World} (lo : Nat) (s x : Operand) (t e : TypeId) (z : Value) (bytes : Nat)
 (ho : o.op = .call { callee := .builtin .append, args := #[s, x], argTypes := #[t, t] })
 (ht : P.underlying t = some (.slice e)) (bR : (P.info? e).map (fun i => (i.zero, i.size, i.bytes)) = some (some z, l.size, bytes)) (hz : z.cells.size = l.size) (dS : 0 < bytes) (fc : 0 < l.size)
 (v : Value) (xs : List α) (y : α) (cs : Array Value) (hs : a.eval s = v) (hx : a.eval x = .slice (some ⟨W.heap.size, 0, none⟩) 1 1)
 (HO : Own l e lo W v xs) (HY : l.rd (fun k => lo ≤ k ∧ k < W.heap.size ∧ some k ≠ v.ownBlock) W cs.toList y)
 (bj : lo ≤ W.heap.size) (hl : (xs.length + 1) * bytes ≤ 140737488355328)
 (h : ∀ v1 w1, Own l e lo w1 v1 (xs ++ [y]) → Fr (fun k => some k = v.ownBlock) W w1 → (∀ k, v1.ownBlock = some k → v.ownBlock = some k ∨ W.heap.size ≤ k) → K (a.put o.dst v1) w1) :
 o.wp P a (W.alloc (.cells cs e)) K Q := by
 have aj := HO.lt
 refine J4 l lo s x t e z bytes ho ht bR hz dS fc v xs [y] cs.toList ⟨W.heap.size, 0, none⟩ 1 1 hs hx rfl (HO.ext (za _ _)) ?_ ?_ (by simp; omega) hl ?_
 ·exact Lay.all_single (l.mono (l.frame HY (fun k hk => Below.heap_alloc _ _ _ hk.2.1)) (fun k hk => ⟨hk.1, by simp; omega, hk.2.2⟩))
 ·intro j u hj
  rw [show ((⟨W.heap.size, 0, none⟩ : Addr).add j) = ⟨W.heap.size, j, none⟩ from by unfold Addr.add; split <;> simp_all, (zl W cs e).cell j]
  simpa using hj
 ·intro v1 w1 h1 h2 h3
  refine h v1 w1 h1 (Fr.trans (za W _) h2 (fun _ _ h => h.elim) (fun _ _ h => h)) (fun k hk => ?_)
  rcases h3 with h3 | h3
  ·exact .inl (h3 ▸ hk)
  ·rw [h3] at hk
   injection hk with hk
   refine .inr ?_
   simp at hk
   omega
theorem jM {α : Type} (l : Lay α) {W : World} (lo : Nat) (s x : Operand) (t e : TypeId) (z : Value) (bytes : Nat)
 (ho : o.op = .call { callee := .builtin .append, args := #[s, x], argTypes := #[t, t] })
 (ht : P.underlying t = some (.slice e)) (bR : (P.info? e).map (fun i => (i.zero, i.size, i.bytes)) = some (some z, l.size, bytes)) (hz : z.cells.size = l.size) (dS : 0 < bytes) (fc : 0 < l.size)
 (v : Value) (xs ys : List α) (aa : Option Addr) (m c : Nat) {A : Nat → Prop} (hs : a.eval s = v) (hx : a.eval x = .slice aa m c)
 (HO : Own l e lo W v xs) (HR : l.slice.rd A W [.slice aa m c] ys) (HF : ∀ flat, l.all A W flat ys → l.all (fun k => lo ≤ k ∧ k < W.heap.size ∧ some k ≠ v.ownBlock) W flat ys)
 (bj : lo ≤ W.heap.size) (hl : (xs.length + ys.length) * bytes ≤ 140737488355328)
 (h : ∀ v1 w1, Own l e lo w1 v1 (xs ++ ys) → Fr (fun k => some k = v.ownBlock) W w1 → (∀ k, v1.ownBlock = some k → v.ownBlock = some k ∨ W.heap.size ≤ k) → K (a.put o.dst v1) w1) :
 o.wp P a W K Q := by
 have hm : ys.length = m := by
  obtain ⟨a', fV, e', _⟩ := HR
  simp only [List.cons.injEq, Value.slice.injEq, and_true] at e'
  exact e'.2.1.symm
 have aV : ∀ v1 w1, Own l e lo w1 v1 (xs ++ ys) → Fr (fun k => some k = v.ownBlock) W w1 → (v1.ownBlock = v.ownBlock ∨ v1.ownBlock = some W.heap.size) → K (a.put o.dst v1) w1 := fun v1 w1 h1 h2 h3 =>
  h v1 w1 h1 h2 (fun k hk => by
   rcases h3 with h3 | h3
   ·exact .inl (h3 ▸ hk)
   ·rw [h3] at hk; injection hk with hk; exact .inr (Nat.le_of_eq hk))
 rcases aa with _ | ad
 ·have h0 : ys = [] := by
   obtain ⟨a', fV, e', _, _, h3⟩ := HR
   simp only [List.cons.injEq, Value.slice.injEq, and_true] at e'
   obtain ⟨rfl, -, -⟩ := e'
   rcases Nat.eq_zero_or_pos ys.length with h | h
   ·exact List.eq_nil_of_length_eq_zero h
   ·obtain ⟨_, _, _, _, _, _, h, _⟩ := h3 h
    cases h
  subst h0
  obtain rfl : m = 0 := hm.symm
  obtain ⟨i0, hi, kK⟩ := Option.map_eq_some_iff.1 bR
  simp only [Prod.mk.injEq] at kK
  obtain ⟨gf, dt, dO⟩ := kK
  have ko : (Builtin.append_ #[t, t] o.type #[v, .slice none 0 c]).run P W = .ok v W := by
   obtain ⟨flat, HO, _⟩ := HO
   rcases HO.2 with ⟨rfl, hn⟩ | ⟨g, cap, cX, rfl, _, _, uK, _⟩
   ·simp [Builtin.append_, run_underlying ht, sizeOf, typeInfo, hi, Builtin.lenOf, Builtin.firstCells]
   ·simp [Builtin.append_, run_underlying ht, sizeOf, typeInfo, hi, Builtin.lenOf, Builtin.firstCells, uK, storeCells]
  unfold Oper.wp execOp
  simp only [ho, resolve, invoke, builtin, Sem.run_bind, Sem.run_pure, Result.andThen_ok, List.map_toArray, List.map_cons, List.map_nil, hs, hx, ko]
  exact (aV v W (by rw [List.append_nil]; exact HO) (Fr.refl _ _) (.inl rfl))
 ·rcases Nat.eq_zero_or_pos m with h0 | h0
  ·have By : ys = [] := List.eq_nil_of_length_eq_zero (by omega)
   subst By
   exact J4 l lo s x t e z bytes ho ht bR hz dS fc v xs [] [] ad m c hs hx hm HO rfl (by simp) bj (by rw [← hm]; exact hl) aV
  ·obtain ⟨a', fV, e', _, _, h3⟩ := HR
   simp only [List.cons.injEq, Value.slice.injEq, and_true] at e'
   obtain ⟨rfl, -, -⟩ := e'
   obtain ⟨b, of, cX, T, fz, flat, uS, hA, hh, cO, hc⟩ := h3 (by omega)
   injection uS with uS
   subst uS
   refine J4 l lo s x t e z bytes ho ht bR hz dS fc v xs ys flat _ m c hs hx hm HO (HF flat cO) (fun j u hj => ?_) bj (by rw [← hm]; exact hl) aV
   have aj : j < flat.length := by
    rcases Nat.lt_or_ge j flat.length with h | h
    ·exact h
    ·rw [List.getElem?_eq_none h] at hj; cases hj
   rw [yY, Lib.cell_of_heap hh, hc j aj, hj]
theorem Z7 {α : Type} (l : Lay α) {W : World} (lo : Nat) (iI : o.guard = none) (s x : Operand) (t e : TypeId) (z : Value) (bytes : Nat)
 (ho : o.op = .call { callee := .builtin .append, args := #[s, x], argTypes := #[t, t] })
 (ht : P.underlying t = some (.slice e)) (bR : (P.info? e).map (fun i => (i.zero, i.size, i.bytes)) = some (some z, l.size, bytes)) (hz : z.cells.size = l.size) (dS : 0 < bytes) (fc : 0 < l.size)
 (v : Value) (xs : List α) (y : α) (cs : Array Value) (hs : a.eval s = v) (hx : a.eval x = .slice (some ⟨W.heap.size, 0, none⟩) 1 1)
 (HO : Own l e lo W v xs) (HY : l.rd (fun k => lo ≤ k ∧ k < W.heap.size ∧ some k ≠ v.ownBlock) W cs.toList y)
 (bj : lo ≤ W.heap.size) (hl : (xs.length + 1) * bytes ≤ 140737488355328)
 (h : ∀ v1 w1, Own l e lo w1 v1 (xs ++ [y]) → Fr (fun k => some k = v.ownBlock) W w1 → (∀ k, v1.ownBlock = some k → v.ownBlock = some k ∨ W.heap.size ≤ k) → wpList P aw Q rest (a.put o.dst v1) w1) :
 wpList P aw Q (o :: rest) a (W.alloc (.cells cs e)) :=
 wpList_plain iI fun _ hK => JC l lo s x t e z bytes ho ht bR hz dS fc v xs y cs hs hx HO HY bj hl fun v1 w1 h1 h2 h3 => hK _ _ (h v1 w1 h1 h2 h3)
theorem jF {α : Type} (l : Lay α) {W : World} (lo : Nat) (iI : o.guard = none) (s x : Operand) (t e : TypeId) (z : Value) (bytes : Nat)
 (ho : o.op = .call { callee := .builtin .append, args := #[s, x], argTypes := #[t, t] })
 (ht : P.underlying t = some (.slice e)) (bR : (P.info? e).map (fun i => (i.zero, i.size, i.bytes)) = some (some z, l.size, bytes)) (hz : z.cells.size = l.size) (dS : 0 < bytes) (fc : 0 < l.size)
 (v : Value) (xs ys : List α) (aa : Option Addr) (m c : Nat) {A : Nat → Prop} (hs : a.eval s = v) (hx : a.eval x = .slice aa m c)
 (HO : Own l e lo W v xs) (HR : l.slice.rd A W [.slice aa m c] ys) (HF : ∀ flat, l.all A W flat ys → l.all (fun k => lo ≤ k ∧ k < W.heap.size ∧ some k ≠ v.ownBlock) W flat ys)
 (bj : lo ≤ W.heap.size) (hl : (xs.length + ys.length) * bytes ≤ 140737488355328)
 (h : ∀ v1 w1, Own l e lo w1 v1 (xs ++ ys) → Fr (fun k => some k = v.ownBlock) W w1 → (∀ k, v1.ownBlock = some k → v.ownBlock = some k ∨ W.heap.size ≤ k) → wpList P aw Q rest (a.put o.dst v1) w1) :
 wpList P aw Q (o :: rest) a W :=
 wpList_plain iI fun _ hK => jM l lo s x t e z bytes ho ht bR hz dS fc v xs ys aa m c hs hx HO HR HF bj hl fun v1 w1 h1 h2 h3 => hK _ _ (h v1 w1 h1 h2 h3)
end
variable {A : Nat → Prop} {cap : Nat}
theorem zd4 {a : Option Addr} {xs : List Int} (h : Lay.int.slice.rd A w [.slice a n cap] xs) (i : Nat) (hi : i < xs.length) :
 ∃ (b o : Nat), a = some ⟨b, o, none⟩ ∧ A b ∧ w.cell? ⟨b, o + i, none⟩ = some (.int .i64 xs[i]) ∧ -9223372036854775808 ≤ xs[i] ∧ xs[i] ≤ 9223372036854775807 := by
 have hn : xs.length = n := by
  obtain ⟨_, _, e, _⟩ := h
  simp only [List.cons.injEq, Value.slice.injEq, and_true] at e
  exact e.2.1.symm
 obtain ⟨b, o, es, eY, e, hA, _, hr, hc⟩ := Lay.slice_at h i (by omega)
 refine ⟨b, o, e, hA, ?_, hr.2⟩
 have := hc 0 (by decide)
 rw [hr.1, show o + i * Lay.int.size + 0 = o + i from by show o + i * 1 + 0 = o + i; omega] at this
 exact this
def zd (l : List UInt8) : ByteArray := ⟨l.toArray⟩
theorem zA (l : List UInt8) : (zd l).data.toList = l := rfl
theorem zB (l : List UInt8) : (zd l).size = l.length := rfl
theorem zat (l : List UInt8) : strOfNums (l.map fun b => (b.toNat : Int)) = zd l := by
 unfold strOfNums zd
 congr 1
 congr 1
 rw [List.map_map]
 conv => rhs; rw [← List.map_id l]
 exact List.map_congr_left fun _ _ => by simp
theorem zal : ∀ {l : List UInt8} {cs : List Value}, Lay.u8.all A w cs l → cs = l.map fun b => Value.int .u8 (b.toNat : Int)
 | [], _, h => h
 | b :: l, _, h => by
  obtain ⟨c, d, rfl, h, k⟩ := h
  rw [show c = [.int .u8 (b.toNat : Int)] from h, zal k]
  rfl
theorem zfn : ∀ (l : List UInt8), Lay.u8.all A w (l.map fun b => Value.int .u8 (b.toNat : Int)) l
 | [] => rfl
 | _ :: l => ⟨[_], _, rfl, rfl, zfn l⟩
variable {P : Program}
theorem Jt {l : List UInt8} (h : Lay.u8.slice.rd A w [v] l) (hA : ∀ k, A k → k < w.heap.size) (tJ dst e : TypeId) (hs : P.underlying tJ = some (.slice e)) (he : P.underlying e = some (.int .u8)) (hd : P.underlying dst = some .string) :
 ∀ W, Ext w W → (convert tJ dst v).run P W = .ok (.string (zd l)) W := by
 intro W hx
 have h := Lay.fr h hx (fun k hk => ⟨hA k hk, fun h => h⟩)
 obtain ⟨a, cap, e', h1, h2, h3⟩ := h
 obtain rfl : v = .slice a l.length cap := by simpa using e'
 rcases Nat.eq_zero_or_pos l.length with h0 | h0
 ·obtain rfl : l = [] := List.eq_nil_of_length_eq_zero h0
  show (convert tJ dst (.slice a 0 cap)).run P W = _
  rw [run_convert_bytes_string W tJ dst e _ 0 cap hs he hd]
  cases a <;> simp [Conv.bytesToString, loadCells]
  all_goals rfl
 ·obtain ⟨b, o, cX, T, fz, flat, rfl, hb, hh, cO, hc⟩ := h3 h0
  rw [← zat]
  refine run_convert_bytes_arg W tJ e hs he b o l.length cap _ (by simp) (fun i hi => ?_) dst hd
  have fm := zal cO
  rw [Lib.cell_of_heap hh, hc i (by rw [fm]; simpa using hi), fm]
  simp [hi]
variable {H : Type} {enc : TypeId × Value → H} {W W' : World}
theorem Yh (hl : laidOutB P = true) (hb : Below W.heap.size W W') :
 ∀ (ts : List TypeId) (vs : List Value) (ds : List (DataW H)) (ps : List MemPlace), (∀ t ∈ ts, P.readableRec t = true ∧ t < P.types.size) →
  DataW.TrodAll enc P W 0 (fun _ => true) true ts vs ds ps → (∀ x ∈ ps, x.block < W.heap.size) → DataW.TrodAll enc P W' 0 (fun b => decide (b < W.heap.size)) true ts vs ds ps
 | [], [], [], _, _, h, _ => h
 | t :: ts, v :: vs, d :: ds, _, ht, h, aj => by
  obtain ⟨p, q, h1, h2, rfl⟩ := h
  refine ⟨p, q, Below.trod hl (ht t List.mem_cons_self).1 (ht t List.mem_cons_self).2 h1 hb (fun x hx => aj x (List.mem_append_left _ hx)),
   Yh hl hb ts vs ds q (fun t h => ht t (List.mem_cons_of_mem _ h)) h2 (fun x hx => aj x (List.mem_append_right _ hx)), rfl⟩
 | [], _ :: _, _, _, _, h, _ => h.elim
 | [], [], _ :: _, _, _, h, _ => h.elim
 | _ :: _, [], _, _, _, h, _ => h.elim
 | _ :: _, _ :: _, [], _, _, h, _ => h.elim
theorem zfo {f : Func} {s : ChangeSpec} {args : Array Value} {ds : List (DataW H)} {lP : List MemPlace}
 (hl : laidOutB P = true) (wN : ∀ t ∈ f.params.toList, P.readableRec t = true ∧ t < P.types.size) (ox : s.vars = []) (qH : s.fn H (ds ++ []) = { results := [.lit (.bool true)], args := ds })
 (tb : TypeId) (my : f.resultTypes = #[tb]) (hb : P.underlying tb = some .bool) (hW : DataW.Whole enc P f.params.toList s.vars false W args.toList ds [] lP) (hx : Ext W W') :
 s.post enc P f false true false false W args (.bool true) W' := by
 have uq := hW
 obtain ⟨p, q, hA, hV, rfl, AH, AG⟩ := hW
 rw [ox] at hV
 have hq : q = [] := hV
 subst hq
 have aj := fun x hx => uq.lt x hx
 rw [List.append_nil] at aj
 refine ⟨ds, [], p ++ [], [], p, [], uq, ?_, ?_, ?_, hx.below.frame _, fun h => by cases h⟩
 ·rw [qH, my]
  exact trodAll_cons_mk (shut_bool hb _) trodAll_mk0
 ·rw [qH]
  exact Yh hl hx.below _ _ _ _ wN hA aj
 ·rw [ox]
  rw [qH]
  exact rfl
def zC (l : List UInt8) : List Value := l.map fun b => Value.int .u8 (b.toNat : Int)
theorem yv (l : List UInt8) : (zC l).length = l.length := List.length_map _
section
variable {P : Program} {aw : Array Oper} {Q : Exit → Act → World → Prop} {o : Oper} {a : Act} {K : Act → World → Prop}
theorem zds {W : World} (d s : Operand) (dT sT e : TypeId) (ho : o.op = .call { callee := .builtin .copy, args := #[d, s], argTypes := #[dT, sT] })
 (hu : P.underlying dT = some (.slice e)) (gz : (P.info? e).map (·.size) = some 1)
 (b of m c : Nat) (cX : Array Value) (T : TypeId) (aa : Option Addr) (cap : Nat) (bs : List UInt8) {A : Nat → Prop}
 (hd : a.eval d = .slice (some ⟨b, of, none⟩) m c) (hs : a.eval s = .slice aa bs.length cap) (hb : Blk W b cX T) (cr : of + m ≤ cX.size) (hR : Lay.u8.slice.rd A W [.slice aa bs.length cap] bs)
 (h : ∀ w1, Blk w1 b (splice cX.toList of (zC (bs.take m))).toArray T → Fr (fun k => k = b) W w1 → K (a.put o.dst (.int .i64 ((bs.take m).length : Nat))) w1) :
 o.wp P a W K Q := by
 have hn : (zC (bs.take m)).length = Nat.min bs.length m := by rw [yv, ltQ, Nat.min_comm]
 by_cases h0 : (bs.take m).length = 0
 ·have ko := run_copy_none (P := P) W dT sT o.type e (some ⟨b, of, none⟩) aa m c bs.length cap hu gz (by rw [← hn, yv]; exact h0)
  unfold Oper.wp
  simp [execOp, ho, resolve, invoke, builtin, hd, hs, ko, Result.andThen]
  have := h W (by rw [List.eq_nil_of_length_eq_zero h0]; simpa [splice, zC] using hb) (Fr.refl _ _)
  rw [h0] at this
  exact this
 ·obtain ⟨a', fV, e', -, -, h3⟩ := hR
  simp only [List.cons.injEq, Value.slice.injEq, and_true] at e'
  obtain ⟨rfl, -, rfl⟩ := e'
  rw [ltQ] at h0
  obtain ⟨b', o', BG, T', DC, flat, rfl, -, hh, cO, hc⟩ := h3 (by omega)
  obtain rfl := zal cO
  have ko := run_copy_row (P := P) W dT sT o.type e b of m c ⟨b', o', none⟩ bs.length cap cX T (zC (bs.take m)) hu gz hb hn (fun j v hj => by
   have aj : j < (bs.take m).length := by rw [← yv]; exact (List.getElem?_eq_some_iff.1 hj).1
   rw [ltQ] at aj
   rw [yY, Lib.cell_of_heap hh, hc j (by simp; omega), ← hj, zC, List.getElem?_map, List.getElem?_map, List.getElem?_take, if_pos (by omega)]) (by rw [hn]; have : Nat.min bs.length m ≤ m := Nat.min_le_right _ _; omega)
   (fun u hu => by obtain ⟨x, -, rfl⟩ := List.mem_map.1 hu; rfl)
  unfold Oper.wp
  simp [execOp, ho, resolve, invoke, builtin, hd, hs, ko, Result.andThen]
  have iO := setRow_heap W b cX (cX.toList.take of ++ zC (bs.take m) ++ cX.toList.drop (of + (zC (bs.take m)).length)).toArray T (0, 0) hb
  have := h (W.setRow b (cX.toList.take of ++ zC (bs.take m) ++ cX.toList.drop (of + (zC (bs.take m)).length)).toArray) (by unfold Blk; rw [iO]; simp [splice]) ⟨rfl, rfl, rfl, by simp [World.setRow], fun k _ hk => setRow_other W b k _ (fun e => hk e)⟩
  show K _ _
  simpa [yv, goInt] using this
end
abbrev js : Addr := ⟨0, 0, none⟩
structure Src where
 is : (Nat → Prop) → Nat → List UInt8 → World → Prop
 lt : ∀ {D g bs w}, is D g bs w → g < w.heap.size ∧ ∀ k, D k → k < w.heap.size ∧ k ≠ g
 frame : ∀ {D g bs w w' S}, is D g bs w → Fr S w w' → ¬ S g → (∀ k, D k → ¬ S k) → is D g bs w'
 T : TypeId
 f : FuncId
 nil : ∀ (g : Nat) (W : World), (nilAhead 559 T (.pointer (some ⟨g, 0, none⟩)) "Read").run Tryz.prog W = .ok (some false) W
 meth : ∀ (g : Nat) (W : World), (method 559 T (.pointer (some ⟨g, 0, none⟩)) "Read").run Tryz.prog W = .ok (f, .pointer (some ⟨g, 0, none⟩)) W
 call : ∀ (args : Array Value) (W : World), (callFunc f args).run Tryz.prog W = .ok (.enter f args) W
 read : ∀ (D : Nat → Prop) (g b o m c : Nat) (bs : List UInt8) (cs : Array Value) (Tb : TypeId) (w : World), is D g bs w → Blk w b cs Tb → o + m ≤ cs.size → m ≤ c → c ≤ maxLen → b ≠ g → ¬ D b → 0 < m → 0 < bs.length →
  Calls Tryz.prog f #[.pointer (some ⟨g, 0, none⟩), .slice (some ⟨b, o, none⟩) m c] w fun e w' => ∃ n : Nat, 0 < n ∧ n ≤ m ∧ n ≤ bs.length ∧ e = .returned (.tuple #[.int .i64 n, .nilIface]) ∧ is D g (bs.drop n) w' ∧
   Fr (fun k => k = g ∨ k = b) w w' ∧ Blk w' b (splice cs.toList o (zC (bs.take n))).toArray Tb
 eof : ∀ (D : Nat → Prop) (g : Nat) (p v : Value) (w : World), is D g [] w → w.cell? js = some v →
  Calls Tryz.prog f #[.pointer (some ⟨g, 0, none⟩), p] w fun e w' => e = .returned (.tuple #[.int .i64 0, v]) ∧ is D g [] w' ∧ Fr (fun k => k = g) w w'
theorem zbT {D : Nat → Prop} {aa : Option Addr} {bs : List UInt8} (h : Lay.u8.slice.rd D w [.slice aa bs.length cap] bs) (hn : n ≤ bs.length) :
 Lay.u8.slice.rd D w [.slice (aa.map (·.add n)) (bs.drop n).length (cap - n)] (bs.drop n) := by
 obtain ⟨a', fV, e, h1, h2, h3⟩ := h
 simp only [List.cons.injEq, Value.slice.injEq, and_true] at e
 obtain ⟨rfl, -, rfl⟩ := e
 refine ⟨_, _, rfl, by rw [ldQ]; omega, by omega, fun hp => ?_⟩
 rw [ldQ] at hp
 obtain ⟨b, o, cX, T, fz, flat, rfl, hA, hh, cO, hc⟩ := h3 (by omega)
 obtain rfl := zal cO
 refine ⟨b, o + n, cX, T, fz, _, by rw [Option.map_some, yY], hA, hh, zfn _, fun j hj => ?_⟩
 rw [List.length_map, ldQ] at hj
 rw [Nat.add_assoc, hc (n + j) (by rw [List.length_map]; omega), List.getElem?_map, List.getElem?_map, List.getElem?_drop]
section
variable {P : Program} {aw : Array Oper} {rest : List Oper} {o : Oper} {a : Act} {Q : Exit → Act → World → Prop} {K : Act → World → Prop}
theorem jk {α : Type} (l : Lay α) {W : World} (lo n : Nat) (hn : W.heap.size = n) (iI : o.guard = none) (s x : Operand) (t e : TypeId) (z : Value) (bytes : Nat)
 (ho : o.op = .call { callee := .builtin .append, args := #[s, x], argTypes := #[t, t] })
 (ht : P.underlying t = some (.slice e)) (bR : (P.info? e).map (fun i => (i.zero, i.size, i.bytes)) = some (some z, l.size, bytes)) (hz : z.cells.size = l.size) (dS : 0 < bytes) (fc : 0 < l.size)
 (v : Value) (xs : List α) (y : α) (cs : Array Value) (hs : a.eval s = v) (hx : a.eval x = .slice (some ⟨n, 0, none⟩) 1 1)
 (HO : Own l e lo W v xs) (HY : l.rd (fun k => lo ≤ k ∧ k < W.heap.size ∧ some k ≠ v.ownBlock) W cs.toList y)
 (bj : lo ≤ W.heap.size) (hl : (xs.length + 1) * bytes ≤ 140737488355328)
 (h : ∀ v1 w1, Own l e lo w1 v1 (xs ++ [y]) → Fr (fun k => some k = v.ownBlock) W w1 → (∀ k, v1.ownBlock = some k → v.ownBlock = some k ∨ W.heap.size ≤ k) → wpList P aw Q rest (a.put o.dst v1) w1) :
 wpList P aw Q (o :: rest) a (W.alloc (.cells cs e)) := by
 subst hn
 exact Z7 l lo iI s x t e z bytes ho ht bR hz dS fc v xs y cs hs hx HO HY bj hl h
end
theorem ext_up (h : Fr (fun k => w.heap.size ≤ k) w W) : Ext w W := h.mono (fun k hk h => absurd hk (by have h' : w.heap.size ≤ k := h; omega))
theorem Fr.new (h : Fr S w W) (hS : ∀ k, S k → w.heap.size ≤ k) : Ext w W := h.mono (fun k hk h => absurd hk (by have := hS k h; omega))
end Go.Proofs.YtejgninpjhcgnaaGreatDoor
