/- Texts of this proof, one behind the other. -/
import Derived.OrdersHeld
import Derived.Deep.RegionHeld3
import Derived.Below
import Derived.WalkKit
import Derived.Lib.Hide
import Derived.Maps.AppendAt
import Derived.Lib.Builder
import Derived.Laws.MakeOwn
import Derived.Deep.Draws
import Derived.ProofKit
import Derived.OpenShut
import Derived.Carry
import Derived.Lib.Strings
import Derived.KernelRfl
import Derived.Test.YtejgninpjhcgnaaGreatDoorProg
namespace Go.Proofs.YtejgninpjhcgnaaGreatDoor
open Go.RowKit
open Go.ChangeShapes Go.WideShapes Go.ChangeAt Go.RowKit
set_option linter.unusedSimpArgs false
set_option linter.unusedVariables false
set_option maxRecDepth 100000
set_option maxHeartbeats 400000
def Hd (p : Prop) : Prop := p
variable {p : Prop}
theorem Hd.o (h : Hd p) : p := h
theorem qh (h : p) : Hd p := h
theorem anQ {a b : Prop} (h : a) (k : b) : a ∧ b := ⟨h, k⟩
theorem nqQ {a b c : Nat} (h : a < b) (k : b ≤ c) : a < c := Nat.lt_of_lt_of_le h k
theorem nlQ {a b c : Nat} (h : a ≤ b) (k : b ≤ c) : a ≤ c := Nat.le_trans h k
theorem nzQ (n : Nat) : 0 ≤ n := Nat.zero_le n
variable {α : Type} {x d : α}
theorem gzQ {l : List α} : (x :: l).getD 0 d = x := rfl
variable {n : Nat}
theorem gsQ {l : List α} : (x :: l).getD (n + 1) d = l.getD n d := rfl
theorem laQ {l m : List α} : (l ++ m).length = l.length + m.length := List.length_append
theorem tsQ {l : List α} {i : Nat} (h : i < l.length) : l.take (i + 1) = l.take i ++ [l[i]] := List.take_succ_eq_append_getElem h
theorem ltQ {l : List α} : (l.take n).length = min n l.length := List.length_take
theorem ldQ {l : List α} : (l.drop n).length = l.length - n := List.length_drop
theorem tlQ {l : List α} : l.take l.length = l := List.take_length
theorem exQ {α : Sort _} (a : α) : ∃ b, a = b := ⟨_, rfl⟩
theorem bfQ {a b : Int} (h : a ≠ b) : (a == b) = false := by rw [beq_eq_false_iff_ne]; exact h
section
variable {P : Program} {ar : Array Oper} {Q : Exit → Act → World → Prop} {md : Region.Mode} {E : World → World → Prop} {ds : List Nat}
def Yh (md : Region.Mode) (ar : Array Oper) (i : Nat) : Nat → Nat → Bool
 | 0, _ => false
 | fuel + 1, d => match ar[d]? with
  | some o => o.after.any fun e => Region.binds md e && (e.on == i || Yh md ar i fuel e.on)
  | none => false
def zec (md : Region.Mode) (ar : Array Oper) (am : Array Bool) : Bool :=
 (List.range ar.size).all fun j => !am.getD j false || match ar[j]? with
  | some o => o.after.all fun e => !Region.binds md e || am.getD e.on false
  | none => true
def zjS (md : Region.Mode) (ar : Array Oper) (am : Array Bool) (ds : List Nat) (i : Nat) : Bool :=
 ds.all fun d => am.getD d true || Yh md ar i ar.size d
def ja (md : Region.Mode) (ar : Array Oper) (am : Array Bool) : Prop :=
 ∀ j oj, ar[j]? = some oj → am.getD j false = true → ∀ e ∈ oj.after, Region.binds md e = true → am.getD e.on false = true
theorem zao {am : Array Bool} (h : zec md ar am = true) : ja md ar am := by
 intro j oj hj hl e he hb
 have ah : j < ar.size := (Array.getElem?_eq_some_iff.1 hj).1
 have h1 := List.all_eq_true.1 h j (List.mem_range.2 ah)
 simp only [hl, hj, Bool.not_true, Bool.false_or] at h1
 have h2 := Array.all_eq_true_iff_forall_mem.1 h1 e he
 simpa [hb] using h2
theorem ja.set {am : Array Bool} {i : Nat} (h : ja md ar am) (hi : i ∈ Region.ready md ar am) : ja md ar (am.setIfInBounds i true) := by
 obtain ⟨_, oi, CT, cr⟩ := mem_ready.1 hi
 intro j oj hj hl e he hb
 by_cases rF : i = j
 ·subst rF
  have : oj = oi := Option.some.inj (hj.symm.trans CT)
  subst this
  exact getD_set_true (cr e he hb)
 ·rw [getD_set_ne false rF] at hl
  exact getD_set_true (h j oj hj hl e he hb)
theorem zap {am : Array Bool} {i : Nat} (hc : ja md ar am) : ∀ (fuel d : Nat), Yh md ar i fuel d = true → am.getD d false = true → am.getD i false = true
 | 0, _, h, _ => by simp [Yh] at h
 | fuel + 1, d, h, hl => by
  unfold Yh at h
  cases ho : ar[d]? with
  | none => rw [ho] at h; simp at h
  | some o =>
   rw [ho] at h
   obtain ⟨e, he, h1⟩ := Array.any_eq_true'.1 h
   simp only [Bool.and_eq_true, Bool.or_eq_true, beq_iff_eq] at h1
   have kg := hc d o ho hl e he h1.1
   rcases h1.2 with h2 | h2
   ·rw [← h2]; exact kg
   ·exact zap hc fuel e.on h2 kg
theorem za7 {am : Array Bool} {i d fuel : Nat} (hc : ja md ar am) (hr : Yh md ar i fuel d = true) (ck : am.getD i true = false) : d ∉ Region.ready md ar am := by
 intro hd
 obtain ⟨_, o, ho, cr⟩ := mem_ready.1 hd
 have hi : am.getD i false = true := by
  cases fuel with
  | zero => simp [Yh] at hr
  | succ n =>
   unfold Yh at hr
   rw [ho] at hr
   obtain ⟨e, he, h1⟩ := Array.any_eq_true'.1 hr
   simp only [Bool.and_eq_true, Bool.or_eq_true, beq_iff_eq] at h1
   have kg := cr e he h1.1
   rcases h1.2 with h2 | h2
   ·rw [← h2]; exact kg
   ·exact zap hc n e.on h2 kg
 rcases Nat.lt_or_ge i am.size with h' | h'
 ·simp [h'] at ck hi
  rw [ck] at hi
  cases hi
 ·simp [Array.getElem?_eq_none h'] at ck
def J8 (P : Program) (md : Region.Mode) (ar : Array Oper) (Q : Exit → Act → World → Prop) (E : World → World → Prop) (ds : List Nat) : Nat → Array Bool → Act → World → Prop
 | 0, am, a, w => Region.ready md ar am = [] ∧ Q .normal a w
 | fuel + 1, am, a, w =>
  (Region.ready md ar am = [] → Q .normal a w) ∧
  ∀ i ∈ Region.ready md ar am, wpOp P ar Q i (fun a' w' => (i ∉ ds → E w w') ∧ J8 P md ar Q E ds fuel (am.setIfInBounds i true) a' w') a w
theorem YZ : ∀ (fuel : Nat) (am : Array Bool) (a : Act) (w : World), J8 P md ar Q E ds fuel am a w → wpAny P md ar Q fuel am a w
 | 0, _, _, _, h => h
 | fuel + 1, _, _, _, h => ⟨h.1, fun i hi => wpOp_mono (fun a' w' h' => YZ fuel _ a' w' h'.2) (h.2 i hi)⟩
theorem zaq (cO : ∀ w, E w w) (cp : ∀ a b c, E a b → E b c → E a c) {i : Nat} {oi : Oper} {v : Value} (hi : ar[i]? = some oi) (tP : ∀ (j : Nat) (o : Oper) cs b, ar[j]? = some o → o.op ≠ .select cs b)
 (hQ : ∀ c a w, Q (.panic c) (a.put oi.dst v) w → Q (.panic c) a w) (n : Nat) :
 ∀ (fuel : Nat) (am : Array Bool) (a : Act) (w : World),
  (∀ j oj, ar[j]? = some oj → j ≠ i → am.getD j true = false → (∀ e ∈ oj.after, Region.binds md e = true → e.on ≠ i) → oi.apart ar oj = true) →
  ja md ar am → (∀ d ∈ ds, am.getD d true = false → Yh md ar i n d = true) →
  i ∈ Region.ready md ar am → YieldsIf P ar (E w) oi v a →
  J8 P md ar Q E ds fuel (am.setIfInBounds i true) (a.put oi.dst v) w → J8 P md ar Q E ds (fuel + 1) am a w := by
 intro fuel
 induction fuel with
 | zero =>
  intro am a w _ _ _ hr hy H
  refine ⟨fun h => (by rw [h] at hr; cases hr), fun j hj => ?_⟩
  by_cases hji : j = i
  ·subst hji; exact hy.wpOp hi (cO w) ⟨fun _ => cO w, H⟩
  ·have := ready_mono hj hji
   rw [H.1] at this
   cases this
 | succ fuel ih =>
  intro am a w pi hc hd hr hy H
  refine ⟨fun h => (by rw [h] at hr; cases hr), fun j hj => ?_⟩
  by_cases hji : j = i
  ·subst hji; exact hy.wpOp hi (cO w) ⟨fun _ => cO w, H⟩
  ·have h1 := H.2 j (ready_mono hj hji)
   obtain ⟨nC, oj, At, cr⟩ := mem_ready.1 hj
   have rk := (mem_ready.1 hr).1
   have wh : ∀ e ∈ oj.after, Region.binds md e = true → e.on ≠ i := fun e he hb eG => by
    have h1 := cr e he hb
    rw [eG] at h1
    rcases Nat.lt_or_ge i am.size with h' | h'
    ·simp [h'] at rk h1; rw [rk] at h1; cases h1
    ·simp [Array.getElem?_eq_none h'] at h1
   have Dr : j ∉ ds := fun hm => za7 hc (hd j hm nC) rk hj
   have h2 := wpOp_putIf At (pi j oj At hji nC wh) (fun cs b => tP i oi cs b hi) (fun cs b => tP j oj cs b At) hQ hy h1
   have qf : ∀ k ok, ar[k]? = some ok → k ≠ i → (am.setIfInBounds j true).getD k true = false →
    (∀ e ∈ ok.after, Region.binds md e = true → e.on ≠ i) → oi.apart ar ok = true := fun k ok hk uj ck CP => by
    refine pi k ok hk uj ?_ CP
    by_cases ob : j = k
    ·subst ob; exact nC
    ·rw [getD_set_ne true ob] at ck; exact ck
   have uk : ∀ d ∈ ds, (am.setIfInBounds j true).getD d true = false → Yh md ar i n d = true := fun d hm ck => by
    refine hd d hm ?_
    by_cases ob : j = d
    ·subst ob; exact nC
    ·rw [getD_set_ne true ob] at ck; exact ck
   refine wpOp_mono (fun a' w' h3 => ⟨h3.2.1, ih (am.setIfInBounds j true) a' w' qf (hc.set hj) uk (ready_mono hr (Ne.symm hji)) ?_ ?_⟩) h2
   ·exact h3.1.imp (fun ⟨x, y⟩ => ⟨x, fun xt hE => y xt (cp _ _ _ (h3.2.1 Dr) hE)⟩) id
   ·rw [Array.setIfInBounds_comm _ _ hji]
    exact h3.2.2
inductive Tag where
 | take | run | last | two (j : Nat) | both (j : Nat)
 deriving DecidableEq
def zcs (P : Program) (ar : Array Oper) (Q : Exit → Act → World → Prop) (E : World → World → Prop) : List (Nat × Tag) → Act → World → Prop
 | [], a, w => Q .normal a w
 | (i, .take) :: rest, a, w => ∃ oi v, ar[i]? = some oi ∧ (∀ c a w, Q (.panic c) (a.put oi.dst v) w → Q (.panic c) a w) ∧ YieldsIf P ar (E w) oi v a ∧ zcs P ar Q E rest (a.put oi.dst v) w
 | (i, .run) :: rest, a, w => wpOp P ar Q i (fun a' w' => E w w' ∧ zcs P ar Q E rest a' w') a w
 | (i, .last) :: rest, a, w => wpOp P ar Q i (fun a' w' => zcs P ar Q E rest a' w') a w
 | (i, .two j) :: rest, a, w => ∃ J : Act → World → Prop, (∀ a' w', J a' w' → zcs P ar Q E rest a' w') ∧
  wpOp P ar Q i (fun a1 w1 => E w w1 ∧ wpOp P ar Q j (fun a2 w2 => E w1 w2 ∧ J a2 w2) a1 w1) a w ∧
  wpOp P ar Q j (fun a1 w1 => E w w1 ∧ wpOp P ar Q i (fun a2 w2 => E w1 w2 ∧ J a2 w2) a1 w1) a w
 | (i, .both j) :: rest, a, w => ∃ J : Act → World → Prop, (∀ a' w', J a' w' → zcs P ar Q E rest a' w') ∧
  wpOp P ar Q i (fun a1 w1 => wpOp P ar Q j J a1 w1) a w ∧ wpOp P ar Q j (fun a1 w1 => wpOp P ar Q i J a1 w1) a w
def Jl : List (Nat × Tag) → Nat
 | [] => 0
 | (_, .two _) :: rest | (_, .both _) :: rest => Jl rest + 2
 | _ :: rest => Jl rest + 1
def Yx (md : Region.Mode) (ar : Array Oper) (ds : List Nat) : List (Nat × Tag) → Array Bool → Bool
 | [], l => Region.ready md ar l == []
 | (i, .take) :: rest, l => Region.free md ar l i && (Region.ready md ar l).contains i && zec md ar l && zjS md ar l ds i && Yx md ar ds rest (l.setIfInBounds i true)
 | (i, .run) :: rest, l => (Region.ready md ar l == [i]) && Yx md ar ds rest (l.setIfInBounds i true)
 | (i, .last) :: rest, l => (Region.ready md ar l == [i]) && ds.contains i && Yx md ar ds rest (l.setIfInBounds i true)
 | (i, .two j) :: rest, l => (Region.ready md ar l == [i, j]) && (Region.ready md ar (l.setIfInBounds i true) == [j]) && (Region.ready md ar (l.setIfInBounds j true) == [i]) &&
  Yx md ar ds rest ((l.setIfInBounds i true).setIfInBounds j true) && i != j
 | (i, .both j) :: rest, l => (Region.ready md ar l == [i, j]) && (Region.ready md ar (l.setIfInBounds i true) == [j]) && (Region.ready md ar (l.setIfInBounds j true) == [i]) &&
  Yx md ar ds rest ((l.setIfInBounds i true).setIfInBounds j true) && i != j && ds.contains i && ds.contains j
def dsOf : List (Nat × Tag) → List Nat
 | [] => []
 | (i, .last) :: rest => i :: dsOf rest
 | (i, .both j) :: rest => i :: j :: dsOf rest
 | _ :: rest => dsOf rest
theorem j1 {i : Nat} {n : Nat} {l : Array Bool} {a : Act} {w : World} (hr : Region.ready md ar l = [i])
 (h : wpOp P ar Q i (fun a' w' => (i ∉ ds → E w w') ∧ J8 P md ar Q E ds n (l.setIfInBounds i true) a' w') a w) : J8 P md ar Q E ds (n + 1) l a w := by
 refine ⟨fun h0 => absurd (hr ▸ h0) (by simp), fun j hj => ?_⟩
 rw [hr] at hj
 obtain rfl : j = i := by simpa using hj
 exact h
theorem Y0 {i j : Nat} {n : Nat} {l : Array Bool} {a : Act} {w : World} (hr : Region.ready md ar l = [i, j])
 (hi : wpOp P ar Q i (fun a' w' => (i ∉ ds → E w w') ∧ J8 P md ar Q E ds n (l.setIfInBounds i true) a' w') a w)
 (hj : wpOp P ar Q j (fun a' w' => (j ∉ ds → E w w') ∧ J8 P md ar Q E ds n (l.setIfInBounds j true) a' w') a w) : J8 P md ar Q E ds (n + 1) l a w := by
 refine ⟨fun h0 => absurd (hr ▸ h0) (by simp), fun k hk => ?_⟩
 rw [hr] at hk
 rcases List.mem_cons.1 hk with rfl | hk
 ·exact hi
 ·obtain rfl : k = j := by simpa using hk
  exact hj
theorem yA (cO : ∀ w, E w w) (cp : ∀ a b c, E a b → E b c → E a c) (hs : Region.noSelect ar = true) : ∀ (l : List (Nat × Tag)) (am : Array Bool) (a : Act) (w : World),
 Yx md ar ds l am = true → zcs P ar Q E l a w → J8 P md ar Q E ds (Jl l) am a w
 | [], am, a, w, hc, h => by
  simp only [Yx, beq_iff_eq] at hc
  exact ⟨hc, h⟩
 | (i, .take) :: rest, am, a, w, hc, h => by
  simp only [Yx, Bool.and_eq_true] at hc
  obtain ⟨⟨⟨⟨h1, h2⟩, h3⟩, h4⟩, h5⟩ := hc
  obtain ⟨oi, v, hi, hQ, hy, m7⟩ := h
  exact zaq cO cp hi (Region.noSelect_spec hs) hQ ar.size (Jl rest) am a w (Region.free_spec hi h1) (zao h3)
   (fun d hm ck => by have := List.all_eq_true.1 h4 d hm; rw [ck] at this; simpa using this) (by simpa using h2) hy (yA cO cp hs rest _ _ _ h5 m7)
 | (i, .run) :: rest, am, a, w, hc, h => by
  simp only [Yx, Bool.and_eq_true, beq_iff_eq] at hc
  obtain ⟨h1, h2⟩ := hc
  exact j1 h1 (wpOp_mono (fun a' w' h' => ⟨fun _ => h'.1, yA cO cp hs rest _ _ _ h2 h'.2⟩) h)
 | (i, .last) :: rest, am, a, w, hc, h => by
  simp only [Yx, Bool.and_eq_true, beq_iff_eq] at hc
  obtain ⟨⟨h1, h3⟩, h2⟩ := hc
  exact j1 h1 (wpOp_mono (fun a' w' h' => ⟨fun hn => absurd (by simpa using h3) hn, yA cO cp hs rest _ _ _ h2 h'⟩) h)
 | (i, .two j) :: rest, am, a, w, hc, h => by
  simp only [Yx, Bool.and_eq_true, beq_iff_eq, bne_iff_ne, ne_eq] at hc
  obtain ⟨⟨⟨⟨h1, h2⟩, h3⟩, h4⟩, rF⟩ := hc
  obtain ⟨J, hJ, hi, hj⟩ := h
  refine Y0 h1 (wpOp_mono (fun a1 w1 h' => ⟨fun _ => h'.1, j1 h2 (wpOp_mono (fun a2 w2 nY => ⟨fun _ => nY.1, ?_⟩) h'.2)⟩) hi)
   (wpOp_mono (fun a1 w1 h' => ⟨fun _ => h'.1, j1 h3 (wpOp_mono (fun a2 w2 nY => ⟨fun _ => nY.1, ?_⟩) h'.2)⟩) hj)
  ·exact yA cO cp hs rest _ _ _ h4 (hJ _ _ nY.2)
  ·rw [Array.setIfInBounds_comm _ _ (Ne.symm rF)]
   exact yA cO cp hs rest _ _ _ h4 (hJ _ _ nY.2)
 | (i, .both j) :: rest, am, a, w, hc, h => by
  simp only [Yx, Bool.and_eq_true, beq_iff_eq, bne_iff_ne, ne_eq] at hc
  obtain ⟨⟨⟨⟨⟨⟨h1, h2⟩, h3⟩, h4⟩, rF⟩, BB⟩, AX⟩ := hc
  obtain ⟨J, hJ, hi, hj⟩ := h
  refine Y0 h1 (wpOp_mono (fun a1 w1 h' => ⟨fun hn => absurd (by simpa using BB) hn, j1 h2 (wpOp_mono (fun a2 w2 nY => ⟨fun hn => absurd (by simpa using AX) hn, ?_⟩) h')⟩) hi)
   (wpOp_mono (fun a1 w1 h' => ⟨fun hn => absurd (by simpa using AX) hn, j1 h3 (wpOp_mono (fun a2 w2 nY => ⟨fun hn => absurd (by simpa using BB) hn, ?_⟩) h')⟩) hj)
  ·exact yA cO cp hs rest _ _ _ h4 (hJ _ _ nY)
  ·rw [Array.setIfInBounds_comm _ _ (Ne.symm rF)]
   exact yA cO cp hs rest _ _ _ h4 (hJ _ _ nY)
def zi1 (ar : Array Oper) (l : List (Nat × Tag)) : Bool :=
 Region.noSelect ar && Yx .any ar (dsOf l) l (Array.replicate ar.size false) && Jl l == ar.size
theorem zct (E : World → World → Prop) (cO : ∀ w, E w w) (cp : ∀ a b c, E a b → E b c → E a c) (l : List (Nat × Tag)) {id : Nat} {a : Act} {w : World} (hm : P.follows .mixedOrders = true)
 (dK : zi1 ar l = true) (h : zcs P ar Q E l a w.drew) : (Code.region id ar true).wp P Q a w := by
 simp only [zi1, Bool.and_eq_true, beq_iff_eq] at dK
 obtain ⟨⟨h1, h2⟩, h3⟩ := dK
 refine wp_region_any hm (YZ (E := E) (ds := dsOf l) _ _ _ _ ?_)
 rw [← h3]
 have := yA cO cp h1 l _ a w.drew h2 h
 rwa [← h3] at this
structure Frm where
 E : World → World → Prop
 refl : ∀ w, E w w
 trans : ∀ a b c, E a b → E b c → E a c
inductive Item where
 | take (o : Oper) | run (o : Oper) | last (o : Oper)
 | two (i j : Oper) | both (i j : Oper)
def ZV : Oper := { dst := none, op := .move (.const undef), type := 0, pos := "", after := #[], guard := none }
def zy (ar : Array Oper) : List (Nat × Tag) → List Item
 | [] => []
 | (i, .take) :: rest => .take (ar.toList.getD i ZV) :: zy ar rest
 | (i, .run) :: rest => .run (ar.toList.getD i ZV) :: zy ar rest
 | (i, .last) :: rest => .last (ar.toList.getD i ZV) :: zy ar rest
 | (i, .two j) :: rest => .two (ar.toList.getD i ZV) (ar.toList.getD j ZV) :: zy ar rest
 | (i, .both j) :: rest => .both (ar.toList.getD i ZV) (ar.toList.getD j ZV) :: zy ar rest
def JC (n : Nat) : List (Nat × Tag) → Bool
 | [] => true
 | (i, .two j) :: rest | (i, .both j) :: rest => decide (i < n) && decide (j < n) && JC n rest
 | (i, _) :: rest => decide (i < n) && JC n rest
def wpG (P : Program) (ar : Array Oper) (Q : Exit → Act → World → Prop) (o : Oper) (K : Act → World → Prop) (a : Act) (w : World) : Prop :=
 if Region.wanted o (yielded ar a.tmps) = true then o.wp P a w K Q else K (a.put o.dst undef) w
variable {R : Frm}
def yk (P : Program) (ar : Array Oper) (Q : Exit → Act → World → Prop) (R : Frm) : List Item → Act → World → Prop
 | [], a, w => Q .normal a w
 | .take o :: rest, a, w => ∃ v, (∀ c a w, Q (.panic c) (a.put o.dst v) w → Q (.panic c) a w) ∧ YieldsIf P ar (R.E w) o v a ∧ yk P ar Q R rest (a.put o.dst v) w
 | .run o :: rest, a, w => wpG P ar Q o (fun a' w' => R.E w w' ∧ yk P ar Q R rest a' w') a w
 | .last o :: rest, a, w => wpG P ar Q o (fun a' w' => yk P ar Q R rest a' w') a w
 | .two i j :: rest, a, w => ∃ J : Act → World → Prop, (∀ a' w', J a' w' → yk P ar Q R rest a' w') ∧
  wpG P ar Q i (fun a1 w1 => R.E w w1 ∧ wpG P ar Q j (fun a2 w2 => R.E w1 w2 ∧ J a2 w2) a1 w1) a w ∧
  wpG P ar Q j (fun a1 w1 => R.E w w1 ∧ wpG P ar Q i (fun a2 w2 => R.E w1 w2 ∧ J a2 w2) a1 w1) a w
 | .both i j :: rest, a, w => ∃ J : Act → World → Prop, (∀ a' w', J a' w' → yk P ar Q R rest a' w') ∧
  wpG P ar Q i (fun a1 w1 => wpG P ar Q j J a1 w1) a w ∧ wpG P ar Q j (fun a1 w1 => wpG P ar Q i J a1 w1) a w
theorem getD_some {i : Nat} (h : i < ar.size) : ar[i]? = some (ar.toList.getD i ZV) := by
 rw [List.getD_eq_getElem?_getD, Array.getElem?_toList, Array.getElem?_eq_getElem h]
 rfl
theorem yY {i : Nat} (h : i < ar.size) {K : Act → World → Prop} {a : Act} {w : World} (hg : wpG P ar Q (ar.toList.getD i ZV) K a w) : wpOp P ar Q i K a w := by
 unfold wpOp
 rw [getD_some h]
 unfold wpG at hg
 dsimp only
 split
 ·rename_i hw; rw [if_pos hw] at hg; exact .inl hg
 ·rename_i hw; rw [if_neg hw] at hg; exact hg
theorem JR {o : Oper} {K K' : Act → World → Prop} {a : Act} {w : World} (hk : ∀ a w, K a w → K' a w) (h : wpG P ar Q o K a w) : wpG P ar Q o K' a w := by
 unfold wpG at *
 split
 ·rename_i hw
  rw [if_pos hw] at h
  unfold Oper.wp at *
  cases hr : (execOp a.eval o).run P w with
  | ok n w' =>
   rw [hr] at h
   cases n with
   | value v => exact hk _ _ h
   | skip => exact hk _ _ h
   | defer d => exact hk _ _ h
   | enter f args => exact Calls.mono h (fun e xt hh => by cases e <;> first | exact hk _ _ hh | exact hh)
   | row r args => exact Rows.mono h (fun v xt hh => hk _ _ hh)
   | _ => exact (h : False).elim
  | halt x w' =>
   rw [hr] at h
   cases x <;> first | exact (h : False).elim | exact h
 ·rename_i hw
  rw [if_neg hw] at h
  exact hk _ _ h
theorem yC : ∀ (l : List (Nat × Tag)) (a : Act) (w : World), JC ar.size l = true → yk P ar Q R (zy ar l) a w → zcs P ar Q R.E l a w
 | [], _, _, _, h => h
 | (i, .take) :: rest, a, w, hr, h => by
  simp only [JC, Bool.and_eq_true, decide_eq_true_eq] at hr
  obtain ⟨v, hQ, hy, h⟩ := h
  exact ⟨_, v, getD_some hr.1, hQ, hy, yC rest _ _ hr.2 h⟩
 | (i, .run) :: rest, a, w, hr, h => by
  simp only [JC, Bool.and_eq_true, decide_eq_true_eq] at hr
  exact yY hr.1 (JR (fun a w h => ⟨h.1, yC rest _ _ hr.2 h.2⟩) h)
 | (i, .last) :: rest, a, w, hr, h => by
  simp only [JC, Bool.and_eq_true, decide_eq_true_eq] at hr
  exact yY hr.1 (JR (fun a w h => yC rest _ _ hr.2 h) h)
 | (i, .two j) :: rest, a, w, hr, h => by
  simp only [JC, Bool.and_eq_true, decide_eq_true_eq] at hr
  obtain ⟨J, hJ, hi, hj⟩ := h
  exact ⟨J, fun a w h => yC rest _ _ hr.2 (hJ _ _ h), yY hr.1.1 (JR (fun a w h => ⟨h.1, yY hr.1.2 h.2⟩) hi),
   yY hr.1.2 (JR (fun a w h => ⟨h.1, yY hr.1.1 h.2⟩) hj)⟩
 | (i, .both j) :: rest, a, w, hr, h => by
  simp only [JC, Bool.and_eq_true, decide_eq_true_eq] at hr
  obtain ⟨J, hJ, hi, hj⟩ := h
  exact ⟨J, fun a w h => yC rest _ _ hr.2 (hJ _ _ h), yY hr.1.1 (JR (fun a w h => yY hr.1.2 h) hi),
   yY hr.1.2 (JR (fun a w h => yY hr.1.1 h) hj)⟩
theorem zi (R : Frm) (l : List (Nat × Tag)) {id : Nat} {os : List Oper} {a : Act} {w : World} (hm : P.follows .mixedOrders = true)
 (dK : (zi1 os.toArray l && JC os.toArray.size l) = true) (h : yk P os.toArray Q R (zy os.toArray l) a w.drew) : (Code.region id os.toArray true).wp P Q a w := by
 rw [Bool.and_eq_true] at dK
 exact zct R.E R.refl R.trans l hm dK.1 (yC l a _ dK.2 h)
theorem run_v {s : Sem Value} {w w' : World} {n : Next} (h : (do pure (Next.value (← s)) : Sem Next).run P w = .ok n w') : ∃ v, n = .value v := by
 rw [Sem.run_bind] at h
 cases hr : s.run P w with
 | ok v w1 =>
  rw [hr] at h
  simp only [Result.andThen_ok, Sem.run_pure, Result.ok.injEq] at h
  exact ⟨v, h.1.symm⟩
 | halt x w1 =>
  rw [hr] at h
  simp [Result.andThen] at h
def VV (s : Sem Next) : Prop := ∀ P w n w', s.run P w = .ok n w' → ∃ v, n = .value v
theorem zcu (v : Value) : VV (pure (.value v)) := fun P w n w' h => by
 simp only [Sem.run_pure, Result.ok.injEq] at h
 exact ⟨v, h.1.symm⟩
theorem za8 {α : Type} {s : Sem α} {k : α → Sem Next} (h : ∀ x, VV (k x)) : VV (s >>= k) := fun P w n w' hr => by
 rw [Sem.run_bind] at hr
 cases hs : s.run P w with
 | ok v w1 => rw [hs] at hr; exact h v P w1 n w' hr
 | halt x w1 => rw [hs] at hr; simp [Result.andThen] at hr
theorem zi2 {h : Halt} : VV (Sem.halt h) := fun P w n w' hr => by simp [Sem.run] at hr
def ziI : Op → Bool
 | .move _ | .assign _ | .pick .. | .build .. | .load .. | .nilCheck _ | .binOp .. | .unOp .. | .convert .. | .makeInterface .. | .makeFunc .. | .slice .. | .fieldAddr .. | .field .. | .indexAddr .. | .index .. | .lookup .. | .typeAssert .. | .extract .. => true
 | .call { callee := .builtin .len, .. } | .call { callee := .builtin .cap, .. } | .call { callee := .builtin .min, .. } | .call { callee := .builtin .max, .. } => true
 | _ => false
theorem zed {ρ : Operand → Value} {o : Oper} (hq : ziI o.op = true) {w w' : World} {n : Next} (h : (execOp ρ o).run P w = .ok n w') : ∃ v, n = .value v := by
 obtain ⟨dst, op, type, pos, after, guard⟩ := o
 unfold execOp at h
 cases op <;> dsimp only at hq h <;> first | exact run_v h | (cases hq; done) | skip
 ·simp only [Sem.run_pure, Result.ok.injEq] at h; exact ⟨_, h.1.symm⟩
 ·simp only [Sem.run_pure, Result.ok.injEq] at h; exact ⟨_, h.1.symm⟩
 ·rename_i c a b
  rw [Sem.run_bind] at h
  cases hr : (asBool (ρ c)).run P w with
  | ok v w1 => rw [hr] at h; simp only [Result.andThen_ok, Sem.run_pure, Result.ok.injEq] at h; exact ⟨_, h.1.symm⟩
  | halt x w1 => rw [hr] at h; simp [Result.andThen] at h
 ·rename_i x
  split at h
  ·simp [runtimePanic] at h
  ·simp [runtimePanic] at h
  ·simp [runtimePanic] at h
  ·refine (show VV _ from ?_) P w n w' h
   split
   ·exact za8 fun p => by dsimp only; exact zi2
   ·refine za8 fun p => za8 fun r => ?_
    split
    ·exact za8 fun _ => zcu _
    ·exact zcu _
   ·exact zcu _
  ·simp only [Sem.run_pure, Result.ok.injEq] at h; exact ⟨_, h.1.symm⟩
 ·rename_i c
  obtain ⟨callee, args, argTypes⟩ := c
  cases callee with
  | value f => cases hq
  | invoke r m => cases hq
  | builtin b =>
   refine (show VV _ from ?_) P w n w' h
   change VV (builtin b _ _ _ _)
   cases b <;> first | (cases hq; done) | exact za8 fun _ => zcu _
theorem item_take {o : Oper} {rest : List Item} {a a1 : Act} {w : World} {d : Tmp} (hq : ziI o.op = true) (hd : o.dst = some d) (ah : Nat.blt d a.tmps.size = true) (hw : Region.wanted o (yielded ar a.tmps) = true)
 (hQ : ∀ v c a w, Q (.panic c) (a.put o.dst v) w → Q (.panic c) a w)
 (hy : ∀ W, R.E w W → ∀ K : Act → World → Prop, K a1 W → o.wp P a W K (fun _ _ _ => False)) (h : yk P ar Q R rest a1 w) : yk P ar Q R (.take o :: rest) a w := by
 have key : ∀ W, R.E w W → ∃ v, (execOp a.eval o).run P W = .ok (.value v) W ∧ a.put o.dst v = a1 := fun W hE => by
  have h1 := hy W hE (fun a' w' => a' = a1 ∧ w' = W) ⟨rfl, rfl⟩
  unfold Oper.wp at h1
  cases hr : (execOp a.eval o).run P W with
  | ok n w' =>
   rw [hr] at h1
   obtain ⟨v, rfl⟩ := zed hq hr
   obtain ⟨h2, rfl⟩ := h1
   exact ⟨v, rfl, h2⟩
  | halt x w' =>
   rw [hr] at h1
   cases x <;> exact (h1 : False).elim
 have ah := Nat.le_of_ble_eq_true ah
 change d < a.tmps.size at ah
 obtain ⟨v, hv, ha⟩ := key w (R.refl w)
 refine ⟨v, hQ v, .inl ⟨hw, fun W hE => ?_⟩, by rw [ha]; exact h⟩
 obtain ⟨v', Ag, Ar⟩ := key W hE
 have : v' = v := by
  have h2 := congrArg (fun x : Act => x.tmps[d]?) (Ar.trans ha.symm)
  simp only [hd, Act.put, Array.getElem?_setIfInBounds, ah, if_true, Option.some.injEq] at h2
  exact h2
 rw [← this]
 exact Ag
theorem yd {o : Oper} {rest : List Item} {a : Act} {w : World} (hw : Region.wanted o (yielded ar a.tmps) = false) (hQ : ∀ v c a w, Q (.panic c) (a.put o.dst v) w → Q (.panic c) a w)
 (h : yk P ar Q R rest (a.put o.dst undef) w) : yk P ar Q R (.take o :: rest) a w := ⟨undef, hQ undef, .inr ⟨hw, rfl⟩, h⟩
theorem ze {o : Oper} {rest : List Item} {a : Act} {w : World} (hw : Region.wanted o (yielded ar a.tmps) = true)
 (h : ∀ K : Act → World → Prop, (∀ a' w', R.E w w' → yk P ar Q R rest a' w' → K a' w') → o.wp P a w K Q) : yk P ar Q R (.run o :: rest) a w := by
 simp only [yk, wpG, hw, if_true]
 exact h _ fun a' w' hE hs => ⟨hE, hs⟩
theorem jE {o : Oper} {rest : List Item} {a : Act} {w : World} (hw : Region.wanted o (yielded ar a.tmps) = false)
 (h : yk P ar Q R rest (a.put o.dst undef) w) : yk P ar Q R (.run o :: rest) a w := by
 simp only [yk, wpG, hw]
 exact ⟨R.refl w, h⟩
theorem zu {o : Oper} {rest : List Item} {a : Act} {w : World} (hw : Region.wanted o (yielded ar a.tmps) = true)
 (h : ∀ K : Act → World → Prop, (∀ a' w', yk P ar Q R rest a' w' → K a' w') → o.wp P a w K Q) : yk P ar Q R (.last o :: rest) a w := by
 simp only [yk, wpG, hw, if_true]
 exact h _ fun a' w' hs => hs
theorem zl {a : Act} {w : World} (h : Q .normal a w) : yk P ar Q R [] a w := h
end
abbrev kT (n : Nat) : Nat × Tag := (n, .take)
abbrev kR (n : Nat) : Nat × Tag := (n, .run)
abbrev kL (n : Nat) : Nat × Tag := (n, .last)
structure Fr (S : Nat → Prop) (w w' : World) : Prop where
 os : w'.os = w.os
 tape : w'.tape = w.tape
 output : w'.output = w.output
 size : w.heap.size ≤ w'.heap.size
 block : ∀ k, k < w.heap.size → ¬ S k → w'.heap[k]? = w.heap[k]?
abbrev Ext (w w' : World) : Prop := Fr (fun _ => False) w w'
theorem Fr.refl (S : Nat → Prop) (w : World) : Fr S w w := ⟨rfl, rfl, rfl, Nat.le_refl _, fun _ _ _ => rfl⟩
variable {a b c : World} {S U : Nat → Prop}
theorem Fr.trans {T : Nat → Prop} (h : Fr S a b) (k : Fr T b c) (hS : ∀ k, k < a.heap.size → S k → U k) (hT : ∀ k, k < a.heap.size → T k → U k) : Fr U a c :=
 ⟨k.os.trans h.os, k.tape.trans h.tape, k.output.trans h.output, nlQ h.size k.size, fun i hi hu =>
  (k.block i (nqQ hi h.size) (fun ht => hu (hT i hi ht))).trans (h.block i hi (fun hs => hu (hS i hi hs)))⟩
theorem Fr.mono (h : Fr S a b) (hS : ∀ k, k < a.heap.size → S k → U k) : Fr U a b :=
 ⟨h.os, h.tape, h.output, h.size, fun i hi hu => h.block i hi (fun hs => hu (hS i hi hs))⟩
theorem Fr.ext (h : Fr S a b) (k : Ext b c) : Fr S a c := h.trans k (fun _ _ h => h) (fun _ _ h => h.elim)
theorem Ext.fr (h : Ext a b) (k : Fr S b c) : Fr S a c := Fr.trans h k (fun _ _ h => h.elim) (fun _ _ h => h)
theorem Ext.trans (h : Ext a b) (k : Ext b c) : Ext a c := Fr.ext h k
theorem Ext.to (h : Ext a b) : Fr S a b := h.mono (fun _ _ h => h.elim)
theorem za (w : World) (o : Obj) : Ext w (w.alloc o) := ⟨rfl, rfl, rfl, by simp, fun k hk _ => Below.heap_alloc _ _ _ hk⟩
variable {w : World}
theorem Fr.alloc (h : Fr S a w) (o : Obj) : Fr S a (w.alloc o) := h.ext (za w o)
theorem zb (w : World) : Ext w w.drew := ⟨rfl, rfl, rfl, Nat.le_refl _, fun _ _ _ => rfl⟩
theorem Fr.drew (h : Fr S a w) : Fr S a w.drew := h.ext (zb w)
theorem yO (w : World) (n : Nat) : Ext w (w.drewN n) := ⟨rfl, rfl, rfl, Nat.le_refl _, fun _ _ _ => rfl⟩
theorem Fr.drewN (h : Fr S a w) (n : Nat) : Fr S a (w.drewN n) := h.ext (yO w n)
theorem zh (w : World) (p : Addr) (u : Value) : Fr (fun k => k = p.block) w (w.setCell p u) :=
 ⟨rfl, rfl, rfl, by simp [World.setCell], fun k _ hk => Below.heap_setCell _ _ _ _ hk⟩
theorem Fr.setCell (h : Fr S a w) {p : Addr} (hp : S p.block ∨ a.heap.size ≤ p.block) (u : Value) : Fr S a (w.setCell p u) :=
 h.trans (zh w p u) (fun _ _ h => h) (fun k hk e => by subst e; rcases hp with h | h; exact h; omega)
variable {w' : World} {row : Option Nat}
theorem Jp (hg : w.grownBy w' row) : Fr (fun k => some k = row) w w' := ⟨hg.os, hg.tape, hg.output, hg.size, hg.block⟩
theorem Fr.grownBy (h : Fr (fun k => some k = row) w w') : w.grownBy w' row := ⟨h.os, h.tape, h.output, h.size, h.block⟩
theorem Ext.below (h : Ext w w') : Below w.heap.size w w' := ⟨h.os, h.tape, h.output, h.size, fun k hk => h.block k hk (fun h => h)⟩
variable {v : Value}
theorem Fr.cell (h : Fr S w w') {p : Addr} (hc : w.cell? p = some v) (hp : ¬ S p.block) : w'.cell? p = some v :=
 (World.cell?_of_block (h.block _ (World.block_lt_of_cell? w p hc) hp)).trans hc
def JS : Frm := ⟨Ext, Fr.refl _, fun _ _ _ => Ext.trans⟩
def y4 (S : Nat → Prop) : Frm := ⟨Fr S, Fr.refl S, fun _ _ _ h k => h.trans k (fun _ _ h => h) (fun _ _ h => h)⟩
theorem jL (b o j : Nat) : (⟨b, o, none⟩ : Addr).add j = ⟨b, o + j, none⟩ := by
 unfold Addr.add
 split
 ·rename_i h; subst h; rfl
 ·rfl
variable {g : Nat}
theorem Zw {o : Obj} (h : w.heap[g]? = some o) : g < w.heap.size := (Array.getElem?_eq_some_iff.1 h).1
def Blk (w : World) (g : Nat) (cs : Array Value) (T : TypeId) : Prop := w.heap[g]? = some (.cells cs T (0, 0))
variable {cs : Array Value} {T : TypeId}
theorem Blk.lt (h : Blk w g cs T) : g < w.heap.size := (Array.getElem?_eq_some_iff.1 h).1
theorem Blk.cell (h : Blk w g cs T) : ∀ j, w.cell? ⟨g, j, none⟩ = cs[j]? := fun j => Lib.cell_of_heap h j
theorem Blk.frz (h : Blk w g cs T) : ∀ j, w.frozen? ⟨g, j, none⟩ = false := fun j => by
 have : w.heap[g]? = some (.cells cs T (0, 0)) := h
 simp [World.frozen?, this]
theorem Blk.fr (h : Blk w g cs T) (hf : Fr S w w') (hs : ¬ S g) : Blk w' g cs T := (hf.block g h.lt hs).trans h
theorem Blk.ext (h : Blk w g cs T) (hf : Ext w w') : Blk w' g cs T := h.fr hf (fun h => h)
theorem zk (w : World) (cs : Array Value) (T : TypeId) : Blk (w.alloc (.cells cs T)) w.heap.size cs T := heap_alloc_new w _
theorem Blk.set (h : Blk w g cs T) (j : Nat) (v : Value) : Blk (w.setCell ⟨g, j, none⟩ v) g (cs.setIfInBounds j v) T := by
 have h' : w.heap[g]? = some (.cells cs T (0, 0)) := h
 show ((w.heap.modify g _)[g]? : Option Obj) = _
 rw [Array.getElem?_modify, if_pos rfl, h']
 rfl
structure Lay (α : Type) where
 size : Nat
 rd : (Nat → Prop) → World → List Value → α → Prop
 len : ∀ {A w cs x}, rd A w cs x → cs.length = size
 one : ∀ {A w cs x}, rd A w cs x → ∀ u ∈ cs, u.oneCell' = true
 frame : ∀ {A w w' cs x}, rd A w cs x → (∀ k, A k → w'.heap[k]? = w.heap[k]?) → rd A w' cs x
 mono : ∀ {A A' w cs x}, rd A w cs x → (∀ k, A k → A' k) → rd A' w cs x
namespace Lay
variable {α β γ : Type}
theorem fr {l : Lay α} {A S : Nat → Prop} {w w' : World} {cs : List Value} {x : α} (h : l.rd A w cs x) (hf : Fr S w w') (ha : ∀ k, A k → k < w.heap.size ∧ ¬ S k) : l.rd A w' cs x :=
 l.frame h fun k hk => hf.block k (ha k hk).1 (ha k hk).2
def cell1 (f : α → Value) (h1 : ∀ x, (f x).oneCell' = true) : Lay α where
 size := 1
 rd _ _ cs x := cs = [f x]
 len h := by rw [h]; rfl
 one h u hu := by rw [h] at hu; obtain rfl := List.mem_singleton.1 hu; exact h1 _
 frame h _ := h
 mono h _ := h
def u8 : Lay UInt8 := cell1 (fun x => .int .u8 (x.toNat : Int)) (fun _ => rfl)
def u32 : Lay UInt32 := cell1 (fun x => .int .u32 (x.toNat : Int)) (fun _ => rfl)
def u64 : Lay UInt64 := cell1 (fun x => .int .u64 (x.toNat : Int)) (fun _ => rfl)
def bool : Lay Bool := cell1 (fun x => .bool x) (fun _ => rfl)
def str : Lay ByteArray where
 size := 1
 rd _ _ cs x := cs = [.string x] ∧ x.size ≤ maxLen
 len h := by rw [h.1]; rfl
 one h u hu := by rw [h.1] at hu; obtain rfl := List.mem_singleton.1 hu; rfl
 frame h _ := h
 mono h _ := h
def int : Lay Int where
 size := 1
 rd _ _ cs x := cs = [.int .i64 x] ∧ -9223372036854775808 ≤ x ∧ x ≤ 9223372036854775807
 len h := by rw [h.1]; rfl
 one h u hu := by rw [h.1] at hu; obtain rfl := List.mem_singleton.1 hu; rfl
 frame h _ := h
 mono h _ := h
def pair (a : Lay α) (b : Lay β) : Lay (α × β) where
 size := a.size + b.size
 rd A w cs x := ∃ c d, cs = c ++ d ∧ a.rd A w c x.1 ∧ b.rd A w d x.2
 len := by rintro A w cs x ⟨c, d, rfl, h, k⟩; rw [laQ, a.len h, b.len k]
 one := by
  rintro A w cs x ⟨c, d, rfl, h, k⟩ u hu
  rcases List.mem_append.1 hu with hu | hu
  ·exact a.one h u hu
  ·exact b.one k u hu
 frame := by rintro A w w' cs x ⟨c, d, rfl, h, k⟩ hf; exact ⟨c, d, rfl, a.frame h hf, b.frame k hf⟩
 mono := by rintro A A' w cs x ⟨c, d, rfl, h, k⟩ hf; exact ⟨c, d, rfl, a.mono h hf, b.mono k hf⟩
def via (a : Lay α) (f : β → α) : Lay β where
 size := a.size
 rd A w cs x := a.rd A w cs (f x)
 len h := a.len h
 one h := a.one h
 frame h hf := a.frame h hf
 mono h hf := a.mono h hf
def all (l : Lay α) (A : Nat → Prop) (w : World) : List Value → List α → Prop
 | cs, [] => cs = []
 | cs, x :: xs => ∃ c d, cs = c ++ d ∧ l.rd A w c x ∧ all l A w d xs
theorem all_len {l : Lay α} {A : Nat → Prop} {w : World} : ∀ {xs : List α} {cs : List Value}, l.all A w cs xs → cs.length = xs.length * l.size
 | [], _, h => by rw [show _ = _ from h]; simp
 | x :: xs, _, h => by
  obtain ⟨c, d, rfl, h, k⟩ := h
  rw [laQ, l.len h, all_len k, List.length_cons, Nat.succ_mul, Nat.add_comm]
theorem all_one {l : Lay α} {A : Nat → Prop} {w : World} : ∀ {xs : List α} {cs : List Value}, l.all A w cs xs → ∀ u ∈ cs, u.oneCell' = true
 | [], _, h, u, hu => by rw [show _ = _ from h] at hu; cases hu
 | x :: xs, _, h, u, hu => by
  obtain ⟨c, d, rfl, h, k⟩ := h
  rcases List.mem_append.1 hu with hu | hu
  ·exact l.one h u hu
  ·exact all_one k u hu
theorem all_frame {l : Lay α} {A : Nat → Prop} {w w' : World} (hf : ∀ k, A k → w'.heap[k]? = w.heap[k]?) : ∀ {xs : List α} {cs : List Value}, l.all A w cs xs → l.all A w' cs xs
 | [], _, h => h
 | x :: xs, _, h => by
  obtain ⟨c, d, e, h, k⟩ := h
  exact ⟨c, d, e, l.frame h hf, all_frame hf k⟩
theorem all_mono {l : Lay α} {A A' : Nat → Prop} {w : World} (hf : ∀ k, A k → A' k) : ∀ {xs : List α} {cs : List Value}, l.all A w cs xs → l.all A' w cs xs
 | [], _, h => h
 | x :: xs, _, h => by
  obtain ⟨c, d, e, h, k⟩ := h
  exact ⟨c, d, e, l.mono h hf, all_mono hf k⟩
theorem all_append {l : Lay α} {A : Nat → Prop} {w : World} : ∀ {xs : List α} {cs : List Value} {ys : List α} {ds : List Value}, l.all A w cs xs → l.all A w ds ys → l.all A w (cs ++ ds) (xs ++ ys)
 | [], _, _, _, h, k => by rw [show _ = _ from h]; exact k
 | x :: xs, _, _, _, h, k => by
  obtain ⟨c, d, rfl, h, m⟩ := h
  exact ⟨c, _, List.append_assoc _ _ _, h, all_append m k⟩
theorem all_single {l : Lay α} {A : Nat → Prop} {w : World} {c : List Value} {x : α} (h : l.rd A w c x) : l.all A w c [x] := ⟨c, [], (List.append_nil _).symm, h, rfl⟩
theorem all_split {l : Lay α} {A : Nat → Prop} {w : World} : ∀ {xs ys : List α} {cs : List Value}, l.all A w cs (xs ++ ys) → ∃ c d, cs = c ++ d ∧ l.all A w c xs ∧ l.all A w d ys
 | [], _, cs, h => ⟨[], cs, rfl, rfl, h⟩
 | x :: xs, ys, _, h => by
  obtain ⟨c, d, rfl, h, m⟩ := h
  obtain ⟨e, f, rfl, h1, h2⟩ := all_split (xs := xs) m
  exact ⟨c ++ e, f, (List.append_assoc _ _ _).symm, ⟨c, e, rfl, h, h1⟩, h2⟩
theorem all_at {l : Lay α} {A : Nat → Prop} {w : World} {xs : List α} {cs : List Value} (h : l.all A w cs xs) (i : Nat) (hi : i < xs.length) :
 ∃ es, l.rd A w es xs[i] ∧ ∀ j, j < l.size → cs[i * l.size + j]? = es[j]? := by
 have hx : xs = xs.take i ++ (xs[i] :: xs.drop (i + 1)) := by rw [← List.drop_eq_getElem_cons hi, List.take_append_drop]
 rw [hx] at h
 obtain ⟨c, d, rfl, h1, es, f, rfl, h2, h3⟩ := all_split h
 refine ⟨es, h2, fun j hj => ?_⟩
 have hl : c.length = i * l.size := by rw [all_len h1, ltQ, Nat.min_eq_left (by omega)]
 have he := l.len h2
 rw [List.getElem?_append_right (by omega), hl, Nat.add_sub_cancel_left, List.getElem?_append_left (by omega)]
def flat (l : Lay α) : Prop := ∀ {A A' : Nat → Prop} {w w' : World} {cs : List Value} {x : α}, l.rd A w cs x → l.rd A' w' cs x
theorem all_flat {l : Lay α} (hl : l.flat) {A A' : Nat → Prop} {w w' : World} : ∀ {xs : List α} {cs : List Value}, l.all A w cs xs → l.all A' w' cs xs
 | [], _, h => h
 | x :: xs, _, h => by
  obtain ⟨c, d, e, h, k⟩ := h
  exact ⟨c, d, e, hl h, all_flat hl k⟩
theorem flat_cell1 (f : α → Value) (h1 : ∀ x, (f x).oneCell' = true) : (cell1 f h1).flat := fun h => h
theorem flat_u8 : u8.flat := fun h => h
theorem flat_u32 : u32.flat := fun h => h
theorem flat_u64 : u64.flat := fun h => h
theorem flat_bool : bool.flat := fun h => h
theorem flat_str : str.flat := fun h => h
theorem flat_int : int.flat := fun h => h
theorem flat_pair {a : Lay α} {b : Lay β} (ha : a.flat) (hb : b.flat) : (a.pair b).flat := fun ⟨c, d, e, h, k⟩ => ⟨c, d, e, ha h, hb k⟩
theorem flat_via {a : Lay α} (ha : a.flat) (f : β → α) : (a.via f).flat := fun h => ha h
def slice (l : Lay α) : Lay (List α) where
 size := 1
 rd A w cs xs := ∃ a cap, cs = [.slice a xs.length cap] ∧ xs.length ≤ cap ∧ cap ≤ maxLen ∧
  (0 < xs.length → ∃ b o bO T fz flat, a = some ⟨b, o, none⟩ ∧ A b ∧ w.heap[b]? = some (.cells bO T fz) ∧ l.all A w flat xs ∧ ∀ j, j < flat.length → bO[o + j]? = flat[j]?)
 len := by rintro A w cs x ⟨a, cap, rfl, _⟩; rfl
 one := by rintro A w cs x ⟨a, cap, rfl, _⟩ u hu; obtain rfl := List.mem_singleton.1 hu; rfl
 frame := by
  rintro A w w' cs x ⟨a, cap, rfl, h1, h2, h3⟩ hf
  refine ⟨a, cap, rfl, h1, h2, fun hp => ?_⟩
  obtain ⟨b, o, bO, T, fz, flat, e, hA, hh, cr, hc⟩ := h3 hp
  exact ⟨b, o, bO, T, fz, flat, e, hA, (hf b hA).trans hh, all_frame hf cr, hc⟩
 mono := by
  rintro A A' w cs x ⟨a, cap, rfl, h1, h2, h3⟩ hf
  refine ⟨a, cap, rfl, h1, h2, fun hp => ?_⟩
  obtain ⟨b, o, bO, T, fz, flat, e, hA, hh, cr, hc⟩ := h3 hp
  exact ⟨b, o, bO, T, fz, flat, e, hf b hA, hh, all_mono hf cr, hc⟩
theorem slice_at {l : Lay α} {A : Nat → Prop} {w : World} {a : Option Addr} {n cap : Nat} {xs : List α} (h : (slice l).rd A w [.slice a n cap] xs) (i : Nat) (hi : i < n) :
 ∃ (b o : Nat) (es : List Value) (er : i < xs.length), a = some ⟨b, o, none⟩ ∧ A b ∧ b < w.heap.size ∧ l.rd A w es xs[i] ∧ ∀ j, j < l.size → w.cell? ⟨b, o + i * l.size + j, none⟩ = es[j]? := by
 obtain ⟨a', eV, e, h1, h2, h3⟩ := h
 simp only [List.cons.injEq, Value.slice.injEq, and_true] at e
 obtain ⟨rfl, rfl, rfl⟩ := e
 obtain ⟨b, o, bO, T, fz, flat, rfl, hA, hh, cr, hc⟩ := h3 (by omega)
 obtain ⟨es, he, rR⟩ := all_at cr i hi
 have dT := all_len cr
 refine ⟨b, o, es, hi, rfl, hA, (Zw hh), he, fun j hj => ?_⟩
 have ah : i * l.size + j < flat.length := by
  rw [dT]
  calc i * l.size + j < i * l.size + l.size := by omega
   _ = (i + 1) * l.size := by rw [Nat.succ_mul]
   _ ≤ xs.length * l.size := Nat.mul_le_mul_right _ hi
 rw [Lib.cell_of_heap hh, Nat.add_assoc, hc _ ah, rR j hj]
theorem slice_form {l : Lay α} {A : Nat → Prop} {w : World} {v : Value} {xs : List α} (h : (slice l).rd A w [v] xs) : ∃ a cap, v = .slice a xs.length cap ∧ xs.length ≤ cap ∧ cap ≤ maxLen := by
 obtain ⟨a, cap, e, h1, h2, _⟩ := h
 exact ⟨a, cap, by simpa using e, h1, h2⟩
end Lay
def Own {α : Type} (l : Lay α) (e : TypeId) (lo : Nat) (w : World) (v : Value) (xs : List α) : Prop :=
 ∃ flat, w.ownsRow lo e l.size v xs.length flat ∧ l.all (fun k => lo ≤ k ∧ k < w.heap.size ∧ some k ≠ v.ownBlock) w flat xs
theorem jz (l : Lay α) (e : TypeId) (lo : Nat) (w : World) : Own l e lo w (.slice none 0 0) [] := ⟨[], World.ownsRow_nil _ _ _ _, rfl⟩
variable {l : Lay α} {e : TypeId} {lo : Nat} {xs : List α}
theorem Own.lt (h : Own l e lo w v xs) : ∀ k, v.ownBlock = some k → lo ≤ k ∧ k < w.heap.size := by
 obtain ⟨flat, h, _⟩ := h
 exact h.lt
theorem Own.fr (h : Own l e lo w v xs) (hf : Fr S w w') (hs : ∀ k, lo ≤ k → k < w.heap.size → ¬ S k) : Own l e lo w' v xs := by
 have ah := h.lt
 obtain ⟨flat, h, k⟩ := h
 refine ⟨flat, ?_, Lay.all_mono (fun k hk => ⟨hk.1, nqQ hk.2.1 hf.size, hk.2.2⟩) (Lay.all_frame (fun k hk => hf.block k hk.2.1 (hs k hk.1 hk.2.1)) k)⟩
 obtain ⟨h1, h2⟩ := h
 refine ⟨h1, h2.imp id ?_⟩
 rintro ⟨g, cap, bO, rfl, hg, hh, r⟩
 have := ah g rfl
 exact ⟨g, cap, bO, rfl, hg, (hf.block g this.2 (hs g this.1 this.2)).trans hh, r⟩
theorem Own.ext (h : Own l e lo w v xs) (hf : Ext w w') : Own l e lo w' v xs := h.fr hf (fun _ _ _ h => h)
theorem Own.slice (h : Own l e lo w v xs) : l.slice.rd (fun k => lo ≤ k ∧ k < w.heap.size) w [v] xs := by
 obtain ⟨flat, ⟨h1, h2⟩, k⟩ := h
 rcases h2 with ⟨rfl, h0⟩ | ⟨g, cap, bO, rfl, hg, hh, hn, hm, hs, ht⟩
 ·have : xs = [] := List.eq_nil_of_length_eq_zero h0
  subst this
  exact ⟨none, 0, rfl, Nat.le_refl _, by simp [maxLen], fun h => absurd h (by simp)⟩
 ·refine ⟨_, cap, rfl, hn, hm, fun _ => ⟨g, 0, bO, e, (0, 0), flat, rfl, ⟨hg, (Zw hh)⟩, hh, Lay.all_mono (fun k hk => ⟨hk.1, hk.2.1⟩) k, fun j hj => ?_⟩⟩
  rw [Nat.zero_add, ← ht, List.getElem?_take, if_pos (by omega)]
  simp
theorem Own.form (h : Own l e lo w v xs) : ∃ a cap, v = .slice a xs.length cap ∧ xs.length ≤ cap ∧ cap ≤ maxLen := Lay.slice_form h.slice
theorem Own.shape (h : Own l e lo w v xs) : ∃ a n cap, v = .slice a n cap := by
 obtain ⟨a, cap, e, _⟩ := h.form
 exact ⟨a, _, cap, e⟩
theorem Own.only (hl : l.flat) (h : Own l e lo w v xs) (hf : Fr S w w') (hs : ∀ k, v.ownBlock = some k → ¬ S k) : Own l e lo w' v xs := by
 have ah := h.lt
 obtain ⟨flat, ⟨h1, h2⟩, k⟩ := h
 refine ⟨flat, ⟨h1, h2.imp id ?_⟩, Lay.all_flat hl k⟩
 rintro ⟨g, cap, bO, rfl, hg, hh, r⟩
 exact ⟨g, cap, bO, rfl, hg, (hf.block g (ah g rfl).2 (hs g rfl)).trans hh, r⟩
theorem Own.lower {uT : Nat} (h : Own l e lo w v xs) (hl : uT ≤ lo) : Own l e uT w v xs := by
 obtain ⟨flat, ⟨h1, h2⟩, k⟩ := h
 refine ⟨flat, ⟨h1, h2.imp id ?_⟩, Lay.all_mono (fun k hk => ⟨by omega, hk.2⟩) k⟩
 rintro ⟨g, cap, bO, rfl, hg, r⟩
 exact ⟨g, cap, bO, rfl, by omega, r⟩
section
variable {P : Program} {ar : Array Oper} {rest : List Oper} {o : Oper} {a : Act} {Q : Exit → Act → World → Prop} {K : Act → World → Prop}
theorem Jq {α : Type} (l : Lay α) {W : World} (lo : Nat) (s x : Operand) (t e : TypeId) (z : Value) (bytes : Nat)
 (ho : o.op = .call { callee := .builtin .append, args := #[s, x], argTypes := #[t, t] })
 (ht : P.underlying t = some (.slice e)) (bj : (P.info? e).map (fun i => (i.zero, i.size, i.bytes)) = some (some z, l.size, bytes)) (hz : z.cells.size = l.size) (ct : 0 < bytes) (dr : 0 < l.size)
 (v : Value) (xs ys : List α) (ij : List Value) (ad : Addr) (m c : Nat) (hs : a.eval s = v) (hx : a.eval x = .slice (some ad) m c) (hm : ys.length = m)
 (HO : Own l e lo W v xs) (HN : l.all (fun k => lo ≤ k ∧ k < W.heap.size ∧ some k ≠ v.ownBlock) W ij ys) (m0 : ∀ j u, ij[j]? = some u → W.cell? (ad.add j) = some u)
 (ap : lo ≤ W.heap.size) (hl : (xs.length + m) * bytes ≤ 140737488355328)
 (h : ∀ v1 w1, Own l e lo w1 v1 (xs ++ ys) → Fr (fun k => some k = v.ownBlock) W w1 → (v1.ownBlock = v.ownBlock ∨ v1.ownBlock = some W.heap.size) → K (a.put o.dst v1) w1) :
 o.wp P a W K Q := by
 obtain ⟨i0, hi, kY⟩ := Option.map_eq_some_iff.1 bj
 simp only [Prod.mk.injEq] at kY
 obtain ⟨fh, iu, nz⟩ := kY
 have ah := HO.lt
 obtain ⟨flat, HO, HF⟩ := HO
 have ao : xs.length + m ≤ 140737488355328 := nlQ (Nat.le_mul_of_pos_right _ ct) hl
 obtain ⟨v1, w1, hr, au, hg, _, fo⟩ := run_append_own_at (P := P) W lo t o.type e i0 z l.size bytes ht hi fh iu nz hz dr v xs.length flat HO ad m c ij (by rw [Lay.all_len HN, hm]) m0 (Lay.all_one HN) (by simp only [maxLen]; omega) hl ap
 unfold Oper.wp execOp
 simp only [ho, resolve, invoke, builtin, Sem.run_bind, Sem.run_pure, Result.andThen_ok, List.map_toArray, List.map_cons, List.map_nil, hs, hx, hr]
 show K _ _
 refine h v1 w1 ⟨flat ++ ij, by rw [laQ, hm]; exact au, ?_⟩ (Jp hg) fo
 have vZ := au.lt
 have hA : ∀ k, (lo ≤ k ∧ k < W.heap.size ∧ some k ≠ v.ownBlock) → (lo ≤ k ∧ k < w1.heap.size ∧ some k ≠ v1.ownBlock) := fun k hk => ⟨hk.1, nqQ hk.2.1 hg.size, fun e => by
  rcases fo with fo | fo
  ·exact hk.2.2 (e.trans fo)
  ·rw [fo] at e
   injection e with e
   omega⟩
 exact Lay.all_append (Lay.all_mono hA (Lay.all_frame (fun k hk => hg.block k hk.2.1 hk.2.2) HF)) (Lay.all_mono hA (Lay.all_frame (fun k hk => hg.block k hk.2.1 hk.2.2) HN))
theorem JZ {α : Type} (l : Lay α) {W : World} (lo : Nat) (s x : Operand) (t e : TypeId) (z : Value) (bytes : Nat)
 (ho : o.op = .call { callee := .builtin .append, args := #[s, x], argTypes := #[t, t] })
 (ht : P.underlying t = some (.slice e)) (bj : (P.info? e).map (fun i => (i.zero, i.size, i.bytes)) = some (some z, l.size, bytes)) (hz : z.cells.size = l.size) (ct : 0 < bytes) (dr : 0 < l.size)
 (v : Value) (xs : List α) (y : α) (cs : Array Value) (hs : a.eval s = v) (hx : a.eval x = .slice (some ⟨W.heap.size, 0, none⟩) 1 1)
 (HO : Own l e lo W v xs) (HY : l.rd (fun k => lo ≤ k ∧ k < W.heap.size ∧ some k ≠ v.ownBlock) W cs.toList y)
 (ap : lo ≤ W.heap.size) (hl : (xs.length + 1) * bytes ≤ 140737488355328)
 (h : ∀ v1 w1, Own l e lo w1 v1 (xs ++ [y]) → Fr (fun k => some k = v.ownBlock) W w1 → (∀ k, v1.ownBlock = some k → v.ownBlock = some k ∨ W.heap.size ≤ k) → K (a.put o.dst v1) w1) :
 o.wp P a (W.alloc (.cells cs e)) K Q := by
 have ah := HO.lt
 refine Jq l lo s x t e z bytes ho ht bj hz ct dr v xs [y] cs.toList ⟨W.heap.size, 0, none⟩ 1 1 hs hx rfl (HO.ext (za _ _)) ?_ ?_ (by simp; omega) hl ?_
 ·exact Lay.all_single (l.mono (l.frame HY (fun k hk => Below.heap_alloc _ _ _ hk.2.1)) (fun k hk => ⟨hk.1, by simp; omega, hk.2.2⟩))
 ·intro j u hj
  rw [show ((⟨W.heap.size, 0, none⟩ : Addr).add j) = ⟨W.heap.size, j, none⟩ from by unfold Addr.add; split <;> simp_all, (zk W cs e).cell j]
  simpa using hj
 ·intro v1 w1 h1 h2 h3
  refine h v1 w1 h1 (Fr.trans (za W _) h2 (fun _ _ h => h.elim) (fun _ _ h => h)) (fun k hk => ?_)
  rcases h3 with h3 | h3
  ·exact .inl (h3 ▸ hk)
  ·rw [h3] at hk
   injection hk with hk
   refine .inr ?_
   simp at hk
   omega
theorem y2 {α : Type} (l : Lay α) {W : World} (lo : Nat) (s x : Operand) (t e : TypeId) (z : Value) (bytes : Nat)
 (ho : o.op = .call { callee := .builtin .append, args := #[s, x], argTypes := #[t, t] })
 (ht : P.underlying t = some (.slice e)) (bj : (P.info? e).map (fun i => (i.zero, i.size, i.bytes)) = some (some z, l.size, bytes)) (hz : z.cells.size = l.size) (ct : 0 < bytes) (dr : 0 < l.size)
 (v : Value) (xs ys : List α) (aa : Option Addr) (m c : Nat) {A : Nat → Prop} (hs : a.eval s = v) (hx : a.eval x = .slice aa m c)
 (HO : Own l e lo W v xs) (HR : l.slice.rd A W [.slice aa m c] ys) (HF : ∀ flat, l.all A W flat ys → l.all (fun k => lo ≤ k ∧ k < W.heap.size ∧ some k ≠ v.ownBlock) W flat ys)
 (ap : lo ≤ W.heap.size) (hl : (xs.length + ys.length) * bytes ≤ 140737488355328)
 (h : ∀ v1 w1, Own l e lo w1 v1 (xs ++ ys) → Fr (fun k => some k = v.ownBlock) W w1 → (∀ k, v1.ownBlock = some k → v.ownBlock = some k ∨ W.heap.size ≤ k) → K (a.put o.dst v1) w1) :
 o.wp P a W K Q := by
 have hm : ys.length = m := by
  obtain ⟨a', eV, e', _⟩ := HR
  simp only [List.cons.injEq, Value.slice.injEq, and_true] at e'
  exact e'.2.1.symm
 have ai : ∀ v1 w1, Own l e lo w1 v1 (xs ++ ys) → Fr (fun k => some k = v.ownBlock) W w1 → (v1.ownBlock = v.ownBlock ∨ v1.ownBlock = some W.heap.size) → K (a.put o.dst v1) w1 := fun v1 w1 h1 h2 h3 =>
  h v1 w1 h1 h2 (fun k hk => by
   rcases h3 with h3 | h3
   ·exact .inl (h3 ▸ hk)
   ·rw [h3] at hk; injection hk with hk; exact .inr (Nat.le_of_eq hk))
 rcases aa with _ | ad
 ·have h0 : ys = [] := by
   obtain ⟨a', eV, e', _, _, h3⟩ := HR
   simp only [List.cons.injEq, Value.slice.injEq, and_true] at e'
   obtain ⟨rfl, -, -⟩ := e'
   rcases Nat.eq_zero_or_pos ys.length with h | h
   ·exact List.eq_nil_of_length_eq_zero h
   ·obtain ⟨_, _, _, _, _, _, h, _⟩ := h3 h
    cases h
  subst h0
  obtain rfl : m = 0 := hm.symm
  obtain ⟨i0, hi, kY⟩ := Option.map_eq_some_iff.1 bj
  simp only [Prod.mk.injEq] at kY
  obtain ⟨fh, iu, nz⟩ := kY
  have mu : (Builtin.append_ #[t, t] o.type #[v, .slice none 0 c]).run P W = .ok v W := by
   obtain ⟨flat, HO, _⟩ := HO
   rcases HO.2 with ⟨rfl, hn⟩ | ⟨g, cap, bO, rfl, _, _, tt, _⟩
   ·simp [Builtin.append_, run_underlying ht, sizeOf, typeInfo, hi, Builtin.lenOf, Builtin.firstCells]
   ·simp [Builtin.append_, run_underlying ht, sizeOf, typeInfo, hi, Builtin.lenOf, Builtin.firstCells, tt, storeCells]
  unfold Oper.wp execOp
  simp only [ho, resolve, invoke, builtin, Sem.run_bind, Sem.run_pure, Result.andThen_ok, List.map_toArray, List.map_cons, List.map_nil, hs, hx, mu]
  exact (ai v W (by rw [List.append_nil]; exact HO) (Fr.refl _ _) (.inl rfl))
 ·rcases Nat.eq_zero_or_pos m with h0 | h0
  ·have gw : ys = [] := List.eq_nil_of_length_eq_zero (by omega)
   subst gw
   exact Jq l lo s x t e z bytes ho ht bj hz ct dr v xs [] [] ad m c hs hx hm HO rfl (by simp) ap (by rw [← hm]; exact hl) ai
  ·obtain ⟨a', eV, e', _, _, h3⟩ := HR
   simp only [List.cons.injEq, Value.slice.injEq, and_true] at e'
   obtain ⟨rfl, -, -⟩ := e'
   obtain ⟨b, of, bO, T, fz, flat, wM, hA, hh, cr, hc⟩ := h3 (by omega)
   injection wM with wM
   subst wM
   refine Jq l lo s x t e z bytes ho ht bj hz ct dr v xs ys flat _ m c hs hx hm HO (HF flat cr) (fun j u hj => ?_) ap (by rw [← hm]; exact hl) ai
   have ah : j < flat.length := by
    rcases Nat.lt_or_ge j flat.length with h | h
    ·exact h
    ·rw [List.getElem?_eq_none h] at hj; cases hj
   rw [jL, Lib.cell_of_heap hh, hc j ah, hj]
theorem Yq {α : Type} (l : Lay α) {W : World} (lo : Nat) (ir : o.guard = none) (s x : Operand) (t e : TypeId) (z : Value) (bytes : Nat)
 (ho : o.op = .call { callee := .builtin .append, args := #[s, x], argTypes := #[t, t] })
 (ht : P.underlying t = some (.slice e)) (bj : (P.info? e).map (fun i => (i.zero, i.size, i.bytes)) = some (some z, l.size, bytes)) (hz : z.cells.size = l.size) (ct : 0 < bytes) (dr : 0 < l.size)
 (v : Value) (xs : List α) (y : α) (cs : Array Value) (hs : a.eval s = v) (hx : a.eval x = .slice (some ⟨W.heap.size, 0, none⟩) 1 1)
 (HO : Own l e lo W v xs) (HY : l.rd (fun k => lo ≤ k ∧ k < W.heap.size ∧ some k ≠ v.ownBlock) W cs.toList y)
 (ap : lo ≤ W.heap.size) (hl : (xs.length + 1) * bytes ≤ 140737488355328)
 (h : ∀ v1 w1, Own l e lo w1 v1 (xs ++ [y]) → Fr (fun k => some k = v.ownBlock) W w1 → (∀ k, v1.ownBlock = some k → v.ownBlock = some k ∨ W.heap.size ≤ k) → wpList P ar Q rest (a.put o.dst v1) w1) :
 wpList P ar Q (o :: rest) a (W.alloc (.cells cs e)) :=
 wpList_plain ir fun _ hK => JZ l lo s x t e z bytes ho ht bj hz ct dr v xs y cs hs hx HO HY ap hl fun v1 w1 h1 h2 h3 => hK _ _ (h v1 w1 h1 h2 h3)
theorem JD {α : Type} (l : Lay α) {W : World} (lo : Nat) (ir : o.guard = none) (s x : Operand) (t e : TypeId) (z : Value) (bytes : Nat)
 (ho : o.op = .call { callee := .builtin .append, args := #[s, x], argTypes := #[t, t] })
 (ht : P.underlying t = some (.slice e)) (bj : (P.info? e).map (fun i => (i.zero, i.size, i.bytes)) = some (some z, l.size, bytes)) (hz : z.cells.size = l.size) (ct : 0 < bytes) (dr : 0 < l.size)
 (v : Value) (xs ys : List α) (aa : Option Addr) (m c : Nat) {A : Nat → Prop} (hs : a.eval s = v) (hx : a.eval x = .slice aa m c)
 (HO : Own l e lo W v xs) (HR : l.slice.rd A W [.slice aa m c] ys) (HF : ∀ flat, l.all A W flat ys → l.all (fun k => lo ≤ k ∧ k < W.heap.size ∧ some k ≠ v.ownBlock) W flat ys)
 (ap : lo ≤ W.heap.size) (hl : (xs.length + ys.length) * bytes ≤ 140737488355328)
 (h : ∀ v1 w1, Own l e lo w1 v1 (xs ++ ys) → Fr (fun k => some k = v.ownBlock) W w1 → (∀ k, v1.ownBlock = some k → v.ownBlock = some k ∨ W.heap.size ≤ k) → wpList P ar Q rest (a.put o.dst v1) w1) :
 wpList P ar Q (o :: rest) a W :=
 wpList_plain ir fun _ hK => y2 l lo s x t e z bytes ho ht bj hz ct dr v xs ys aa m c hs hx HO HR HF ap hl fun v1 w1 h1 h2 h3 => hK _ _ (h v1 w1 h1 h2 h3)
end
variable {A : Nat → Prop}
theorem zbX {a : Option Addr} {cap : Nat} {xs : List Int} (h : Lay.int.slice.rd A w [.slice a n cap] xs) (i : Nat) (hi : i < xs.length) :
 ∃ (b o : Nat), a = some ⟨b, o, none⟩ ∧ A b ∧ w.cell? ⟨b, o + i, none⟩ = some (.int .i64 xs[i]) ∧ -9223372036854775808 ≤ xs[i] ∧ xs[i] ≤ 9223372036854775807 := by
 have hn : xs.length = n := by
  obtain ⟨_, _, e, _⟩ := h
  simp only [List.cons.injEq, Value.slice.injEq, and_true] at e
  exact e.2.1.symm
 obtain ⟨b, o, es, er, e, hA, _, hr, hc⟩ := Lay.slice_at h i (by omega)
 refine ⟨b, o, e, hA, ?_, hr.2⟩
 have := hc 0 (by decide)
 rw [hr.1, show o + i * Lay.int.size + 0 = o + i from by show o + i * 1 + 0 = o + i; omega] at this
 exact this
def zc (l : List UInt8) : ByteArray := ⟨l.toArray⟩
theorem zA (l : List UInt8) : (zc l).data.toList = l := rfl
theorem zB (l : List UInt8) : (zc l).size = l.length := rfl
theorem za9 (l : List UInt8) : strOfNums (l.map fun b => (b.toNat : Int)) = zc l := by
 unfold strOfNums zc
 congr 1
 congr 1
 rw [List.map_map]
 conv => rhs; rw [← List.map_id l]
 exact List.map_congr_left fun _ _ => by simp
theorem Yy : ∀ {l : List UInt8} {cs : List Value}, Lay.u8.all A w cs l → cs = l.map fun b => Value.int .u8 (b.toNat : Int)
 | [], _, h => h
 | b :: l, _, h => by
  obtain ⟨c, d, rfl, h, k⟩ := h
  rw [show c = [.int .u8 (b.toNat : Int)] from h, Yy k]
  rfl
theorem zar : ∀ (l : List UInt8), Lay.u8.all A w (l.map fun b => Value.int .u8 (b.toNat : Int)) l
 | [] => rfl
 | _ :: l => ⟨[_], _, rfl, rfl, zar l⟩
variable {P : Program}
theorem Zx {l : List UInt8} (h : Lay.u8.slice.rd A w [v] l) (hA : ∀ k, A k → k < w.heap.size) (te dst e : TypeId) (hs : P.underlying te = some (.slice e)) (he : P.underlying e = some (.int .u8)) (hd : P.underlying dst = some .string) :
 ∀ W, Ext w W → (convert te dst v).run P W = .ok (.string (zc l)) W := by
 intro W hx
 have h := Lay.fr h hx (fun k hk => ⟨hA k hk, fun h => h⟩)
 obtain ⟨a, cap, e', h1, h2, h3⟩ := h
 obtain rfl : v = .slice a l.length cap := by simpa using e'
 rcases Nat.eq_zero_or_pos l.length with h0 | h0
 ·obtain rfl : l = [] := List.eq_nil_of_length_eq_zero h0
  show (convert te dst (.slice a 0 cap)).run P W = _
  rw [run_convert_bytes_string W te dst e _ 0 cap hs he hd]
  cases a <;> simp [Conv.bytesToString, loadCells]
  all_goals rfl
 ·obtain ⟨b, o, bO, T, fz, flat, rfl, hb, hh, cr, hc⟩ := h3 h0
  rw [← za9]
  refine run_convert_bytes_arg W te e hs he b o l.length cap _ (by simp) (fun i hi => ?_) dst hd
  have dT := Yy cr
  rw [Lib.cell_of_heap hh, hc i (by rw [dT]; simpa using hi), dT]
  simp [hi]
variable {H : Type} {enc : TypeId × Value → H} {W W' : World}
theorem Yz (hl : laidOutB P = true) (hb : Below W.heap.size W W') :
 ∀ (ts : List TypeId) (vs : List Value) (ds : List (DataW H)) (ps : List MemPlace), (∀ t ∈ ts, P.readableRec t = true ∧ t < P.types.size) →
  DataW.TrodAll enc P W 0 (fun _ => true) true ts vs ds ps → (∀ x ∈ ps, x.block < W.heap.size) → DataW.TrodAll enc P W' 0 (fun b => decide (b < W.heap.size)) true ts vs ds ps
 | [], [], [], _, _, h, _ => h
 | t :: ts, v :: vs, d :: ds, _, ht, h, ah => by
  obtain ⟨p, q, h1, h2, rfl⟩ := h
  refine ⟨p, q, Below.trod hl (ht t List.mem_cons_self).1 (ht t List.mem_cons_self).2 h1 hb (fun x hx => ah x (List.mem_append_left _ hx)),
   Yz hl hb ts vs ds q (fun t h => ht t (List.mem_cons_of_mem _ h)) h2 (fun x hx => ah x (List.mem_append_right _ hx)), rfl⟩
 | [], _ :: _, _, _, _, h, _ => h.elim
 | [], [], _ :: _, _, _, h, _ => h.elim
 | _ :: _, [], _, _, _, h, _ => h.elim
 | _ :: _, _ :: _, [], _, _, h, _ => h.elim
theorem zgh {f : Func} {s : ChangeSpec} {args : Array Value} {ds : List (DataW H)} {kw : List MemPlace}
 (hl : laidOutB P = true) (Am : ∀ t ∈ f.params.toList, P.readableRec t = true ∧ t < P.types.size) (pA : s.vars = []) (pm : s.fn H (ds ++ []) = { results := [.lit (.bool true)], args := ds })
 (tb : TypeId) (mE : f.resultTypes = #[tb]) (hb : P.underlying tb = some .bool) (hW : DataW.Whole enc P f.params.toList s.vars false W args.toList ds [] kw) (hx : Ext W W') :
 s.post enc P f false true false false W args (.bool true) W' := by
 have uK := hW
 obtain ⟨p, q, hA, hV, rfl, BH, Er⟩ := hW
 rw [pA] at hV
 have hq : q = [] := hV
 subst hq
 have ah := fun x hx => uK.lt x hx
 rw [List.append_nil] at ah
 refine ⟨ds, [], p ++ [], [], p, [], uK, ?_, ?_, ?_, hx.below.frame _, fun h => by cases h⟩
 ·rw [pm, mE]
  exact trodAll_cons_mk (shut_bool hb _) trodAll_mk0
 ·rw [pm]
  exact Yz hl hx.below _ _ _ _ Am hA ah
 ·rw [pA]
  rw [pm]
  exact rfl
def uleb (n : Nat) : List UInt8 :=
 if n < 128 then [UInt8.ofNat n] else UInt8.ofNat (n % 128 + 128) :: uleb (n / 128)
termination_by n
decreasing_by omega
def sleb (i : Int) : List UInt8 :=
 if -64 ≤ i ∧ i < 64 then [UInt8.ofNat (i % 128).toNat] else UInt8.ofNat ((i % 128).toNat + 128) :: sleb (i / 128)
termination_by i.natAbs
decreasing_by omega
theorem jF (h : n < 128) : uleb n = [UInt8.ofNat n] := by rw [uleb, if_pos h]
theorem Zy (h : 128 ≤ n) : uleb n = UInt8.ofNat (n % 128 + 128) :: uleb (n / 128) := by rw [uleb, if_neg (by omega)]
variable {i : Int}
theorem j2 (h : -64 ≤ i ∧ i < 64) : sleb i = [UInt8.ofNat (i % 128).toNat] := by rw [sleb, if_pos h]
theorem Z8 (h : ¬ (-64 ≤ i ∧ i < 64)) : sleb i = UInt8.ofNat ((i % 128).toNat + 128) :: sleb (i / 128) := by rw [sleb, if_neg h]
theorem zeZ : ∀ (k n : Nat), n < 128 ^ (k + 1) → (uleb n).length ≤ k + 1
 | 0, n, h => by rw [jF (by omega)]; simp
 | k + 1, n, h => by
  by_cases hn : n < 128
  ·rw [jF hn]; simp
  ·rw [Zy (by omega), List.length_cons]
   have := zeZ k (n / 128) (by rw [Nat.pow_succ] at h; omega)
   omega
theorem zI (n : Nat) (h : n < 18446744073709551616) : (uleb n).length ≤ 10 := zeZ 9 n (by omega)
theorem zcv : ∀ (k : Nat) (i : Int), -64 * 128 ^ k ≤ i → i < 64 * 128 ^ k → (sleb i).length ≤ k + 1
 | 0, i, h, h' => by rw [j2 (by omega)]; simp
 | k + 1, i, h, h' => by
  by_cases hn : -64 ≤ i ∧ i < 64
  ·rw [j2 hn]; simp
  ·rw [Z8 hn, List.length_cons]
   have ih := zcv k (i / 128)
   rw [Int.pow_succ] at h h'
   generalize (128 : Int) ^ k = q at h h' ih
   have := ih (by omega) (by omega)
   omega
theorem J9 (i : Int) (h : -9223372036854775808 ≤ i) (h' : i ≤ 9223372036854775807) : (sleb i).length ≤ 10 := zcv 9 i (by omega) (by omega)
theorem zfs (x : Int) (h0 : 0 ≤ x) (h1 : x < 18446744073709551616) : bits .and .u64 x 127 = x % 128 := by
 obtain ⟨a, rfl⟩ := Int.eq_ofNat_of_zero_le h0
 rw [show (127 : Int) = ((127 : Nat) : Int) from rfl, u64_and_nat a 127 (by omega) (by omega), nat_mask7]
 omega
theorem zjR (x : Int) (h0 : 0 ≤ x) (h1 : x < 256) : bits .and .u64 x 128 = if x < 128 then 0 else 128 := by
 obtain ⟨a, rfl⟩ := Int.eq_ofNat_of_zero_le h0
 rw [show (128 : Int) = ((128 : Nat) : Int) from rfl, u64_and_nat a 128 (by omega) (by omega), show (128 : Nat) = 2 ^ 7 from rfl, nat_bit 7 a]
 split <;> omega
theorem YA (x : Int) (h0 : 0 ≤ x) (h1 : x < 256) : bits .and .u8 x 128 = if x < 128 then 0 else 128 := by
 obtain ⟨a, rfl⟩ := Int.eq_ofNat_of_zero_le h0
 rw [show (128 : Int) = ((128 : Nat) : Int) from rfl, u8_and_nat a 128 (by omega) (by omega), show (128 : Nat) = 2 ^ 7 from rfl, nat_bit 7 a]
 split <;> omega
theorem zgi (x : Int) (h0 : 0 ≤ x) (h1 : x < 256) : bits .and .u8 x 127 = x % 128 := by
 obtain ⟨a, rfl⟩ := Int.eq_ofNat_of_zero_le h0
 rw [show (127 : Int) = ((127 : Nat) : Int) from rfl, u8_and_nat a 127 (by omega) (by omega), nat_mask7]
 omega
theorem ZW (x : Int) (h0 : 0 ≤ x) (h1 : x < 256) : bits .or .u8 x 128 = x % 128 + 128 := by
 obtain ⟨a, rfl⟩ := Int.eq_ofNat_of_zero_le h0
 rw [show (128 : Int) = ((128 : Nat) : Int) from rfl, u8_or_nat a 128 (by omega) (by omega)]
 have h : a ||| 128 = a % 128 + 128 := by
  have : ∀ b : Fin 256, b.val ||| 128 = b.val % 128 + 128 := by decide +kernel
  exact this ⟨a, by omega⟩
 omega
theorem Jr (x : Int) : ((BitVec.ofInt 64 x).toNat : Int) = x % 18446744073709551616 := by
 rw [BitVec.toNat_ofInt]
 omega
theorem YB (x : Int) (m : Nat) (hm : m < 128) : bits .and .i64 x (m : Int) = (((x % 128).toNat &&& m : Nat) : Int) := by
 show IntKind.i64.wrap ((BitVec.ofInt 64 x &&& BitVec.ofInt 64 (m : Int)).toNat : Int) = _
 rw [BitVec.toNat_and]
 have hx := Jr x
 have dR := Jr (m : Int)
 generalize (BitVec.ofInt 64 x).toNat = a at *
 generalize (BitVec.ofInt 64 (m : Int)).toNat = b at *
 obtain rfl : b = m := by omega
 have h1 : a &&& b = (a % 128) &&& b := by
  have hb : b = b &&& 127 := by rw [nat_mask7]; omega
  rw [← nat_mask7 a, Nat.and_assoc, Nat.and_comm 127 b, ← hb]
 have h2 : a % 128 = (x % 128).toNat := by omega
 rw [h1, h2]
 have h3 : (x % 128).toNat &&& b ≤ b := Nat.and_le_right
 generalize (x % 128).toNat &&& b = c at *
 rw [IntKind.wrap_i64]
 omega
theorem zft (x : Int) : bits .and .i64 x 127 = x % 128 := by
 have h := YB x 127 (by omega)
 rw [show ((127 : Nat) : Int) = 127 from rfl, nat_mask7] at h
 omega
theorem zgj (x : Int) : bits .and .i64 x 64 = if x % 128 < 64 then 0 else 64 := by
 have h := YB x 64 (by omega)
 rw [show ((64 : Nat) : Int) = 64 from rfl] at h
 have h2 := nat_bit 6 (x % 128).toNat
 rw [show (2 : Nat) ^ 6 = 64 from rfl] at h2
 rw [h2] at h
 split <;> omega
theorem zi3 : (Tryz.prog.info? 5).map (fun i => (i.zero, i.size, i.bytes)) = some (some (.int .u8 0), Lay.u8.size, 1) := by kernel_rfl
abbrev OwnB (lo : Nat) (w : World) (v : Value) (xs : List UInt8) : Prop := Own Lay.u8 5 lo w v xs
theorem appB {ar : Array Oper} {rest : List Oper} {o : Oper} {a : Act} {Q : Exit → Act → World → Prop} (lo : Nat) (ir : o.guard = none) (s x : Operand)
 (ho : o.op = .call { callee := .builtin .append, args := #[s, x], argTypes := #[22, 22] })
 (v : Value) (xs : List UInt8) (y : UInt8) (c : Int) (hc : c = (y.toNat : Int)) (hs : a.eval s = v) (hx : a.eval x = .slice (some ⟨W.heap.size, 0, none⟩) 1 1)
 (HO : OwnB lo W v xs) (ap : lo ≤ W.heap.size) (hl : xs.length + 1 ≤ 140737488355328)
 (h : ∀ v1 w1, OwnB lo w1 v1 (xs ++ [y]) → Fr (fun k => some k = v.ownBlock) W w1 → (∀ k, v1.ownBlock = some k → v.ownBlock = some k ∨ W.heap.size ≤ k) → wpList Tryz.prog ar Q rest (a.put o.dst v1) w1) :
 wpList Tryz.prog ar Q (o :: rest) a (W.alloc (.cells #[.int .u8 c] 5)) := by
 subst hc
 exact Yq Lay.u8 lo ir s x _ _ (.int .u8 0) 1 ho Tryz.underlying22 zi3 rfl (by omega) (by decide) v xs y _ hs hx HO rfl ap (by omega) h
variable {wr : World} {s0 : Value}
theorem ze0 {w1 : World} (hb : Fr (fun k => some k = v.ownBlock) w wr) (h2 : Fr (fun k => some k = s0.ownBlock) wr w1) (hk : ∀ k, s0.ownBlock = some k → v.ownBlock = some k ∨ w.heap.size ≤ k) : Fr (fun k => some k = v.ownBlock) w w1 :=
 hb.trans h2 (fun _ _ h => h) (fun k ib hs => by
  rcases hk k hs.symm with h | h
  ·exact h.symm
  ·omega)
theorem zcw {v1 : Value} (hb : Fr S w wr) (hk : ∀ k, s0.ownBlock = some k → v.ownBlock = some k ∨ w.heap.size ≤ k) (h3 : ∀ k, v1.ownBlock = some k → s0.ownBlock = some k ∨ wr.heap.size ≤ k) : ∀ k, v1.ownBlock = some k → v.ownBlock = some k ∨ w.heap.size ≤ k := fun k ib => by
 rcases h3 k ib with h | h
 ·exact hk k h
 ·have := hb.size
  exact .inr (by omega)
theorem zhX (x : Nat) : ((x : Int) % 128) = ((UInt8.ofNat (x % 128)).toNat : Int) := by
 rw [UInt8.toNat_ofNat']
 omega
theorem zdf (x : Nat) : ((x : Int) % 128 + 128) = ((UInt8.ofNat (x % 128 + 128)).toNat : Int) := by
 rw [UInt8.toNat_ofNat']
 omega
theorem Za (n : Nat) (hv : n < 18446744073709551616) (lo : Nat) (v : Value) (bs : List UInt8) (w : World) (hO : OwnB lo w v bs) (ap : lo ≤ w.heap.size) (hl : bs.length + 10 ≤ 140737488355328) :
 Calls Tryz.prog 60 #[v, .int .u64 n] w fun e w' => ∃ v1, e = .returned v1 ∧ OwnB lo w' v1 (bs ++ uleb n) ∧ Fr (fun k => some k = v.ownBlock) w w' ∧ (∀ k, v1.ownBlock = some k → v.ownBlock = some k ∨ w.heap.size ≤ k) := by
 have kP := zI n hv
 have kP := qh kP
 have hO := qh hO
 have ap := qh ap
 have hl := qh hl
 go_enter Tryz.func60, Tryz.ntmps60
 go_wp2_with fail
 go_loopw [0, 1] (fun s0 s1 w' => ∃ (x : Nat) (pre : List UInt8), s1 = .int .u64 x ∧ Hd (pre ++ uleb x = uleb n) ∧ Hd (x ≤ n) ∧ Hd (OwnB lo w' s0 (bs ++ pre)) ∧ Hd (Fr (fun k => some k = v.ownBlock) w w') ∧ Hd (∀ k, s0.ownBlock = some k → v.ownBlock = some k ∨ w.heap.size ≤ k)) (fun _ s1 _ => (intOf s1).toNat)
 case atStart => exact ⟨n, [], rfl, rfl, Nat.le_refl _, (by rw [List.append_nil]; exact hO.o), Fr.refl _ _, fun k h => .inl h⟩
 case round =>
  obtain ⟨x, pre, rfl, hp, hx, au, hb, hk⟩ := hrel
  have Df : x < 18446744073709551616 := Nat.lt_of_le_of_lt hx.o hv
  have mc : Hd (lo ≤ wr.heap.size) := nlQ ap.o hb.o.size
  have t6 : Hd ((bs ++ pre).length + 1 ≤ 140737488355328) := by
   have h1 := congrArg List.length hp.o
   rw [laQ] at h1
   have h2 : 0 < (uleb x).length := by rw [uleb]; split <;> simp
   have h3 := kP.o
   have h4 := hl.o
   show _ ≤ _
   rw [laQ]
   omega
  by_cases hc : x < 128
  ·have ek : decide (128 ≤ (x : Int)) = false := by rw [decide_eq_false_iff_not]; omega
   have eR : Hd ((x : Int) = ((UInt8.ofNat x).toNat : Int)) := by show _ = _; rw [UInt8.toNat_ofNat']; omega
   go_wp2_with (at_builtin; refine Hd.o ?_)
   refine appB lo rfl (.tmp 15) (.tmp 18) rfl _ (bs ++ pre) (UInt8.ofNat x) _ eR.o rfl rfl au.o mc.o t6.o ?_
   intro v1 w1 h1 h2 h3
   have H := qh (anQ h1 (anQ h2 h3))
   clear h1 h2 h3
   go_wp2
   go_ret
   obtain ⟨h1, h2, h3⟩ := H.o
   exact ⟨_, rfl, by rw [← hp.o, jF hc, ← List.append_assoc]; exact h1, ze0 hb.o h2 hk.o, zcw hb.o hk.o h3⟩
  ·have ek : decide (128 ≤ (x : Int)) = true := by rw [decide_eq_true_eq]; omega
   have e2 : bits .or .u8 ((x : Int) % 256) 128 = (x : Int) % 128 + 128 := by rw [ZW _ (by omega) (by omega)]; omega
   go_wp2_with (at_builtin; refine Hd.o ?_)
   refine appB lo rfl (.tmp 7) (.tmp 11) rfl _ (bs ++ pre) (UInt8.ofNat (x % 128 + 128)) _ (zdf x) rfl rfl au.o mc.o t6.o ?_
   intro v1 w1 h1 h2 h3
   have H := qh (anQ h1 (anQ h2 h3))
   clear h1 h2 h3
   go_wp2
   go_roundw
   case rel =>
    obtain ⟨h1, h2, h3⟩ := H.o
    refine ⟨x / 128, pre ++ [UInt8.ofNat (x % 128 + 128)], by go_num, ?_, ?_, ?_, ze0 hb.o h2 hk.o, zcw hb.o hk.o h3⟩
    ·show _ = _
     rw [← hp.o, Zy (n := x) (by omega), List.append_assoc, List.singleton_append]
    ·have := hx.o
     show _ ≤ _
     omega
    ·rw [← List.append_assoc]; exact h1
   case measure => simp [intOf]; omega
end Go.Proofs.YtejgninpjhcgnaaGreatDoor
