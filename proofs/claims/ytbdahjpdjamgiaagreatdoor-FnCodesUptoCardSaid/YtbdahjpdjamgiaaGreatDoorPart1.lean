/- A region that draws its order, walked once: what only reads is taken as soon as it may come up, what writes or calls is run where nothing else may come up. No program here. (After the printed words' own file on such regions, turned: the worlds are held by a frame E, not by a fixed fact.) -/
import Derived.OrdersHeld
import Derived.Deep.RegionHeld3
import Derived.Below
namespace Go.Proofs.YtbdahjpdjamgiaaGreatDoor

section
variable {P : Program} {ops : Array Oper} {Q : Exit → Act → World → Prop} {md : Region.Mode} {E : World → World → Prop} {ds : List Nat}

/-- Operation d waits for operation i, by a chain of at most 'fuel' edges. -/
def reachB (md : Region.Mode) (ops : Array Oper) (i : Nat) : Nat → Nat → Bool
  | 0, _ => false
  | fuel + 1, d => match ops[d]? with
    | some o => o.after.any fun e => Region.binds md e && (e.on == i || reachB md ops i fuel e.on)
    | none => false
def closedB (md : Region.Mode) (ops : Array Oper) (listed : Array Bool) : Bool :=
  (List.range ops.size).all fun j => !listed.getD j false || match ops[j]? with
    | some o => o.after.all fun e => !Region.binds md e || listed.getD e.on false
    | none => true
def lastB (md : Region.Mode) (ops : Array Oper) (listed : Array Bool) (ds : List Nat) (i : Nat) : Bool :=
  ds.all fun d => listed.getD d true || reachB md ops i ops.size d
def ListedClosed (md : Region.Mode) (ops : Array Oper) (listed : Array Bool) : Prop :=
  ∀ j oj, ops[j]? = some oj → listed.getD j false = true → ∀ e ∈ oj.after, Region.binds md e = true → listed.getD e.on false = true

theorem closedB_spec {listed : Array Bool} (h : closedB md ops listed = true) : ListedClosed md ops listed := by
  intro j oj hj hl e he hb
  have hlt : j < ops.size := (Array.getElem?_eq_some_iff.1 hj).1
  have h1 := List.all_eq_true.1 h j (List.mem_range.2 hlt)
  simp only [hl, hj, Bool.not_true, Bool.false_or] at h1
  have h2 := Array.all_eq_true_iff_forall_mem.1 h1 e he
  simpa [hb] using h2
theorem ListedClosed.set {listed : Array Bool} {i : Nat} (h : ListedClosed md ops listed) (hi : i ∈ Region.ready md ops listed) : ListedClosed md ops (listed.setIfInBounds i true) := by
  obtain ⟨_, oi, hoi, hall⟩ := mem_ready.1 hi
  intro j oj hj hl e he hb
  by_cases hij : i = j
  · subst hij
    have : oj = oi := Option.some.inj (hj.symm.trans hoi)
    subst this
    exact getD_set_true (hall e he hb)
  · rw [getD_set_ne false hij] at hl
    exact getD_set_true (h j oj hj hl e he hb)
theorem reach_listed {listed : Array Bool} {i : Nat} (hc : ListedClosed md ops listed) : ∀ (fuel d : Nat), reachB md ops i fuel d = true → listed.getD d false = true → listed.getD i false = true
  | 0, _, h, _ => by simp [reachB] at h
  | fuel + 1, d, h, hl => by
    unfold reachB at h
    cases ho : ops[d]? with
    | none => rw [ho] at h; simp at h
    | some o =>
      rw [ho] at h
      obtain ⟨e, he, h1⟩ := Array.any_eq_true'.1 h
      simp only [Bool.and_eq_true, Bool.or_eq_true, beq_iff_eq] at h1
      have hle := hc d o ho hl e he h1.1
      rcases h1.2 with h2 | h2
      · rw [← h2]; exact hle
      · exact reach_listed hc fuel e.on h2 hle
theorem reach_not_ready {listed : Array Bool} {i d fuel : Nat} (hc : ListedClosed md ops listed) (hr : reachB md ops i fuel d = true) (hun : listed.getD i true = false) : d ∉ Region.ready md ops listed := by
  intro hd
  obtain ⟨_, o, ho, hall⟩ := mem_ready.1 hd
  have hi : listed.getD i false = true := by
    cases fuel with
    | zero => simp [reachB] at hr
    | succ n =>
      unfold reachB at hr
      rw [ho] at hr
      obtain ⟨e, he, h1⟩ := Array.any_eq_true'.1 hr
      simp only [Bool.and_eq_true, Bool.or_eq_true, beq_iff_eq] at h1
      have hle := hall e he h1.1
      rcases h1.2 with h2 | h2
      · rw [← h2]; exact hle
      · exact reach_listed hc n e.on h2 hle
  rcases Nat.lt_or_ge i listed.size with h' | h'
  · simp [h'] at hun hi
    rw [hun] at hi
    cases hi
  · simp [Array.getElem?_eq_none h'] at hun

/-- Whatever order is picked from here on; every operation that is carried out, those of ds apart, leaves a world that E lets. -/
def wpAnyE (P : Program) (md : Region.Mode) (ops : Array Oper) (Q : Exit → Act → World → Prop) (E : World → World → Prop) (ds : List Nat) : Nat → Array Bool → Act → World → Prop
  | 0, listed, a, w => Region.ready md ops listed = [] ∧ Q .normal a w
  | fuel + 1, listed, a, w =>
    (Region.ready md ops listed = [] → Q .normal a w) ∧
    ∀ i ∈ Region.ready md ops listed, wpOp P ops Q i (fun a' w' => (i ∉ ds → E w w') ∧ wpAnyE P md ops Q E ds fuel (listed.setIfInBounds i true) a' w') a w

theorem wpAny_of_E : ∀ (fuel : Nat) (listed : Array Bool) (a : Act) (w : World), wpAnyE P md ops Q E ds fuel listed a w → wpAny P md ops Q fuel listed a w
  | 0, _, _, _, h => h
  | fuel + 1, _, _, _, h => ⟨h.1, fun i hi => wpOp_mono (fun a' w' h' => wpAny_of_E fuel _ a' w' h'.2) (h.2 i hi)⟩

theorem wpAnyE_first (hrefl : ∀ w, E w w) (htrans : ∀ a b c, E a b → E b c → E a c) {i : Nat} {oi : Oper} {v : Value} (hi : ops[i]? = some oi) (hsel : ∀ (j : Nat) (o : Oper) cs b, ops[j]? = some o → o.op ≠ .select cs b)
    (hQ : ∀ c a w, Q (.panic c) (a.put oi.dst v) w → Q (.panic c) a w) (n : Nat) :
    ∀ (fuel : Nat) (listed : Array Bool) (a : Act) (w : World),
      (∀ j oj, ops[j]? = some oj → j ≠ i → listed.getD j true = false → (∀ e ∈ oj.after, Region.binds md e = true → e.on ≠ i) → oi.apart ops oj = true) →
      ListedClosed md ops listed → (∀ d ∈ ds, listed.getD d true = false → reachB md ops i n d = true) →
      i ∈ Region.ready md ops listed → YieldsIf P ops (E w) oi v a →
      wpAnyE P md ops Q E ds fuel (listed.setIfInBounds i true) (a.put oi.dst v) w → wpAnyE P md ops Q E ds (fuel + 1) listed a w := by
  intro fuel
  induction fuel with
  | zero =>
    intro listed a w _ _ _ hr hy H
    refine ⟨fun h => (by rw [h] at hr; cases hr), fun j hj => ?_⟩
    by_cases hji : j = i
    · subst hji; exact hy.wpOp hi (hrefl w) ⟨fun _ => hrefl w, H⟩
    · have := ready_mono hj hji
      rw [H.1] at this
      cases this
  | succ fuel ih =>
    intro listed a w hfree hc hd hr hy H
    refine ⟨fun h => (by rw [h] at hr; cases hr), fun j hj => ?_⟩
    by_cases hji : j = i
    · subst hji; exact hy.wpOp hi (hrefl w) ⟨fun _ => hrefl w, H⟩
    · have h1 := H.2 j (ready_mono hj hji)
      obtain ⟨hjun, oj, hoj, hall⟩ := mem_ready.1 hj
      have hiun := (mem_ready.1 hr).1
      have hnot : ∀ e ∈ oj.after, Region.binds md e = true → e.on ≠ i := fun e he hb heq => by
        have h1 := hall e he hb
        rw [heq] at h1
        rcases Nat.lt_or_ge i listed.size with h' | h'
        · simp [h'] at hiun h1; rw [hiun] at h1; cases h1
        · simp [Array.getElem?_eq_none h'] at h1
      have hjd : j ∉ ds := fun hm => reach_not_ready hc (hd j hm hjun) hiun hj
      have h2 := wpOp_putIf hoj (hfree j oj hoj hji hjun hnot) (fun cs b => hsel i oi cs b hi) (fun cs b => hsel j oj cs b hoj) hQ hy h1
      have hfree' : ∀ k ok, ops[k]? = some ok → k ≠ i → (listed.setIfInBounds j true).getD k true = false →
          (∀ e ∈ ok.after, Region.binds md e = true → e.on ≠ i) → oi.apart ops ok = true := fun k ok hk hki hun hno => by
        refine hfree k ok hk hki ?_ hno
        by_cases hjk : j = k
        · subst hjk; exact hjun
        · rw [getD_set_ne true hjk] at hun; exact hun
      have hd' : ∀ d ∈ ds, (listed.setIfInBounds j true).getD d true = false → reachB md ops i n d = true := fun d hm hun => by
        refine hd d hm ?_
        by_cases hjk : j = d
        · subst hjk; exact hjun
        · rw [getD_set_ne true hjk] at hun; exact hun
      refine wpOp_mono (fun a' w' h3 => ⟨h3.2.1, ih (listed.setIfInBounds j true) a' w' hfree' (hc.set hj) hd' (ready_mono hr (Ne.symm hji)) ?_ ?_⟩) h2
      · exact h3.1.imp (fun ⟨x, y⟩ => ⟨x, fun w'' hE => y w'' (htrans _ _ _ (h3.2.1 hjd) hE)⟩) id
      · rw [Array.setIfInBounds_comm _ _ hji]
        exact h3.2.2

inductive Tag where
  | take | run | last | two (j : Nat) | both (j : Nat)
  deriving DecidableEq

/-- The operations in one order, each to be taken, run, or run at the end (no frame is asked behind it). -/
def wpSeq (P : Program) (ops : Array Oper) (Q : Exit → Act → World → Prop) (E : World → World → Prop) : List (Nat × Tag) → Act → World → Prop
  | [], a, w => Q .normal a w
  | (i, .take) :: rest, a, w => ∃ oi v, ops[i]? = some oi ∧ (∀ c a w, Q (.panic c) (a.put oi.dst v) w → Q (.panic c) a w) ∧ YieldsIf P ops (E w) oi v a ∧ wpSeq P ops Q E rest (a.put oi.dst v) w
  | (i, .run) :: rest, a, w => wpOp P ops Q i (fun a' w' => E w w' ∧ wpSeq P ops Q E rest a' w') a w
  | (i, .last) :: rest, a, w => wpOp P ops Q i (fun a' w' => wpSeq P ops Q E rest a' w') a w
  | (i, .two j) :: rest, a, w => ∃ J : Act → World → Prop, (∀ a' w', J a' w' → wpSeq P ops Q E rest a' w') ∧
      wpOp P ops Q i (fun a1 w1 => E w w1 ∧ wpOp P ops Q j (fun a2 w2 => E w1 w2 ∧ J a2 w2) a1 w1) a w ∧
      wpOp P ops Q j (fun a1 w1 => E w w1 ∧ wpOp P ops Q i (fun a2 w2 => E w1 w2 ∧ J a2 w2) a1 w1) a w
  | (i, .both j) :: rest, a, w => ∃ J : Act → World → Prop, (∀ a' w', J a' w' → wpSeq P ops Q E rest a' w') ∧
      wpOp P ops Q i (fun a1 w1 => wpOp P ops Q j J a1 w1) a w ∧ wpOp P ops Q j (fun a1 w1 => wpOp P ops Q i J a1 w1) a w
/-- How many operations the order bears. -/
def tagLen : List (Nat × Tag) → Nat
  | [] => 0
  | (_, .two _) :: rest | (_, .both _) :: rest => tagLen rest + 2
  | _ :: rest => tagLen rest + 1

/-- May the operations come up in this order, each taken one whenever it may, each other one alone? -/
def seqOk (md : Region.Mode) (ops : Array Oper) (ds : List Nat) : List (Nat × Tag) → Array Bool → Bool
  | [], l => Region.ready md ops l == []
  | (i, .take) :: rest, l => Region.free md ops l i && (Region.ready md ops l).contains i && closedB md ops l && lastB md ops l ds i && seqOk md ops ds rest (l.setIfInBounds i true)
  | (i, .run) :: rest, l => (Region.ready md ops l == [i]) && seqOk md ops ds rest (l.setIfInBounds i true)
  | (i, .last) :: rest, l => (Region.ready md ops l == [i]) && ds.contains i && seqOk md ops ds rest (l.setIfInBounds i true)
  | (i, .two j) :: rest, l => (Region.ready md ops l == [i, j]) && (Region.ready md ops (l.setIfInBounds i true) == [j]) && (Region.ready md ops (l.setIfInBounds j true) == [i]) &&
      seqOk md ops ds rest ((l.setIfInBounds i true).setIfInBounds j true) && i != j
  | (i, .both j) :: rest, l => (Region.ready md ops l == [i, j]) && (Region.ready md ops (l.setIfInBounds i true) == [j]) && (Region.ready md ops (l.setIfInBounds j true) == [i]) &&
      seqOk md ops ds rest ((l.setIfInBounds i true).setIfInBounds j true) && i != j && ds.contains i && ds.contains j
def dsOf : List (Nat × Tag) → List Nat
  | [] => []
  | (i, .last) :: rest => i :: dsOf rest
  | (i, .both j) :: rest => i :: j :: dsOf rest
  | _ :: rest => dsOf rest

theorem wpAnyE_one {i : Nat} {n : Nat} {l : Array Bool} {a : Act} {w : World} (hr : Region.ready md ops l = [i])
    (h : wpOp P ops Q i (fun a' w' => (i ∉ ds → E w w') ∧ wpAnyE P md ops Q E ds n (l.setIfInBounds i true) a' w') a w) : wpAnyE P md ops Q E ds (n + 1) l a w := by
  refine ⟨fun h0 => absurd (hr ▸ h0) (by simp), fun j hj => ?_⟩
  rw [hr] at hj
  obtain rfl : j = i := by simpa using hj
  exact h
theorem wpAnyE_two {i j : Nat} {n : Nat} {l : Array Bool} {a : Act} {w : World} (hr : Region.ready md ops l = [i, j])
    (hi : wpOp P ops Q i (fun a' w' => (i ∉ ds → E w w') ∧ wpAnyE P md ops Q E ds n (l.setIfInBounds i true) a' w') a w)
    (hj : wpOp P ops Q j (fun a' w' => (j ∉ ds → E w w') ∧ wpAnyE P md ops Q E ds n (l.setIfInBounds j true) a' w') a w) : wpAnyE P md ops Q E ds (n + 1) l a w := by
  refine ⟨fun h0 => absurd (hr ▸ h0) (by simp), fun k hk => ?_⟩
  rw [hr] at hk
  rcases List.mem_cons.1 hk with rfl | hk
  · exact hi
  · obtain rfl : k = j := by simpa using hk
    exact hj
theorem wpAnyE_of_seq (hrefl : ∀ w, E w w) (htrans : ∀ a b c, E a b → E b c → E a c) (hs : Region.noSelect ops = true) : ∀ (l : List (Nat × Tag)) (listed : Array Bool) (a : Act) (w : World),
    seqOk md ops ds l listed = true → wpSeq P ops Q E l a w → wpAnyE P md ops Q E ds (tagLen l) listed a w
  | [], listed, a, w, hc, h => by
    simp only [seqOk, beq_iff_eq] at hc
    exact ⟨hc, h⟩
  | (i, .take) :: rest, listed, a, w, hc, h => by
    simp only [seqOk, Bool.and_eq_true] at hc
    obtain ⟨⟨⟨⟨h1, h2⟩, h3⟩, h4⟩, h5⟩ := hc
    obtain ⟨oi, v, hi, hQ, hy, hrest⟩ := h
    exact wpAnyE_first hrefl htrans hi (Region.noSelect_spec hs) hQ ops.size (tagLen rest) listed a w (Region.free_spec hi h1) (closedB_spec h3)
      (fun d hm hun => by have := List.all_eq_true.1 h4 d hm; rw [hun] at this; simpa using this) (by simpa using h2) hy (wpAnyE_of_seq hrefl htrans hs rest _ _ _ h5 hrest)
  | (i, .run) :: rest, listed, a, w, hc, h => by
    simp only [seqOk, Bool.and_eq_true, beq_iff_eq] at hc
    obtain ⟨h1, h2⟩ := hc
    exact wpAnyE_one h1 (wpOp_mono (fun a' w' h' => ⟨fun _ => h'.1, wpAnyE_of_seq hrefl htrans hs rest _ _ _ h2 h'.2⟩) h)
  | (i, .last) :: rest, listed, a, w, hc, h => by
    simp only [seqOk, Bool.and_eq_true, beq_iff_eq] at hc
    obtain ⟨⟨h1, h3⟩, h2⟩ := hc
    exact wpAnyE_one h1 (wpOp_mono (fun a' w' h' => ⟨fun hn => absurd (by simpa using h3) hn, wpAnyE_of_seq hrefl htrans hs rest _ _ _ h2 h'⟩) h)
  | (i, .two j) :: rest, listed, a, w, hc, h => by
    simp only [seqOk, Bool.and_eq_true, beq_iff_eq, bne_iff_ne, ne_eq] at hc
    obtain ⟨⟨⟨⟨h1, h2⟩, h3⟩, h4⟩, hij⟩ := hc
    obtain ⟨J, hJ, hi, hj⟩ := h
    refine wpAnyE_two h1 (wpOp_mono (fun a1 w1 h' => ⟨fun _ => h'.1, wpAnyE_one h2 (wpOp_mono (fun a2 w2 h'' => ⟨fun _ => h''.1, ?_⟩) h'.2)⟩) hi)
      (wpOp_mono (fun a1 w1 h' => ⟨fun _ => h'.1, wpAnyE_one h3 (wpOp_mono (fun a2 w2 h'' => ⟨fun _ => h''.1, ?_⟩) h'.2)⟩) hj)
    · exact wpAnyE_of_seq hrefl htrans hs rest _ _ _ h4 (hJ _ _ h''.2)
    · rw [Array.setIfInBounds_comm _ _ (Ne.symm hij)]
      exact wpAnyE_of_seq hrefl htrans hs rest _ _ _ h4 (hJ _ _ h''.2)
  | (i, .both j) :: rest, listed, a, w, hc, h => by
    simp only [seqOk, Bool.and_eq_true, beq_iff_eq, bne_iff_ne, ne_eq] at hc
    obtain ⟨⟨⟨⟨⟨⟨h1, h2⟩, h3⟩, h4⟩, hij⟩, hdi⟩, hdj⟩ := hc
    obtain ⟨J, hJ, hi, hj⟩ := h
    refine wpAnyE_two h1 (wpOp_mono (fun a1 w1 h' => ⟨fun hn => absurd (by simpa using hdi) hn, wpAnyE_one h2 (wpOp_mono (fun a2 w2 h'' => ⟨fun hn => absurd (by simpa using hdj) hn, ?_⟩) h')⟩) hi)
      (wpOp_mono (fun a1 w1 h' => ⟨fun hn => absurd (by simpa using hdj) hn, wpAnyE_one h3 (wpOp_mono (fun a2 w2 h'' => ⟨fun hn => absurd (by simpa using hdi) hn, ?_⟩) h')⟩) hj)
    · exact wpAnyE_of_seq hrefl htrans hs rest _ _ _ h4 (hJ _ _ h'')
    · rw [Array.setIfInBounds_comm _ _ (Ne.symm hij)]
      exact wpAnyE_of_seq hrefl htrans hs rest _ _ _ h4 (hJ _ _ h'')

/-- The check of a region and of an order of its operations. -/
def regOk (ops : Array Oper) (l : List (Nat × Tag)) : Bool :=
  Region.noSelect ops && seqOk .any ops (dsOf l) l (Array.replicate ops.size false) && tagLen l == ops.size

theorem wp_region_seq (E : World → World → Prop) (hrefl : ∀ w, E w w) (htrans : ∀ a b c, E a b → E b c → E a c) (l : List (Nat × Tag)) {id : Nat} {a : Act} {w : World} (hm : P.follows .mixedOrders = true)
    (hok : regOk ops l = true) (h : wpSeq P ops Q E l a w.drew) : (Code.region id ops true).wp P Q a w := by
  simp only [regOk, Bool.and_eq_true, beq_iff_eq] at hok
  obtain ⟨⟨h1, h2⟩, h3⟩ := hok
  refine wp_region_any hm (wpAny_of_E (E := E) (ds := dsOf l) _ _ _ _ ?_)
  rw [← h3]
  have := wpAnyE_of_seq hrefl htrans h1 l _ a w.drew h2 h
  rwa [← h3] at this

/-! ### The operations written out -/
/-- A frame between worlds. -/
structure Frm where
  E : World → World → Prop
  refl : ∀ w, E w w
  trans : ∀ a b c, E a b → E b c → E a c
inductive Item where
  | take (o : Oper) | run (o : Oper) | last (o : Oper)
  | two (i j : Oper) | both (i j : Oper)
def noOper : Oper := { dst := none, op := .move (.const undef), type := 0, pos := "", after := #[], guard := none }
def itemsOf (ops : Array Oper) : List (Nat × Tag) → List Item
  | [] => []
  | (i, .take) :: rest => .take (ops.toList.getD i noOper) :: itemsOf ops rest
  | (i, .run) :: rest => .run (ops.toList.getD i noOper) :: itemsOf ops rest
  | (i, .last) :: rest => .last (ops.toList.getD i noOper) :: itemsOf ops rest
  | (i, .two j) :: rest => .two (ops.toList.getD i noOper) (ops.toList.getD j noOper) :: itemsOf ops rest
  | (i, .both j) :: rest => .both (ops.toList.getD i noOper) (ops.toList.getD j noOper) :: itemsOf ops rest
def inRange (n : Nat) : List (Nat × Tag) → Bool
  | [] => true
  | (i, .two j) :: rest | (i, .both j) :: rest => decide (i < n) && decide (j < n) && inRange n rest
  | (i, _) :: rest => decide (i < n) && inRange n rest
/-- One operation, its guard asked. -/
def wpG (P : Program) (ops : Array Oper) (Q : Exit → Act → World → Prop) (o : Oper) (K : Act → World → Prop) (a : Act) (w : World) : Prop :=
  if Region.wanted o (yielded ops a.tmps) = true then o.wp P a w K Q else K (a.put o.dst undef) w
variable {R : Frm}
def wpItems (P : Program) (ops : Array Oper) (Q : Exit → Act → World → Prop) (R : Frm) : List Item → Act → World → Prop
  | [], a, w => Q .normal a w
  | .take o :: rest, a, w => ∃ v, (∀ c a w, Q (.panic c) (a.put o.dst v) w → Q (.panic c) a w) ∧ YieldsIf P ops (R.E w) o v a ∧ wpItems P ops Q R rest (a.put o.dst v) w
  | .run o :: rest, a, w => wpG P ops Q o (fun a' w' => R.E w w' ∧ wpItems P ops Q R rest a' w') a w
  | .last o :: rest, a, w => wpG P ops Q o (fun a' w' => wpItems P ops Q R rest a' w') a w
  | .two i j :: rest, a, w => ∃ J : Act → World → Prop, (∀ a' w', J a' w' → wpItems P ops Q R rest a' w') ∧
      wpG P ops Q i (fun a1 w1 => R.E w w1 ∧ wpG P ops Q j (fun a2 w2 => R.E w1 w2 ∧ J a2 w2) a1 w1) a w ∧
      wpG P ops Q j (fun a1 w1 => R.E w w1 ∧ wpG P ops Q i (fun a2 w2 => R.E w1 w2 ∧ J a2 w2) a1 w1) a w
  | .both i j :: rest, a, w => ∃ J : Act → World → Prop, (∀ a' w', J a' w' → wpItems P ops Q R rest a' w') ∧
      wpG P ops Q i (fun a1 w1 => wpG P ops Q j J a1 w1) a w ∧ wpG P ops Q j (fun a1 w1 => wpG P ops Q i J a1 w1) a w

theorem getD_some {i : Nat} (h : i < ops.size) : ops[i]? = some (ops.toList.getD i noOper) := by
  rw [List.getD_eq_getElem?_getD, Array.getElem?_toList, Array.getElem?_eq_getElem h]
  rfl
theorem wpOp_of_G {i : Nat} (h : i < ops.size) {K : Act → World → Prop} {a : Act} {w : World} (hg : wpG P ops Q (ops.toList.getD i noOper) K a w) : wpOp P ops Q i K a w := by
  unfold wpOp
  rw [getD_some h]
  unfold wpG at hg
  dsimp only
  split
  · rename_i hw; rw [if_pos hw] at hg; exact .inl hg
  · rename_i hw; rw [if_neg hw] at hg; exact hg
theorem wpG_mono {o : Oper} {K K' : Act → World → Prop} {a : Act} {w : World} (hk : ∀ a w, K a w → K' a w) (h : wpG P ops Q o K a w) : wpG P ops Q o K' a w := by
  unfold wpG at *
  split
  · rename_i hw
    rw [if_pos hw] at h
    unfold Oper.wp at *
    cases hr : (execOp a.eval o).run P w with
    | ok n w' =>
      rw [hr] at h
      cases n with
      | value v => exact hk _ _ h
      | skip => exact hk _ _ h
      | defer d => exact hk _ _ h
      | enter f args => exact Calls.mono h (fun e w'' hh => by cases e <;> first | exact hk _ _ hh | exact hh)
      | row r args => exact Rows.mono h (fun v w'' hh => hk _ _ hh)
      | _ => exact (h : False).elim
    | halt x w' =>
      rw [hr] at h
      cases x <;> first | exact (h : False).elim | exact h
  · rename_i hw
    rw [if_neg hw] at h
    exact hk _ _ h
theorem wpSeq_of_items : ∀ (l : List (Nat × Tag)) (a : Act) (w : World), inRange ops.size l = true → wpItems P ops Q R (itemsOf ops l) a w → wpSeq P ops Q R.E l a w
  | [], _, _, _, h => h
  | (i, .take) :: rest, a, w, hr, h => by
    simp only [inRange, Bool.and_eq_true, decide_eq_true_eq] at hr
    obtain ⟨v, hQ, hy, h⟩ := h
    exact ⟨_, v, getD_some hr.1, hQ, hy, wpSeq_of_items rest _ _ hr.2 h⟩
  | (i, .run) :: rest, a, w, hr, h => by
    simp only [inRange, Bool.and_eq_true, decide_eq_true_eq] at hr
    exact wpOp_of_G hr.1 (wpG_mono (fun a w h => ⟨h.1, wpSeq_of_items rest _ _ hr.2 h.2⟩) h)
  | (i, .last) :: rest, a, w, hr, h => by
    simp only [inRange, Bool.and_eq_true, decide_eq_true_eq] at hr
    exact wpOp_of_G hr.1 (wpG_mono (fun a w h => wpSeq_of_items rest _ _ hr.2 h) h)
  | (i, .two j) :: rest, a, w, hr, h => by
    simp only [inRange, Bool.and_eq_true, decide_eq_true_eq] at hr
    obtain ⟨J, hJ, hi, hj⟩ := h
    exact ⟨J, fun a w h => wpSeq_of_items rest _ _ hr.2 (hJ _ _ h), wpOp_of_G hr.1.1 (wpG_mono (fun a w h => ⟨h.1, wpOp_of_G hr.1.2 h.2⟩) hi),
      wpOp_of_G hr.1.2 (wpG_mono (fun a w h => ⟨h.1, wpOp_of_G hr.1.1 h.2⟩) hj)⟩
  | (i, .both j) :: rest, a, w, hr, h => by
    simp only [inRange, Bool.and_eq_true, decide_eq_true_eq] at hr
    obtain ⟨J, hJ, hi, hj⟩ := h
    exact ⟨J, fun a w h => wpSeq_of_items rest _ _ hr.2 (hJ _ _ h), wpOp_of_G hr.1.1 (wpG_mono (fun a w h => wpOp_of_G hr.1.2 h) hi),
      wpOp_of_G hr.1.2 (wpG_mono (fun a w h => wpOp_of_G hr.1.1 h) hj)⟩

/-- A region that draws, its operations in one order. -/
theorem region_items (R : Frm) (l : List (Nat × Tag)) {id : Nat} {os : List Oper} {a : Act} {w : World} (hm : P.follows .mixedOrders = true)
    (hok : (regOk os.toArray l && inRange os.toArray.size l) = true) (h : wpItems P os.toArray Q R (itemsOf os.toArray l) a w.drew) : (Code.region id os.toArray true).wp P Q a w := by
  rw [Bool.and_eq_true] at hok
  exact wp_region_seq R.E R.refl R.trans l hm hok.1 (wpSeq_of_items l a _ hok.2 h)

/-! ### The steps -/
theorem run_v {s : Sem Value} {w w' : World} {n : Next} (h : (do pure (Next.value (← s)) : Sem Next).run P w = .ok n w') : ∃ v, n = .value v := by
  rw [Sem.run_bind] at h
  cases hr : s.run P w with
  | ok v w1 =>
    rw [hr] at h
    simp only [Result.andThen_ok, Sem.run_pure, Result.ok.injEq] at h
    exact ⟨v, h.1.symm⟩
  | halt x w1 =>
    rw [hr] at h
    simp [Result.andThen] at h
def VV (s : Sem Next) : Prop := ∀ P w n w', s.run P w = .ok n w' → ∃ v, n = .value v
theorem vv_pure (v : Value) : VV (pure (.value v)) := fun P w n w' h => by
  simp only [Sem.run_pure, Result.ok.injEq] at h
  exact ⟨v, h.1.symm⟩
theorem vv_bind {α : Type} {s : Sem α} {k : α → Sem Next} (h : ∀ x, VV (k x)) : VV (s >>= k) := fun P w n w' hr => by
  rw [Sem.run_bind] at hr
  cases hs : s.run P w with
  | ok v w1 => rw [hs] at hr; exact h v P w1 n w' hr
  | halt x w1 => rw [hs] at hr; simp [Result.andThen] at hr
theorem vv_halt {h : Halt} : VV (Sem.halt h) := fun P w n w' hr => by simp [Sem.run] at hr
/-- Operations that yield a value, and call nothing. -/
def quietB : Op → Bool
  | .move _ | .assign _ | .pick .. | .build .. | .load .. | .nilCheck _ | .binOp .. | .unOp .. | .convert .. | .makeInterface .. | .makeFunc .. | .slice .. | .fieldAddr .. | .field .. | .indexAddr .. | .index .. | .lookup .. | .typeAssert .. | .extract .. => true
  | .call { callee := .builtin .len, .. } | .call { callee := .builtin .cap, .. } | .call { callee := .builtin .min, .. } | .call { callee := .builtin .max, .. } => true
  | _ => false
theorem quiet_value {ρ : Operand → Value} {o : Oper} (hq : quietB o.op = true) {w w' : World} {n : Next} (h : (execOp ρ o).run P w = .ok n w') : ∃ v, n = .value v := by
  obtain ⟨dst, op, type, pos, after, guard⟩ := o
  unfold execOp at h
  cases op <;> dsimp only at hq h <;> first | exact run_v h | (cases hq; done) | skip
  · simp only [Sem.run_pure, Result.ok.injEq] at h; exact ⟨_, h.1.symm⟩
  · simp only [Sem.run_pure, Result.ok.injEq] at h; exact ⟨_, h.1.symm⟩
  · rename_i c a b
    rw [Sem.run_bind] at h
    cases hr : (asBool (ρ c)).run P w with
    | ok v w1 => rw [hr] at h; simp only [Result.andThen_ok, Sem.run_pure, Result.ok.injEq] at h; exact ⟨_, h.1.symm⟩
    | halt x w1 => rw [hr] at h; simp [Result.andThen] at h
  · rename_i x
    split at h
    · simp [runtimePanic] at h
    · simp [runtimePanic] at h
    · simp [runtimePanic] at h
    · refine (show VV _ from ?_) P w n w' h
      split
      · exact vv_bind fun p => by dsimp only; exact vv_halt
      · refine vv_bind fun p => vv_bind fun r => ?_
        split
        · exact vv_bind fun _ => vv_pure _
        · exact vv_pure _
      · exact vv_pure _
    · simp only [Sem.run_pure, Result.ok.injEq] at h; exact ⟨_, h.1.symm⟩
  · rename_i c
    obtain ⟨callee, args, argTypes⟩ := c
    cases callee with
    | value f => cases hq
    | invoke r m => cases hq
    | builtin b =>
      refine (show VV _ from ?_) P w n w' h
      change VV (builtin b _ _ _ _)
      cases b <;> first | (cases hq; done) | exact vv_bind fun _ => vv_pure _
/-- Taken: it yields, in every world that E lets, a value that leads to a1. -/
theorem item_take {o : Oper} {rest : List Item} {a a1 : Act} {w : World} {d : Tmp} (hq : quietB o.op = true) (hd : o.dst = some d) (hlt : Nat.blt d a.tmps.size = true) (hw : Region.wanted o (yielded ops a.tmps) = true)
    (hQ : ∀ v c a w, Q (.panic c) (a.put o.dst v) w → Q (.panic c) a w)
    (hy : ∀ W, R.E w W → ∀ K : Act → World → Prop, K a1 W → o.wp P a W K (fun _ _ _ => False)) (h : wpItems P ops Q R rest a1 w) : wpItems P ops Q R (.take o :: rest) a w := by
  have key : ∀ W, R.E w W → ∃ v, (execOp a.eval o).run P W = .ok (.value v) W ∧ a.put o.dst v = a1 := fun W hE => by
    have h1 := hy W hE (fun a' w' => a' = a1 ∧ w' = W) ⟨rfl, rfl⟩
    unfold Oper.wp at h1
    cases hr : (execOp a.eval o).run P W with
    | ok n w' =>
      rw [hr] at h1
      obtain ⟨v, rfl⟩ := quiet_value hq hr
      obtain ⟨h2, rfl⟩ := h1
      exact ⟨v, rfl, h2⟩
    | halt x w' =>
      rw [hr] at h1
      cases x <;> exact (h1 : False).elim
  have hlt := Nat.le_of_ble_eq_true hlt
  change d < a.tmps.size at hlt
  obtain ⟨v, hv, ha⟩ := key w (R.refl w)
  refine ⟨v, hQ v, .inl ⟨hw, fun W hE => ?_⟩, by rw [ha]; exact h⟩
  obtain ⟨v', hv', ha'⟩ := key W hE
  have : v' = v := by
    have h2 := congrArg (fun x : Act => x.tmps[d]?) (ha'.trans ha.symm)
    simp only [hd, Act.put, Array.getElem?_setIfInBounds, hlt, if_true, Option.some.injEq] at h2
    exact h2
  rw [← this]
  exact hv'
theorem item_skip {o : Oper} {rest : List Item} {a : Act} {w : World} (hw : Region.wanted o (yielded ops a.tmps) = false) (hQ : ∀ v c a w, Q (.panic c) (a.put o.dst v) w → Q (.panic c) a w)
    (h : wpItems P ops Q R rest (a.put o.dst undef) w) : wpItems P ops Q R (.take o :: rest) a w := ⟨undef, hQ undef, .inr ⟨hw, rfl⟩, h⟩
theorem item_run {o : Oper} {rest : List Item} {a : Act} {w : World} (hw : Region.wanted o (yielded ops a.tmps) = true)
    (h : ∀ K : Act → World → Prop, (∀ a' w', R.E w w' → wpItems P ops Q R rest a' w' → K a' w') → o.wp P a w K Q) : wpItems P ops Q R (.run o :: rest) a w := by
  simp only [wpItems, wpG, hw, if_true]
  exact h _ fun a' w' hE hs => ⟨hE, hs⟩
theorem item_runskip {o : Oper} {rest : List Item} {a : Act} {w : World} (hw : Region.wanted o (yielded ops a.tmps) = false)
    (h : wpItems P ops Q R rest (a.put o.dst undef) w) : wpItems P ops Q R (.run o :: rest) a w := by
  simp only [wpItems, wpG, hw]
  exact ⟨R.refl w, h⟩
theorem item_last {o : Oper} {rest : List Item} {a : Act} {w : World} (hw : Region.wanted o (yielded ops a.tmps) = true)
    (h : ∀ K : Act → World → Prop, (∀ a' w', wpItems P ops Q R rest a' w' → K a' w') → o.wp P a w K Q) : wpItems P ops Q R (.last o :: rest) a w := by
  simp only [wpItems, wpG, hw, if_true]
  exact h _ fun a' w' hs => hs
theorem items_done {a : Act} {w : World} (h : Q .normal a w) : wpItems P ops Q R [] a w := h
end
end Go.Proofs.YtbdahjpdjamgiaaGreatDoor
