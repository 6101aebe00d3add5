/- Texts of this proof, one behind the other. -/
import Derived.Test.YtbdahjpdjamgiaaGreatDoorPart5
import Derived.Test.YtbdahjpdjamgiaaGreatDoorPart13
import Derived.Test.YtbdahjpdjamgiaaGreatDoorPart4
import Derived.Test.YtbdahjpdjamgiaaGreatDoorPart2
import Derived.Test.YtbdahjpdjamgiaaGreatDoorProg
import Derived.KernelRfl
/- A region that draws its order where two operations may come up: both ways are walked. No program here. -/
namespace Go.Proofs.YtbdahjpdjamgiaaGreatDoor
section
variable {P : Program} {ops : Array Oper} {Q : Exit → Act → World → Prop} {md : Region.Mode} {E : World → World → Prop} {ds : List Nat}
/-- Another end at the normal exit. -/
def withK (Q : Exit → Act → World → Prop) (K : Act → World → Prop) : Exit → Act → World → Prop
  | .normal, a, w => K a w
  | e, a, w => Q e a w
inductive Plan where
  | seq (l : List (Nat × Tag))
  | fork (pre : List (Nat × Tag)) (i j : Nat) (p q : Plan)
def seqTo (md : Region.Mode) (ops : Array Oper) (ds : List Nat) : List (Nat × Tag) → Array Bool → Option (Array Bool)
  | [], l => some l
  | (i, .take) :: rest, l => if Region.free md ops l i && (Region.ready md ops l).contains i && closedB md ops l && lastB md ops l ds i then seqTo md ops ds rest (l.setIfInBounds i true) else none
  | (i, .run) :: rest, l => if Region.ready md ops l == [i] then seqTo md ops ds rest (l.setIfInBounds i true) else none
  | _ :: _, _ => none
def planLen : Plan → Nat
  | .seq l => tagLen l
  | .fork pre _ _ p _ => tagLen pre + (planLen p + 1)
def planDs : Plan → List Nat
  | .seq l => dsOf l
  | .fork pre _ _ p q => dsOf pre ++ (planDs p ++ planDs q)
def planOk (ops : Array Oper) (ds : List Nat) : Plan → Array Bool → Bool
  | .seq l, listed => seqOk .any ops ds l listed
  | .fork pre i j p q, listed => match seqTo .any ops ds pre listed with
    | some L => (Region.ready .any ops L == [i, j]) && planOk ops ds p (L.setIfInBounds i true) && planOk ops ds q (L.setIfInBounds j true) && planLen p == planLen q
    | none => false
def planIn (n : Nat) : Plan → Bool
  | .seq l => inRange n l
  | .fork pre i j p q => inRange n pre && decide (i < n) && decide (j < n) && planIn n p && planIn n q
def wpPlan (P : Program) (ops : Array Oper) (R : Frm) (Q : Exit → Act → World → Prop) : Plan → Act → World → Prop
  | .seq l, a, w => wpItems P ops Q R (itemsOf ops l) a w
  | .fork pre i j p q, a, w => wpItems P ops (withK Q (fun a w => wpG P ops Q (ops.toList.getD i noOper) (fun a' w' => R.E w w' ∧ wpPlan P ops R Q p a' w') a w ∧
      wpG P ops Q (ops.toList.getD j noOper) (fun a' w' => R.E w w' ∧ wpPlan P ops R Q q a' w') a w)) R (itemsOf ops pre) a w

theorem wpOp_withK {K X : Act → World → Prop} {i : Nat} {a : Act} {w : World} (h : wpOp P ops (withK Q K) i X a w) : wpOp P ops Q i X a w := h
theorem tagLen_cons_take (i : Nat) (rest : List (Nat × Tag)) : tagLen ((i, .take) :: rest) = tagLen rest + 1 := rfl
theorem wpAnyE_to (hrefl : ∀ w, E w w) (htrans : ∀ a b c, E a b → E b c → E a c) (hs : Region.noSelect ops = true) {K : Act → World → Prop} {n : Nat} {L : Array Bool} (hK : ∀ a w, K a w → wpAnyE P md ops Q E ds n L a w) : ∀ (l : List (Nat × Tag)) (listed : Array Bool) (a : Act) (w : World),
    seqTo md ops ds l listed = some L → wpSeq P ops (withK Q K) E l a w → wpAnyE P md ops Q E ds (tagLen l + n) listed a w
  | [], listed, a, w, hc, h => by
    simp only [seqTo, Option.some.injEq] at hc
    subst hc
    simp only [tagLen, Nat.zero_add]
    exact hK _ _ h
  | (i, .take) :: rest, listed, a, w, hc, h => by
    simp only [seqTo] at hc
    split at hc
    · rename_i hb
      simp only [Bool.and_eq_true] at hb
      obtain ⟨⟨⟨h1, h2⟩, h3⟩, h4⟩ := hb
      obtain ⟨oi, v, hi, hQ, hy, hrest⟩ := h
      rw [show tagLen ((i, Tag.take) :: rest) + n = (tagLen rest + n) + 1 from by show tagLen rest + 1 + n = _; omega]
      exact wpAnyE_first hrefl htrans hi (Region.noSelect_spec hs) (show ∀ c a w, Q (.panic c) (a.put oi.dst v) w → Q (.panic c) a w from hQ) ops.size (tagLen rest + n) listed a w (Region.free_spec hi h1) (closedB_spec h3)
        (fun d hm hun => by have := List.all_eq_true.1 h4 d hm; rw [hun] at this; simpa using this) (by simpa using h2) hy (wpAnyE_to hrefl htrans hs hK rest _ _ _ hc hrest)
    · cases hc
  | (i, .run) :: rest, listed, a, w, hc, h => by
    simp only [seqTo] at hc
    split at hc
    · rename_i hb
      rw [show tagLen ((i, Tag.run) :: rest) + n = (tagLen rest + n) + 1 from by show tagLen rest + 1 + n = _; omega]
      exact wpAnyE_one (by simpa using hb) (wpOp_mono (fun a' w' h' => ⟨fun _ => h'.1, wpAnyE_to hrefl htrans hs hK rest _ _ _ hc h'.2⟩) (wpOp_withK h))
    · cases hc
  | (i, .last) :: rest, listed, a, w, hc, h => by simp [seqTo] at hc
  | (i, .two j) :: rest, listed, a, w, hc, h => by simp [seqTo] at hc
  | (i, .both j) :: rest, listed, a, w, hc, h => by simp [seqTo] at hc
theorem wpAnyE_of_plan (R : Frm) (hs : Region.noSelect ops = true) : ∀ (p : Plan) (listed : Array Bool) (a : Act) (w : World),
    planOk ops ds p listed = true → planIn ops.size p = true → wpPlan P ops R Q p a w → wpAnyE P .any ops Q R.E ds (planLen p) listed a w
  | .seq l, listed, a, w, hc, hin, h => wpAnyE_of_seq R.refl R.trans hs l listed a w hc (wpSeq_of_items l a w hin h)
  | .fork pre i j p q, listed, a, w, hc, hin, h => by
    simp only [planOk] at hc
    split at hc
    · rename_i L hL
      simp only [Bool.and_eq_true, beq_iff_eq] at hc
      obtain ⟨⟨⟨h1, h2⟩, h3⟩, h4⟩ := hc
      simp only [planIn, Bool.and_eq_true, decide_eq_true_eq] at hin
      obtain ⟨⟨⟨⟨hin0, hi⟩, hj⟩, hp⟩, hq⟩ := hin
      refine wpAnyE_to R.refl R.trans hs (L := L) (n := planLen p + 1) ?_ pre listed a w hL (wpSeq_of_items pre a w hin0 h)
      rintro a w ⟨ki, kj⟩
      refine wpAnyE_two h1 (wpOp_of_G hi (wpG_mono (fun a' w' h' => ⟨fun _ => h'.1, wpAnyE_of_plan R hs p _ _ _ h2 hp h'.2⟩) ki)) (wpOp_of_G hj (wpG_mono (fun a' w' h' => ⟨fun _ => h'.1, ?_⟩) kj))
      rw [h4]
      exact wpAnyE_of_plan R hs q _ _ _ h3 hq h'.2
    · cases hc
def regPlanOk (ops : Array Oper) (p : Plan) : Bool := Region.noSelect ops && planOk ops (planDs p) p (Array.replicate ops.size false) && planLen p == ops.size && planIn ops.size p
/-- A region that draws, by a plan. -/
theorem region_plan (R : Frm) (p : Plan) {id : Nat} {os : List Oper} {a : Act} {w : World} (hm : P.follows .mixedOrders = true)
    (hok : regPlanOk os.toArray p = true) (h : wpPlan P os.toArray R Q p a w.drew) : (Code.region id os.toArray true).wp P Q a w := by
  simp only [regPlanOk, Bool.and_eq_true, beq_iff_eq] at hok
  obtain ⟨⟨⟨h1, h2⟩, h3⟩, h4⟩ := hok
  refine wp_region_any hm (wpAny_of_E (E := R.E) (ds := planDs p) _ _ _ _ ?_)
  have := wpAnyE_of_plan R h1 p _ a w.drew h2 h4 h
  rwa [h3] at this
variable {R : Frm}
/-- The fork: both ways. -/
theorem plan_fork {i j : Oper} {X Y : Act → World → Prop} {a : Act} {w : World} (hi : Region.wanted i (yielded ops a.tmps) = true) (hj : Region.wanted j (yielded ops a.tmps) = true)
    (h1 : ∀ K : Act → World → Prop, (∀ a' w', R.E w w' → X a' w' → K a' w') → i.wp P a w K Q)
    (h2 : ∀ K : Act → World → Prop, (∀ a' w', R.E w w' → Y a' w' → K a' w') → j.wp P a w K Q) :
    wpItems P ops (withK Q (fun a w => wpG P ops Q i (fun a' w' => R.E w w' ∧ X a' w') a w ∧ wpG P ops Q j (fun a' w' => R.E w w' ∧ Y a' w') a w)) R [] a w := by
  refine ⟨?_, ?_⟩
  · simp only [wpG, hi, if_true]
    exact h1 _ fun a' w' hE hs => ⟨hE, hs⟩
  · simp only [wpG, hj, if_true]
    exact h2 _ fun a' w' hE hs => ⟨hE, hs⟩
end
end Go.Proofs.YtbdahjpdjamgiaaGreatDoor
/- impl.plainArg. -/
namespace Go.Proofs.YtbdahjpdjamgiaaGreatDoor
open Go.RowKit
theorem pa_int32_0 (v : Value) (W : World) : (Instr.typeAssert (.iface 21 v) 20 21 true).run Tryz.prog W = .ok (.tuple #[v, .bool true]) W := by kernel_rfl
theorem pa_int64_0 (v : Value) (W : World) : (Instr.typeAssert (.iface 2 v) 20 21 true).run Tryz.prog W = .ok (.tuple #[.int .i32 0, .bool false]) W := by kernel_rfl
theorem pa_int64_1 (v : Value) (W : World) : (Instr.typeAssert (.iface 2 v) 20 2 true).run Tryz.prog W = .ok (.tuple #[v, .bool true]) W := by kernel_rfl
theorem pa_uint32_0 (v : Value) (W : World) : (Instr.typeAssert (.iface 23 v) 20 21 true).run Tryz.prog W = .ok (.tuple #[.int .i32 0, .bool false]) W := by kernel_rfl
theorem pa_uint32_1 (v : Value) (W : World) : (Instr.typeAssert (.iface 23 v) 20 2 true).run Tryz.prog W = .ok (.tuple #[.int .i64 0, .bool false]) W := by kernel_rfl
theorem pa_uint32_2 (v : Value) (W : World) : (Instr.typeAssert (.iface 23 v) 20 23 true).run Tryz.prog W = .ok (.tuple #[v, .bool true]) W := by kernel_rfl
theorem pa_uint8_0 (v : Value) (W : World) : (Instr.typeAssert (.iface 5 v) 20 21 true).run Tryz.prog W = .ok (.tuple #[.int .i32 0, .bool false]) W := by kernel_rfl
theorem pa_uint8_1 (v : Value) (W : World) : (Instr.typeAssert (.iface 5 v) 20 2 true).run Tryz.prog W = .ok (.tuple #[.int .i64 0, .bool false]) W := by kernel_rfl
theorem pa_uint8_2 (v : Value) (W : World) : (Instr.typeAssert (.iface 5 v) 20 23 true).run Tryz.prog W = .ok (.tuple #[.int .u32 0, .bool false]) W := by kernel_rfl
theorem pa_uint8_4 (v : Value) (W : World) : (Instr.typeAssert (.iface 5 v) 20 298 true).run Tryz.prog W = .ok (.tuple #[.float .f32 0, .bool false]) W := by kernel_rfl
theorem pa_uint8_5 (v : Value) (W : World) : (Instr.typeAssert (.iface 5 v) 20 300 true).run Tryz.prog W = .ok (.tuple #[.float .f64 0, .bool false]) W := by kernel_rfl
theorem pa_uint8_6 (v : Value) (W : World) : (Instr.typeAssert (.iface 5 v) 20 5 true).run Tryz.prog W = .ok (.tuple #[v, .bool true]) W := by kernel_rfl
set_option maxRecDepth 100000 in
set_option maxHeartbeats 1000000 in
theorem plainArg_calls (a : Int × UInt64) (ha : okI a) (w : World) : Calls Tryz.prog 60 #[argIv a] w fun e w' => e = .returned (.agg #[.int .i64 a.1, .int .u64 (a.2.toNat : Int)]) ∧ Ext w w' := by
  obtain ⟨k, b⟩ := a
  have hb := b.toNat_lt
  have h00 := pa_int32_0
  have h10 := pa_int64_0
  have h11 := pa_int64_1
  have h20 := pa_uint32_0
  have h21 := pa_uint32_1
  have h22 := pa_uint32_2
  have h30 := pa_uint8_0
  have h31 := pa_uint8_1
  have h32 := pa_uint8_2
  have h34 := pa_uint8_4
  have h35 := pa_uint8_5
  have h36 := pa_uint8_6
  rcases ha with ⟨rfl, h⟩ | h | ⟨rfl, h⟩ | ⟨rfl, h⟩
  · dsimp only at h
    rw [show argIv (0, b) = .iface 21 (.int .i32 (wrap32 (b.toNat : Int))) from rfl]
    have hw : IntKind.u32.wrap (wrap32 (b.toNat : Int)) = (b.toNat : Int) := by rw [IntKind.wrap_u32]; unfold wrap32; omega
    generalize b.toNat = n at *
    go_enter Tryz.func60, Tryz.ntmps60
    go_wp2
    exact bodyPost_ret (v := .agg #[.int .i64 0, .int .u64 (n : Int)]) (by simp [results, Tryz.results60, go_sem]) rfl ⟨rfl, ext_alloc _ _⟩
  · obtain rfl : k = 1 := h
    rw [show argIv (1, b) = .iface 2 (.int .i64 (wrap64 (b.toNat : Int))) from rfl]
    have hw : IntKind.u64.wrap (wrap64 (b.toNat : Int)) = (b.toNat : Int) := by rw [IntKind.wrap_u64]; unfold wrap64; omega
    generalize b.toNat = n at *
    go_enter Tryz.func60, Tryz.ntmps60
    go_wp2
    exact bodyPost_ret (v := .agg #[.int .i64 1, .int .u64 (n : Int)]) (by simp [results, Tryz.results60, go_sem]) rfl ⟨rfl, ext_alloc _ _⟩
  · dsimp only at h
    rw [show argIv (2, b) = .iface 23 (.int .u32 (b.toNat : Int)) from rfl]
    generalize b.toNat = n at *
    go_enter Tryz.func60, Tryz.ntmps60
    go_wp2
    exact bodyPost_ret (v := .agg #[.int .i64 2, .int .u64 (n : Int)]) (by simp [results, Tryz.results60, go_sem]) rfl ⟨rfl, ext_alloc _ _⟩
  · dsimp only at h
    rw [show argIv (5, b) = .iface 5 (.int .u8 (b.toNat : Int)) from rfl]
    generalize b.toNat = n at *
    go_enter Tryz.func60, Tryz.ntmps60
    go_wp2
    exact bodyPost_ret (v := .agg #[.int .i64 5, .int .u64 (n : Int)]) (by simp [results, Tryz.results60, go_sem]) rfl ⟨rfl, ext_alloc _ _⟩
end Go.Proofs.YtbdahjpdjamgiaaGreatDoor
/- A type assertion to an interface type that fails. -/
namespace Go.Proofs.YtbdahjpdjamgiaaGreatDoor
open Go.RowKit
/-- The type T lacks a method of the interface type t. -/
def lacks (P : Program) (T t : TypeId) : Bool :=
  match P.underlying t, P.info? T with
  | some (.interface want), some i => !(want.toList.filter fun x => !i.methods.any fun m => m.name == x.1 && m.sig == x.2).isEmpty
  | _, _ => false
theorem least_some {l : List String} (h : l ≠ []) : ∃ m, Instr.least l = some m := by
  cases l with
  | nil => exact absurd rfl h
  | cons a l => exact ⟨_, rfl⟩
theorem part_some (p : String → Bool) (f : String → String) {l : List String} (h : l ≠ []) : ∃ m, (Instr.least (l.partition p).2 <|> Instr.least ((l.partition p).1.map f)) = some m := by
  rw [List.partition_eq_filter_filter]
  by_cases h1 : l.filter (not ∘ p) = []
  · rw [h1]
    have h2 : l.filter p ≠ [] := by
      intro h2
      apply h
      rw [List.filter_eq_nil_iff] at h1 h2
      cases l with
      | nil => rfl
      | cons a l =>
        have a1 := h1 a (by simp)
        have a2 := h2 a (by simp)
        simp at a1 a2
        simp [a1] at a2
    exact least_some (by simpa using h2)
  · obtain ⟨m, hm⟩ := least_some h1
    exact ⟨m, by show (Instr.least (l.filter (not ∘ p)) <|> _) = _; rw [hm]; rfl⟩
theorem missing_some {want : Array (String × TypeId)} {got : Array Method} (h : (want.toList.filter fun x => !got.any fun m => m.name == x.1 && m.sig == x.2) ≠ []) : ∃ m, Instr.missingMethod want got = some m := by
  unfold Instr.missingMethod
  exact part_some _ _ (by simpa using h)
theorem ta_fails {P : Program} {T x t : TypeId} {z : Value} (h : lacks P T t = true) (hz : ∀ W, (zeroValue t).run P W = .ok z W) (v : Value) (W : World) : (Instr.typeAssert (.iface T v) x t true).run P W = .ok (.tuple #[z, .bool false]) W := by
  unfold lacks at h
  split at h
  · rename_i want i hu hi
    obtain ⟨m, hm⟩ := missing_some (by simpa using h)
    unfold Instr.typeAssert
    simp [run_underlying hu, typeInfo, hi, hm, hz]
  · cases h
end Go.Proofs.YtbdahjpdjamgiaaGreatDoor
