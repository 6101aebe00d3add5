/- Texts of the library, merged by wip/tools/merge.py: Num, Ord, Mem, Mem2, Tree, CodePlain, Fit, SpecRead, CodeLay, Fork. -/
import Derived.WalkKit
import Derived.Lib.Strings
import Derived.OrdersHeld
import Derived.Deep.RegionHeld3
import Derived.Below
import Derived.Lib.Hide
import Derived.Maps.AppendAt
import Derived.Lib.Builder
import Derived.Laws.MakeOwn
import Derived.Deep.Draws
/- Plain facts on numbers, bits and LEB128: no program, no memory. -/
namespace Go.Proofs.YtkbadfljmbeciaaGreatDoor

/-- The unsigned form of LEB128. -/
def uleb (n : Nat) : List UInt8 :=
  if n < 128 then [UInt8.ofNat n] else UInt8.ofNat (n % 128 + 128) :: uleb (n / 128)
termination_by n
decreasing_by omega

/-- The signed form of LEB128. -/
def sleb (i : Int) : List UInt8 :=
  if -64 ≤ i ∧ i < 64 then [UInt8.ofNat (i % 128).toNat] else UInt8.ofNat ((i % 128).toNat + 128) :: sleb (i / 128)
termination_by i.natAbs
decreasing_by omega

theorem uleb_small {n : Nat} (h : n < 128) : uleb n = [UInt8.ofNat n] := by rw [uleb, if_pos h]
theorem uleb_big {n : Nat} (h : 128 ≤ n) : uleb n = UInt8.ofNat (n % 128 + 128) :: uleb (n / 128) := by rw [uleb, if_neg (by omega)]
theorem sleb_small {i : Int} (h : -64 ≤ i ∧ i < 64) : sleb i = [UInt8.ofNat (i % 128).toNat] := by rw [sleb, if_pos h]
theorem sleb_big {i : Int} (h : ¬ (-64 ≤ i ∧ i < 64)) : sleb i = UInt8.ofNat ((i % 128).toNat + 128) :: sleb (i / 128) := by rw [sleb, if_neg h]

theorem uleb_len : ∀ (k n : Nat), n < 128 ^ (k + 1) → (uleb n).length ≤ k + 1
  | 0, n, h => by rw [uleb_small (by omega)]; simp
  | k + 1, n, h => by
    by_cases hn : n < 128
    · rw [uleb_small hn]; simp
    · rw [uleb_big (by omega), List.length_cons]
      have := uleb_len k (n / 128) (by rw [Nat.pow_succ] at h; omega)
      omega
theorem uleb_len64 (n : Nat) (h : n < 18446744073709551616) : (uleb n).length ≤ 10 := uleb_len 9 n (by omega)
theorem sleb_len : ∀ (k : Nat) (i : Int), -64 * 128 ^ k ≤ i → i < 64 * 128 ^ k → (sleb i).length ≤ k + 1
  | 0, i, h, h' => by rw [sleb_small (by omega)]; simp
  | k + 1, i, h, h' => by
    by_cases hn : -64 ≤ i ∧ i < 64
    · rw [sleb_small hn]; simp
    · rw [sleb_big hn, List.length_cons]
      have ih := sleb_len k (i / 128)
      rw [Int.pow_succ] at h h'
      generalize (128 : Int) ^ k = q at h h' ih
      have := ih (by omega) (by omega)
      omega
theorem sleb_len64 (i : Int) (h : -9223372036854775808 ≤ i) (h' : i ≤ 9223372036854775807) : (sleb i).length ≤ 10 := sleb_len 9 i (by omega) (by omega)

theorem u64_and127 (x : Int) (h0 : 0 ≤ x) (h1 : x < 18446744073709551616) : bits .and .u64 x 127 = x % 128 := by
  obtain ⟨a, rfl⟩ := Int.eq_ofNat_of_zero_le h0
  rw [show (127 : Int) = ((127 : Nat) : Int) from rfl, u64_and_nat a 127 (by omega) (by omega), nat_mask7]
  omega
theorem u64_and128 (x : Int) (h0 : 0 ≤ x) (h1 : x < 256) : bits .and .u64 x 128 = if x < 128 then 0 else 128 := by
  obtain ⟨a, rfl⟩ := Int.eq_ofNat_of_zero_le h0
  rw [show (128 : Int) = ((128 : Nat) : Int) from rfl, u64_and_nat a 128 (by omega) (by omega), show (128 : Nat) = 2 ^ 7 from rfl, nat_bit 7 a]
  split <;> omega
theorem u8_and128 (x : Int) (h0 : 0 ≤ x) (h1 : x < 256) : bits .and .u8 x 128 = if x < 128 then 0 else 128 := by
  obtain ⟨a, rfl⟩ := Int.eq_ofNat_of_zero_le h0
  rw [show (128 : Int) = ((128 : Nat) : Int) from rfl, u8_and_nat a 128 (by omega) (by omega), show (128 : Nat) = 2 ^ 7 from rfl, nat_bit 7 a]
  split <;> omega
theorem u8_and127 (x : Int) (h0 : 0 ≤ x) (h1 : x < 256) : bits .and .u8 x 127 = x % 128 := by
  obtain ⟨a, rfl⟩ := Int.eq_ofNat_of_zero_le h0
  rw [show (127 : Int) = ((127 : Nat) : Int) from rfl, u8_and_nat a 127 (by omega) (by omega), nat_mask7]
  omega
theorem u8_or128_low (x : Int) (h0 : 0 ≤ x) (h1 : x < 256) : bits .or .u8 x 128 = x % 128 + 128 := by
  obtain ⟨a, rfl⟩ := Int.eq_ofNat_of_zero_le h0
  rw [show (128 : Int) = ((128 : Nat) : Int) from rfl, u8_or_nat a 128 (by omega) (by omega)]
  have h : a ||| 128 = a % 128 + 128 := by
    have : ∀ b : Fin 256, b.val ||| 128 = b.val % 128 + 128 := by decide +kernel
    exact this ⟨a, by omega⟩
  omega
theorem ofInt64_toNat (x : Int) : ((BitVec.ofInt 64 x).toNat : Int) = x % 18446744073709551616 := by
  rw [BitVec.toNat_ofInt]
  omega
theorem i64_and_small (x : Int) (m : Nat) (hm : m < 128) : bits .and .i64 x (m : Int) = (((x % 128).toNat &&& m : Nat) : Int) := by
  show IntKind.i64.wrap ((BitVec.ofInt 64 x &&& BitVec.ofInt 64 (m : Int)).toNat : Int) = _
  rw [BitVec.toNat_and]
  have hx := ofInt64_toNat x
  have hmm := ofInt64_toNat (m : Int)
  generalize (BitVec.ofInt 64 x).toNat = a at *
  generalize (BitVec.ofInt 64 (m : Int)).toNat = b at *
  obtain rfl : b = m := by omega
  have h1 : a &&& b = (a % 128) &&& b := by
    have hb : b = b &&& 127 := by rw [nat_mask7]; omega
    rw [← nat_mask7 a, Nat.and_assoc, Nat.and_comm 127 b, ← hb]
  have h2 : a % 128 = (x % 128).toNat := by omega
  rw [h1, h2]
  have h3 : (x % 128).toNat &&& b ≤ b := Nat.and_le_right
  generalize (x % 128).toNat &&& b = c at *
  rw [IntKind.wrap_i64]
  omega
theorem i64_and127 (x : Int) : bits .and .i64 x 127 = x % 128 := by
  have h := i64_and_small x 127 (by omega)
  rw [show ((127 : Nat) : Int) = 127 from rfl, nat_mask7] at h
  omega
theorem i64_and64 (x : Int) : bits .and .i64 x 64 = if x % 128 < 64 then 0 else 64 := by
  have h := i64_and_small x 64 (by omega)
  rw [show ((64 : Nat) : Int) = 64 from rfl] at h
  have h2 := nat_bit 6 (x % 128).toNat
  rw [show (2 : Nat) ^ 6 = 64 from rfl] at h2
  rw [h2] at h
  split <;> omega

end Go.Proofs.YtkbadfljmbeciaaGreatDoor
/- A region that draws its order, walked once: what only reads is taken as soon as it may come up, what writes or calls is run where nothing else may come up. No program here. (After the printed words' own file on such regions, turned: the worlds are held by a frame E, not by a fixed fact.) -/
namespace Go.Proofs.YtkbadfljmbeciaaGreatDoor

section
variable {P : Program} {ops : Array Oper} {Q : Exit → Act → World → Prop} {md : Region.Mode} {E : World → World → Prop} {ds : List Nat}

/-- Operation d waits for operation i, by a chain of at most 'fuel' edges. -/
def reachB (md : Region.Mode) (ops : Array Oper) (i : Nat) : Nat → Nat → Bool
  | 0, _ => false
  | fuel + 1, d => match ops[d]? with
    | some o => o.after.any fun e => Region.binds md e && (e.on == i || reachB md ops i fuel e.on)
    | none => false
def closedB (md : Region.Mode) (ops : Array Oper) (listed : Array Bool) : Bool :=
  (List.range ops.size).all fun j => !listed.getD j false || match ops[j]? with
    | some o => o.after.all fun e => !Region.binds md e || listed.getD e.on false
    | none => true
def lastB (md : Region.Mode) (ops : Array Oper) (listed : Array Bool) (ds : List Nat) (i : Nat) : Bool :=
  ds.all fun d => listed.getD d true || reachB md ops i ops.size d
def ListedClosed (md : Region.Mode) (ops : Array Oper) (listed : Array Bool) : Prop :=
  ∀ j oj, ops[j]? = some oj → listed.getD j false = true → ∀ e ∈ oj.after, Region.binds md e = true → listed.getD e.on false = true

theorem closedB_spec {listed : Array Bool} (h : closedB md ops listed = true) : ListedClosed md ops listed := by
  intro j oj hj hl e he hb
  have hlt : j < ops.size := (Array.getElem?_eq_some_iff.1 hj).1
  have h1 := List.all_eq_true.1 h j (List.mem_range.2 hlt)
  simp only [hl, hj, Bool.not_true, Bool.false_or] at h1
  have h2 := Array.all_eq_true_iff_forall_mem.1 h1 e he
  simpa [hb] using h2
theorem ListedClosed.set {listed : Array Bool} {i : Nat} (h : ListedClosed md ops listed) (hi : i ∈ Region.ready md ops listed) : ListedClosed md ops (listed.setIfInBounds i true) := by
  obtain ⟨_, oi, hoi, hall⟩ := mem_ready.1 hi
  intro j oj hj hl e he hb
  by_cases hij : i = j
  · subst hij
    have : oj = oi := Option.some.inj (hj.symm.trans hoi)
    subst this
    exact getD_set_true (hall e he hb)
  · rw [getD_set_ne false hij] at hl
    exact getD_set_true (h j oj hj hl e he hb)
theorem reach_listed {listed : Array Bool} {i : Nat} (hc : ListedClosed md ops listed) : ∀ (fuel d : Nat), reachB md ops i fuel d = true → listed.getD d false = true → listed.getD i false = true
  | 0, _, h, _ => by simp [reachB] at h
  | fuel + 1, d, h, hl => by
    unfold reachB at h
    cases ho : ops[d]? with
    | none => rw [ho] at h; simp at h
    | some o =>
      rw [ho] at h
      obtain ⟨e, he, h1⟩ := Array.any_eq_true'.1 h
      simp only [Bool.and_eq_true, Bool.or_eq_true, beq_iff_eq] at h1
      have hle := hc d o ho hl e he h1.1
      rcases h1.2 with h2 | h2
      · rw [← h2]; exact hle
      · exact reach_listed hc fuel e.on h2 hle
theorem reach_not_ready {listed : Array Bool} {i d fuel : Nat} (hc : ListedClosed md ops listed) (hr : reachB md ops i fuel d = true) (hun : listed.getD i true = false) : d ∉ Region.ready md ops listed := by
  intro hd
  obtain ⟨_, o, ho, hall⟩ := mem_ready.1 hd
  have hi : listed.getD i false = true := by
    cases fuel with
    | zero => simp [reachB] at hr
    | succ n =>
      unfold reachB at hr
      rw [ho] at hr
      obtain ⟨e, he, h1⟩ := Array.any_eq_true'.1 hr
      simp only [Bool.and_eq_true, Bool.or_eq_true, beq_iff_eq] at h1
      have hle := hall e he h1.1
      rcases h1.2 with h2 | h2
      · rw [← h2]; exact hle
      · exact reach_listed hc n e.on h2 hle
  rcases Nat.lt_or_ge i listed.size with h' | h'
  · simp [h'] at hun hi
    rw [hun] at hi
    cases hi
  · simp [Array.getElem?_eq_none h'] at hun

/-- Whatever order is picked from here on; every operation that is carried out, those of ds apart, leaves a world that E lets. -/
def wpAnyE (P : Program) (md : Region.Mode) (ops : Array Oper) (Q : Exit → Act → World → Prop) (E : World → World → Prop) (ds : List Nat) : Nat → Array Bool → Act → World → Prop
  | 0, listed, a, w => Region.ready md ops listed = [] ∧ Q .normal a w
  | fuel + 1, listed, a, w =>
    (Region.ready md ops listed = [] → Q .normal a w) ∧
    ∀ i ∈ Region.ready md ops listed, wpOp P ops Q i (fun a' w' => (i ∉ ds → E w w') ∧ wpAnyE P md ops Q E ds fuel (listed.setIfInBounds i true) a' w') a w

theorem wpAny_of_E : ∀ (fuel : Nat) (listed : Array Bool) (a : Act) (w : World), wpAnyE P md ops Q E ds fuel listed a w → wpAny P md ops Q fuel listed a w
  | 0, _, _, _, h => h
  | fuel + 1, _, _, _, h => ⟨h.1, fun i hi => wpOp_mono (fun a' w' h' => wpAny_of_E fuel _ a' w' h'.2) (h.2 i hi)⟩

theorem wpAnyE_first (hrefl : ∀ w, E w w) (htrans : ∀ a b c, E a b → E b c → E a c) {i : Nat} {oi : Oper} {v : Value} (hi : ops[i]? = some oi) (hsel : ∀ (j : Nat) (o : Oper) cs b, ops[j]? = some o → o.op ≠ .select cs b)
    (hQ : ∀ c a w, Q (.panic c) (a.put oi.dst v) w → Q (.panic c) a w) (n : Nat) :
    ∀ (fuel : Nat) (listed : Array Bool) (a : Act) (w : World),
      (∀ j oj, ops[j]? = some oj → j ≠ i → listed.getD j true = false → (∀ e ∈ oj.after, Region.binds md e = true → e.on ≠ i) → oi.apart ops oj = true) →
      ListedClosed md ops listed → (∀ d ∈ ds, listed.getD d true = false → reachB md ops i n d = true) →
      i ∈ Region.ready md ops listed → YieldsIf P ops (E w) oi v a →
      wpAnyE P md ops Q E ds fuel (listed.setIfInBounds i true) (a.put oi.dst v) w → wpAnyE P md ops Q E ds (fuel + 1) listed a w := by
  intro fuel
  induction fuel with
  | zero =>
    intro listed a w _ _ _ hr hy H
    refine ⟨fun h => (by rw [h] at hr; cases hr), fun j hj => ?_⟩
    by_cases hji : j = i
    · subst hji; exact hy.wpOp hi (hrefl w) ⟨fun _ => hrefl w, H⟩
    · have := ready_mono hj hji
      rw [H.1] at this
      cases this
  | succ fuel ih =>
    intro listed a w hfree hc hd hr hy H
    refine ⟨fun h => (by rw [h] at hr; cases hr), fun j hj => ?_⟩
    by_cases hji : j = i
    · subst hji; exact hy.wpOp hi (hrefl w) ⟨fun _ => hrefl w, H⟩
    · have h1 := H.2 j (ready_mono hj hji)
      obtain ⟨hjun, oj, hoj, hall⟩ := mem_ready.1 hj
      have hiun := (mem_ready.1 hr).1
      have hnot : ∀ e ∈ oj.after, Region.binds md e = true → e.on ≠ i := fun e he hb heq => by
        have h1 := hall e he hb
        rw [heq] at h1
        rcases Nat.lt_or_ge i listed.size with h' | h'
        · simp [h'] at hiun h1; rw [hiun] at h1; cases h1
        · simp [Array.getElem?_eq_none h'] at h1
      have hjd : j ∉ ds := fun hm => reach_not_ready hc (hd j hm hjun) hiun hj
      have h2 := wpOp_putIf hoj (hfree j oj hoj hji hjun hnot) (fun cs b => hsel i oi cs b hi) (fun cs b => hsel j oj cs b hoj) hQ hy h1
      have hfree' : ∀ k ok, ops[k]? = some ok → k ≠ i → (listed.setIfInBounds j true).getD k true = false →
          (∀ e ∈ ok.after, Region.binds md e = true → e.on ≠ i) → oi.apart ops ok = true := fun k ok hk hki hun hno => by
        refine hfree k ok hk hki ?_ hno
        by_cases hjk : j = k
        · subst hjk; exact hjun
        · rw [getD_set_ne true hjk] at hun; exact hun
      have hd' : ∀ d ∈ ds, (listed.setIfInBounds j true).getD d true = false → reachB md ops i n d = true := fun d hm hun => by
        refine hd d hm ?_
        by_cases hjk : j = d
        · subst hjk; exact hjun
        · rw [getD_set_ne true hjk] at hun; exact hun
      refine wpOp_mono (fun a' w' h3 => ⟨h3.2.1, ih (listed.setIfInBounds j true) a' w' hfree' (hc.set hj) hd' (ready_mono hr (Ne.symm hji)) ?_ ?_⟩) h2
      · exact h3.1.imp (fun ⟨x, y⟩ => ⟨x, fun w'' hE => y w'' (htrans _ _ _ (h3.2.1 hjd) hE)⟩) id
      · rw [Array.setIfInBounds_comm _ _ hji]
        exact h3.2.2

inductive Tag where
  | take | run | last | two (j : Nat) | both (j : Nat)
  deriving DecidableEq

/-- The operations in one order, each to be taken, run, or run at the end (no frame is asked behind it). -/
def wpSeq (P : Program) (ops : Array Oper) (Q : Exit → Act → World → Prop) (E : World → World → Prop) : List (Nat × Tag) → Act → World → Prop
  | [], a, w => Q .normal a w
  | (i, .take) :: rest, a, w => ∃ oi v, ops[i]? = some oi ∧ (∀ c a w, Q (.panic c) (a.put oi.dst v) w → Q (.panic c) a w) ∧ YieldsIf P ops (E w) oi v a ∧ wpSeq P ops Q E rest (a.put oi.dst v) w
  | (i, .run) :: rest, a, w => wpOp P ops Q i (fun a' w' => E w w' ∧ wpSeq P ops Q E rest a' w') a w
  | (i, .last) :: rest, a, w => wpOp P ops Q i (fun a' w' => wpSeq P ops Q E rest a' w') a w
  | (i, .two j) :: rest, a, w => ∃ J : Act → World → Prop, (∀ a' w', J a' w' → wpSeq P ops Q E rest a' w') ∧
      wpOp P ops Q i (fun a1 w1 => E w w1 ∧ wpOp P ops Q j (fun a2 w2 => E w1 w2 ∧ J a2 w2) a1 w1) a w ∧
      wpOp P ops Q j (fun a1 w1 => E w w1 ∧ wpOp P ops Q i (fun a2 w2 => E w1 w2 ∧ J a2 w2) a1 w1) a w
  | (i, .both j) :: rest, a, w => ∃ J : Act → World → Prop, (∀ a' w', J a' w' → wpSeq P ops Q E rest a' w') ∧
      wpOp P ops Q i (fun a1 w1 => wpOp P ops Q j J a1 w1) a w ∧ wpOp P ops Q j (fun a1 w1 => wpOp P ops Q i J a1 w1) a w
/-- How many operations the order bears. -/
def tagLen : List (Nat × Tag) → Nat
  | [] => 0
  | (_, .two _) :: rest | (_, .both _) :: rest => tagLen rest + 2
  | _ :: rest => tagLen rest + 1

/-- May the operations come up in this order, each taken one whenever it may, each other one alone? -/
def seqOk (md : Region.Mode) (ops : Array Oper) (ds : List Nat) : List (Nat × Tag) → Array Bool → Bool
  | [], l => Region.ready md ops l == []
  | (i, .take) :: rest, l => Region.free md ops l i && (Region.ready md ops l).contains i && closedB md ops l && lastB md ops l ds i && seqOk md ops ds rest (l.setIfInBounds i true)
  | (i, .run) :: rest, l => (Region.ready md ops l == [i]) && seqOk md ops ds rest (l.setIfInBounds i true)
  | (i, .last) :: rest, l => (Region.ready md ops l == [i]) && ds.contains i && seqOk md ops ds rest (l.setIfInBounds i true)
  | (i, .two j) :: rest, l => (Region.ready md ops l == [i, j]) && (Region.ready md ops (l.setIfInBounds i true) == [j]) && (Region.ready md ops (l.setIfInBounds j true) == [i]) &&
      seqOk md ops ds rest ((l.setIfInBounds i true).setIfInBounds j true) && i != j
  | (i, .both j) :: rest, l => (Region.ready md ops l == [i, j]) && (Region.ready md ops (l.setIfInBounds i true) == [j]) && (Region.ready md ops (l.setIfInBounds j true) == [i]) &&
      seqOk md ops ds rest ((l.setIfInBounds i true).setIfInBounds j true) && i != j && ds.contains i && ds.contains j
def dsOf : List (Nat × Tag) → List Nat
  | [] => []
  | (i, .last) :: rest => i :: dsOf rest
  | (i, .both j) :: rest => i :: j :: dsOf rest
  | _ :: rest => dsOf rest

theorem wpAnyE_one {i : Nat} {n : Nat} {l : Array Bool} {a : Act} {w : World} (hr : Region.ready md ops l = [i])
    (h : wpOp P ops Q i (fun a' w' => (i ∉ ds → E w w') ∧ wpAnyE P md ops Q E ds n (l.setIfInBounds i true) a' w') a w) : wpAnyE P md ops Q E ds (n + 1) l a w := by
  refine ⟨fun h0 => absurd (hr ▸ h0) (by simp), fun j hj => ?_⟩
  rw [hr] at hj
  obtain rfl : j = i := by simpa using hj
  exact h
theorem wpAnyE_two {i j : Nat} {n : Nat} {l : Array Bool} {a : Act} {w : World} (hr : Region.ready md ops l = [i, j])
    (hi : wpOp P ops Q i (fun a' w' => (i ∉ ds → E w w') ∧ wpAnyE P md ops Q E ds n (l.setIfInBounds i true) a' w') a w)
    (hj : wpOp P ops Q j (fun a' w' => (j ∉ ds → E w w') ∧ wpAnyE P md ops Q E ds n (l.setIfInBounds j true) a' w') a w) : wpAnyE P md ops Q E ds (n + 1) l a w := by
  refine ⟨fun h0 => absurd (hr ▸ h0) (by simp), fun k hk => ?_⟩
  rw [hr] at hk
  rcases List.mem_cons.1 hk with rfl | hk
  · exact hi
  · obtain rfl : k = j := by simpa using hk
    exact hj
theorem wpAnyE_of_seq (hrefl : ∀ w, E w w) (htrans : ∀ a b c, E a b → E b c → E a c) (hs : Region.noSelect ops = true) : ∀ (l : List (Nat × Tag)) (listed : Array Bool) (a : Act) (w : World),
    seqOk md ops ds l listed = true → wpSeq P ops Q E l a w → wpAnyE P md ops Q E ds (tagLen l) listed a w
  | [], listed, a, w, hc, h => by
    simp only [seqOk, beq_iff_eq] at hc
    exact ⟨hc, h⟩
  | (i, .take) :: rest, listed, a, w, hc, h => by
    simp only [seqOk, Bool.and_eq_true] at hc
    obtain ⟨⟨⟨⟨h1, h2⟩, h3⟩, h4⟩, h5⟩ := hc
    obtain ⟨oi, v, hi, hQ, hy, hrest⟩ := h
    exact wpAnyE_first hrefl htrans hi (Region.noSelect_spec hs) hQ ops.size (tagLen rest) listed a w (Region.free_spec hi h1) (closedB_spec h3)
      (fun d hm hun => by have := List.all_eq_true.1 h4 d hm; rw [hun] at this; simpa using this) (by simpa using h2) hy (wpAnyE_of_seq hrefl htrans hs rest _ _ _ h5 hrest)
  | (i, .run) :: rest, listed, a, w, hc, h => by
    simp only [seqOk, Bool.and_eq_true, beq_iff_eq] at hc
    obtain ⟨h1, h2⟩ := hc
    exact wpAnyE_one h1 (wpOp_mono (fun a' w' h' => ⟨fun _ => h'.1, wpAnyE_of_seq hrefl htrans hs rest _ _ _ h2 h'.2⟩) h)
  | (i, .last) :: rest, listed, a, w, hc, h => by
    simp only [seqOk, Bool.and_eq_true, beq_iff_eq] at hc
    obtain ⟨⟨h1, h3⟩, h2⟩ := hc
    exact wpAnyE_one h1 (wpOp_mono (fun a' w' h' => ⟨fun hn => absurd (by simpa using h3) hn, wpAnyE_of_seq hrefl htrans hs rest _ _ _ h2 h'⟩) h)
  | (i, .two j) :: rest, listed, a, w, hc, h => by
    simp only [seqOk, Bool.and_eq_true, beq_iff_eq, bne_iff_ne, ne_eq] at hc
    obtain ⟨⟨⟨⟨h1, h2⟩, h3⟩, h4⟩, hij⟩ := hc
    obtain ⟨J, hJ, hi, hj⟩ := h
    refine wpAnyE_two h1 (wpOp_mono (fun a1 w1 h' => ⟨fun _ => h'.1, wpAnyE_one h2 (wpOp_mono (fun a2 w2 h'' => ⟨fun _ => h''.1, ?_⟩) h'.2)⟩) hi)
      (wpOp_mono (fun a1 w1 h' => ⟨fun _ => h'.1, wpAnyE_one h3 (wpOp_mono (fun a2 w2 h'' => ⟨fun _ => h''.1, ?_⟩) h'.2)⟩) hj)
    · exact wpAnyE_of_seq hrefl htrans hs rest _ _ _ h4 (hJ _ _ h''.2)
    · rw [Array.setIfInBounds_comm _ _ (Ne.symm hij)]
      exact wpAnyE_of_seq hrefl htrans hs rest _ _ _ h4 (hJ _ _ h''.2)
  | (i, .both j) :: rest, listed, a, w, hc, h => by
    simp only [seqOk, Bool.and_eq_true, beq_iff_eq, bne_iff_ne, ne_eq] at hc
    obtain ⟨⟨⟨⟨⟨⟨h1, h2⟩, h3⟩, h4⟩, hij⟩, hdi⟩, hdj⟩ := hc
    obtain ⟨J, hJ, hi, hj⟩ := h
    refine wpAnyE_two h1 (wpOp_mono (fun a1 w1 h' => ⟨fun hn => absurd (by simpa using hdi) hn, wpAnyE_one h2 (wpOp_mono (fun a2 w2 h'' => ⟨fun hn => absurd (by simpa using hdj) hn, ?_⟩) h')⟩) hi)
      (wpOp_mono (fun a1 w1 h' => ⟨fun hn => absurd (by simpa using hdj) hn, wpAnyE_one h3 (wpOp_mono (fun a2 w2 h'' => ⟨fun hn => absurd (by simpa using hdi) hn, ?_⟩) h')⟩) hj)
    · exact wpAnyE_of_seq hrefl htrans hs rest _ _ _ h4 (hJ _ _ h'')
    · rw [Array.setIfInBounds_comm _ _ (Ne.symm hij)]
      exact wpAnyE_of_seq hrefl htrans hs rest _ _ _ h4 (hJ _ _ h'')

/-- The check of a region and of an order of its operations. -/
def regOk (ops : Array Oper) (l : List (Nat × Tag)) : Bool :=
  Region.noSelect ops && seqOk .any ops (dsOf l) l (Array.replicate ops.size false) && tagLen l == ops.size

theorem wp_region_seq (E : World → World → Prop) (hrefl : ∀ w, E w w) (htrans : ∀ a b c, E a b → E b c → E a c) (l : List (Nat × Tag)) {id : Nat} {a : Act} {w : World} (hm : P.follows .mixedOrders = true)
    (hok : regOk ops l = true) (h : wpSeq P ops Q E l a w.drew) : (Code.region id ops true).wp P Q a w := by
  simp only [regOk, Bool.and_eq_true, beq_iff_eq] at hok
  obtain ⟨⟨h1, h2⟩, h3⟩ := hok
  refine wp_region_any hm (wpAny_of_E (E := E) (ds := dsOf l) _ _ _ _ ?_)
  rw [← h3]
  have := wpAnyE_of_seq hrefl htrans h1 l _ a w.drew h2 h
  rwa [← h3] at this

/-! ### The operations written out -/
/-- A frame between worlds. -/
structure Frm where
  E : World → World → Prop
  refl : ∀ w, E w w
  trans : ∀ a b c, E a b → E b c → E a c
inductive Item where
  | take (o : Oper) | run (o : Oper) | last (o : Oper)
  | two (i j : Oper) | both (i j : Oper)
def noOper : Oper := { dst := none, op := .move (.const undef), type := 0, pos := "", after := #[], guard := none }
def itemsOf (ops : Array Oper) : List (Nat × Tag) → List Item
  | [] => []
  | (i, .take) :: rest => .take (ops.toList.getD i noOper) :: itemsOf ops rest
  | (i, .run) :: rest => .run (ops.toList.getD i noOper) :: itemsOf ops rest
  | (i, .last) :: rest => .last (ops.toList.getD i noOper) :: itemsOf ops rest
  | (i, .two j) :: rest => .two (ops.toList.getD i noOper) (ops.toList.getD j noOper) :: itemsOf ops rest
  | (i, .both j) :: rest => .both (ops.toList.getD i noOper) (ops.toList.getD j noOper) :: itemsOf ops rest
def inRange (n : Nat) : List (Nat × Tag) → Bool
  | [] => true
  | (i, .two j) :: rest | (i, .both j) :: rest => decide (i < n) && decide (j < n) && inRange n rest
  | (i, _) :: rest => decide (i < n) && inRange n rest
/-- One operation, its guard asked. -/
def wpG (P : Program) (ops : Array Oper) (Q : Exit → Act → World → Prop) (o : Oper) (K : Act → World → Prop) (a : Act) (w : World) : Prop :=
  if Region.wanted o (yielded ops a.tmps) = true then o.wp P a w K Q else K (a.put o.dst undef) w
variable {R : Frm}
def wpItems (P : Program) (ops : Array Oper) (Q : Exit → Act → World → Prop) (R : Frm) : List Item → Act → World → Prop
  | [], a, w => Q .normal a w
  | .take o :: rest, a, w => ∃ v, (∀ c a w, Q (.panic c) (a.put o.dst v) w → Q (.panic c) a w) ∧ YieldsIf P ops (R.E w) o v a ∧ wpItems P ops Q R rest (a.put o.dst v) w
  | .run o :: rest, a, w => wpG P ops Q o (fun a' w' => R.E w w' ∧ wpItems P ops Q R rest a' w') a w
  | .last o :: rest, a, w => wpG P ops Q o (fun a' w' => wpItems P ops Q R rest a' w') a w
  | .two i j :: rest, a, w => ∃ J : Act → World → Prop, (∀ a' w', J a' w' → wpItems P ops Q R rest a' w') ∧
      wpG P ops Q i (fun a1 w1 => R.E w w1 ∧ wpG P ops Q j (fun a2 w2 => R.E w1 w2 ∧ J a2 w2) a1 w1) a w ∧
      wpG P ops Q j (fun a1 w1 => R.E w w1 ∧ wpG P ops Q i (fun a2 w2 => R.E w1 w2 ∧ J a2 w2) a1 w1) a w
  | .both i j :: rest, a, w => ∃ J : Act → World → Prop, (∀ a' w', J a' w' → wpItems P ops Q R rest a' w') ∧
      wpG P ops Q i (fun a1 w1 => wpG P ops Q j J a1 w1) a w ∧ wpG P ops Q j (fun a1 w1 => wpG P ops Q i J a1 w1) a w

theorem getD_some {i : Nat} (h : i < ops.size) : ops[i]? = some (ops.toList.getD i noOper) := by
  rw [List.getD_eq_getElem?_getD, Array.getElem?_toList, Array.getElem?_eq_getElem h]
  rfl
theorem wpOp_of_G {i : Nat} (h : i < ops.size) {K : Act → World → Prop} {a : Act} {w : World} (hg : wpG P ops Q (ops.toList.getD i noOper) K a w) : wpOp P ops Q i K a w := by
  unfold wpOp
  rw [getD_some h]
  unfold wpG at hg
  dsimp only
  split
  · rename_i hw; rw [if_pos hw] at hg; exact .inl hg
  · rename_i hw; rw [if_neg hw] at hg; exact hg
theorem wpG_mono {o : Oper} {K K' : Act → World → Prop} {a : Act} {w : World} (hk : ∀ a w, K a w → K' a w) (h : wpG P ops Q o K a w) : wpG P ops Q o K' a w := by
  unfold wpG at *
  split
  · rename_i hw
    rw [if_pos hw] at h
    unfold Oper.wp at *
    cases hr : (execOp a.eval o).run P w with
    | ok n w' =>
      rw [hr] at h
      cases n with
      | value v => exact hk _ _ h
      | skip => exact hk _ _ h
      | defer d => exact hk _ _ h
      | enter f args => exact Calls.mono h (fun e w'' hh => by cases e <;> first | exact hk _ _ hh | exact hh)
      | row r args => exact Rows.mono h (fun v w'' hh => hk _ _ hh)
      | _ => exact (h : False).elim
    | halt x w' =>
      rw [hr] at h
      cases x <;> first | exact (h : False).elim | exact h
  · rename_i hw
    rw [if_neg hw] at h
    exact hk _ _ h
theorem wpSeq_of_items : ∀ (l : List (Nat × Tag)) (a : Act) (w : World), inRange ops.size l = true → wpItems P ops Q R (itemsOf ops l) a w → wpSeq P ops Q R.E l a w
  | [], _, _, _, h => h
  | (i, .take) :: rest, a, w, hr, h => by
    simp only [inRange, Bool.and_eq_true, decide_eq_true_eq] at hr
    obtain ⟨v, hQ, hy, h⟩ := h
    exact ⟨_, v, getD_some hr.1, hQ, hy, wpSeq_of_items rest _ _ hr.2 h⟩
  | (i, .run) :: rest, a, w, hr, h => by
    simp only [inRange, Bool.and_eq_true, decide_eq_true_eq] at hr
    exact wpOp_of_G hr.1 (wpG_mono (fun a w h => ⟨h.1, wpSeq_of_items rest _ _ hr.2 h.2⟩) h)
  | (i, .last) :: rest, a, w, hr, h => by
    simp only [inRange, Bool.and_eq_true, decide_eq_true_eq] at hr
    exact wpOp_of_G hr.1 (wpG_mono (fun a w h => wpSeq_of_items rest _ _ hr.2 h) h)
  | (i, .two j) :: rest, a, w, hr, h => by
    simp only [inRange, Bool.and_eq_true, decide_eq_true_eq] at hr
    obtain ⟨J, hJ, hi, hj⟩ := h
    exact ⟨J, fun a w h => wpSeq_of_items rest _ _ hr.2 (hJ _ _ h), wpOp_of_G hr.1.1 (wpG_mono (fun a w h => ⟨h.1, wpOp_of_G hr.1.2 h.2⟩) hi),
      wpOp_of_G hr.1.2 (wpG_mono (fun a w h => ⟨h.1, wpOp_of_G hr.1.1 h.2⟩) hj)⟩
  | (i, .both j) :: rest, a, w, hr, h => by
    simp only [inRange, Bool.and_eq_true, decide_eq_true_eq] at hr
    obtain ⟨J, hJ, hi, hj⟩ := h
    exact ⟨J, fun a w h => wpSeq_of_items rest _ _ hr.2 (hJ _ _ h), wpOp_of_G hr.1.1 (wpG_mono (fun a w h => wpOp_of_G hr.1.2 h) hi),
      wpOp_of_G hr.1.2 (wpG_mono (fun a w h => wpOp_of_G hr.1.1 h) hj)⟩

/-- A region that draws, its operations in one order. -/
theorem region_items (R : Frm) (l : List (Nat × Tag)) {id : Nat} {os : List Oper} {a : Act} {w : World} (hm : P.follows .mixedOrders = true)
    (hok : (regOk os.toArray l && inRange os.toArray.size l) = true) (h : wpItems P os.toArray Q R (itemsOf os.toArray l) a w.drew) : (Code.region id os.toArray true).wp P Q a w := by
  rw [Bool.and_eq_true] at hok
  exact wp_region_seq R.E R.refl R.trans l hm hok.1 (wpSeq_of_items l a _ hok.2 h)

/-! ### The steps -/
theorem run_v {s : Sem Value} {w w' : World} {n : Next} (h : (do pure (Next.value (← s)) : Sem Next).run P w = .ok n w') : ∃ v, n = .value v := by
  rw [Sem.run_bind] at h
  cases hr : s.run P w with
  | ok v w1 =>
    rw [hr] at h
    simp only [Result.andThen_ok, Sem.run_pure, Result.ok.injEq] at h
    exact ⟨v, h.1.symm⟩
  | halt x w1 =>
    rw [hr] at h
    simp [Result.andThen] at h
def VV (s : Sem Next) : Prop := ∀ P w n w', s.run P w = .ok n w' → ∃ v, n = .value v
theorem vv_pure (v : Value) : VV (pure (.value v)) := fun P w n w' h => by
  simp only [Sem.run_pure, Result.ok.injEq] at h
  exact ⟨v, h.1.symm⟩
theorem vv_bind {α : Type} {s : Sem α} {k : α → Sem Next} (h : ∀ x, VV (k x)) : VV (s >>= k) := fun P w n w' hr => by
  rw [Sem.run_bind] at hr
  cases hs : s.run P w with
  | ok v w1 => rw [hs] at hr; exact h v P w1 n w' hr
  | halt x w1 => rw [hs] at hr; simp [Result.andThen] at hr
theorem vv_halt {h : Halt} : VV (Sem.halt h) := fun P w n w' hr => by simp [Sem.run] at hr
/-- Operations that yield a value, and call nothing. -/
def quietB : Op → Bool
  | .move _ | .assign _ | .pick .. | .build .. | .load .. | .nilCheck _ | .binOp .. | .unOp .. | .convert .. | .makeInterface .. | .makeFunc .. | .slice .. | .fieldAddr .. | .field .. | .indexAddr .. | .index .. | .lookup .. | .typeAssert .. | .extract .. => true
  | .call { callee := .builtin .len, .. } | .call { callee := .builtin .cap, .. } | .call { callee := .builtin .min, .. } | .call { callee := .builtin .max, .. } => true
  | _ => false
theorem quiet_value {ρ : Operand → Value} {o : Oper} (hq : quietB o.op = true) {w w' : World} {n : Next} (h : (execOp ρ o).run P w = .ok n w') : ∃ v, n = .value v := by
  obtain ⟨dst, op, type, pos, after, guard⟩ := o
  unfold execOp at h
  cases op <;> dsimp only at hq h <;> first | exact run_v h | (cases hq; done) | skip
  · simp only [Sem.run_pure, Result.ok.injEq] at h; exact ⟨_, h.1.symm⟩
  · simp only [Sem.run_pure, Result.ok.injEq] at h; exact ⟨_, h.1.symm⟩
  · rename_i c a b
    rw [Sem.run_bind] at h
    cases hr : (asBool (ρ c)).run P w with
    | ok v w1 => rw [hr] at h; simp only [Result.andThen_ok, Sem.run_pure, Result.ok.injEq] at h; exact ⟨_, h.1.symm⟩
    | halt x w1 => rw [hr] at h; simp [Result.andThen] at h
  · rename_i x
    split at h
    · simp [runtimePanic] at h
    · simp [runtimePanic] at h
    · simp [runtimePanic] at h
    · refine (show VV _ from ?_) P w n w' h
      split
      · exact vv_bind fun p => by dsimp only; exact vv_halt
      · refine vv_bind fun p => vv_bind fun r => ?_
        split
        · exact vv_bind fun _ => vv_pure _
        · exact vv_pure _
      · exact vv_pure _
    · simp only [Sem.run_pure, Result.ok.injEq] at h; exact ⟨_, h.1.symm⟩
  · rename_i c
    obtain ⟨callee, args, argTypes⟩ := c
    cases callee with
    | value f => cases hq
    | invoke r m => cases hq
    | builtin b =>
      refine (show VV _ from ?_) P w n w' h
      change VV (builtin b _ _ _ _)
      cases b <;> first | (cases hq; done) | exact vv_bind fun _ => vv_pure _
/-- Taken: it yields, in every world that E lets, a value that leads to a1. -/
theorem item_take {o : Oper} {rest : List Item} {a a1 : Act} {w : World} {d : Tmp} (hq : quietB o.op = true) (hd : o.dst = some d) (hlt : Nat.blt d a.tmps.size = true) (hw : Region.wanted o (yielded ops a.tmps) = true)
    (hQ : ∀ v c a w, Q (.panic c) (a.put o.dst v) w → Q (.panic c) a w)
    (hy : ∀ W, R.E w W → ∀ K : Act → World → Prop, K a1 W → o.wp P a W K (fun _ _ _ => False)) (h : wpItems P ops Q R rest a1 w) : wpItems P ops Q R (.take o :: rest) a w := by
  have key : ∀ W, R.E w W → ∃ v, (execOp a.eval o).run P W = .ok (.value v) W ∧ a.put o.dst v = a1 := fun W hE => by
    have h1 := hy W hE (fun a' w' => a' = a1 ∧ w' = W) ⟨rfl, rfl⟩
    unfold Oper.wp at h1
    cases hr : (execOp a.eval o).run P W with
    | ok n w' =>
      rw [hr] at h1
      obtain ⟨v, rfl⟩ := quiet_value hq hr
      obtain ⟨h2, rfl⟩ := h1
      exact ⟨v, rfl, h2⟩
    | halt x w' =>
      rw [hr] at h1
      cases x <;> exact (h1 : False).elim
  have hlt := Nat.le_of_ble_eq_true hlt
  change d < a.tmps.size at hlt
  obtain ⟨v, hv, ha⟩ := key w (R.refl w)
  refine ⟨v, hQ v, .inl ⟨hw, fun W hE => ?_⟩, by rw [ha]; exact h⟩
  obtain ⟨v', hv', ha'⟩ := key W hE
  have : v' = v := by
    have h2 := congrArg (fun x : Act => x.tmps[d]?) (ha'.trans ha.symm)
    simp only [hd, Act.put, Array.getElem?_setIfInBounds, hlt, if_true, Option.some.injEq] at h2
    exact h2
  rw [← this]
  exact hv'
theorem item_skip {o : Oper} {rest : List Item} {a : Act} {w : World} (hw : Region.wanted o (yielded ops a.tmps) = false) (hQ : ∀ v c a w, Q (.panic c) (a.put o.dst v) w → Q (.panic c) a w)
    (h : wpItems P ops Q R rest (a.put o.dst undef) w) : wpItems P ops Q R (.take o :: rest) a w := ⟨undef, hQ undef, .inr ⟨hw, rfl⟩, h⟩
theorem item_run {o : Oper} {rest : List Item} {a : Act} {w : World} (hw : Region.wanted o (yielded ops a.tmps) = true)
    (h : ∀ K : Act → World → Prop, (∀ a' w', R.E w w' → wpItems P ops Q R rest a' w' → K a' w') → o.wp P a w K Q) : wpItems P ops Q R (.run o :: rest) a w := by
  simp only [wpItems, wpG, hw, if_true]
  exact h _ fun a' w' hE hs => ⟨hE, hs⟩
theorem item_runskip {o : Oper} {rest : List Item} {a : Act} {w : World} (hw : Region.wanted o (yielded ops a.tmps) = false)
    (h : wpItems P ops Q R rest (a.put o.dst undef) w) : wpItems P ops Q R (.run o :: rest) a w := by
  simp only [wpItems, wpG, hw]
  exact ⟨R.refl w, h⟩
theorem item_last {o : Oper} {rest : List Item} {a : Act} {w : World} (hw : Region.wanted o (yielded ops a.tmps) = true)
    (h : ∀ K : Act → World → Prop, (∀ a' w', wpItems P ops Q R rest a' w' → K a' w') → o.wp P a w K Q) : wpItems P ops Q R (.last o :: rest) a w := by
  simp only [wpItems, wpG, hw, if_true]
  exact h _ fun a' w' hs => hs
theorem items_done {a : Act} {w : World} (h : Q .normal a w) : wpItems P ops Q R [] a w := h
end
end Go.Proofs.YtkbadfljmbeciaaGreatDoor
/- Frames, layouts of data in memory, rows that a call owns, and how they change. No program here. -/
namespace Go.Proofs.YtkbadfljmbeciaaGreatDoor
open Go.RowKit

/-! ### Frames -/
/-- Of the blocks that were there, those outside S stand as they stood. -/
structure Fr (S : Nat → Prop) (w w' : World) : Prop where
  os : w'.os = w.os
  tape : w'.tape = w.tape
  output : w'.output = w.output
  size : w.heap.size ≤ w'.heap.size
  block : ∀ k, k < w.heap.size → ¬ S k → w'.heap[k]? = w.heap[k]?
/-- Nothing that was there has changed. -/
abbrev Ext (w w' : World) : Prop := Fr (fun _ => False) w w'

theorem Fr.refl (S : Nat → Prop) (w : World) : Fr S w w := ⟨rfl, rfl, rfl, Nat.le_refl _, fun _ _ _ => rfl⟩
theorem Fr.trans {S T U : Nat → Prop} {a b c : World} (h : Fr S a b) (k : Fr T b c) (hS : ∀ k, k < a.heap.size → S k → U k) (hT : ∀ k, k < a.heap.size → T k → U k) : Fr U a c :=
  ⟨k.os.trans h.os, k.tape.trans h.tape, k.output.trans h.output, Nat.le_trans h.size k.size, fun i hi hu =>
    (k.block i (Nat.lt_of_lt_of_le hi h.size) (fun ht => hu (hT i hi ht))).trans (h.block i hi (fun hs => hu (hS i hi hs)))⟩
theorem Fr.mono {S U : Nat → Prop} {a b : World} (h : Fr S a b) (hS : ∀ k, k < a.heap.size → S k → U k) : Fr U a b :=
  ⟨h.os, h.tape, h.output, h.size, fun i hi hu => h.block i hi (fun hs => hu (hS i hi hs))⟩
theorem Fr.ext {S : Nat → Prop} {a b c : World} (h : Fr S a b) (k : Ext b c) : Fr S a c := h.trans k (fun _ _ h => h) (fun _ _ h => h.elim)
theorem Ext.fr {S : Nat → Prop} {a b c : World} (h : Ext a b) (k : Fr S b c) : Fr S a c := Fr.trans h k (fun _ _ h => h.elim) (fun _ _ h => h)
theorem Ext.trans {a b c : World} (h : Ext a b) (k : Ext b c) : Ext a c := Fr.ext h k
theorem Ext.to {S : Nat → Prop} {a b : World} (h : Ext a b) : Fr S a b := h.mono (fun _ _ h => h.elim)
theorem ext_alloc (w : World) (o : Obj) : Ext w (w.alloc o) := ⟨rfl, rfl, rfl, by simp, fun k hk _ => Below.heap_alloc _ _ _ hk⟩
theorem Fr.alloc {S : Nat → Prop} {a w : World} (h : Fr S a w) (o : Obj) : Fr S a (w.alloc o) := h.ext (ext_alloc w o)
theorem ext_drew (w : World) : Ext w w.drew := ⟨rfl, rfl, rfl, Nat.le_refl _, fun _ _ _ => rfl⟩
theorem Fr.drew {S : Nat → Prop} {a w : World} (h : Fr S a w) : Fr S a w.drew := h.ext (ext_drew w)
theorem ext_drewN (w : World) (n : Nat) : Ext w (w.drewN n) := ⟨rfl, rfl, rfl, Nat.le_refl _, fun _ _ _ => rfl⟩
theorem Fr.drewN {S : Nat → Prop} {a w : World} (h : Fr S a w) (n : Nat) : Fr S a (w.drewN n) := h.ext (ext_drewN w n)
theorem fr_setCell (w : World) (p : Addr) (u : Value) : Fr (fun k => k = p.block) w (w.setCell p u) :=
  ⟨rfl, rfl, rfl, by simp [World.setCell], fun k _ hk => Below.heap_setCell _ _ _ _ hk⟩
theorem Fr.setCell {S : Nat → Prop} {a w : World} (h : Fr S a w) {p : Addr} (hp : S p.block ∨ a.heap.size ≤ p.block) (u : Value) : Fr S a (w.setCell p u) :=
  h.trans (fr_setCell w p u) (fun _ _ h => h) (fun k hk e => by subst e; rcases hp with h | h; exact h; omega)
theorem Fr.grown {S : Nat → Prop} {a w w' : World} {row : Option Nat} (h : Fr S a w) (hg : w.grownBy w' row) (hr : ∀ k, row = some k → S k ∨ a.heap.size ≤ k) : Fr S a w' :=
  ⟨hg.os.trans h.os, hg.tape.trans h.tape, hg.output.trans h.output, Nat.le_trans h.size hg.size, fun k hk hs =>
    (hg.block k (Nat.lt_of_lt_of_le hk h.size) (fun e => by rcases hr k e.symm with h | h; exact hs h; omega)).trans (h.block k hk hs)⟩
theorem grown_fr {w w' : World} {row : Option Nat} (hg : w.grownBy w' row) : Fr (fun k => some k = row) w w' := ⟨hg.os, hg.tape, hg.output, hg.size, hg.block⟩
theorem Fr.grownBy {w w' : World} {row : Option Nat} (h : Fr (fun k => some k = row) w w') : w.grownBy w' row := ⟨h.os, h.tape, h.output, h.size, h.block⟩
theorem Ext.below {w w' : World} (h : Ext w w') : Below w.heap.size w w' := ⟨h.os, h.tape, h.output, h.size, fun k hk => h.block k hk (fun h => h)⟩
theorem ext_below {w w' : World} (h : Below w.heap.size w w') : Ext w w' := ⟨h.os, h.tape, h.output, h.size, fun k hk _ => h.block k hk⟩
theorem fr_below {B : Nat} {w w' : World} (h : Below B w w') : Fr (fun k => B ≤ k) w w' := ⟨h.os, h.tape, h.output, h.size, fun k _ hb => h.block k (by omega)⟩
theorem Fr.cell {S : Nat → Prop} {w w' : World} (h : Fr S w w') {p : Addr} {v : Value} (hc : w.cell? p = some v) (hp : ¬ S p.block) : w'.cell? p = some v :=
  (World.cell?_of_block (h.block _ (World.block_lt_of_cell? w p hc) hp)).trans hc

/-- The frames of regions that draw: nothing that was there changes; the blocks of S alone may. -/
def extFrm : Frm := ⟨Ext, Fr.refl _, fun _ _ _ => Ext.trans⟩
def frFrm (S : Nat → Prop) : Frm := ⟨Fr S, Fr.refl S, fun _ _ _ h k => h.trans k (fun _ _ h => h) (fun _ _ h => h)⟩
theorem addr_add (b o j : Nat) : (⟨b, o, none⟩ : Addr).add j = ⟨b, o + j, none⟩ := by
  unfold Addr.add
  split
  · rename_i h; subst h; rfl
  · rfl
theorem lt_heap {w : World} {g : Nat} {o : Obj} (h : w.heap[g]? = some o) : g < w.heap.size := (Array.getElem?_eq_some_iff.1 h).1
/-! ### A block known whole -/
def Blk (w : World) (g : Nat) (cs : Array Value) (T : TypeId) : Prop := w.heap[g]? = some (.cells cs T (0, 0))
theorem Blk.lt {w : World} {g : Nat} {cs : Array Value} {T : TypeId} (h : Blk w g cs T) : g < w.heap.size := (Array.getElem?_eq_some_iff.1 h).1
theorem Blk.cell {w : World} {g : Nat} {cs : Array Value} {T : TypeId} (h : Blk w g cs T) : ∀ j, w.cell? ⟨g, j, none⟩ = cs[j]? := fun j => Lib.cell_of_heap h j
theorem Blk.frz {w : World} {g : Nat} {cs : Array Value} {T : TypeId} (h : Blk w g cs T) : ∀ j, w.frozen? ⟨g, j, none⟩ = false := fun j => by
  have : w.heap[g]? = some (.cells cs T (0, 0)) := h
  simp [World.frozen?, this]
theorem Blk.fr {S : Nat → Prop} {w w' : World} {g : Nat} {cs : Array Value} {T : TypeId} (h : Blk w g cs T) (hf : Fr S w w') (hs : ¬ S g) : Blk w' g cs T := (hf.block g h.lt hs).trans h
theorem Blk.ext {w w' : World} {g : Nat} {cs : Array Value} {T : TypeId} (h : Blk w g cs T) (hf : Ext w w') : Blk w' g cs T := h.fr hf (fun h => h)
theorem blk_new (w : World) (cs : Array Value) (T : TypeId) : Blk (w.alloc (.cells cs T)) w.heap.size cs T := heap_alloc_new w _
theorem Blk.set {w : World} {g : Nat} {cs : Array Value} {T : TypeId} (h : Blk w g cs T) (j : Nat) (v : Value) : Blk (w.setCell ⟨g, j, none⟩ v) g (cs.setIfInBounds j v) T := by
  have h' : w.heap[g]? = some (.cells cs T (0, 0)) := h
  show ((w.heap.modify g _)[g]? : Option Obj) = _
  rw [Array.getElem?_modify, if_pos rfl, h']
  rfl

/-! ### Layouts -/
structure Lay (α : Type) where
  size : Nat
  rd : (Nat → Prop) → World → List Value → α → Prop
  len : ∀ {A w cs x}, rd A w cs x → cs.length = size
  one : ∀ {A w cs x}, rd A w cs x → ∀ u ∈ cs, u.oneCell' = true
  frame : ∀ {A w w' cs x}, rd A w cs x → (∀ k, A k → w'.heap[k]? = w.heap[k]?) → rd A w' cs x
  mono : ∀ {A A' w cs x}, rd A w cs x → (∀ k, A k → A' k) → rd A' w cs x
namespace Lay
variable {α β γ : Type}
theorem fr {l : Lay α} {A S : Nat → Prop} {w w' : World} {cs : List Value} {x : α} (h : l.rd A w cs x) (hf : Fr S w w') (ha : ∀ k, A k → k < w.heap.size ∧ ¬ S k) : l.rd A w' cs x :=
  l.frame h fun k hk => hf.block k (ha k hk).1 (ha k hk).2

/-- One cell that a value fixes. -/
def cell1 (f : α → Value) (h1 : ∀ x, (f x).oneCell' = true) : Lay α where
  size := 1
  rd _ _ cs x := cs = [f x]
  len h := by rw [h]; rfl
  one h u hu := by rw [h] at hu; obtain rfl := List.mem_singleton.1 hu; exact h1 _
  frame h _ := h
  mono h _ := h
def u8 : Lay UInt8 := cell1 (fun x => .int .u8 (x.toNat : Int)) (fun _ => rfl)
def u32 : Lay UInt32 := cell1 (fun x => .int .u32 (x.toNat : Int)) (fun _ => rfl)
def u64 : Lay UInt64 := cell1 (fun x => .int .u64 (x.toNat : Int)) (fun _ => rfl)
def bool : Lay Bool := cell1 (fun x => .bool x) (fun _ => rfl)
def str : Lay ByteArray where
  size := 1
  rd _ _ cs x := cs = [.string x] ∧ x.size ≤ maxLen
  len h := by rw [h.1]; rfl
  one h u hu := by rw [h.1] at hu; obtain rfl := List.mem_singleton.1 hu; rfl
  frame h _ := h
  mono h _ := h
/-- Go's int. -/
def int : Lay Int where
  size := 1
  rd _ _ cs x := cs = [.int .i64 x] ∧ -9223372036854775808 ≤ x ∧ x ≤ 9223372036854775807
  len h := by rw [h.1]; rfl
  one h u hu := by rw [h.1] at hu; obtain rfl := List.mem_singleton.1 hu; rfl
  frame h _ := h
  mono h _ := h
def pair (a : Lay α) (b : Lay β) : Lay (α × β) where
  size := a.size + b.size
  rd A w cs x := ∃ c d, cs = c ++ d ∧ a.rd A w c x.1 ∧ b.rd A w d x.2
  len := by rintro A w cs x ⟨c, d, rfl, h, k⟩; rw [List.length_append, a.len h, b.len k]
  one := by
    rintro A w cs x ⟨c, d, rfl, h, k⟩ u hu
    rcases List.mem_append.1 hu with hu | hu
    · exact a.one h u hu
    · exact b.one k u hu
  frame := by rintro A w w' cs x ⟨c, d, rfl, h, k⟩ hf; exact ⟨c, d, rfl, a.frame h hf, b.frame k hf⟩
  mono := by rintro A A' w cs x ⟨c, d, rfl, h, k⟩ hf; exact ⟨c, d, rfl, a.mono h hf, b.mono k hf⟩
/-- The same cells, read as something else. -/
def via (a : Lay α) (f : β → α) : Lay β where
  size := a.size
  rd A w cs x := a.rd A w cs (f x)
  len h := a.len h
  one h := a.one h
  frame h hf := a.frame h hf
  mono h hf := a.mono h hf

/-- Some elements, one behind the other. -/
def all (l : Lay α) (A : Nat → Prop) (w : World) : List Value → List α → Prop
  | cs, [] => cs = []
  | cs, x :: xs => ∃ c d, cs = c ++ d ∧ l.rd A w c x ∧ all l A w d xs
theorem all_len {l : Lay α} {A : Nat → Prop} {w : World} : ∀ {xs : List α} {cs : List Value}, l.all A w cs xs → cs.length = xs.length * l.size
  | [], _, h => by rw [show _ = _ from h]; simp
  | x :: xs, _, h => by
    obtain ⟨c, d, rfl, h, k⟩ := h
    rw [List.length_append, l.len h, all_len k, List.length_cons, Nat.succ_mul, Nat.add_comm]
theorem all_one {l : Lay α} {A : Nat → Prop} {w : World} : ∀ {xs : List α} {cs : List Value}, l.all A w cs xs → ∀ u ∈ cs, u.oneCell' = true
  | [], _, h, u, hu => by rw [show _ = _ from h] at hu; cases hu
  | x :: xs, _, h, u, hu => by
    obtain ⟨c, d, rfl, h, k⟩ := h
    rcases List.mem_append.1 hu with hu | hu
    · exact l.one h u hu
    · exact all_one k u hu
theorem all_frame {l : Lay α} {A : Nat → Prop} {w w' : World} (hf : ∀ k, A k → w'.heap[k]? = w.heap[k]?) : ∀ {xs : List α} {cs : List Value}, l.all A w cs xs → l.all A w' cs xs
  | [], _, h => h
  | x :: xs, _, h => by
    obtain ⟨c, d, e, h, k⟩ := h
    exact ⟨c, d, e, l.frame h hf, all_frame hf k⟩
theorem all_mono {l : Lay α} {A A' : Nat → Prop} {w : World} (hf : ∀ k, A k → A' k) : ∀ {xs : List α} {cs : List Value}, l.all A w cs xs → l.all A' w cs xs
  | [], _, h => h
  | x :: xs, _, h => by
    obtain ⟨c, d, e, h, k⟩ := h
    exact ⟨c, d, e, l.mono h hf, all_mono hf k⟩
theorem all_append {l : Lay α} {A : Nat → Prop} {w : World} : ∀ {xs : List α} {cs : List Value} {ys : List α} {ds : List Value}, l.all A w cs xs → l.all A w ds ys → l.all A w (cs ++ ds) (xs ++ ys)
  | [], _, _, _, h, k => by rw [show _ = _ from h]; exact k
  | x :: xs, _, _, _, h, k => by
    obtain ⟨c, d, rfl, h, m⟩ := h
    exact ⟨c, _, List.append_assoc _ _ _, h, all_append m k⟩
theorem all_single {l : Lay α} {A : Nat → Prop} {w : World} {c : List Value} {x : α} (h : l.rd A w c x) : l.all A w c [x] := ⟨c, [], (List.append_nil _).symm, h, rfl⟩
theorem all_split {l : Lay α} {A : Nat → Prop} {w : World} : ∀ {xs ys : List α} {cs : List Value}, l.all A w cs (xs ++ ys) → ∃ c d, cs = c ++ d ∧ l.all A w c xs ∧ l.all A w d ys
  | [], _, cs, h => ⟨[], cs, rfl, rfl, h⟩
  | x :: xs, ys, _, h => by
    obtain ⟨c, d, rfl, h, m⟩ := h
    obtain ⟨e, f, rfl, h1, h2⟩ := all_split (xs := xs) m
    exact ⟨c ++ e, f, (List.append_assoc _ _ _).symm, ⟨c, e, rfl, h, h1⟩, h2⟩
/-- Element i and its cells. -/
theorem all_at {l : Lay α} {A : Nat → Prop} {w : World} {xs : List α} {cs : List Value} (h : l.all A w cs xs) (i : Nat) (hi : i < xs.length) :
    ∃ es, l.rd A w es xs[i] ∧ ∀ j, j < l.size → cs[i * l.size + j]? = es[j]? := by
  have hx : xs = xs.take i ++ (xs[i] :: xs.drop (i + 1)) := by rw [← List.drop_eq_getElem_cons hi, List.take_append_drop]
  rw [hx] at h
  obtain ⟨c, d, rfl, h1, es, f, rfl, h2, h3⟩ := all_split h
  refine ⟨es, h2, fun j hj => ?_⟩
  have hl : c.length = i * l.size := by rw [all_len h1, List.length_take, Nat.min_eq_left (by omega)]
  have he := l.len h2
  rw [List.getElem?_append_right (by omega), hl, Nat.add_sub_cancel_left, List.getElem?_append_left (by omega)]

/-- Elements that lead nowhere. -/
def flat (l : Lay α) : Prop := ∀ {A A' : Nat → Prop} {w w' : World} {cs : List Value} {x : α}, l.rd A w cs x → l.rd A' w' cs x
theorem all_flat {l : Lay α} (hl : l.flat) {A A' : Nat → Prop} {w w' : World} : ∀ {xs : List α} {cs : List Value}, l.all A w cs xs → l.all A' w' cs xs
  | [], _, h => h
  | x :: xs, _, h => by
    obtain ⟨c, d, e, h, k⟩ := h
    exact ⟨c, d, e, hl h, all_flat hl k⟩
theorem flat_cell1 (f : α → Value) (h1 : ∀ x, (f x).oneCell' = true) : (cell1 f h1).flat := fun h => h
theorem flat_u8 : u8.flat := fun h => h
theorem flat_u32 : u32.flat := fun h => h
theorem flat_u64 : u64.flat := fun h => h
theorem flat_bool : bool.flat := fun h => h
theorem flat_str : str.flat := fun h => h
theorem flat_int : int.flat := fun h => h
theorem flat_pair {a : Lay α} {b : Lay β} (ha : a.flat) (hb : b.flat) : (a.pair b).flat := fun ⟨c, d, e, h, k⟩ => ⟨c, d, e, ha h, hb k⟩
theorem flat_via {a : Lay α} (ha : a.flat) (f : β → α) : (a.via f).flat := fun h => ha h

/-- A slice, nil or not, of elements. -/
def slice (l : Lay α) : Lay (List α) where
  size := 1
  rd A w cs xs := ∃ a cap, cs = [.slice a xs.length cap] ∧ xs.length ≤ cap ∧ cap ≤ maxLen ∧
    (0 < xs.length → ∃ b o cur T fz flat, a = some ⟨b, o, none⟩ ∧ A b ∧ w.heap[b]? = some (.cells cur T fz) ∧ l.all A w flat xs ∧ ∀ j, j < flat.length → cur[o + j]? = flat[j]?)
  len := by rintro A w cs x ⟨a, cap, rfl, _⟩; rfl
  one := by rintro A w cs x ⟨a, cap, rfl, _⟩ u hu; obtain rfl := List.mem_singleton.1 hu; rfl
  frame := by
    rintro A w w' cs x ⟨a, cap, rfl, h1, h2, h3⟩ hf
    refine ⟨a, cap, rfl, h1, h2, fun hp => ?_⟩
    obtain ⟨b, o, cur, T, fz, flat, e, hA, hh, hall, hc⟩ := h3 hp
    exact ⟨b, o, cur, T, fz, flat, e, hA, (hf b hA).trans hh, all_frame hf hall, hc⟩
  mono := by
    rintro A A' w cs x ⟨a, cap, rfl, h1, h2, h3⟩ hf
    refine ⟨a, cap, rfl, h1, h2, fun hp => ?_⟩
    obtain ⟨b, o, cur, T, fz, flat, e, hA, hh, hall, hc⟩ := h3 hp
    exact ⟨b, o, cur, T, fz, flat, e, hf b hA, hh, all_mono hf hall, hc⟩
/-- What the walk reads of element i. -/
theorem slice_at {l : Lay α} {A : Nat → Prop} {w : World} {a : Option Addr} {n cap : Nat} {xs : List α} (h : (slice l).rd A w [.slice a n cap] xs) (i : Nat) (hi : i < n) :
    ∃ (b o : Nat) (es : List Value) (hi' : i < xs.length), a = some ⟨b, o, none⟩ ∧ A b ∧ b < w.heap.size ∧ l.rd A w es xs[i] ∧ ∀ j, j < l.size → w.cell? ⟨b, o + i * l.size + j, none⟩ = es[j]? := by
  obtain ⟨a', cap', e, h1, h2, h3⟩ := h
  simp only [List.cons.injEq, Value.slice.injEq, and_true] at e
  obtain ⟨rfl, rfl, rfl⟩ := e
  obtain ⟨b, o, cur, T, fz, flat, rfl, hA, hh, hall, hc⟩ := h3 (by omega)
  obtain ⟨es, he, hes⟩ := all_at hall i hi
  have hfl := all_len hall
  refine ⟨b, o, es, hi, rfl, hA, (lt_heap hh), he, fun j hj => ?_⟩
  have hlt : i * l.size + j < flat.length := by
    rw [hfl]
    calc i * l.size + j < i * l.size + l.size := by omega
      _ = (i + 1) * l.size := by rw [Nat.succ_mul]
      _ ≤ xs.length * l.size := Nat.mul_le_mul_right _ hi
  rw [Lib.cell_of_heap hh, Nat.add_assoc, hc _ hlt, hes j hj]
theorem slice_form {l : Lay α} {A : Nat → Prop} {w : World} {v : Value} {xs : List α} (h : (slice l).rd A w [v] xs) : ∃ a cap, v = .slice a xs.length cap ∧ xs.length ≤ cap ∧ cap ≤ maxLen := by
  obtain ⟨a, cap, e, h1, h2, _⟩ := h
  exact ⟨a, cap, by simpa using e, h1, h2⟩
end Lay

/-! ### A row that the call owns, as elements -/
/-- The slice v is the call's own (blocks from lo on); its elements read as xs; what they lead to lies from lo on too, in other blocks than v's own. -/
def Own {α : Type} (l : Lay α) (e : TypeId) (lo : Nat) (w : World) (v : Value) (xs : List α) : Prop :=
  ∃ flat, w.ownsRow lo e l.size v xs.length flat ∧ l.all (fun k => lo ≤ k ∧ k < w.heap.size ∧ some k ≠ v.ownBlock) w flat xs
theorem own_nil {α : Type} (l : Lay α) (e : TypeId) (lo : Nat) (w : World) : Own l e lo w (.slice none 0 0) [] := ⟨[], World.ownsRow_nil _ _ _ _, rfl⟩
theorem Own.lt {α : Type} {l : Lay α} {e : TypeId} {lo : Nat} {w : World} {v : Value} {xs : List α} (h : Own l e lo w v xs) : ∀ k, v.ownBlock = some k → lo ≤ k ∧ k < w.heap.size := by
  obtain ⟨flat, h, _⟩ := h
  exact h.lt
theorem Own.fr {α : Type} {l : Lay α} {e : TypeId} {lo : Nat} {w w' : World} {v : Value} {xs : List α} {S : Nat → Prop} (h : Own l e lo w v xs) (hf : Fr S w w') (hs : ∀ k, lo ≤ k → k < w.heap.size → ¬ S k) : Own l e lo w' v xs := by
  have hlt := h.lt
  obtain ⟨flat, h, k⟩ := h
  refine ⟨flat, ?_, Lay.all_mono (fun k hk => ⟨hk.1, Nat.lt_of_lt_of_le hk.2.1 hf.size, hk.2.2⟩) (Lay.all_frame (fun k hk => hf.block k hk.2.1 (hs k hk.1 hk.2.1)) k)⟩
  obtain ⟨h1, h2⟩ := h
  refine ⟨h1, h2.imp id ?_⟩
  rintro ⟨g, cap, cur, rfl, hg, hh, r⟩
  have := hlt g rfl
  exact ⟨g, cap, cur, rfl, hg, (hf.block g this.2 (hs g this.1 this.2)).trans hh, r⟩
theorem Own.ext {α : Type} {l : Lay α} {e : TypeId} {lo : Nat} {w w' : World} {v : Value} {xs : List α} (h : Own l e lo w v xs) (hf : Ext w w') : Own l e lo w' v xs := h.fr hf (fun _ _ _ h => h)
theorem Own.slice {α : Type} {l : Lay α} {e : TypeId} {lo : Nat} {w : World} {v : Value} {xs : List α} (h : Own l e lo w v xs) : l.slice.rd (fun k => lo ≤ k ∧ k < w.heap.size) w [v] xs := by
  obtain ⟨flat, ⟨h1, h2⟩, k⟩ := h
  rcases h2 with ⟨rfl, h0⟩ | ⟨g, cap, cur, rfl, hg, hh, hn, hm, hs, ht⟩
  · have : xs = [] := List.eq_nil_of_length_eq_zero h0
    subst this
    exact ⟨none, 0, rfl, Nat.le_refl _, by simp [maxLen], fun h => absurd h (by simp)⟩
  · refine ⟨_, cap, rfl, hn, hm, fun _ => ⟨g, 0, cur, e, (0, 0), flat, rfl, ⟨hg, (lt_heap hh)⟩, hh, Lay.all_mono (fun k hk => ⟨hk.1, hk.2.1⟩) k, fun j hj => ?_⟩⟩
    rw [Nat.zero_add, ← ht, List.getElem?_take, if_pos (by omega)]
    simp
theorem Own.form {α : Type} {l : Lay α} {e : TypeId} {lo : Nat} {w : World} {v : Value} {xs : List α} (h : Own l e lo w v xs) : ∃ a cap, v = .slice a xs.length cap ∧ xs.length ≤ cap ∧ cap ≤ maxLen := Lay.slice_form h.slice
theorem Own.shape {α : Type} {l : Lay α} {e : TypeId} {lo : Nat} {w : World} {v : Value} {xs : List α} (h : Own l e lo w v xs) : ∃ a n cap, v = .slice a n cap := by
  obtain ⟨a, cap, e, _⟩ := h.form
  exact ⟨a, _, cap, e⟩
/-- Elements that lead nowhere: the row's own block alone must stand. -/
theorem Own.only {α : Type} {l : Lay α} (hl : l.flat) {e : TypeId} {lo : Nat} {w w' : World} {v : Value} {xs : List α} {S : Nat → Prop} (h : Own l e lo w v xs) (hf : Fr S w w') (hs : ∀ k, v.ownBlock = some k → ¬ S k) : Own l e lo w' v xs := by
  have hlt := h.lt
  obtain ⟨flat, ⟨h1, h2⟩, k⟩ := h
  refine ⟨flat, ⟨h1, h2.imp id ?_⟩, Lay.all_flat hl k⟩
  rintro ⟨g, cap, cur, rfl, hg, hh, r⟩
  exact ⟨g, cap, cur, rfl, hg, (hf.block g (hlt g rfl).2 (hs g rfl)).trans hh, r⟩
/-- A lower base. -/
theorem Own.lower {α : Type} {l : Lay α} {e : TypeId} {lo lo' : Nat} {w : World} {v : Value} {xs : List α} (h : Own l e lo w v xs) (hl : lo' ≤ lo) : Own l e lo' w v xs := by
  obtain ⟨flat, ⟨h1, h2⟩, k⟩ := h
  refine ⟨flat, ⟨h1, h2.imp id ?_⟩, Lay.all_mono (fun k hk => ⟨by omega, hk.2⟩) k⟩
  rintro ⟨g, cap, cur, rfl, hg, r⟩
  exact ⟨g, cap, cur, rfl, by omega, r⟩

section
variable {P : Program} {ops : Array Oper} {rest : List Oper} {o : Oper} {a : Act} {Q : Exit → Act → World → Prop} {K : Act → World → Prop}
/-- 'append(v, ys..)' at the operation: v the call's own, the new cells read at ad. -/
theorem own_append_wp {α : Type} (l : Lay α) {W : World} (lo : Nat) (s x : Operand) (t e : TypeId) (z : Value) (bytes : Nat)
    (ho : o.op = .call { callee := .builtin .append, args := #[s, x], argTypes := #[t, t] })
    (ht : P.underlying t = some (.slice e)) (hinfo : (P.info? e).map (fun i => (i.zero, i.size, i.bytes)) = some (some z, l.size, bytes)) (hz : z.cells.size = l.size) (hb0 : 0 < bytes) (hl0 : 0 < l.size)
    (v : Value) (xs ys : List α) (news : List Value) (ad : Addr) (m c : Nat) (hs : a.eval s = v) (hx : a.eval x = .slice (some ad) m c) (hm : ys.length = m)
    (HO : Own l e lo W v xs) (HN : l.all (fun k => lo ≤ k ∧ k < W.heap.size ∧ some k ≠ v.ownBlock) W news ys) (hnews : ∀ j u, news[j]? = some u → W.cell? (ad.add j) = some u)
    (hlo : lo ≤ W.heap.size) (hl : (xs.length + m) * bytes ≤ 140737488355328)
    (h : ∀ v1 w1, Own l e lo w1 v1 (xs ++ ys) → Fr (fun k => some k = v.ownBlock) W w1 → (v1.ownBlock = v.ownBlock ∨ v1.ownBlock = some W.heap.size) → K (a.put o.dst v1) w1) :
    o.wp P a W K Q := by
  obtain ⟨i0, hi, hzz⟩ := Option.map_eq_some_iff.1 hinfo
  simp only [Prod.mk.injEq] at hzz
  obtain ⟨hz0, hz1, hz2⟩ := hzz
  have hlt := HO.lt
  obtain ⟨flat, HO, HF⟩ := HO
  have hlen : xs.length + m ≤ 140737488355328 := Nat.le_trans (Nat.le_mul_of_pos_right _ hb0) hl
  obtain ⟨v1, w1, hr, hown, hg, _, hat⟩ := run_append_own_at (P := P) W lo t o.type e i0 z l.size bytes ht hi hz0 hz1 hz2 hz hl0 v xs.length flat HO ad m c news (by rw [Lay.all_len HN, hm]) hnews (Lay.all_one HN) (by simp only [maxLen]; omega) hl hlo
  unfold Oper.wp execOp
  simp only [ho, resolve, invoke, builtin, Sem.run_bind, Sem.run_pure, Result.andThen_ok, List.map_toArray, List.map_cons, List.map_nil, hs, hx, hr]
  show K _ _
  refine h v1 w1 ⟨flat ++ news, by rw [List.length_append, hm]; exact hown, ?_⟩ (grown_fr hg) hat
  have hlt1 := hown.lt
  have hA : ∀ k, (lo ≤ k ∧ k < W.heap.size ∧ some k ≠ v.ownBlock) → (lo ≤ k ∧ k < w1.heap.size ∧ some k ≠ v1.ownBlock) := fun k hk => ⟨hk.1, Nat.lt_of_lt_of_le hk.2.1 hg.size, fun e => by
    rcases hat with hat | hat
    · exact hk.2.2 (e.trans hat)
    · rw [hat] at e
      injection e with e
      omega⟩
  exact Lay.all_append (Lay.all_mono hA (Lay.all_frame (fun k hk => hg.block k hk.2.1 hk.2.2) HF)) (Lay.all_mono hA (Lay.all_frame (fun k hk => hg.block k hk.2.1 hk.2.2) HN))
/-- One element, in the block that the walk has just laid for it. -/
theorem own_append1_wp {α : Type} (l : Lay α) {W : World} (lo : Nat) (s x : Operand) (t e : TypeId) (z : Value) (bytes : Nat)
    (ho : o.op = .call { callee := .builtin .append, args := #[s, x], argTypes := #[t, t] })
    (ht : P.underlying t = some (.slice e)) (hinfo : (P.info? e).map (fun i => (i.zero, i.size, i.bytes)) = some (some z, l.size, bytes)) (hz : z.cells.size = l.size) (hb0 : 0 < bytes) (hl0 : 0 < l.size)
    (v : Value) (xs : List α) (y : α) (cs : Array Value) (hs : a.eval s = v) (hx : a.eval x = .slice (some ⟨W.heap.size, 0, none⟩) 1 1)
    (HO : Own l e lo W v xs) (HY : l.rd (fun k => lo ≤ k ∧ k < W.heap.size ∧ some k ≠ v.ownBlock) W cs.toList y)
    (hlo : lo ≤ W.heap.size) (hl : (xs.length + 1) * bytes ≤ 140737488355328)
    (h : ∀ v1 w1, Own l e lo w1 v1 (xs ++ [y]) → Fr (fun k => some k = v.ownBlock) W w1 → (∀ k, v1.ownBlock = some k → v.ownBlock = some k ∨ W.heap.size ≤ k) → K (a.put o.dst v1) w1) :
    o.wp P a (W.alloc (.cells cs e)) K Q := by
  have hlt := HO.lt
  refine own_append_wp l lo s x t e z bytes ho ht hinfo hz hb0 hl0 v xs [y] cs.toList ⟨W.heap.size, 0, none⟩ 1 1 hs hx rfl (HO.ext (ext_alloc _ _)) ?_ ?_ (by simp; omega) hl ?_
  · exact Lay.all_single (l.mono (l.frame HY (fun k hk => Below.heap_alloc _ _ _ hk.2.1)) (fun k hk => ⟨hk.1, by simp; omega, hk.2.2⟩))
  · intro j u hj
    rw [show ((⟨W.heap.size, 0, none⟩ : Addr).add j) = ⟨W.heap.size, j, none⟩ from by unfold Addr.add; split <;> simp_all, (blk_new W cs e).cell j]
    simpa using hj
  · intro v1 w1 h1 h2 h3
    refine h v1 w1 h1 (Fr.trans (ext_alloc W _) h2 (fun _ _ h => h.elim) (fun _ _ h => h)) (fun k hk => ?_)
    rcases h3 with h3 | h3
    · exact .inl (h3 ▸ hk)
    · rw [h3] at hk
      injection hk with hk
      refine .inr ?_
      simp at hk
      omega
/-- 'append(v, ys...)', ys a slice that is read, nil let in. -/
theorem own_appends_wp {α : Type} (l : Lay α) {W : World} (lo : Nat) (s x : Operand) (t e : TypeId) (z : Value) (bytes : Nat)
    (ho : o.op = .call { callee := .builtin .append, args := #[s, x], argTypes := #[t, t] })
    (ht : P.underlying t = some (.slice e)) (hinfo : (P.info? e).map (fun i => (i.zero, i.size, i.bytes)) = some (some z, l.size, bytes)) (hz : z.cells.size = l.size) (hb0 : 0 < bytes) (hl0 : 0 < l.size)
    (v : Value) (xs ys : List α) (aa : Option Addr) (m c : Nat) {A : Nat → Prop} (hs : a.eval s = v) (hx : a.eval x = .slice aa m c)
    (HO : Own l e lo W v xs) (HR : l.slice.rd A W [.slice aa m c] ys) (HF : ∀ flat, l.all A W flat ys → l.all (fun k => lo ≤ k ∧ k < W.heap.size ∧ some k ≠ v.ownBlock) W flat ys)
    (hlo : lo ≤ W.heap.size) (hl : (xs.length + ys.length) * bytes ≤ 140737488355328)
    (h : ∀ v1 w1, Own l e lo w1 v1 (xs ++ ys) → Fr (fun k => some k = v.ownBlock) W w1 → (∀ k, v1.ownBlock = some k → v.ownBlock = some k ∨ W.heap.size ≤ k) → K (a.put o.dst v1) w1) :
    o.wp P a W K Q := by
  have hm : ys.length = m := by
    obtain ⟨a', cap', e', _⟩ := HR
    simp only [List.cons.injEq, Value.slice.injEq, and_true] at e'
    exact e'.2.1.symm
  have hfin : ∀ v1 w1, Own l e lo w1 v1 (xs ++ ys) → Fr (fun k => some k = v.ownBlock) W w1 → (v1.ownBlock = v.ownBlock ∨ v1.ownBlock = some W.heap.size) → K (a.put o.dst v1) w1 := fun v1 w1 h1 h2 h3 =>
    h v1 w1 h1 h2 (fun k hk => by
      rcases h3 with h3 | h3
      · exact .inl (h3 ▸ hk)
      · rw [h3] at hk; injection hk with hk; exact .inr (Nat.le_of_eq hk))
  rcases aa with _ | ad
  · have h0 : ys = [] := by
      obtain ⟨a', cap', e', _, _, h3⟩ := HR
      simp only [List.cons.injEq, Value.slice.injEq, and_true] at e'
      obtain ⟨rfl, -, -⟩ := e'
      rcases Nat.eq_zero_or_pos ys.length with h | h
      · exact List.eq_nil_of_length_eq_zero h
      · obtain ⟨_, _, _, _, _, _, h, _⟩ := h3 h
        cases h
    subst h0
    obtain rfl : m = 0 := hm.symm
    obtain ⟨i0, hi, hzz⟩ := Option.map_eq_some_iff.1 hinfo
    simp only [Prod.mk.injEq] at hzz
    obtain ⟨hz0, hz1, hz2⟩ := hzz
    have hrun : (Builtin.append_ #[t, t] o.type #[v, .slice none 0 c]).run P W = .ok v W := by
      obtain ⟨flat, HO, _⟩ := HO
      rcases HO.2 with ⟨rfl, hn⟩ | ⟨g, cap, cur, rfl, _, _, hnc, _⟩
      · simp [Builtin.append_, run_underlying ht, sizeOf, typeInfo, hi, Builtin.lenOf, Builtin.firstCells]
      · simp [Builtin.append_, run_underlying ht, sizeOf, typeInfo, hi, Builtin.lenOf, Builtin.firstCells, hnc, storeCells]
    unfold Oper.wp execOp
    simp only [ho, resolve, invoke, builtin, Sem.run_bind, Sem.run_pure, Result.andThen_ok, List.map_toArray, List.map_cons, List.map_nil, hs, hx, hrun]
    exact (hfin v W (by rw [List.append_nil]; exact HO) (Fr.refl _ _) (.inl rfl))
  · rcases Nat.eq_zero_or_pos m with h0 | h0
    · have h0' : ys = [] := List.eq_nil_of_length_eq_zero (by omega)
      subst h0'
      exact own_append_wp l lo s x t e z bytes ho ht hinfo hz hb0 hl0 v xs [] [] ad m c hs hx hm HO rfl (by simp) hlo (by rw [← hm]; exact hl) hfin
    · obtain ⟨a', cap', e', _, _, h3⟩ := HR
      simp only [List.cons.injEq, Value.slice.injEq, and_true] at e'
      obtain ⟨rfl, -, -⟩ := e'
      obtain ⟨b, of, cur, T, fz, flat, e'', hA, hh, hall, hc⟩ := h3 (by omega)
      injection e'' with e''
      subst e''
      refine own_append_wp l lo s x t e z bytes ho ht hinfo hz hb0 hl0 v xs ys flat _ m c hs hx hm HO (HF flat hall) (fun j u hj => ?_) hlo (by rw [← hm]; exact hl) hfin
      have hlt : j < flat.length := by
        rcases Nat.lt_or_ge j flat.length with h | h
        · exact h
        · rw [List.getElem?_eq_none h] at hj; cases hj
      rw [addr_add, Lib.cell_of_heap hh, hc j hlt, hj]
/-- 'append(v, ys..)' at the operation: v the call's own, the new cells read at ad. -/
theorem own_append {α : Type} (l : Lay α) {W : World} (lo : Nat) (hgd : o.guard = none) (s x : Operand) (t e : TypeId) (z : Value) (bytes : Nat)
    (ho : o.op = .call { callee := .builtin .append, args := #[s, x], argTypes := #[t, t] })
    (ht : P.underlying t = some (.slice e)) (hinfo : (P.info? e).map (fun i => (i.zero, i.size, i.bytes)) = some (some z, l.size, bytes)) (hz : z.cells.size = l.size) (hb0 : 0 < bytes) (hl0 : 0 < l.size)
    (v : Value) (xs ys : List α) (news : List Value) (ad : Addr) (m c : Nat) (hs : a.eval s = v) (hx : a.eval x = .slice (some ad) m c) (hm : ys.length = m)
    (HO : Own l e lo W v xs) (HN : l.all (fun k => lo ≤ k ∧ k < W.heap.size ∧ some k ≠ v.ownBlock) W news ys) (hnews : ∀ j u, news[j]? = some u → W.cell? (ad.add j) = some u)
    (hlo : lo ≤ W.heap.size) (hl : (xs.length + m) * bytes ≤ 140737488355328)
    (h : ∀ v1 w1, Own l e lo w1 v1 (xs ++ ys) → Fr (fun k => some k = v.ownBlock) W w1 → (v1.ownBlock = v.ownBlock ∨ v1.ownBlock = some W.heap.size) → wpList P ops Q rest (a.put o.dst v1) w1) :
    wpList P ops Q (o :: rest) a W :=
  wpList_plain hgd fun _ hK => own_append_wp l lo s x t e z bytes ho ht hinfo hz hb0 hl0 v xs ys news ad m c hs hx hm HO HN hnews hlo hl fun v1 w1 h1 h2 h3 => hK _ _ (h v1 w1 h1 h2 h3)
/-- One element, in the block that the walk has just laid for it. -/
theorem own_append1 {α : Type} (l : Lay α) {W : World} (lo : Nat) (hgd : o.guard = none) (s x : Operand) (t e : TypeId) (z : Value) (bytes : Nat)
    (ho : o.op = .call { callee := .builtin .append, args := #[s, x], argTypes := #[t, t] })
    (ht : P.underlying t = some (.slice e)) (hinfo : (P.info? e).map (fun i => (i.zero, i.size, i.bytes)) = some (some z, l.size, bytes)) (hz : z.cells.size = l.size) (hb0 : 0 < bytes) (hl0 : 0 < l.size)
    (v : Value) (xs : List α) (y : α) (cs : Array Value) (hs : a.eval s = v) (hx : a.eval x = .slice (some ⟨W.heap.size, 0, none⟩) 1 1)
    (HO : Own l e lo W v xs) (HY : l.rd (fun k => lo ≤ k ∧ k < W.heap.size ∧ some k ≠ v.ownBlock) W cs.toList y)
    (hlo : lo ≤ W.heap.size) (hl : (xs.length + 1) * bytes ≤ 140737488355328)
    (h : ∀ v1 w1, Own l e lo w1 v1 (xs ++ [y]) → Fr (fun k => some k = v.ownBlock) W w1 → (∀ k, v1.ownBlock = some k → v.ownBlock = some k ∨ W.heap.size ≤ k) → wpList P ops Q rest (a.put o.dst v1) w1) :
    wpList P ops Q (o :: rest) a (W.alloc (.cells cs e)) :=
  wpList_plain hgd fun _ hK => own_append1_wp l lo s x t e z bytes ho ht hinfo hz hb0 hl0 v xs y cs hs hx HO HY hlo hl fun v1 w1 h1 h2 h3 => hK _ _ (h v1 w1 h1 h2 h3)
/-- 'append(v, ys...)', ys a slice that is read, nil let in. -/
theorem own_appends {α : Type} (l : Lay α) {W : World} (lo : Nat) (hgd : o.guard = none) (s x : Operand) (t e : TypeId) (z : Value) (bytes : Nat)
    (ho : o.op = .call { callee := .builtin .append, args := #[s, x], argTypes := #[t, t] })
    (ht : P.underlying t = some (.slice e)) (hinfo : (P.info? e).map (fun i => (i.zero, i.size, i.bytes)) = some (some z, l.size, bytes)) (hz : z.cells.size = l.size) (hb0 : 0 < bytes) (hl0 : 0 < l.size)
    (v : Value) (xs ys : List α) (aa : Option Addr) (m c : Nat) {A : Nat → Prop} (hs : a.eval s = v) (hx : a.eval x = .slice aa m c)
    (HO : Own l e lo W v xs) (HR : l.slice.rd A W [.slice aa m c] ys) (HF : ∀ flat, l.all A W flat ys → l.all (fun k => lo ≤ k ∧ k < W.heap.size ∧ some k ≠ v.ownBlock) W flat ys)
    (hlo : lo ≤ W.heap.size) (hl : (xs.length + ys.length) * bytes ≤ 140737488355328)
    (h : ∀ v1 w1, Own l e lo w1 v1 (xs ++ ys) → Fr (fun k => some k = v.ownBlock) W w1 → (∀ k, v1.ownBlock = some k → v.ownBlock = some k ∨ W.heap.size ≤ k) → wpList P ops Q rest (a.put o.dst v1) w1) :
    wpList P ops Q (o :: rest) a W :=
  wpList_plain hgd fun _ hK => own_appends_wp l lo s x t e z bytes ho ht hinfo hz hb0 hl0 v xs ys aa m c hs hx HO HR HF hlo hl fun v1 w1 h1 h2 h3 => hK _ _ (h v1 w1 h1 h2 h3)
end

/-- Element i of a slice of ints, as the walk reads it. -/
theorem int_at {A : Nat → Prop} {w : World} {a : Option Addr} {n cap : Nat} {xs : List Int} (h : Lay.int.slice.rd A w [.slice a n cap] xs) (i : Nat) (hi : i < xs.length) :
    ∃ (b o : Nat), a = some ⟨b, o, none⟩ ∧ A b ∧ w.cell? ⟨b, o + i, none⟩ = some (.int .i64 xs[i]) ∧ -9223372036854775808 ≤ xs[i] ∧ xs[i] ≤ 9223372036854775807 := by
  have hn : xs.length = n := by
    obtain ⟨_, _, e, _⟩ := h
    simp only [List.cons.injEq, Value.slice.injEq, and_true] at e
    exact e.2.1.symm
  obtain ⟨b, o, es, hi', e, hA, _, hr, hc⟩ := Lay.slice_at h i (by omega)
  refine ⟨b, o, e, hA, ?_, hr.2⟩
  have := hc 0 (by decide)
  rw [hr.1, show o + i * Lay.int.size + 0 = o + i from by show o + i * 1 + 0 = o + i; omega] at this
  exact this

/-! ### string(bytes) -/
/-- The string of some bytes. -/
def strOf (l : List UInt8) : ByteArray := ⟨l.toArray⟩
theorem strOf_data (l : List UInt8) : (strOf l).data.toList = l := rfl
theorem strOf_size (l : List UInt8) : (strOf l).size = l.length := rfl
theorem strOf_inj {l m : List UInt8} (h : strOf l = strOf m) : l = m := by have := congrArg (fun s : ByteArray => s.data.toList) h; exact this
theorem strOfNums_bytes (l : List UInt8) : strOfNums (l.map fun b => (b.toNat : Int)) = strOf l := by
  unfold strOfNums strOf
  congr 1
  congr 1
  rw [List.map_map]
  conv => rhs; rw [← List.map_id l]
  exact List.map_congr_left fun _ _ => by simp
theorem u8_cells {A : Nat → Prop} {w : World} : ∀ {l : List UInt8} {cs : List Value}, Lay.u8.all A w cs l → cs = l.map fun b => Value.int .u8 (b.toNat : Int)
  | [], _, h => h
  | b :: l, _, h => by
    obtain ⟨c, d, rfl, h, k⟩ := h
    rw [show c = [.int .u8 (b.toNat : Int)] from h, u8_cells k]
    rfl
theorem u8_all {A : Nat → Prop} {w : World} : ∀ (l : List UInt8), Lay.u8.all A w (l.map fun b => Value.int .u8 (b.toNat : Int)) l
  | [] => rfl
  | _ :: l => ⟨[_], _, rfl, rfl, u8_all l⟩
theorem conv_str {P : Program} {A : Nat → Prop} {w : World} {v : Value} {l : List UInt8} (h : Lay.u8.slice.rd A w [v] l) (hA : ∀ k, A k → k < w.heap.size) (src dst e : TypeId) (hs : P.underlying src = some (.slice e)) (he : P.underlying e = some (.int .u8)) (hd : P.underlying dst = some .string) :
    ∀ W, Ext w W → (convert src dst v).run P W = .ok (.string (strOf l)) W := by
  intro W hx
  have h := Lay.fr h hx (fun k hk => ⟨hA k hk, fun h => h⟩)
  obtain ⟨a, cap, e', h1, h2, h3⟩ := h
  obtain rfl : v = .slice a l.length cap := by simpa using e'
  rcases Nat.eq_zero_or_pos l.length with h0 | h0
  · obtain rfl : l = [] := List.eq_nil_of_length_eq_zero h0
    show (convert src dst (.slice a 0 cap)).run P W = _
    rw [run_convert_bytes_string W src dst e _ 0 cap hs he hd]
    cases a <;> simp [Conv.bytesToString, loadCells]
    all_goals rfl
  · obtain ⟨b, o, cur, T, fz, flat, rfl, hb, hh, hall, hc⟩ := h3 h0
    rw [← strOfNums_bytes]
    refine run_convert_bytes_arg W src e hs he b o l.length cap _ (by simp) (fun i hi => ?_) dst hd
    have hfl := u8_cells hall
    rw [Lib.cell_of_heap hh, hc i (by rw [hfl]; simpa using hi), hfl]
    simp [hi]
end Go.Proofs.YtkbadfljmbeciaaGreatDoor
/- More on frames and appends. No program here. -/
namespace Go.Proofs.YtkbadfljmbeciaaGreatDoor
section
variable {P : Program} {ops : Array Oper} {rest : List Oper} {o : Oper} {a : Act} {Q : Exit → Act → World → Prop} {K : Act → World → Prop}
/-- One element, in the block that the walk has just laid for it; its number spelled by the caller. -/
theorem own_append1n {α : Type} (l : Lay α) {W : World} (lo n : Nat) (hn : W.heap.size = n) (hgd : o.guard = none) (s x : Operand) (t e : TypeId) (z : Value) (bytes : Nat)
    (ho : o.op = .call { callee := .builtin .append, args := #[s, x], argTypes := #[t, t] })
    (ht : P.underlying t = some (.slice e)) (hinfo : (P.info? e).map (fun i => (i.zero, i.size, i.bytes)) = some (some z, l.size, bytes)) (hz : z.cells.size = l.size) (hb0 : 0 < bytes) (hl0 : 0 < l.size)
    (v : Value) (xs : List α) (y : α) (cs : Array Value) (hs : a.eval s = v) (hx : a.eval x = .slice (some ⟨n, 0, none⟩) 1 1)
    (HO : Own l e lo W v xs) (HY : l.rd (fun k => lo ≤ k ∧ k < W.heap.size ∧ some k ≠ v.ownBlock) W cs.toList y)
    (hlo : lo ≤ W.heap.size) (hl : (xs.length + 1) * bytes ≤ 140737488355328)
    (h : ∀ v1 w1, Own l e lo w1 v1 (xs ++ [y]) → Fr (fun k => some k = v.ownBlock) W w1 → (∀ k, v1.ownBlock = some k → v.ownBlock = some k ∨ W.heap.size ≤ k) → wpList P ops Q rest (a.put o.dst v1) w1) :
    wpList P ops Q (o :: rest) a (W.alloc (.cells cs e)) := by
  subst hn
  exact own_append1 l lo hgd s x t e z bytes ho ht hinfo hz hb0 hl0 v xs y cs hs hx HO HY hlo hl h
end
/-- What changes only from the heap's end on changes nothing. -/
theorem ext_up {w W : World} (h : Fr (fun k => w.heap.size ≤ k) w W) : Ext w W := h.mono (fun k hk h => absurd hk (by have h' : w.heap.size ≤ k := h; omega))
theorem Fr.new {w W : World} {S : Nat → Prop} (h : Fr S w W) (hS : ∀ k, S k → w.heap.size ≤ k) : Ext w W := h.mono (fun k hk h => absurd hk (by have := hS k h; omega))
end Go.Proofs.YtkbadfljmbeciaaGreatDoor
/- Instructions as trees, and how they lie. -/
namespace Go.Proofs.YtkbadfljmbeciaaGreatDoor
open Go.RowKit
/-- An instruction of plain data: opcode, arguments (kind, bits), structured, type, body. -/
inductive Ins where
  | mk (op : Int) (args : List (Int × UInt64)) (st : Bool) (ty : Int) (body : List Ins)
namespace Ins
def op : Ins → Int | mk o _ _ _ _ => o
def args : Ins → List (Int × UInt64) | mk _ a _ _ _ => a
def st : Ins → Bool | mk _ _ s _ _ => s
def ty : Ins → Int | mk _ _ _ t _ => t
def body : Ins → List Ins | mk _ _ _ _ b => b
end Ins
namespace Lay
/-- Nothing lies so. -/
def never (α : Type) (n : Nat) : Lay α where
  size := n
  rd _ _ _ _ := False
  len h := h.elim
  one h := h.elim
  frame h := h.elim
  mono h := h.elim
def arg : Lay (Int × UInt64) := int.pair u64
theorem flat_arg : arg.flat := flat_pair flat_int flat_u64
/-- Trees of depth below n. -/
def ins : Nat → Lay Ins
  | 0 => never Ins 5
  | n + 1 => (int.pair (arg.slice.pair (bool.pair (int.pair (ins n).slice)))).via (fun i => (i.op, i.args, i.st, i.ty, i.body))
theorem ins_size : ∀ n, (ins n).size = 5
  | 0 => rfl
  | _ + 1 => rfl
/-- An instruction's five cells. -/
theorem ins_cells {n : Nat} {A : Nat → Prop} {w : World} {cs : List Value} {x : Ins} (h : (ins n).rd A w cs x) :
    ∃ m aa an ac ba bn bc, n = m + 1 ∧ cs = [.int .i64 x.op, .slice aa an ac, .bool x.st, .int .i64 x.ty, .slice ba bn bc] ∧
      (-9223372036854775808 ≤ x.op ∧ x.op ≤ 9223372036854775807) ∧ (-9223372036854775808 ≤ x.ty ∧ x.ty ≤ 9223372036854775807) ∧
      arg.slice.rd A w [.slice aa an ac] x.args ∧ (ins m).slice.rd A w [.slice ba bn bc] x.body := by
  cases n with
  | zero => exact h.elim
  | succ m =>
    obtain ⟨c1, r1, rfl, ⟨rfl, o1, o2⟩, c2, r2, rfl, h2, c3, r3, rfl, h3, c4, r4, rfl, ⟨rfl, t1, t2⟩, h5⟩ := h
    obtain ⟨a2, k2, rfl, e1, e2, e3⟩ := id h2
    obtain ⟨a5, k5, rfl, f1, f2, f3⟩ := id h5
    obtain rfl : c3 = [.bool x.st] := h3
    exact ⟨m, a2, _, k2, a5, _, k5, rfl, rfl, ⟨o1, o2⟩, ⟨t1, t2⟩, h2, h5⟩
theorem all_imp {α : Type} {l l' : Lay α} {A : Nat → Prop} {w : World} (h : ∀ cs x, l.rd A w cs x → l'.rd A w cs x) : ∀ {xs : List α} {cs : List Value}, l.all A w cs xs → l'.all A w cs xs
  | [], _, k => k
  | x :: xs, _, k => by
    obtain ⟨c, d, e, h1, h2⟩ := k
    exact ⟨c, d, e, h _ _ h1, all_imp h h2⟩
theorem slice_imp {α : Type} {l l' : Lay α} {A : Nat → Prop} {w : World} (h : ∀ cs x, l.rd A w cs x → l'.rd A w cs x) {cs : List Value} {xs : List α} (k : l.slice.rd A w cs xs) : l'.slice.rd A w cs xs := by
  obtain ⟨a, cap, e, h1, h2, h3⟩ := k
  refine ⟨a, cap, e, h1, h2, fun hp => ?_⟩
  obtain ⟨b, o, cur, T, fz, flat, e, hA, hh, hall, hc⟩ := h3 hp
  exact ⟨b, o, cur, T, fz, flat, e, hA, hh, all_imp h hall, hc⟩
theorem ins_succ {A : Nat → Prop} {w : World} : ∀ (n : Nat) (cs : List Value) (x : Ins), (ins n).rd A w cs x → (ins (n + 1)).rd A w cs x
  | 0, _, _, h => h.elim
  | n + 1, _, _, h => by
    obtain ⟨c1, r1, rfl, h1, c2, r2, rfl, h2, c3, r3, rfl, h3, c4, r4, rfl, h4, h5⟩ := h
    exact ⟨c1, _, rfl, h1, c2, _, rfl, h2, c3, _, rfl, h3, c4, _, rfl, h4, slice_imp (ins_succ n) h5⟩
theorem ins_le {A : Nat → Prop} {w : World} {n m : Nat} (h : n ≤ m) {cs : List Value} {x : Ins} (k : (ins n).rd A w cs x) : (ins m).rd A w cs x := by
  induction h with
  | refl => exact k
  | step _ ih => exact ins_succ _ _ _ ih
/-- Instruction i of a row: its five cells, as the walk reads them. -/
theorem ins_at {n : Nat} {A : Nat → Prop} {w : World} {aa : Option Addr} {m c : Nat} {l : List Ins} (h : (ins n).slice.rd A w [.slice aa m c] l) (i : Nat) (hi : i < l.length) :
    ∃ k b o a1 n1 c1 a2 n2 c2, n = k + 1 ∧ aa = some ⟨b, o, none⟩ ∧ A b ∧ w.cell? ⟨b, o + i * 5, none⟩ = some (.int .i64 l[i].op) ∧ w.cell? ⟨b, o + i * 5 + 1, none⟩ = some (.slice a1 n1 c1) ∧
      w.cell? ⟨b, o + i * 5 + 2, none⟩ = some (.bool l[i].st) ∧ w.cell? ⟨b, o + i * 5 + 3, none⟩ = some (.int .i64 l[i].ty) ∧ w.cell? ⟨b, o + i * 5 + 4, none⟩ = some (.slice a2 n2 c2) ∧
      (-9223372036854775808 ≤ l[i].op ∧ l[i].op ≤ 9223372036854775807) ∧ (-9223372036854775808 ≤ l[i].ty ∧ l[i].ty ≤ 9223372036854775807) ∧
      arg.slice.rd A w [.slice a1 n1 c1] l[i].args ∧ (ins k).slice.rd A w [.slice a2 n2 c2] l[i].body := by
  have hm : m = l.length := by obtain ⟨_, _, e, _⟩ := h; simp only [List.cons.injEq, Value.slice.injEq, and_true] at e; exact e.2.1
  obtain ⟨b, o, es, hi', e, hA, _, hr, hc⟩ := slice_at h i (by omega)
  obtain ⟨k, a1, n1, c1, a2, n2, c2, hn, he, h1, h2, h3, h4⟩ := ins_cells hr
  rw [ins_size] at hc
  subst he
  exact ⟨k, b, o, a1, n1, c1, a2, n2, c2, hn, e, hA, hc 0 (by omega), hc 1 (by omega), hc 2 (by omega), hc 3 (by omega), hc 4 (by omega), h1, h2, h3, h4⟩
end Lay
end Go.Proofs.YtkbadfljmbeciaaGreatDoor
/- What a code entry says, in plain Lean. -/
namespace Go.Proofs.YtkbadfljmbeciaaGreatDoor
open Go.RowKit
mutual
/-- How many instructions, bodies' too. -/
def count1 : Ins → Nat
  | .mk _ _ _ _ b => 1 + countL b
def countL : List Ins → Nat
  | [] => 0
  | x :: xs => count1 x + countL xs
end
/-- The kinds of an opcode's arguments. -/
def kindsOf (op : Int) : Option (List Int) :=
  if op = 0 ∨ op = 1 ∨ op = 15 ∨ op = 26 ∨ op = 27 then some []
  else if op = 12 ∨ op = 13 ∨ op = 16 ∨ op = 32 ∨ op = 33 ∨ op = 34 ∨ op = 35 ∨ op = 36 then some [2]
  else if op = 17 then some [2, 5]
  else if op = 40 ∨ op = 54 then some [0, 0]
  else if op = 65 then some [0]
  else if op = 66 then some [1]
  else if op = 67 then some [3]
  else if op = 68 then some [4]
  else if 69 ≤ op ∧ op ≤ 191 then some [] else none
def structuredOp (op : Int) : Bool := decide (op = 2) || decide (op = 3) || decide (op = 4)
def argOk (k : Int) (a : Int × UInt64) : Bool := decide (a.1 = k) && !(decide (k = 5) && decide (255 < a.2.toNat)) && !((decide (k = 0) || decide (k = 2) || decide (k = 3)) && decide (4294967295 < a.2.toNat))
def argsOk : List Int → List (Int × UInt64) → Bool
  | [], [] => true
  | k :: ks, a :: as => argOk k a && argsOk ks as
  | _, _ => false
mutual
def legal1 : Int → Ins → Bool
  | d, .mk op args st ty body => decide (st = structuredOp op) && decide (d ≤ 100) &&
    (if structuredOp op then decide (args.length = 0) && decide (-1 ≤ ty) && decide (ty ≤ 3) && legalL (d + 1) body
     else match kindsOf op with
       | some ks => argsOk ks args && decide (ty = 0) && decide (body.length = 0)
       | none => false)
def legalL : Int → List Ins → Bool
  | _, [] => true
  | d, x :: xs => legal1 d x && legalL d xs
end
def localOk (x : UInt32 × Int) : Bool := decide (0 ≤ x.2) && decide (x.2 ≤ 3)
def legalCode (ls : List (UInt32 × Int)) (l : List Ins) : Bool := ls.all localOk && legalL 0 l
/-- Low byte first. -/
def lowBytes : Nat → Nat → List UInt8
  | 0, _ => []
  | n + 1, v => UInt8.ofNat (v % 256) :: lowBytes n (v / 256)
def argBytes (a : Int × UInt64) : List UInt8 :=
  if a.1 = 0 then sleb ((((a.2.toNat : Int) + 2147483648) % 4294967296) - 2147483648)
  else if a.1 = 1 then sleb ((((a.2.toNat : Int) + 9223372036854775808) % 18446744073709551616) - 9223372036854775808)
  else if a.1 = 2 then uleb (a.2.toNat % 4294967296)
  else if a.1 = 3 then lowBytes 4 a.2.toNat
  else if a.1 = 4 then lowBytes 8 a.2.toNat
  else if a.1 = 5 then [UInt8.ofNat (a.2.toNat % 256)]
  else uleb a.2.toNat
def typeByte (t : Int) : UInt8 := if 0 ≤ t then UInt8.ofNat ((127 - t) % 256).toNat else 64
mutual
def insB1 : Ins → List UInt8
  | .mk op args st ty body => UInt8.ofNat (op % 256).toNat :: (if st then typeByte ty :: (insBL body ++ [11]) else args.flatMap argBytes)
/-- Without the end. -/
def insBL : List Ins → List UInt8
  | [] => []
  | x :: xs => insB1 x ++ insBL xs
end
end Go.Proofs.YtkbadfljmbeciaaGreatDoor
/- What fits. No program here. -/
namespace Go.Proofs.YtkbadfljmbeciaaGreatDoor
mutual
/-- What fits: no list is longer than 2^20. -/
def fit1 : Ins → Prop
  | .mk _ args _ _ body => args.length ≤ 1048576 ∧ body.length ≤ 1048576 ∧ fitA body
def fitA : List Ins → Prop
  | [] => True
  | x :: xs => fit1 x ∧ fitA xs
end
theorem fitA_at : ∀ {l : List Ins}, fitA l → ∀ (i : Nat) (h : i < l.length), fit1 l[i]
  | _ :: _, h, 0, _ => h.1
  | _ :: _, h, i + 1, hi => fitA_at h.2 i (by simpa using hi)
end Go.Proofs.YtkbadfljmbeciaaGreatDoor
/- What the reference's reader makes of bytes: a model, in plain Lean. -/
namespace Go.Proofs.YtkbadfljmbeciaaGreatDoor
/-- What is left, and the verdict: 0 good, 1 bad, 2 wide, 3 ends. -/
structure St where
  b : List UInt8
  v : Nat
def St.fail (s : St) (n : Nat) : St := ⟨[], if s.v = 0 then n else s.v⟩
def rByte (s : St) : Nat × St :=
  match s.b with
  | [] => (0, s.fail 3)
  | c :: r => (c.toNat, ⟨r, s.v⟩)
/-- An unsigned number of at most some bits: shift, what was gathered, how many bytes. -/
def unsG (bits : Nat) : Nat → Nat → Nat → List UInt8 → Nat × Nat
  | _, _, _, [] => (0, 0)
  | sh, acc, n, c :: r =>
    if bits ≤ sh then (0, 0)
    else if bits - sh < 7 ∧ c.toNat % 128 / 2 ^ (bits - sh) ≠ 0 then (0, 0)
    else if c.toNat < 128 then (acc ||| (c.toNat % 128 * 2 ^ sh % 2 ^ 64), n + 1)
    else unsG bits (sh + 7) (acc ||| (c.toNat % 128 * 2 ^ sh % 2 ^ 64)) (n + 1) r
def uns (bits : Nat) (b : List UInt8) : Nat × Nat := unsG bits 0 0 0 b
def endedB (bits : Nat) (b : List UInt8) : Bool := b.all (fun c => decide (128 ≤ c.toNat)) && decide (7 * b.length < bits)
/-- The top bits of a last byte of a signed number are not all alike. -/
def badTop (left c : Nat) : Bool :=
  let t : Int := (((c * 2 % 256 : Nat) : Int) + 128) % 256 - 128
  (decide (t / 2 ^ left ≠ 0) && decide (t / 2 ^ left ≠ -1)) || decide (128 ≤ c)
/-- A signed number: its 64 bits, how many bytes. -/
def sigG (bits : Nat) : Nat → Nat → Nat → List UInt8 → Nat × Nat
  | _, _, _, [] => (0, 0)
  | sh, acc, n, c :: r =>
    if bits ≤ sh then (0, 0)
    else if bits - sh < 7 ∧ badTop (bits - sh) c.toNat = true then (0, 0)
    else if c.toNat < 128 then
      (if 64 ≤ c.toNat ∧ sh + 7 < 64 then (acc ||| (c.toNat % 128 * 2 ^ sh % 2 ^ 64)) ||| (2 ^ 64 - 2 ^ (sh + 7)) else acc ||| (c.toNat % 128 * 2 ^ sh % 2 ^ 64), n + 1)
    else sigG bits (sh + 7) (acc ||| (c.toNat % 128 * 2 ^ sh % 2 ^ 64)) (n + 1) r
def sig (bits : Nat) (b : List UInt8) : Nat × Nat := sigG bits 0 0 0 b
def rNumber (s : St) : Nat × St :=
  if (uns 32 s.b).2 = 0 then (0, s.fail (if endedB 32 s.b then 3 else 2)) else ((uns 32 s.b).1 % 4294967296, ⟨s.b.drop (uns 32 s.b).2, s.v⟩)
def rSigned (bits : Nat) (s : St) : Nat × St :=
  if (sig bits s.b).2 = 0 then (0, s.fail (if endedB bits s.b then 3 else 2)) else ((if bits = 32 then (sig bits s.b).1 % 4294967296 else (sig bits s.b).1), ⟨s.b.drop (sig bits s.b).2, s.v⟩)
def rCount (s : St) : Nat × St :=
  if (rNumber s).2.b.length < (rNumber s).1 then (0, if 10000 < (rNumber s).1 then ⟨[], 2⟩ else (rNumber s).2.fail 3) else rNumber s
def rValueType (s : St) : Int × St :=
  (127 - ((rByte s).1 : Int), if (rByte s).2.v = 0 ∧ ((rByte s).1 < 124 ∨ 127 < (rByte s).1) then (rByte s).2.fail 1 else (rByte s).2)
def rTake (n : Nat) (s : St) : List UInt8 × St :=
  if s.b.length < n then ([], if 1048576 < n then ⟨[], 2⟩ else s.fail 3) else (s.b.take n, ⟨s.b.drop n, s.v⟩)
def leNat : List UInt8 → Nat
  | [] => 0
  | c :: r => c.toNat + 256 * leNat r
def rBits (k : Int) (s : St) : Nat × St :=
  if k = 0 then rSigned 32 s
  else if k = 1 then ((rSigned 64 s).1, if 9223372036854775808 ≤ (rSigned 64 s).1 ∧ 4 + (rSigned 64 s).2.b.length < s.b.length then (rSigned 64 s).2.fail 2 else (rSigned 64 s).2)
  else if k = 2 then rNumber s
  else if k = 5 then rByte s
  else (leNat (rTake (if k = 3 then 4 else if k = 4 then 8 else 0) s).1, (rTake (if k = 3 then 4 else if k = 4 then 8 else 0) s).2)
def rArgs : List Int → St → List (Int × UInt64) × St
  | [], s => ([], s)
  | k :: ks, s => ((k, UInt64.ofNat (rBits k s).1) :: (rArgs ks (rBits k s).2).1, (rArgs ks (rBits k s).2).2)
def rInstr (op : Int) (s : St) : Ins × St :=
  let s1 := if s.v = 0 ∧ kindsOf op = none then s.fail 2 else s
  (.mk op (rArgs ((kindsOf op).getD []) s1).1 false 0 [], (rArgs ((kindsOf op).getD []) s1).2)
def readOp (op : Nat) : Bool := decide (op = 13) || decide (op = 15) || decide (op = 16) || decide (op = 17) || decide (op = 32) || decide (op = 33) || decide (op = 65) || decide (op = 66) || decide (op = 69)
/-- Instructions up to an end: at most so many steps; what was gathered. -/
def rBody : Nat → Int → List Ins → St → List Ins × St
  | 0, _, _, s => ([], s)
  | f + 1, d, acc, s =>
    if s.v ≠ 0 then ([], s)
    else if (rByte s).2.v ≠ 0 then ([], (rByte s).2)
    else if (rByte s).1 = 11 then (acc, (rByte s).2)
    else if (rByte s).1 = 5 ∨ (rByte s).1 = 4 ∨ 100 < d then ([], (rByte s).2.fail 2)
    else if (rByte s).1 = 2 ∨ (rByte s).1 = 3 then
      let s2 := (rByte (rByte s).2).2
      let s3 := if s2.v = 0 ∧ (rByte (rByte s).2).1 ≠ 64 then s2.fail 2 else s2
      rBody f d (acc ++ [.mk ((rByte s).1 : Int) [] true (-1) (rBody f (d + 1) [] s3).1]) (rBody f (d + 1) [] s3).2
    else if readOp (rByte s).1 = false then ([], (rByte s).2.fail 2)
    else rBody f d (acc ++ [(rInstr ((rByte s).1 : Int) (rByte s).2).1]) (rInstr ((rByte s).1 : Int) (rByte s).2).2
def rLocals : Nat → St → List (UInt32 × Int) × St
  | 0, s => ([], s)
  | n + 1, s => ((UInt32.ofNat (rNumber s).1, (rValueType (rNumber s).2).1) :: (rLocals n (rValueType (rNumber s).2).2).1, (rLocals n (rValueType (rNumber s).2).2).2)
def rCode (b : List UInt8) : (List (UInt32 × Int) × List Ins) × Nat :=
  let s0 : St := ⟨b, 0⟩
  let s1 := (rLocals (rCount s0).1 (rCount s0).2).2
  let r := rBody (s1.b.length + 1) 0 [] s1
  let v := if r.2.v = 3 then 1 else if r.2.v = 0 ∧ 0 < r.2.b.length then 2 else r.2.v
  (((rLocals (rCount s0).1 (rCount s0).2).1, r.1), v)
end Go.Proofs.YtkbadfljmbeciaaGreatDoor
/- How arguments and declarations of locals lie. -/
namespace Go.Proofs.YtkbadfljmbeciaaGreatDoor
open Go.RowKit
theorem arg_at {A : Nat → Prop} {w : World} {a : Option Addr} {n cap : Nat} {xs : List (Int × UInt64)} (h : Lay.arg.slice.rd A w [.slice a n cap] xs) (i : Nat) (hi : i < xs.length) :
    ∃ (b o : Nat), a = some ⟨b, o, none⟩ ∧ A b ∧ w.cell? ⟨b, o + i * 2, none⟩ = some (.int .i64 xs[i].1) ∧ w.cell? ⟨b, o + i * 2 + 1, none⟩ = some (.int .u64 (xs[i].2.toNat : Int)) ∧ -9223372036854775808 ≤ xs[i].1 ∧ xs[i].1 ≤ 9223372036854775807 := by
  have hn : xs.length = n := by
    obtain ⟨_, _, e, _⟩ := h
    simp only [List.cons.injEq, Value.slice.injEq, and_true] at e
    exact e.2.1.symm
  obtain ⟨b, o, es, hi', e, hA, _, hr, hc⟩ := Lay.slice_at h i (by omega)
  obtain ⟨c, d, rfl, h1, h2⟩ := hr
  obtain ⟨rfl, h3, h4⟩ := h1
  obtain rfl := h2
  exact ⟨b, o, e, hA, hc 0 (by decide), hc 1 (by decide), h3, h4⟩
abbrev Lay.loc : Lay (UInt32 × Int) := Lay.u32.pair Lay.int
theorem flat_loc : Lay.loc.flat := Lay.flat_pair Lay.flat_u32 Lay.flat_int
theorem loc_at {A : Nat → Prop} {w : World} {a : Option Addr} {n cap : Nat} {xs : List (UInt32 × Int)} (h : Lay.loc.slice.rd A w [.slice a n cap] xs) (i : Nat) (hi : i < xs.length) :
    ∃ (b o : Nat), a = some ⟨b, o, none⟩ ∧ A b ∧ w.cell? ⟨b, o + i * 2, none⟩ = some (.int .u32 (xs[i].1.toNat : Int)) ∧ w.cell? ⟨b, o + i * 2 + 1, none⟩ = some (.int .i64 xs[i].2) ∧ -9223372036854775808 ≤ xs[i].2 ∧ xs[i].2 ≤ 9223372036854775807 := by
  have hn : xs.length = n := by
    obtain ⟨_, _, e, _⟩ := h
    simp only [List.cons.injEq, Value.slice.injEq, and_true] at e
    exact e.2.1.symm
  obtain ⟨b, o, es, hi', e, hA, _, hr, hc⟩ := Lay.slice_at h i (by omega)
  obtain ⟨c, d, rfl, h1, h2⟩ := hr
  obtain rfl := h1
  obtain ⟨rfl, h3, h4⟩ := h2
  exact ⟨b, o, e, hA, hc 0 (by decide), hc 1 (by decide), h3, h4⟩
end Go.Proofs.YtkbadfljmbeciaaGreatDoor
/- A region that draws its order where two operations may come up: both ways are walked. No program here. -/
namespace Go.Proofs.YtkbadfljmbeciaaGreatDoor
section
variable {P : Program} {ops : Array Oper} {Q : Exit → Act → World → Prop} {md : Region.Mode} {E : World → World → Prop} {ds : List Nat}
/-- Another end at the normal exit. -/
def withK (Q : Exit → Act → World → Prop) (K : Act → World → Prop) : Exit → Act → World → Prop
  | .normal, a, w => K a w
  | e, a, w => Q e a w
inductive Plan where
  | seq (l : List (Nat × Tag))
  | fork (pre : List (Nat × Tag)) (i j : Nat) (p q : Plan)
def seqTo (md : Region.Mode) (ops : Array Oper) (ds : List Nat) : List (Nat × Tag) → Array Bool → Option (Array Bool)
  | [], l => some l
  | (i, .take) :: rest, l => if Region.free md ops l i && (Region.ready md ops l).contains i && closedB md ops l && lastB md ops l ds i then seqTo md ops ds rest (l.setIfInBounds i true) else none
  | (i, .run) :: rest, l => if Region.ready md ops l == [i] then seqTo md ops ds rest (l.setIfInBounds i true) else none
  | _ :: _, _ => none
def planLen : Plan → Nat
  | .seq l => tagLen l
  | .fork pre _ _ p _ => tagLen pre + (planLen p + 1)
def planDs : Plan → List Nat
  | .seq l => dsOf l
  | .fork pre _ _ p q => dsOf pre ++ (planDs p ++ planDs q)
def planOk (ops : Array Oper) (ds : List Nat) : Plan → Array Bool → Bool
  | .seq l, listed => seqOk .any ops ds l listed
  | .fork pre i j p q, listed => match seqTo .any ops ds pre listed with
    | some L => (Region.ready .any ops L == [i, j]) && planOk ops ds p (L.setIfInBounds i true) && planOk ops ds q (L.setIfInBounds j true) && planLen p == planLen q
    | none => false
def planIn (n : Nat) : Plan → Bool
  | .seq l => inRange n l
  | .fork pre i j p q => inRange n pre && decide (i < n) && decide (j < n) && planIn n p && planIn n q
def wpPlan (P : Program) (ops : Array Oper) (R : Frm) (Q : Exit → Act → World → Prop) : Plan → Act → World → Prop
  | .seq l, a, w => wpItems P ops Q R (itemsOf ops l) a w
  | .fork pre i j p q, a, w => wpItems P ops (withK Q (fun a w => wpG P ops Q (ops.toList.getD i noOper) (fun a' w' => R.E w w' ∧ wpPlan P ops R Q p a' w') a w ∧
      wpG P ops Q (ops.toList.getD j noOper) (fun a' w' => R.E w w' ∧ wpPlan P ops R Q q a' w') a w)) R (itemsOf ops pre) a w

theorem wpOp_withK {K X : Act → World → Prop} {i : Nat} {a : Act} {w : World} (h : wpOp P ops (withK Q K) i X a w) : wpOp P ops Q i X a w := h
theorem tagLen_cons_take (i : Nat) (rest : List (Nat × Tag)) : tagLen ((i, .take) :: rest) = tagLen rest + 1 := rfl
theorem wpAnyE_to (hrefl : ∀ w, E w w) (htrans : ∀ a b c, E a b → E b c → E a c) (hs : Region.noSelect ops = true) {K : Act → World → Prop} {n : Nat} {L : Array Bool} (hK : ∀ a w, K a w → wpAnyE P md ops Q E ds n L a w) : ∀ (l : List (Nat × Tag)) (listed : Array Bool) (a : Act) (w : World),
    seqTo md ops ds l listed = some L → wpSeq P ops (withK Q K) E l a w → wpAnyE P md ops Q E ds (tagLen l + n) listed a w
  | [], listed, a, w, hc, h => by
    simp only [seqTo, Option.some.injEq] at hc
    subst hc
    simp only [tagLen, Nat.zero_add]
    exact hK _ _ h
  | (i, .take) :: rest, listed, a, w, hc, h => by
    simp only [seqTo] at hc
    split at hc
    · rename_i hb
      simp only [Bool.and_eq_true] at hb
      obtain ⟨⟨⟨h1, h2⟩, h3⟩, h4⟩ := hb
      obtain ⟨oi, v, hi, hQ, hy, hrest⟩ := h
      rw [show tagLen ((i, Tag.take) :: rest) + n = (tagLen rest + n) + 1 from by show tagLen rest + 1 + n = _; omega]
      exact wpAnyE_first hrefl htrans hi (Region.noSelect_spec hs) (show ∀ c a w, Q (.panic c) (a.put oi.dst v) w → Q (.panic c) a w from hQ) ops.size (tagLen rest + n) listed a w (Region.free_spec hi h1) (closedB_spec h3)
        (fun d hm hun => by have := List.all_eq_true.1 h4 d hm; rw [hun] at this; simpa using this) (by simpa using h2) hy (wpAnyE_to hrefl htrans hs hK rest _ _ _ hc hrest)
    · cases hc
  | (i, .run) :: rest, listed, a, w, hc, h => by
    simp only [seqTo] at hc
    split at hc
    · rename_i hb
      rw [show tagLen ((i, Tag.run) :: rest) + n = (tagLen rest + n) + 1 from by show tagLen rest + 1 + n = _; omega]
      exact wpAnyE_one (by simpa using hb) (wpOp_mono (fun a' w' h' => ⟨fun _ => h'.1, wpAnyE_to hrefl htrans hs hK rest _ _ _ hc h'.2⟩) (wpOp_withK h))
    · cases hc
  | (i, .last) :: rest, listed, a, w, hc, h => by simp [seqTo] at hc
  | (i, .two j) :: rest, listed, a, w, hc, h => by simp [seqTo] at hc
  | (i, .both j) :: rest, listed, a, w, hc, h => by simp [seqTo] at hc
theorem wpAnyE_of_plan (R : Frm) (hs : Region.noSelect ops = true) : ∀ (p : Plan) (listed : Array Bool) (a : Act) (w : World),
    planOk ops ds p listed = true → planIn ops.size p = true → wpPlan P ops R Q p a w → wpAnyE P .any ops Q R.E ds (planLen p) listed a w
  | .seq l, listed, a, w, hc, hin, h => wpAnyE_of_seq R.refl R.trans hs l listed a w hc (wpSeq_of_items l a w hin h)
  | .fork pre i j p q, listed, a, w, hc, hin, h => by
    simp only [planOk] at hc
    split at hc
    · rename_i L hL
      simp only [Bool.and_eq_true, beq_iff_eq] at hc
      obtain ⟨⟨⟨h1, h2⟩, h3⟩, h4⟩ := hc
      simp only [planIn, Bool.and_eq_true, decide_eq_true_eq] at hin
      obtain ⟨⟨⟨⟨hin0, hi⟩, hj⟩, hp⟩, hq⟩ := hin
      refine wpAnyE_to R.refl R.trans hs (L := L) (n := planLen p + 1) ?_ pre listed a w hL (wpSeq_of_items pre a w hin0 h)
      rintro a w ⟨ki, kj⟩
      refine wpAnyE_two h1 (wpOp_of_G hi (wpG_mono (fun a' w' h' => ⟨fun _ => h'.1, wpAnyE_of_plan R hs p _ _ _ h2 hp h'.2⟩) ki)) (wpOp_of_G hj (wpG_mono (fun a' w' h' => ⟨fun _ => h'.1, ?_⟩) kj))
      rw [h4]
      exact wpAnyE_of_plan R hs q _ _ _ h3 hq h'.2
    · cases hc
def regPlanOk (ops : Array Oper) (p : Plan) : Bool := Region.noSelect ops && planOk ops (planDs p) p (Array.replicate ops.size false) && planLen p == ops.size && planIn ops.size p
/-- A region that draws, by a plan. -/
theorem region_plan (R : Frm) (p : Plan) {id : Nat} {os : List Oper} {a : Act} {w : World} (hm : P.follows .mixedOrders = true)
    (hok : regPlanOk os.toArray p = true) (h : wpPlan P os.toArray R Q p a w.drew) : (Code.region id os.toArray true).wp P Q a w := by
  simp only [regPlanOk, Bool.and_eq_true, beq_iff_eq] at hok
  obtain ⟨⟨⟨h1, h2⟩, h3⟩, h4⟩ := hok
  refine wp_region_any hm (wpAny_of_E (E := R.E) (ds := planDs p) _ _ _ _ ?_)
  have := wpAnyE_of_plan R h1 p _ a w.drew h2 h4 h
  rwa [h3] at this
variable {R : Frm}
/-- The fork: both ways. -/
theorem plan_fork {i j : Oper} {X Y : Act → World → Prop} {a : Act} {w : World} (hi : Region.wanted i (yielded ops a.tmps) = true) (hj : Region.wanted j (yielded ops a.tmps) = true)
    (h1 : ∀ K : Act → World → Prop, (∀ a' w', R.E w w' → X a' w' → K a' w') → i.wp P a w K Q)
    (h2 : ∀ K : Act → World → Prop, (∀ a' w', R.E w w' → Y a' w' → K a' w') → j.wp P a w K Q) :
    wpItems P ops (withK Q (fun a w => wpG P ops Q i (fun a' w' => R.E w w' ∧ X a' w') a w ∧ wpG P ops Q j (fun a' w' => R.E w w' ∧ Y a' w') a w)) R [] a w := by
  refine ⟨?_, ?_⟩
  · simp only [wpG, hi, if_true]
    exact h1 _ fun a' w' hE hs => ⟨hE, hs⟩
  · simp only [wpG, hj, if_true]
    exact h2 _ fun a' w' hE hs => ⟨hE, hs⟩
end
end Go.Proofs.YtkbadfljmbeciaaGreatDoor
