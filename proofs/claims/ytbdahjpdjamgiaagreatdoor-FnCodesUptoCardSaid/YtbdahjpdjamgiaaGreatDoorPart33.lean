/- Texts of this proof, one behind the other. -/
import Derived.Test.YtbdahjpdjamgiaaGreatDoorPart2
import Derived.ProofKit
import Derived.OpenShut
import Derived.Deep.Slices
import Derived.Test.YtbdahjpdjamgiaaGreatDoorRows
import Derived.Test.YtbdahjpdjamgiaaGreatDoorPart3
/- From the reading of a parameter (Trod) to a layout's reading. No program here. -/
namespace Go.Proofs.YtbdahjpdjamgiaaGreatDoor
open Go.ChangeShapes Go.WideShapes Go.ChangeAt Go.RowKit Go.Deep
/-- Whatever reads at type t, reads in layout l. -/
def Opens {α : Type} (P : Program) (t : TypeId) (l : Lay α) : Prop :=
  P.cellsOf t = l.size ∧ ∀ {H : Type} {enc : TypeId × Value → H} {w : World} {base : Nat} {spare : Nat → Bool} {held : Bool} {fuel : Nat} {cs : List Value} {x : DataW H × List MemPlace},
    DataW.trod enc P w base spare held fuel t cs = some x → ∃ a, l.rd (fun k => k < w.heap.size) w cs a
variable {P : Program} {t e : TypeId} {α β : Type}
theorem opens_int (ht : P.underlying t = some (.int .i64)) (hc : P.cellsOf t = 1) : Opens P t Lay.int := ⟨hc, fun h => by
  obtain ⟨n, rfl, -, hw⟩ := DataW.trod_int ht h
  exact ⟨n, rfl, bounds_i64 hw⟩⟩
theorem opens_u8 (ht : P.underlying t = some (.int .u8)) (hc : P.cellsOf t = 1) : Opens P t Lay.u8 := ⟨hc, fun h => by
  obtain ⟨n, rfl, -, hw⟩ := DataW.trod_int ht h
  have hb : 0 ≤ n ∧ n ≤ 255 := bounds_u8 hw
  refine ⟨UInt8.ofNat n.toNat, ?_⟩
  show [Value.int .u8 n] = [Value.int .u8 _]
  rw [UInt8.toNat_ofNat', Nat.mod_eq_of_lt (by omega), Int.toNat_of_nonneg hb.1]⟩
theorem opens_u32 (ht : P.underlying t = some (.int .u32)) (hc : P.cellsOf t = 1) : Opens P t Lay.u32 := ⟨hc, fun h => by
  obtain ⟨n, rfl, -, hw⟩ := DataW.trod_int ht h
  have hb : 0 ≤ n ∧ n ≤ 4294967295 := bounds_u32 hw
  refine ⟨UInt32.ofNat n.toNat, ?_⟩
  show [Value.int .u32 n] = [Value.int .u32 _]
  rw [UInt32.toNat_ofNat', Nat.mod_eq_of_lt (by omega), Int.toNat_of_nonneg hb.1]⟩
theorem opens_u64 (ht : P.underlying t = some (.int .u64)) (hc : P.cellsOf t = 1) : Opens P t Lay.u64 := ⟨hc, fun h => by
  obtain ⟨n, rfl, -, hw⟩ := DataW.trod_int ht h
  have hb : 0 ≤ n ∧ n ≤ 18446744073709551615 := bounds_u64 hw
  refine ⟨UInt64.ofNat n.toNat, ?_⟩
  show [Value.int .u64 n] = [Value.int .u64 _]
  rw [UInt64.toNat_ofNat', Nat.mod_eq_of_lt (by omega), Int.toNat_of_nonneg hb.1]⟩
theorem opens_bool (ht : P.underlying t = some .bool) (hc : P.cellsOf t = 1) : Opens P t Lay.bool := ⟨hc, fun h => by
  obtain ⟨n, rfl, -⟩ := DataW.trod_bool ht h
  exact ⟨n, rfl⟩⟩
theorem opens_str (ht : P.underlying t = some .string) (hc : P.cellsOf t = 1) : Opens P t Lay.str := ⟨hc, fun h => by
  obtain ⟨n, rfl, -, hn⟩ := DataW.trod_string ht h
  exact ⟨n, rfl, hn⟩⟩
theorem opens_slice {l : Lay α} (ht : P.underlying t = some (.slice e)) (hc : P.cellsOf t = 1) (he : Opens P e l) (h0 : 0 < l.size) : Opens P t l.slice := ⟨hc, fun {H enc w base spare held fuel cs x} h => by
  rcases open_slice ht h with ⟨rfl, -⟩ | ⟨a, len, cap, m, n, D, Pl, rfl, hb, hl, hm, hmm, -, hx⟩
  · exact ⟨[], none, 0, rfl, Nat.le_refl _, by decide, fun h => absurd h (by simp)⟩
  have hlm : len ≤ m := by rw [hmm]; split <;> omega
  rcases Nat.eq_zero_or_pos len with hz | hpos
  · subst hz
    exact ⟨[], some a, cap, rfl, hl, hm, fun h => absurd h (by simp)⟩
  rw [he.1] at hx
  have first : ∃ b o cur T fz, a = ⟨b, o, none⟩ ∧ w.heap[b]? = some (.cells cur T fz) := by
    obtain ⟨cs', h1, -⟩ := hx 0 (by omega)
    obtain ⟨-, h2, h3⟩ := World.cells?_some h1
    have h4 := h3 0 h0
    rw [List.getElem?_eq_getElem (by omega), Nat.zero_mul] at h4
    obtain ⟨b, o, sp⟩ := a
    simp only [Addr.add, if_true, World.cell?] at h4
    cases hh : w.heap[b]? with
    | none => rw [hh] at h4; cases h4
    | some obj =>
      rw [hh] at h4
      cases obj with
      | cells cur T fz =>
        cases sp with
        | none => exact ⟨b, o, cur, T, fz, rfl, hh⟩
        | some _ => simp at h4
      | _ => cases h4
  obtain ⟨b, o, cur, T, fz, rfl, hh⟩ := first
  have build : ∀ k, k ≤ len → ∃ (flat : List Value) (xs : List α), xs.length = k ∧ flat.length = k * l.size ∧ l.all (fun k => k < w.heap.size) w flat xs ∧ ∀ j, j < flat.length → cur[o + j]? = flat[j]? := by
    intro k
    induction k with
    | zero => exact fun _ => ⟨[], [], rfl, by simp, rfl, by simp⟩
    | succ k ih =>
      intro hk
      obtain ⟨flat, xs, e1, e2, e3, e4⟩ := ih (by omega)
      obtain ⟨cs', h1, h2⟩ := hx k (by omega)
      obtain ⟨y, hy⟩ := he.2 h2
      obtain ⟨-, h3, h4⟩ := World.cells?_some h1
      refine ⟨flat ++ cs', xs ++ [y], by simp [e1], by rw [List.length_append, e2, h3, Nat.succ_mul], Lay.all_append e3 (Lay.all_single hy), fun j hj => ?_⟩
      rcases Nat.lt_or_ge j flat.length with hj' | hj'
      · rw [List.getElem?_append_left hj', e4 j hj']
      · rw [List.getElem?_append_right hj']
        have h5 := h4 (j - flat.length) (by rw [List.length_append] at hj; omega)
        rw [← h5, addr_add, addr_add, Lib.cell_of_heap hh]
        congr 1
        omega
  obtain ⟨flat, xs, e1, e2, e3, e4⟩ := build len (Nat.le_refl _)
  subst e1
  exact ⟨xs, some ⟨b, o, none⟩, cap, rfl, hl, hm, fun _ => ⟨b, o, cur, T, fz, flat, rfl, lt_heap hh, hh, e3, e4⟩⟩⟩
/-- Fields, one behind the other, from cell off on. -/
structure OpensF {α : Type} (P : Program) (fs : List Field) (off : Nat) (l : Lay α) : Prop where
  rd : ∀ {H : Type} {enc : TypeId × Value → H} {w : World} {base : Nat} {spare : Nat → Bool} {held : Bool} {fuel : Nat} {cs : List Value},
    cs.length = off + l.size → (∀ f ∈ fs, ∃ x, DataW.trod enc P w base spare held fuel f.type ((cs.drop f.offset).take (P.cellsOf f.type)) = some x) → ∃ a, l.rd (fun k => k < w.heap.size) w (cs.drop off) a
theorem opensF_one {f : Field} {off : Nat} {l : Lay α} (h : Opens P f.type l) (ho : f.offset = off) : OpensF P [f] off l := ⟨fun hl hf => by
  obtain ⟨x, hx⟩ := hf f (.head _)
  rw [ho, h.1, List.take_of_length_le (by rw [List.length_drop]; omega)] at hx
  exact h.2 hx⟩
theorem opensF_cons {f : Field} {fs : List Field} {off : Nat} {l : Lay α} {m : Lay β} (h : Opens P f.type l) (ho : f.offset = off) (k : OpensF P fs (off + l.size) m) : OpensF P (f :: fs) off (l.pair m) := ⟨fun {H enc w base spare held fuel cs} hl hf => by
  obtain ⟨x, hx⟩ := hf f (.head _)
  rw [ho, h.1] at hx
  obtain ⟨a, ha⟩ := h.2 hx
  have hl' : cs.length = off + (l.size + m.size) := hl
  obtain ⟨b, hb⟩ := k.rd (by omega) (fun f hf' => hf f (.tail _ hf'))
  refine ⟨(a, b), _, _, ?_, ha, hb⟩
  rw [← List.drop_drop, List.take_append_drop]⟩
theorem opens_struct {fs : Array Field} {l : Lay α} (ht : P.underlying t = some (.struct fs)) (hc : P.cellsOf t = l.size) (h : OpensF P fs.toList 0 l) : Opens P t l := ⟨hc, fun {H enc w base spare held fuel cs x} hx => by
  obtain ⟨xs, n, rfl, -, hl, hlen, hf⟩ := DataW.trod_struct ht hx
  refine h.rd (enc := enc) (w := w) (base := base) (spare := spare) (held := held) (fuel := n) (cs := cs) (by omega) fun f hf' => ?_
  obtain ⟨i, hi, e⟩ := List.getElem_of_mem hf'
  have := hf i f (by rw [← e, Array.getElem?_eq_getElem (by simpa using hi)]; simp)
  rw [this]
  exact ⟨_, List.getElem?_eq_getElem (by simp at hi; omega)⟩⟩
end Go.Proofs.YtbdahjpdjamgiaaGreatDoor
/- From the reading of a parameter to a layout's reading, with a bound by the reading's bulk (for statements of the second form). -/
namespace Go.Proofs.YtbdahjpdjamgiaaGreatDoor
open Go.ChangeShapes Go.WideShapes Go.ChangeAt Go.RowKit Go.Deep
theorem bulk_one {H : Type} (d : DataW H) : 1 ≤ Rows.uptoBulk d := by
  cases d with
  | lit l => cases l <;> simp [Rows.uptoBulk]
  | _ => simp [Rows.uptoBulk]
theorem bulk_append {H : Type} (l r : List (DataW H)) : Rows.uptoBulkAll (l ++ r) = Rows.uptoBulkAll l + Rows.uptoBulkAll r := by
  induction l with
  | nil => simp [Rows.uptoBulkAll]
  | cons x l ih => simp only [List.cons_append, Rows.uptoBulkAll, ih]; omega
theorem bulk_mem {H : Type} {d : DataW H} {l : List (DataW H)} (h : d ∈ l) : Rows.uptoBulk d ≤ Rows.uptoBulkAll l := by
  induction l with
  | nil => cases h
  | cons x r ih =>
    simp only [Rows.uptoBulkAll]
    rcases List.mem_cons.1 h with rfl | e
    · omega
    · have := ih e; omega
/-- The weights of some things, and one more for the row. -/
def wRow {α : Type} (wt : α → Nat) (xs : List α) : Nat := (xs.map wt).sum + 1
/-- Whatever reads at type t, as something of a bulk below kk, reads in layout l, as something of at most that bulk. -/
def OpensB {α : Type} (P : Program) (t : TypeId) (l : Lay α) (wt : α → Nat) (kk : Nat) : Prop :=
  P.cellsOf t = l.size ∧ ∀ {H : Type} {enc : TypeId × Value → H} {w : World} {base : Nat} {spare : Nat → Bool} {held : Bool} {fuel : Nat} {cs : List Value} {x : DataW H × List MemPlace},
    Rows.uptoBulk x.1 < kk → DataW.trod enc P w base spare held fuel t cs = some x → ∃ a, l.rd (fun k => k < w.heap.size) w cs a ∧ wt a ≤ Rows.uptoBulk x.1
variable {P : Program} {t e : TypeId} {α β : Type}
theorem Opens.b {l : Lay α} (h : Opens P t l) (kk : Nat) : OpensB P t l (fun _ => 1) kk := ⟨h.1, fun _ hx => by
  obtain ⟨a, ha⟩ := h.2 hx
  exact ⟨a, ha, bulk_one _⟩⟩
theorem opensB_str (ht : P.underlying t = some .string) (hc : P.cellsOf t = 1) (kk : Nat) : OpensB P t Lay.str (fun s => s.size + 1) kk := ⟨hc, fun {H enc w base spare held fuel cs x} _ h => by
  obtain ⟨n, rfl, e, hn⟩ := DataW.trod_string ht h
  refine ⟨n, ⟨rfl, hn⟩, ?_⟩
  subst e
  have e : n.data.toList.length = n.size := by rw [Array.length_toList]; rfl
  simp only [Rows.uptoBulk]
  omega⟩
theorem OpensB.le {l : Lay α} {wt wt' : α → Nat} {k m : Nat} (h : OpensB P t l wt k) (hm : m ≤ k) (hw : ∀ a, wt' a ≤ wt a) : OpensB P t l wt' m := ⟨h.1, fun hs hx => by
  obtain ⟨a, ha, hb⟩ := h.2 (by omega) hx
  exact ⟨a, ha, Nat.le_trans (hw a) hb⟩⟩
theorem opensB_slice {l : Lay α} {wt : α → Nat} {kk : Nat} (ht : P.underlying t = some (.slice e)) (hc : P.cellsOf t = 1) (he : OpensB P e l wt kk) (h0 : 0 < l.size) : OpensB P t l.slice (wRow wt) (kk + 1) := ⟨hc, fun {H enc w base spare held fuel cs x} hk h => by
  rcases open_slice ht h with ⟨rfl, rfl⟩ | ⟨a, len, cap, m, n, D, Pl, rfl, hb, hl, hm, hmm, hxe, hx⟩
  · exact ⟨[], ⟨none, 0, rfl, Nat.le_refl _, by decide, fun h => absurd h (by simp)⟩, by simp [wRow, Rows.uptoBulk]⟩
  have hlm : len ≤ m := by rw [hmm]; split <;> omega
  have hbe : Rows.uptoBulkAll ((List.range len).map D) + 1 ≤ Rows.uptoBulk x.1 := by rw [hxe]; simp only [Rows.uptoBulk]; omega
  have hsz : ∀ i, i < len → Rows.uptoBulk (D i) < kk := fun i hi => by
    have h1 := bulk_mem (List.mem_map.2 ⟨i, List.mem_range.2 hi, rfl⟩ : D i ∈ (List.range len).map D)
    omega
  rcases Nat.eq_zero_or_pos len with hz | hpos
  · subst hz
    exact ⟨[], ⟨some a, cap, rfl, hl, hm, fun h => absurd h (by simp)⟩, by have := bulk_one x.1; simpa [wRow] using this⟩
  rw [he.1] at hx
  have first : ∃ b o cur T fz, a = ⟨b, o, none⟩ ∧ w.heap[b]? = some (.cells cur T fz) := by
    obtain ⟨cs', h1, -⟩ := hx 0 (by omega)
    obtain ⟨-, h2, h3⟩ := World.cells?_some h1
    have h4 := h3 0 h0
    rw [List.getElem?_eq_getElem (by omega), Nat.zero_mul] at h4
    obtain ⟨b, o, sp⟩ := a
    simp only [Addr.add, if_true, World.cell?] at h4
    cases hh : w.heap[b]? with
    | none => rw [hh] at h4; cases h4
    | some obj =>
      rw [hh] at h4
      cases obj with
      | cells cur T fz =>
        cases sp with
        | none => exact ⟨b, o, cur, T, fz, rfl, hh⟩
        | some _ => simp at h4
      | _ => cases h4
  obtain ⟨b, o, cur, T, fz, rfl, hh⟩ := first
  have build : ∀ k, k ≤ len → ∃ (flat : List Value) (xs : List α), xs.length = k ∧ flat.length = k * l.size ∧ l.all (fun k => k < w.heap.size) w flat xs ∧ (xs.map wt).sum ≤ Rows.uptoBulkAll ((List.range k).map D) ∧ ∀ j, j < flat.length → cur[o + j]? = flat[j]? := by
    intro k
    induction k with
    | zero => exact fun _ => ⟨[], [], rfl, by simp, rfl, by simp [Rows.uptoBulkAll], by simp⟩
    | succ k ih =>
      intro hk
      obtain ⟨flat, xs, e1, e2, e3, e5, e4⟩ := ih (by omega)
      obtain ⟨cs', h1, h2⟩ := hx k (by omega)
      obtain ⟨y, hy, hw⟩ := he.2 (hsz k (by omega)) h2
      obtain ⟨-, h3, h4⟩ := World.cells?_some h1
      refine ⟨flat ++ cs', xs ++ [y], by simp [e1], by rw [List.length_append, e2, h3, Nat.succ_mul], Lay.all_append e3 (Lay.all_single hy), ?_, fun j hj => ?_⟩
      · rw [List.range_succ, List.map_append, List.map_append, List.sum_append, bulk_append]
        simp only [List.map_cons, List.map_nil, List.sum_cons, List.sum_nil, Rows.uptoBulkAll]
        have hw' : wt y ≤ Rows.uptoBulk (D k) := hw
        omega
      rcases Nat.lt_or_ge j flat.length with hj' | hj'
      · rw [List.getElem?_append_left hj', e4 j hj']
      · rw [List.getElem?_append_right hj']
        have h5 := h4 (j - flat.length) (by rw [List.length_append] at hj; omega)
        rw [← h5, addr_add, addr_add, Lib.cell_of_heap hh]
        congr 1
        omega
  obtain ⟨flat, xs, e1, e2, e3, e5, e4⟩ := build len (Nat.le_refl _)
  subst e1
  exact ⟨xs, ⟨some ⟨b, o, none⟩, cap, rfl, hl, hm, fun _ => ⟨b, o, cur, T, fz, flat, rfl, lt_heap hh, hh, e3, e4⟩⟩, by unfold wRow; omega⟩⟩
/-- Fields, one behind the other, from cell off on. -/
structure OpensBF {α : Type} (P : Program) (fs : List Field) (off : Nat) (l : Lay α) (wt : α → Nat) (kk : Nat) : Prop where
  rd : ∀ {H : Type} {enc : TypeId × Value → H} {w : World} {base : Nat} {spare : Nat → Bool} {held : Bool} {fuel : Nat} {cs : List Value} {xs : List (DataW H × List MemPlace)},
    cs.length = off + l.size → xs.length = fs.length → Rows.uptoBulkAll (xs.map (·.1)) < kk → (∀ (i : Nat) (f : Field), fs[i]? = some f → DataW.trod enc P w base spare held fuel f.type ((cs.drop f.offset).take (P.cellsOf f.type)) = xs[i]?) →
      ∃ a, l.rd (fun k => k < w.heap.size) w (cs.drop off) a ∧ wt a ≤ Rows.uptoBulkAll (xs.map (·.1))
theorem opensBF_one {f : Field} {off kk : Nat} {l : Lay α} {wt : α → Nat} (h : OpensB P f.type l wt kk) (ho : f.offset = off) : OpensBF P [f] off l wt kk := ⟨fun {H enc w base spare held fuel cs xs} hl hx hk hf => by
  match xs, hx with
  | [x], _ =>
    have h1 := hf 0 f rfl
    rw [ho, h.1, List.take_of_length_le (by rw [List.length_drop]; omega)] at h1
    simp only [List.map_cons, List.map_nil, Rows.uptoBulkAll] at hk ⊢
    exact h.2 (by omega) h1⟩
theorem opensBF_cons {f : Field} {fs : List Field} {off kk : Nat} {l : Lay α} {m : Lay β} {wt : α → Nat} {wu : β → Nat} (h : OpensB P f.type l wt kk) (ho : f.offset = off) (k : OpensBF P fs (off + l.size) m wu kk) :
    OpensBF P (f :: fs) off (l.pair m) (fun x => wt x.1 + wu x.2) kk := ⟨fun {H enc w base spare held fuel cs xs} hl hx hk hf => by
  match xs, hx with
  | x :: xs, hx =>
    have h1 := hf 0 f rfl
    rw [ho, h.1] at h1
    simp only [List.map_cons, Rows.uptoBulkAll] at hk ⊢
    obtain ⟨a, ha, hwa⟩ := h.2 (by omega) h1
    have hl' : cs.length = off + (l.size + m.size) := hl
    obtain ⟨b, hb, hwb⟩ := k.rd (enc := enc) (w := w) (base := base) (spare := spare) (held := held) (fuel := fuel) (cs := cs) (xs := xs) (by omega) (by simpa using hx) (by omega) (fun i g hg => by simpa using hf (i + 1) g (by simpa using hg))
    refine ⟨(a, b), ⟨_, _, ?_, ha, hb⟩, by show wt a + wu b ≤ _; omega⟩
    rw [← List.drop_drop, List.take_append_drop]⟩
theorem opensB_struct {fs : Array Field} {l : Lay α} {kk : Nat} {wt : α → Nat} (ht : P.underlying t = some (.struct fs)) (hc : P.cellsOf t = l.size) (h : OpensBF P fs.toList 0 l wt kk) : OpensB P t l (fun a => wt a + 1) (kk + 1) := ⟨hc, fun {H enc w base spare held fuel cs x} hk hx => by
  obtain ⟨xs, n, rfl, rfl, hl, hlen, hf⟩ := DataW.trod_struct ht hx
  simp only [Rows.uptoBulk] at hk ⊢
  obtain ⟨a, ha, hw⟩ := h.rd (enc := enc) (w := w) (base := base) (spare := spare) (held := held) (fuel := n) (cs := cs) (xs := xs) (by omega) (by simpa using hlen) (by omega) (fun i f hi => hf i f (by simpa using hi))
  exact ⟨a, ha, by omega⟩⟩
theorem OpensB.via {l : Lay α} {kk : Nat} {wt : α → Nat} (h : OpensB P t l wt kk) (f : β → α) (g : α → β) (hfg : ∀ a, f (g a) = a) : OpensB P t (l.via f) (fun b => wt (f b)) kk := ⟨h.1, fun hs hx => by
  obtain ⟨a, ha, hw⟩ := h.2 hs hx
  exact ⟨g a, by show l.rd _ _ _ (f (g a)); rw [hfg]; exact ha, by show wt (f (g a)) ≤ _; rw [hfg]; exact hw⟩⟩
/-! ### Instructions -/
mutual
/-- The weight of instructions: themselves, and their arguments. -/
def wIns : Ins → Nat
  | .mk _ args _ _ body => 1 + args.length + wInsL body
def wInsL : List Ins → Nat
  | [] => 0
  | x :: xs => wIns x + wInsL xs
end
theorem wInsL_sum : ∀ l : List Ins, wInsL l = (l.map wIns).sum
  | [] => rfl
  | x :: xs => by rw [wInsL, wInsL_sum xs]; simp
theorem sum_one {α : Type} (l : List α) : (l.map fun _ => 1).sum = l.length := by
  induction l with
  | nil => rfl
  | cons x xs ih => simp only [List.map_cons, List.sum_cons, List.length_cons, ih]; omega
theorem sum_le {α : Type} {f g : α → Nat} (h : ∀ a, f a ≤ g a) : ∀ l : List α, (l.map f).sum ≤ (l.map g).sum
  | [] => Nat.le_refl _
  | x :: xs => by have := sum_le h xs; have := h x; simp only [List.map_cons, List.sum_cons]; omega
end Go.Proofs.YtbdahjpdjamgiaaGreatDoor
/- From the reading of a parameter to a layout's reading, by the reading's size (for types that contain themselves). No program here. -/
namespace Go.Proofs.YtbdahjpdjamgiaaGreatDoor
open Go.ChangeShapes Go.WideShapes Go.ChangeAt Go.RowKit Go.Deep
/-- Whatever reads at type t, as something smaller than kk, reads in layout l. -/
def OpensD {α : Type} (P : Program) (t : TypeId) (l : Lay α) (kk : Nat) : Prop :=
  P.cellsOf t = l.size ∧ ∀ {H : Type} {enc : TypeId × Value → H} {w : World} {base : Nat} {spare : Nat → Bool} {held : Bool} {fuel : Nat} {cs : List Value} {x : DataW H × List MemPlace},
    SizeOf.sizeOf x.1 < kk → DataW.trod enc P w base spare held fuel t cs = some x → ∃ a, l.rd (fun k => k < w.heap.size) w cs a
variable {P : Program} {t e : TypeId} {α β : Type}
theorem Opens.d {l : Lay α} (h : Opens P t l) (kk : Nat) : OpensD P t l kk := ⟨h.1, fun _ hx => h.2 hx⟩
theorem OpensD.le {l : Lay α} {k m : Nat} (h : OpensD P t l k) (hm : m ≤ k) : OpensD P t l m := ⟨h.1, fun hs hx => h.2 (by omega) hx⟩
theorem opensD_slice {l : Lay α} {kk : Nat} (ht : P.underlying t = some (.slice e)) (hc : P.cellsOf t = 1) (he : OpensD P e l kk) (h0 : 0 < l.size) : OpensD P t l.slice (kk + 1) := ⟨hc, fun {H enc w base spare held fuel cs x} hk h => by
  rcases open_slice ht h with ⟨rfl, -⟩ | ⟨a, len, cap, m, n, D, Pl, rfl, hb, hl, hm, hmm, hxe, hx⟩
  · exact ⟨[], none, 0, rfl, Nat.le_refl _, by decide, fun h => absurd h (by simp)⟩
  have hlm : len ≤ m := by rw [hmm]; split <;> omega
  have hsz : ∀ i, i < len → SizeOf.sizeOf (D i) < kk := fun i hi => by
    rw [hxe] at hk
    have h1 := List.sizeOf_lt_of_mem (List.mem_map.2 ⟨i, List.mem_range.2 hi, rfl⟩ : D i ∈ (List.range len).map D)
    simp only [DataW.slice.sizeOf_spec] at hk
    omega
  rcases Nat.eq_zero_or_pos len with hz | hpos
  · subst hz
    exact ⟨[], some a, cap, rfl, hl, hm, fun h => absurd h (by simp)⟩
  rw [he.1] at hx
  have first : ∃ b o cur T fz, a = ⟨b, o, none⟩ ∧ w.heap[b]? = some (.cells cur T fz) := by
    obtain ⟨cs', h1, -⟩ := hx 0 (by omega)
    obtain ⟨-, h2, h3⟩ := World.cells?_some h1
    have h4 := h3 0 h0
    rw [List.getElem?_eq_getElem (by omega), Nat.zero_mul] at h4
    obtain ⟨b, o, sp⟩ := a
    simp only [Addr.add, if_true, World.cell?] at h4
    cases hh : w.heap[b]? with
    | none => rw [hh] at h4; cases h4
    | some obj =>
      rw [hh] at h4
      cases obj with
      | cells cur T fz =>
        cases sp with
        | none => exact ⟨b, o, cur, T, fz, rfl, hh⟩
        | some _ => simp at h4
      | _ => cases h4
  obtain ⟨b, o, cur, T, fz, rfl, hh⟩ := first
  have build : ∀ k, k ≤ len → ∃ (flat : List Value) (xs : List α), xs.length = k ∧ flat.length = k * l.size ∧ l.all (fun k => k < w.heap.size) w flat xs ∧ ∀ j, j < flat.length → cur[o + j]? = flat[j]? := by
    intro k
    induction k with
    | zero => exact fun _ => ⟨[], [], rfl, by simp, rfl, by simp⟩
    | succ k ih =>
      intro hk
      obtain ⟨flat, xs, e1, e2, e3, e4⟩ := ih (by omega)
      obtain ⟨cs', h1, h2⟩ := hx k (by omega)
      obtain ⟨y, hy⟩ := he.2 (hsz k (by omega)) h2
      obtain ⟨-, h3, h4⟩ := World.cells?_some h1
      refine ⟨flat ++ cs', xs ++ [y], by simp [e1], by rw [List.length_append, e2, h3, Nat.succ_mul], Lay.all_append e3 (Lay.all_single hy), fun j hj => ?_⟩
      rcases Nat.lt_or_ge j flat.length with hj' | hj'
      · rw [List.getElem?_append_left hj', e4 j hj']
      · rw [List.getElem?_append_right hj']
        have h5 := h4 (j - flat.length) (by rw [List.length_append] at hj; omega)
        rw [← h5, addr_add, addr_add, Lib.cell_of_heap hh]
        congr 1
        omega
  obtain ⟨flat, xs, e1, e2, e3, e4⟩ := build len (Nat.le_refl _)
  subst e1
  exact ⟨xs, some ⟨b, o, none⟩, cap, rfl, hl, hm, fun _ => ⟨b, o, cur, T, fz, flat, rfl, lt_heap hh, hh, e3, e4⟩⟩⟩
/-- Fields, one behind the other, from cell off on. -/
structure OpensDF {α : Type} (P : Program) (fs : List Field) (off : Nat) (l : Lay α) (kk : Nat) : Prop where
  rd : ∀ {H : Type} {enc : TypeId × Value → H} {w : World} {base : Nat} {spare : Nat → Bool} {held : Bool} {fuel : Nat} {cs : List Value},
    cs.length = off + l.size → (∀ f ∈ fs, ∃ x : DataW H × List MemPlace, SizeOf.sizeOf x.1 < kk ∧ DataW.trod enc P w base spare held fuel f.type ((cs.drop f.offset).take (P.cellsOf f.type)) = some x) → ∃ a, l.rd (fun k => k < w.heap.size) w (cs.drop off) a
theorem opensDF_one {f : Field} {off kk : Nat} {l : Lay α} (h : OpensD P f.type l kk) (ho : f.offset = off) : OpensDF P [f] off l kk := ⟨fun hl hf => by
  obtain ⟨x, hs, hx⟩ := hf f (.head _)
  rw [ho, h.1, List.take_of_length_le (by rw [List.length_drop]; omega)] at hx
  exact h.2 hs hx⟩
theorem opensDF_cons {f : Field} {fs : List Field} {off kk : Nat} {l : Lay α} {m : Lay β} (h : OpensD P f.type l kk) (ho : f.offset = off) (k : OpensDF P fs (off + l.size) m kk) : OpensDF P (f :: fs) off (l.pair m) kk := ⟨fun {H enc w base spare held fuel cs} hl hf => by
  obtain ⟨x, hs, hx⟩ := hf f (.head _)
  rw [ho, h.1] at hx
  obtain ⟨a, ha⟩ := h.2 hs hx
  have hl' : cs.length = off + (l.size + m.size) := hl
  obtain ⟨b, hb⟩ := k.rd (by omega) (fun f hf' => hf f (.tail _ hf'))
  refine ⟨(a, b), _, _, ?_, ha, hb⟩
  rw [← List.drop_drop, List.take_append_drop]⟩
theorem opensD_struct {fs : Array Field} {l : Lay α} {kk : Nat} (ht : P.underlying t = some (.struct fs)) (hc : P.cellsOf t = l.size) (h : OpensDF P fs.toList 0 l kk) : OpensD P t l (kk + 1) := ⟨hc, fun {H enc w base spare held fuel cs x} hk hx => by
  obtain ⟨xs, n, rfl, rfl, hl, hlen, hf⟩ := DataW.trod_struct ht hx
  refine h.rd (enc := enc) (w := w) (base := base) (spare := spare) (held := held) (fuel := n) (cs := cs) (by omega) fun f hf' => ?_
  obtain ⟨i, hi, e⟩ := List.getElem_of_mem hf'
  have := hf i f (by rw [← e, Array.getElem?_eq_getElem (by simpa using hi)]; simp)
  rw [this]
  have hi' : i < xs.length := by simp at hi; omega
  refine ⟨xs[i], ?_, List.getElem?_eq_getElem hi'⟩
  have h1 := List.sizeOf_lt_of_mem (List.mem_map.2 ⟨xs[i], List.getElem_mem hi', rfl⟩ : xs[i].1 ∈ xs.map (·.1))
  simp only [DataW.agg.sizeOf_spec] at hk
  omega⟩
theorem OpensD.via {l : Lay α} {kk : Nat} (h : OpensD P t l kk) (f : β → α) (g : α → β) (hfg : ∀ a, f (g a) = a) : OpensD P t (l.via f) kk := ⟨h.1, fun hs hx => by
  obtain ⟨a, ha⟩ := h.2 hs hx
  exact ⟨g a, by show l.rd _ _ _ (f (g a)); rw [hfg]; exact ha⟩⟩
/-! ### The names of types, without the count of their namesakes (the count is dear in the kernel) -/
def looseName (P : Program) : Nat → TypeId → Option String
  | 0, _ => none
  | d + 1, t =>
    match P.info? t with
    | some i =>
      match i.desc with
      | .named n _ => some n
      | .pointer e => (looseName P d e).map ("*" ++ ·)
      | .bool | .int _ | .float _ | .string => if i.str.isEmpty then none else some i.str
      | _ => none
    | none => none
theorem loose_of (P : Program) : ∀ (d : Nat) (t : TypeId) {s : String}, P.typeName? d t = some s → looseName P d t = some s
  | 0, _, _, h => by cases h
  | d + 1, t, s, h => by
    unfold Program.typeName? at h
    unfold looseName
    cases hi : P.info? t with
    | none => rw [hi] at h; cases h
    | some i =>
      rw [hi] at h
      dsimp only at h ⊢
      cases hd : i.desc <;> rw [hd] at h <;> dsimp only at h ⊢ <;> first | (cases h; done) | exact h | skip
      · obtain ⟨x, hx, rfl⟩ := Option.map_eq_some_iff.1 h
        rw [loose_of P d _ hx]
        rfl
      · split at h
        · exact h
        · cases h
theorem loose_all (P : Program) (d : Nat) (s : String) (q : TypeId → Bool) (l : List TypeId) (h : (l.all fun u => looseName P d u != some s || q u) = true) : (l.all fun u => P.typeName? d u != some s || q u) = true := by
  refine List.all_eq_true.2 fun u hu => ?_
  have := List.all_eq_true.1 h u hu
  by_cases hs : P.typeName? d u = some s
  · rw [loose_of P d u hs] at this
    rw [hs]
    exact this
  · simp [hs]
end Go.Proofs.YtbdahjpdjamgiaaGreatDoor
