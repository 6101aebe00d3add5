/- From the reading of a parameter (Trod) to a layout's reading. No program here. -/
import Derived.Test.YtfpikpbolgodcaaDoorMem
import Derived.ProofKit
import Derived.OpenShut
import Derived.Deep.Slices
namespace Go.Proofs.YtfpikpbolgodcaaDoor
open Go.ChangeShapes Go.WideShapes Go.ChangeAt Go.RowKit Go.Deep
/-- Whatever reads at type t, reads in layout l. -/
def Opens {α : Type} (P : Program) (t : TypeId) (l : Lay α) : Prop :=
  P.cellsOf t = l.size ∧ ∀ {H : Type} {enc : TypeId × Value → H} {w : World} {base : Nat} {spare : Nat → Bool} {held : Bool} {fuel : Nat} {cs : List Value} {x : DataW H × List MemPlace},
    DataW.trod enc P w base spare held fuel t cs = some x → ∃ a, l.rd (fun k => k < w.heap.size) w cs a
variable {P : Program} {t e : TypeId} {α β : Type}
theorem opens_int (ht : P.underlying t = some (.int .i64)) (hc : P.cellsOf t = 1) : Opens P t Lay.int := ⟨hc, fun h => by
  obtain ⟨n, rfl, -, hw⟩ := DataW.trod_int ht h
  exact ⟨n, rfl, bounds_i64 hw⟩⟩
theorem opens_u8 (ht : P.underlying t = some (.int .u8)) (hc : P.cellsOf t = 1) : Opens P t Lay.u8 := ⟨hc, fun h => by
  obtain ⟨n, rfl, -, hw⟩ := DataW.trod_int ht h
  have hb : 0 ≤ n ∧ n ≤ 255 := bounds_u8 hw
  refine ⟨UInt8.ofNat n.toNat, ?_⟩
  show [Value.int .u8 n] = [Value.int .u8 _]
  rw [UInt8.toNat_ofNat', Nat.mod_eq_of_lt (by omega), Int.toNat_of_nonneg hb.1]⟩
theorem opens_u32 (ht : P.underlying t = some (.int .u32)) (hc : P.cellsOf t = 1) : Opens P t Lay.u32 := ⟨hc, fun h => by
  obtain ⟨n, rfl, -, hw⟩ := DataW.trod_int ht h
  have hb : 0 ≤ n ∧ n ≤ 4294967295 := bounds_u32 hw
  refine ⟨UInt32.ofNat n.toNat, ?_⟩
  show [Value.int .u32 n] = [Value.int .u32 _]
  rw [UInt32.toNat_ofNat', Nat.mod_eq_of_lt (by omega), Int.toNat_of_nonneg hb.1]⟩
theorem opens_u64 (ht : P.underlying t = some (.int .u64)) (hc : P.cellsOf t = 1) : Opens P t Lay.u64 := ⟨hc, fun h => by
  obtain ⟨n, rfl, -, hw⟩ := DataW.trod_int ht h
  have hb : 0 ≤ n ∧ n ≤ 18446744073709551615 := bounds_u64 hw
  refine ⟨UInt64.ofNat n.toNat, ?_⟩
  show [Value.int .u64 n] = [Value.int .u64 _]
  rw [UInt64.toNat_ofNat', Nat.mod_eq_of_lt (by omega), Int.toNat_of_nonneg hb.1]⟩
theorem opens_bool (ht : P.underlying t = some .bool) (hc : P.cellsOf t = 1) : Opens P t Lay.bool := ⟨hc, fun h => by
  obtain ⟨n, rfl, -⟩ := DataW.trod_bool ht h
  exact ⟨n, rfl⟩⟩
theorem opens_str (ht : P.underlying t = some .string) (hc : P.cellsOf t = 1) : Opens P t Lay.str := ⟨hc, fun h => by
  obtain ⟨n, rfl, -, hn⟩ := DataW.trod_string ht h
  exact ⟨n, rfl, hn⟩⟩
theorem opens_slice {l : Lay α} (ht : P.underlying t = some (.slice e)) (hc : P.cellsOf t = 1) (he : Opens P e l) (h0 : 0 < l.size) : Opens P t l.slice := ⟨hc, fun {H enc w base spare held fuel cs x} h => by
  rcases open_slice ht h with ⟨rfl, -⟩ | ⟨a, len, cap, m, n, D, Pl, rfl, hb, hl, hm, hmm, -, hx⟩
  · exact ⟨[], none, 0, rfl, Nat.le_refl _, by decide, fun h => absurd h (by simp)⟩
  have hlm : len ≤ m := by rw [hmm]; split <;> omega
  rcases Nat.eq_zero_or_pos len with hz | hpos
  · subst hz
    exact ⟨[], some a, cap, rfl, hl, hm, fun h => absurd h (by simp)⟩
  rw [he.1] at hx
  have first : ∃ b o cur T fz, a = ⟨b, o, none⟩ ∧ w.heap[b]? = some (.cells cur T fz) := by
    obtain ⟨cs', h1, -⟩ := hx 0 (by omega)
    obtain ⟨-, h2, h3⟩ := World.cells?_some h1
    have h4 := h3 0 h0
    rw [List.getElem?_eq_getElem (by omega), Nat.zero_mul] at h4
    obtain ⟨b, o, sp⟩ := a
    simp only [Addr.add, if_true, World.cell?] at h4
    cases hh : w.heap[b]? with
    | none => rw [hh] at h4; cases h4
    | some obj =>
      rw [hh] at h4
      cases obj with
      | cells cur T fz =>
        cases sp with
        | none => exact ⟨b, o, cur, T, fz, rfl, hh⟩
        | some _ => simp at h4
      | _ => cases h4
  obtain ⟨b, o, cur, T, fz, rfl, hh⟩ := first
  have build : ∀ k, k ≤ len → ∃ (flat : List Value) (xs : List α), xs.length = k ∧ flat.length = k * l.size ∧ l.all (fun k => k < w.heap.size) w flat xs ∧ ∀ j, j < flat.length → cur[o + j]? = flat[j]? := by
    intro k
    induction k with
    | zero => exact fun _ => ⟨[], [], rfl, by simp, rfl, by simp⟩
    | succ k ih =>
      intro hk
      obtain ⟨flat, xs, e1, e2, e3, e4⟩ := ih (by omega)
      obtain ⟨cs', h1, h2⟩ := hx k (by omega)
      obtain ⟨y, hy⟩ := he.2 h2
      obtain ⟨-, h3, h4⟩ := World.cells?_some h1
      refine ⟨flat ++ cs', xs ++ [y], by simp [e1], by rw [List.length_append, e2, h3, Nat.succ_mul], Lay.all_append e3 (Lay.all_single hy), fun j hj => ?_⟩
      rcases Nat.lt_or_ge j flat.length with hj' | hj'
      · rw [List.getElem?_append_left hj', e4 j hj']
      · rw [List.getElem?_append_right hj']
        have h5 := h4 (j - flat.length) (by rw [List.length_append] at hj; omega)
        rw [← h5, addr_add, addr_add, Lib.cell_of_heap hh]
        congr 1
        omega
  obtain ⟨flat, xs, e1, e2, e3, e4⟩ := build len (Nat.le_refl _)
  subst e1
  exact ⟨xs, some ⟨b, o, none⟩, cap, rfl, hl, hm, fun _ => ⟨b, o, cur, T, fz, flat, rfl, lt_heap hh, hh, e3, e4⟩⟩⟩
/-- Fields, one behind the other, from cell off on. -/
structure OpensF {α : Type} (P : Program) (fs : List Field) (off : Nat) (l : Lay α) : Prop where
  rd : ∀ {H : Type} {enc : TypeId × Value → H} {w : World} {base : Nat} {spare : Nat → Bool} {held : Bool} {fuel : Nat} {cs : List Value},
    cs.length = off + l.size → (∀ f ∈ fs, ∃ x, DataW.trod enc P w base spare held fuel f.type ((cs.drop f.offset).take (P.cellsOf f.type)) = some x) → ∃ a, l.rd (fun k => k < w.heap.size) w (cs.drop off) a
theorem opensF_one {f : Field} {off : Nat} {l : Lay α} (h : Opens P f.type l) (ho : f.offset = off) : OpensF P [f] off l := ⟨fun hl hf => by
  obtain ⟨x, hx⟩ := hf f (.head _)
  rw [ho, h.1, List.take_of_length_le (by rw [List.length_drop]; omega)] at hx
  exact h.2 hx⟩
theorem opensF_cons {f : Field} {fs : List Field} {off : Nat} {l : Lay α} {m : Lay β} (h : Opens P f.type l) (ho : f.offset = off) (k : OpensF P fs (off + l.size) m) : OpensF P (f :: fs) off (l.pair m) := ⟨fun {H enc w base spare held fuel cs} hl hf => by
  obtain ⟨x, hx⟩ := hf f (.head _)
  rw [ho, h.1] at hx
  obtain ⟨a, ha⟩ := h.2 hx
  have hl' : cs.length = off + (l.size + m.size) := hl
  obtain ⟨b, hb⟩ := k.rd (by omega) (fun f hf' => hf f (.tail _ hf'))
  refine ⟨(a, b), _, _, ?_, ha, hb⟩
  rw [← List.drop_drop, List.take_append_drop]⟩
theorem opens_struct {fs : Array Field} {l : Lay α} (ht : P.underlying t = some (.struct fs)) (hc : P.cellsOf t = l.size) (h : OpensF P fs.toList 0 l) : Opens P t l := ⟨hc, fun {H enc w base spare held fuel cs x} hx => by
  obtain ⟨xs, n, rfl, -, hl, hlen, hf⟩ := DataW.trod_struct ht hx
  refine h.rd (enc := enc) (w := w) (base := base) (spare := spare) (held := held) (fuel := n) (cs := cs) (by omega) fun f hf' => ?_
  obtain ⟨i, hi, e⟩ := List.getElem_of_mem hf'
  have := hf i f (by rw [← e, Array.getElem?_eq_getElem (by simpa using hi)]; simp)
  rw [this]
  exact ⟨_, List.getElem?_eq_getElem (by simp at hi; omega)⟩⟩
end Go.Proofs.YtfpikpbolgodcaaDoor
