/- From the reading of a parameter to a layout's reading, by the reading's size (for types that contain themselves). No program here. -/
import Derived.Test.YtgfnbdfmigcmbaaOpen
namespace Go.Proofs.Ytgfnbdfmigcmbaa
open Go.ChangeShapes Go.WideShapes Go.ChangeAt Go.RowKit Go.Deep
/-- Whatever reads at type t, as something smaller than kk, reads in layout l. -/
def OpensD {α : Type} (P : Program) (t : TypeId) (l : Lay α) (kk : Nat) : Prop :=
  P.cellsOf t = l.size ∧ ∀ {H : Type} {enc : TypeId × Value → H} {w : World} {base : Nat} {spare : Nat → Bool} {held : Bool} {fuel : Nat} {cs : List Value} {x : DataW H × List MemPlace},
    SizeOf.sizeOf x.1 < kk → DataW.trod enc P w base spare held fuel t cs = some x → ∃ a, l.rd (fun k => k < w.heap.size) w cs a
variable {P : Program} {t e : TypeId} {α β : Type}
theorem Opens.d {l : Lay α} (h : Opens P t l) (kk : Nat) : OpensD P t l kk := ⟨h.1, fun _ hx => h.2 hx⟩
theorem OpensD.le {l : Lay α} {k m : Nat} (h : OpensD P t l k) (hm : m ≤ k) : OpensD P t l m := ⟨h.1, fun hs hx => h.2 (by omega) hx⟩
theorem opensD_slice {l : Lay α} {kk : Nat} (ht : P.underlying t = some (.slice e)) (hc : P.cellsOf t = 1) (he : OpensD P e l kk) (h0 : 0 < l.size) : OpensD P t l.slice (kk + 1) := ⟨hc, fun {H enc w base spare held fuel cs x} hk h => by
  rcases open_slice ht h with ⟨rfl, -⟩ | ⟨a, len, cap, m, n, D, Pl, rfl, hb, hl, hm, hmm, hxe, hx⟩
  · exact ⟨[], none, 0, rfl, Nat.le_refl _, by decide, fun h => absurd h (by simp)⟩
  have hlm : len ≤ m := by rw [hmm]; split <;> omega
  have hsz : ∀ i, i < len → SizeOf.sizeOf (D i) < kk := fun i hi => by
    rw [hxe] at hk
    have h1 := List.sizeOf_lt_of_mem (List.mem_map.2 ⟨i, List.mem_range.2 hi, rfl⟩ : D i ∈ (List.range len).map D)
    simp only [DataW.slice.sizeOf_spec] at hk
    omega
  rcases Nat.eq_zero_or_pos len with hz | hpos
  · subst hz
    exact ⟨[], some a, cap, rfl, hl, hm, fun h => absurd h (by simp)⟩
  rw [he.1] at hx
  have first : ∃ b o cur T fz, a = ⟨b, o, none⟩ ∧ w.heap[b]? = some (.cells cur T fz) := by
    obtain ⟨cs', h1, -⟩ := hx 0 (by omega)
    obtain ⟨-, h2, h3⟩ := World.cells?_some h1
    have h4 := h3 0 h0
    rw [List.getElem?_eq_getElem (by omega), Nat.zero_mul] at h4
    obtain ⟨b, o, sp⟩ := a
    simp only [Addr.add, if_true, World.cell?] at h4
    cases hh : w.heap[b]? with
    | none => rw [hh] at h4; cases h4
    | some obj =>
      rw [hh] at h4
      cases obj with
      | cells cur T fz =>
        cases sp with
        | none => exact ⟨b, o, cur, T, fz, rfl, hh⟩
        | some _ => simp at h4
      | _ => cases h4
  obtain ⟨b, o, cur, T, fz, rfl, hh⟩ := first
  have build : ∀ k, k ≤ len → ∃ (flat : List Value) (xs : List α), xs.length = k ∧ flat.length = k * l.size ∧ l.all (fun k => k < w.heap.size) w flat xs ∧ ∀ j, j < flat.length → cur[o + j]? = flat[j]? := by
    intro k
    induction k with
    | zero => exact fun _ => ⟨[], [], rfl, by simp, rfl, by simp⟩
    | succ k ih =>
      intro hk
      obtain ⟨flat, xs, e1, e2, e3, e4⟩ := ih (by omega)
      obtain ⟨cs', h1, h2⟩ := hx k (by omega)
      obtain ⟨y, hy⟩ := he.2 (hsz k (by omega)) h2
      obtain ⟨-, h3, h4⟩ := World.cells?_some h1
      refine ⟨flat ++ cs', xs ++ [y], by simp [e1], by rw [List.length_append, e2, h3, Nat.succ_mul], Lay.all_append e3 (Lay.all_single hy), fun j hj => ?_⟩
      rcases Nat.lt_or_ge j flat.length with hj' | hj'
      · rw [List.getElem?_append_left hj', e4 j hj']
      · rw [List.getElem?_append_right hj']
        have h5 := h4 (j - flat.length) (by rw [List.length_append] at hj; omega)
        rw [← h5, addr_add, addr_add, Lib.cell_of_heap hh]
        congr 1
        omega
  obtain ⟨flat, xs, e1, e2, e3, e4⟩ := build len (Nat.le_refl _)
  subst e1
  exact ⟨xs, some ⟨b, o, none⟩, cap, rfl, hl, hm, fun _ => ⟨b, o, cur, T, fz, flat, rfl, lt_heap hh, hh, e3, e4⟩⟩⟩
/-- Fields, one behind the other, from cell off on. -/
structure OpensDF {α : Type} (P : Program) (fs : List Field) (off : Nat) (l : Lay α) (kk : Nat) : Prop where
  rd : ∀ {H : Type} {enc : TypeId × Value → H} {w : World} {base : Nat} {spare : Nat → Bool} {held : Bool} {fuel : Nat} {cs : List Value},
    cs.length = off + l.size → (∀ f ∈ fs, ∃ x : DataW H × List MemPlace, SizeOf.sizeOf x.1 < kk ∧ DataW.trod enc P w base spare held fuel f.type ((cs.drop f.offset).take (P.cellsOf f.type)) = some x) → ∃ a, l.rd (fun k => k < w.heap.size) w (cs.drop off) a
theorem opensDF_one {f : Field} {off kk : Nat} {l : Lay α} (h : OpensD P f.type l kk) (ho : f.offset = off) : OpensDF P [f] off l kk := ⟨fun hl hf => by
  obtain ⟨x, hs, hx⟩ := hf f (.head _)
  rw [ho, h.1, List.take_of_length_le (by rw [List.length_drop]; omega)] at hx
  exact h.2 hs hx⟩
theorem opensDF_cons {f : Field} {fs : List Field} {off kk : Nat} {l : Lay α} {m : Lay β} (h : OpensD P f.type l kk) (ho : f.offset = off) (k : OpensDF P fs (off + l.size) m kk) : OpensDF P (f :: fs) off (l.pair m) kk := ⟨fun {H enc w base spare held fuel cs} hl hf => by
  obtain ⟨x, hs, hx⟩ := hf f (.head _)
  rw [ho, h.1] at hx
  obtain ⟨a, ha⟩ := h.2 hs hx
  have hl' : cs.length = off + (l.size + m.size) := hl
  obtain ⟨b, hb⟩ := k.rd (by omega) (fun f hf' => hf f (.tail _ hf'))
  refine ⟨(a, b), _, _, ?_, ha, hb⟩
  rw [← List.drop_drop, List.take_append_drop]⟩
theorem opensD_struct {fs : Array Field} {l : Lay α} {kk : Nat} (ht : P.underlying t = some (.struct fs)) (hc : P.cellsOf t = l.size) (h : OpensDF P fs.toList 0 l kk) : OpensD P t l (kk + 1) := ⟨hc, fun {H enc w base spare held fuel cs x} hk hx => by
  obtain ⟨xs, n, rfl, rfl, hl, hlen, hf⟩ := DataW.trod_struct ht hx
  refine h.rd (enc := enc) (w := w) (base := base) (spare := spare) (held := held) (fuel := n) (cs := cs) (by omega) fun f hf' => ?_
  obtain ⟨i, hi, e⟩ := List.getElem_of_mem hf'
  have := hf i f (by rw [← e, Array.getElem?_eq_getElem (by simpa using hi)]; simp)
  rw [this]
  have hi' : i < xs.length := by simp at hi; omega
  refine ⟨xs[i], ?_, List.getElem?_eq_getElem hi'⟩
  have h1 := List.sizeOf_lt_of_mem (List.mem_map.2 ⟨xs[i], List.getElem_mem hi', rfl⟩ : xs[i].1 ∈ xs.map (·.1))
  simp only [DataW.agg.sizeOf_spec] at hk
  omega⟩
theorem OpensD.via {l : Lay α} {kk : Nat} (h : OpensD P t l kk) (f : β → α) (g : α → β) (hfg : ∀ a, f (g a) = a) : OpensD P t (l.via f) kk := ⟨h.1, fun hs hx => by
  obtain ⟨a, ha⟩ := h.2 hs hx
  exact ⟨g a, by show l.rd _ _ _ (f (g a)); rw [hfg]; exact ha⟩⟩
end Go.Proofs.Ytgfnbdfmigcmbaa
