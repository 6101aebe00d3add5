/- Texts of this proof, one behind the other. -/
import Derived.Test.YtejgninpjhcgnaaGreatDoorPart25
namespace Go.Proofs.YtejgninpjhcgnaaGreatDoor
open Go.ChangeShapes Go.WideShapes Go.ChangeAt Go.RowKit Go.Deep
set_option linter.unusedSimpArgs false
set_option linter.unusedVariables false
set_option maxRecDepth 100000
set_option maxHeartbeats 200000
def Zq {α : Type} (P : Program) (t : TypeId) (l : Lay α) (kk : Nat) : Prop :=
 P.cellsOf t = l.size ∧ ∀ {H : Type} {enc : TypeId × Value → H} {w : World} {base : Nat} {spare : Nat → Bool} {held : Bool} {fuel : Nat} {cs : List Value} {x : DataW H × List MemPlace},
  SizeOf.sizeOf x.1 < kk → DataW.trod enc P w base spare held fuel t cs = some x → ∃ a, l.rd (fun k => k < w.heap.size) w cs a
variable {P : Program} {t e : TypeId} {α β : Type}
theorem Yf.d {l : Lay α} (h : Yf P t l) (kk : Nat) : Zq P t l kk := ⟨h.1, fun _ hx => h.2 hx⟩
theorem Zq.le {l : Lay α} {k m : Nat} (h : Zq P t l k) (hm : m ≤ k) : Zq P t l m := ⟨h.1, fun hs hx => h.2 (by omega) hx⟩
theorem zid {l : Lay α} {kk : Nat} (ht : P.underlying t = some (.slice e)) (hc : P.cellsOf t = 1) (he : Zq P e l kk) (h0 : 0 < l.size) : Zq P t l.slice (kk + 1) := ⟨hc, fun {H enc w base spare held fuel cs x} hk h => by
 rcases open_slice ht h with ⟨rfl, -⟩ | ⟨a, len, cap, m, n, D, Pl, rfl, hb, hl, hm, oo, kA, hx⟩
 ·exact ⟨[], none, 0, rfl, Nat.le_refl _, by decide, fun h => absurd h (by simp)⟩
 have lz : len ≤ m := by rw [oo]; split <;> omega
 have gz : ∀ i, i < len → SizeOf.sizeOf (D i) < kk := fun i hi => by
  rw [kA] at hk
  have h1 := List.sizeOf_lt_of_mem (List.mem_map.2 ⟨i, List.mem_range.2 hi, rfl⟩ : D i ∈ (List.range len).map D)
  simp only [DataW.slice.sizeOf_spec] at hk
  omega
 rcases Nat.eq_zero_or_pos len with hz | iR
 ·subst hz
  exact ⟨[], some a, cap, rfl, hl, hm, fun h => absurd h (by simp)⟩
 rw [he.1] at hx
 have first : ∃ b o cX T fz, a = ⟨b, o, none⟩ ∧ w.heap[b]? = some (.cells cX T fz) := by
  obtain ⟨fb, h1, -⟩ := hx 0 (by omega)
  obtain ⟨-, h2, h3⟩ := World.cells?_some h1
  have h4 := h3 0 h0
  rw [List.getElem?_eq_getElem (by omega), Nat.zero_mul] at h4
  obtain ⟨b, o, sp⟩ := a
  simp only [Addr.add, if_true, World.cell?] at h4
  cases hh : w.heap[b]? with
  | none => rw [hh] at h4; cases h4
  | some obj =>
   rw [hh] at h4
   cases obj with
   | cells cX T fz =>
    cases sp with
    | none => exact ⟨b, o, cX, T, fz, rfl, hh⟩
    | some _ => simp at h4
   | _ => cases h4
 obtain ⟨b, o, cX, T, fz, rfl, hh⟩ := first
 have build : ∀ k, k ≤ len → ∃ (flat : List Value) (xs : List α), xs.length = k ∧ flat.length = k * l.size ∧ l.all (fun k => k < w.heap.size) w flat xs ∧ ∀ j, j < flat.length → cX[o + j]? = flat[j]? := by
  intro k
  induction k with
  | zero => exact fun _ => ⟨[], [], rfl, by simp, rfl, by simp⟩
  | succ k ih =>
   intro hk
   obtain ⟨flat, xs, e1, e2, e3, e4⟩ := ih (by omega)
   obtain ⟨fb, h1, h2⟩ := hx k (by omega)
   obtain ⟨y, hy⟩ := he.2 (gz k (by omega)) h2
   obtain ⟨-, h3, h4⟩ := World.cells?_some h1
   refine ⟨flat ++ fb, xs ++ [y], by simp [e1], by rw [laQ, e2, h3, Nat.succ_mul], Lay.all_append e3 (Lay.all_single hy), fun j hj => ?_⟩
   rcases Nat.lt_or_ge j flat.length with nw | nw
   ·rw [List.getElem?_append_left nw, e4 j nw]
   ·rw [List.getElem?_append_right nw]
    have h5 := h4 (j - flat.length) (by rw [laQ] at hj; omega)
    rw [← h5, yY, yY, Lib.cell_of_heap hh]
    congr 1
    omega
 obtain ⟨flat, xs, e1, e2, e3, e4⟩ := build len (Nat.le_refl _)
 subst e1
 exact ⟨xs, some ⟨b, o, none⟩, cap, rfl, hl, hm, fun _ => ⟨b, o, cX, T, fz, flat, rfl, Z6 hh, hh, e3, e4⟩⟩⟩
structure OpensDF {α : Type} (P : Program) (fs : List Field) (off : Nat) (l : Lay α) (kk : Nat) : Prop where
 rd : ∀ {H : Type} {enc : TypeId × Value → H} {w : World} {base : Nat} {spare : Nat → Bool} {held : Bool} {fuel : Nat} {cs : List Value},
  cs.length = off + l.size → (∀ f ∈ fs, ∃ x : DataW H × List MemPlace, SizeOf.sizeOf x.1 < kk ∧ DataW.trod enc P w base spare held fuel f.type ((cs.drop f.offset).take (P.cellsOf f.type)) = some x) → ∃ a, l.rd (fun k => k < w.heap.size) w (cs.drop off) a
theorem zja {f : Field} {off kk : Nat} {l : Lay α} (h : Zq P f.type l kk) (ho : f.offset = off) : OpensDF P [f] off l kk := ⟨fun hl hf => by
 obtain ⟨x, hs, hx⟩ := hf f (.head _)
 rw [ho, h.1, List.take_of_length_le (by rw [ldQ]; omega)] at hx
 exact h.2 hs hx⟩
theorem zie {f : Field} {fs : List Field} {off kk : Nat} {l : Lay α} {m : Lay β} (h : Zq P f.type l kk) (ho : f.offset = off) (k : OpensDF P fs (off + l.size) m kk) : OpensDF P (f :: fs) off (l.pair m) kk := ⟨fun {H enc w base spare held fuel cs} hl hf => by
 obtain ⟨x, hs, hx⟩ := hf f (.head _)
 rw [ho, h.1] at hx
 obtain ⟨a, ha⟩ := h.2 hs hx
 have BD : cs.length = off + (l.size + m.size) := hl
 obtain ⟨b, hb⟩ := k.rd (by omega) (fun f gC => hf f (.tail _ gC))
 refine ⟨(a, b), _, _, ?_, ha, hb⟩
 rw [← List.drop_drop, List.take_append_drop]⟩
theorem zhM {fs : Array Field} {l : Lay α} {kk : Nat} (ht : P.underlying t = some (.struct fs)) (hc : P.cellsOf t = l.size) (h : OpensDF P fs.toList 0 l kk) : Zq P t l (kk + 1) := ⟨hc, fun {H enc w base spare held fuel cs x} hk hx => by
 obtain ⟨xs, n, rfl, rfl, hl, aT, hf⟩ := DataW.trod_struct ht hx
 refine h.rd (enc := enc) (w := w) (base := base) (spare := spare) (held := held) (fuel := n) (cs := cs) (by omega) fun f gC => ?_
 obtain ⟨i, hi, e⟩ := List.getElem_of_mem gC
 have := hf i f (by rw [← e, Array.getElem?_eq_getElem (by simpa using hi)]; simp)
 rw [this]
 have eY : i < xs.length := by simp at hi; omega
 refine ⟨xs[i], ?_, List.getElem?_eq_getElem eY⟩
 have h1 := List.sizeOf_lt_of_mem (List.mem_map.2 ⟨xs[i], List.getElem_mem eY, rfl⟩ : xs[i].1 ∈ xs.map (·.1))
 simp only [DataW.agg.sizeOf_spec] at hk
 omega⟩
theorem Zq.via {l : Lay α} {kk : Nat} (h : Zq P t l kk) (f : β → α) (g : α → β) (eO : ∀ a, f (g a) = a) : Zq P t (l.via f) kk := ⟨h.1, fun hs hx => by
 obtain ⟨a, ha⟩ := h.2 hs hx
 exact ⟨g a, by show l.rd _ _ _ (f (g a)); rw [eO]; exact ha⟩⟩
def YE (P : Program) : Nat → TypeId → Option String
 | 0, _ => none
 | d + 1, t =>
  match P.info? t with
  | some i =>
   match i.desc with
   | .named n _ => some n
   | .pointer e => (YE P d e).map ("*" ++ ·)
   | .bool | .int _ | .float _ | .string => if i.str.isEmpty then none else some i.str
   | _ => none
  | none => none
theorem zex (P : Program) : ∀ (d : Nat) (t : TypeId) {s : String}, P.typeName? d t = some s → YE P d t = some s
 | 0, _, _, h => by cases h
 | d + 1, t, s, h => by
  unfold Program.typeName? at h
  unfold YE
  cases hi : P.info? t with
  | none => rw [hi] at h; cases h
  | some i =>
   rw [hi] at h
   dsimp only at h ⊢
   cases hd : i.desc <;> rw [hd] at h <;> dsimp only at h ⊢ <;> first | (cases h; done) | exact h | skip
   ·obtain ⟨x, hx, rfl⟩ := Option.map_eq_some_iff.1 h
    rw [zex P d _ hx]
    rfl
   ·split at h
    ·exact h
    ·cases h
theorem zdp (P : Program) (d : Nat) (s : String) (q : TypeId → Bool) (l : List TypeId) (h : (l.all fun u => YE P d u != some s || q u) = true) : (l.all fun u => P.typeName? d u != some s || q u) = true := by
 refine List.all_eq_true.2 fun u hu => ?_
 have := List.all_eq_true.1 h u hu
 by_cases hs : P.typeName? d u = some s
 ·rw [zex P d u hs] at this
  rw [hs]
  exact this
 ·simp [hs]
end Go.Proofs.YtejgninpjhcgnaaGreatDoor
