/- Frames, layouts of data in memory, rows that a call owns, and how they change. No program here. -/
import Derived.WalkKit
import Derived.Lib.Hide
import Derived.Maps.AppendAt
import Derived.Lib.Builder
import Derived.Laws.MakeOwn
import Derived.Deep.Draws
import Derived.Test.YtbdahjpdjamgiaaGreatDoorPart1
namespace Go.Proofs.YtbdahjpdjamgiaaGreatDoor
open Go.RowKit

/-! ### Frames -/
/-- Of the blocks that were there, those outside S stand as they stood. -/
structure Fr (S : Nat → Prop) (w w' : World) : Prop where
  os : w'.os = w.os
  tape : w'.tape = w.tape
  output : w'.output = w.output
  size : w.heap.size ≤ w'.heap.size
  block : ∀ k, k < w.heap.size → ¬ S k → w'.heap[k]? = w.heap[k]?
/-- Nothing that was there has changed. -/
abbrev Ext (w w' : World) : Prop := Fr (fun _ => False) w w'

theorem Fr.refl (S : Nat → Prop) (w : World) : Fr S w w := ⟨rfl, rfl, rfl, Nat.le_refl _, fun _ _ _ => rfl⟩
theorem Fr.trans {S T U : Nat → Prop} {a b c : World} (h : Fr S a b) (k : Fr T b c) (hS : ∀ k, k < a.heap.size → S k → U k) (hT : ∀ k, k < a.heap.size → T k → U k) : Fr U a c :=
  ⟨k.os.trans h.os, k.tape.trans h.tape, k.output.trans h.output, Nat.le_trans h.size k.size, fun i hi hu =>
    (k.block i (Nat.lt_of_lt_of_le hi h.size) (fun ht => hu (hT i hi ht))).trans (h.block i hi (fun hs => hu (hS i hi hs)))⟩
theorem Fr.mono {S U : Nat → Prop} {a b : World} (h : Fr S a b) (hS : ∀ k, k < a.heap.size → S k → U k) : Fr U a b :=
  ⟨h.os, h.tape, h.output, h.size, fun i hi hu => h.block i hi (fun hs => hu (hS i hi hs))⟩
theorem Fr.ext {S : Nat → Prop} {a b c : World} (h : Fr S a b) (k : Ext b c) : Fr S a c := h.trans k (fun _ _ h => h) (fun _ _ h => h.elim)
theorem Ext.fr {S : Nat → Prop} {a b c : World} (h : Ext a b) (k : Fr S b c) : Fr S a c := Fr.trans h k (fun _ _ h => h.elim) (fun _ _ h => h)
theorem Ext.trans {a b c : World} (h : Ext a b) (k : Ext b c) : Ext a c := Fr.ext h k
theorem Ext.to {S : Nat → Prop} {a b : World} (h : Ext a b) : Fr S a b := h.mono (fun _ _ h => h.elim)
theorem ext_alloc (w : World) (o : Obj) : Ext w (w.alloc o) := ⟨rfl, rfl, rfl, by simp, fun k hk _ => Below.heap_alloc _ _ _ hk⟩
theorem Fr.alloc {S : Nat → Prop} {a w : World} (h : Fr S a w) (o : Obj) : Fr S a (w.alloc o) := h.ext (ext_alloc w o)
theorem ext_drew (w : World) : Ext w w.drew := ⟨rfl, rfl, rfl, Nat.le_refl _, fun _ _ _ => rfl⟩
theorem Fr.drew {S : Nat → Prop} {a w : World} (h : Fr S a w) : Fr S a w.drew := h.ext (ext_drew w)
theorem ext_drewN (w : World) (n : Nat) : Ext w (w.drewN n) := ⟨rfl, rfl, rfl, Nat.le_refl _, fun _ _ _ => rfl⟩
theorem Fr.drewN {S : Nat → Prop} {a w : World} (h : Fr S a w) (n : Nat) : Fr S a (w.drewN n) := h.ext (ext_drewN w n)
theorem fr_setCell (w : World) (p : Addr) (u : Value) : Fr (fun k => k = p.block) w (w.setCell p u) :=
  ⟨rfl, rfl, rfl, by simp [World.setCell], fun k _ hk => Below.heap_setCell _ _ _ _ hk⟩
theorem Fr.setCell {S : Nat → Prop} {a w : World} (h : Fr S a w) {p : Addr} (hp : S p.block ∨ a.heap.size ≤ p.block) (u : Value) : Fr S a (w.setCell p u) :=
  h.trans (fr_setCell w p u) (fun _ _ h => h) (fun k hk e => by subst e; rcases hp with h | h; exact h; omega)
theorem Fr.grown {S : Nat → Prop} {a w w' : World} {row : Option Nat} (h : Fr S a w) (hg : w.grownBy w' row) (hr : ∀ k, row = some k → S k ∨ a.heap.size ≤ k) : Fr S a w' :=
  ⟨hg.os.trans h.os, hg.tape.trans h.tape, hg.output.trans h.output, Nat.le_trans h.size hg.size, fun k hk hs =>
    (hg.block k (Nat.lt_of_lt_of_le hk h.size) (fun e => by rcases hr k e.symm with h | h; exact hs h; omega)).trans (h.block k hk hs)⟩
theorem grown_fr {w w' : World} {row : Option Nat} (hg : w.grownBy w' row) : Fr (fun k => some k = row) w w' := ⟨hg.os, hg.tape, hg.output, hg.size, hg.block⟩
theorem Fr.grownBy {w w' : World} {row : Option Nat} (h : Fr (fun k => some k = row) w w') : w.grownBy w' row := ⟨h.os, h.tape, h.output, h.size, h.block⟩
theorem Ext.below {w w' : World} (h : Ext w w') : Below w.heap.size w w' := ⟨h.os, h.tape, h.output, h.size, fun k hk => h.block k hk (fun h => h)⟩
theorem ext_below {w w' : World} (h : Below w.heap.size w w') : Ext w w' := ⟨h.os, h.tape, h.output, h.size, fun k hk _ => h.block k hk⟩
theorem fr_below {B : Nat} {w w' : World} (h : Below B w w') : Fr (fun k => B ≤ k) w w' := ⟨h.os, h.tape, h.output, h.size, fun k _ hb => h.block k (by omega)⟩
theorem Fr.cell {S : Nat → Prop} {w w' : World} (h : Fr S w w') {p : Addr} {v : Value} (hc : w.cell? p = some v) (hp : ¬ S p.block) : w'.cell? p = some v :=
  (World.cell?_of_block (h.block _ (World.block_lt_of_cell? w p hc) hp)).trans hc

/-- The frames of regions that draw: nothing that was there changes; the blocks of S alone may. -/
def extFrm : Frm := ⟨Ext, Fr.refl _, fun _ _ _ => Ext.trans⟩
def frFrm (S : Nat → Prop) : Frm := ⟨Fr S, Fr.refl S, fun _ _ _ h k => h.trans k (fun _ _ h => h) (fun _ _ h => h)⟩
theorem addr_add (b o j : Nat) : (⟨b, o, none⟩ : Addr).add j = ⟨b, o + j, none⟩ := by
  unfold Addr.add
  split
  · rename_i h; subst h; rfl
  · rfl
theorem lt_heap {w : World} {g : Nat} {o : Obj} (h : w.heap[g]? = some o) : g < w.heap.size := (Array.getElem?_eq_some_iff.1 h).1
/-! ### A block known whole -/
def Blk (w : World) (g : Nat) (cs : Array Value) (T : TypeId) : Prop := w.heap[g]? = some (.cells cs T (0, 0))
theorem Blk.lt {w : World} {g : Nat} {cs : Array Value} {T : TypeId} (h : Blk w g cs T) : g < w.heap.size := (Array.getElem?_eq_some_iff.1 h).1
theorem Blk.cell {w : World} {g : Nat} {cs : Array Value} {T : TypeId} (h : Blk w g cs T) : ∀ j, w.cell? ⟨g, j, none⟩ = cs[j]? := fun j => Lib.cell_of_heap h j
theorem Blk.frz {w : World} {g : Nat} {cs : Array Value} {T : TypeId} (h : Blk w g cs T) : ∀ j, w.frozen? ⟨g, j, none⟩ = false := fun j => by
  have : w.heap[g]? = some (.cells cs T (0, 0)) := h
  simp [World.frozen?, this]
theorem Blk.fr {S : Nat → Prop} {w w' : World} {g : Nat} {cs : Array Value} {T : TypeId} (h : Blk w g cs T) (hf : Fr S w w') (hs : ¬ S g) : Blk w' g cs T := (hf.block g h.lt hs).trans h
theorem Blk.ext {w w' : World} {g : Nat} {cs : Array Value} {T : TypeId} (h : Blk w g cs T) (hf : Ext w w') : Blk w' g cs T := h.fr hf (fun h => h)
theorem blk_new (w : World) (cs : Array Value) (T : TypeId) : Blk (w.alloc (.cells cs T)) w.heap.size cs T := heap_alloc_new w _
theorem Blk.set {w : World} {g : Nat} {cs : Array Value} {T : TypeId} (h : Blk w g cs T) (j : Nat) (v : Value) : Blk (w.setCell ⟨g, j, none⟩ v) g (cs.setIfInBounds j v) T := by
  have h' : w.heap[g]? = some (.cells cs T (0, 0)) := h
  show ((w.heap.modify g _)[g]? : Option Obj) = _
  rw [Array.getElem?_modify, if_pos rfl, h']
  rfl

/-! ### Layouts -/
structure Lay (α : Type) where
  size : Nat
  rd : (Nat → Prop) → World → List Value → α → Prop
  len : ∀ {A w cs x}, rd A w cs x → cs.length = size
  one : ∀ {A w cs x}, rd A w cs x → ∀ u ∈ cs, u.oneCell' = true
  frame : ∀ {A w w' cs x}, rd A w cs x → (∀ k, A k → w'.heap[k]? = w.heap[k]?) → rd A w' cs x
  mono : ∀ {A A' w cs x}, rd A w cs x → (∀ k, A k → A' k) → rd A' w cs x
namespace Lay
variable {α β γ : Type}
theorem fr {l : Lay α} {A S : Nat → Prop} {w w' : World} {cs : List Value} {x : α} (h : l.rd A w cs x) (hf : Fr S w w') (ha : ∀ k, A k → k < w.heap.size ∧ ¬ S k) : l.rd A w' cs x :=
  l.frame h fun k hk => hf.block k (ha k hk).1 (ha k hk).2

/-- One cell that a value fixes. -/
def cell1 (f : α → Value) (h1 : ∀ x, (f x).oneCell' = true) : Lay α where
  size := 1
  rd _ _ cs x := cs = [f x]
  len h := by rw [h]; rfl
  one h u hu := by rw [h] at hu; obtain rfl := List.mem_singleton.1 hu; exact h1 _
  frame h _ := h
  mono h _ := h
def u8 : Lay UInt8 := cell1 (fun x => .int .u8 (x.toNat : Int)) (fun _ => rfl)
def u32 : Lay UInt32 := cell1 (fun x => .int .u32 (x.toNat : Int)) (fun _ => rfl)
def u64 : Lay UInt64 := cell1 (fun x => .int .u64 (x.toNat : Int)) (fun _ => rfl)
def bool : Lay Bool := cell1 (fun x => .bool x) (fun _ => rfl)
def str : Lay ByteArray where
  size := 1
  rd _ _ cs x := cs = [.string x] ∧ x.size ≤ maxLen
  len h := by rw [h.1]; rfl
  one h u hu := by rw [h.1] at hu; obtain rfl := List.mem_singleton.1 hu; rfl
  frame h _ := h
  mono h _ := h
/-- Go's int. -/
def int : Lay Int where
  size := 1
  rd _ _ cs x := cs = [.int .i64 x] ∧ -9223372036854775808 ≤ x ∧ x ≤ 9223372036854775807
  len h := by rw [h.1]; rfl
  one h u hu := by rw [h.1] at hu; obtain rfl := List.mem_singleton.1 hu; rfl
  frame h _ := h
  mono h _ := h
def pair (a : Lay α) (b : Lay β) : Lay (α × β) where
  size := a.size + b.size
  rd A w cs x := ∃ c d, cs = c ++ d ∧ a.rd A w c x.1 ∧ b.rd A w d x.2
  len := by rintro A w cs x ⟨c, d, rfl, h, k⟩; rw [List.length_append, a.len h, b.len k]
  one := by
    rintro A w cs x ⟨c, d, rfl, h, k⟩ u hu
    rcases List.mem_append.1 hu with hu | hu
    · exact a.one h u hu
    · exact b.one k u hu
  frame := by rintro A w w' cs x ⟨c, d, rfl, h, k⟩ hf; exact ⟨c, d, rfl, a.frame h hf, b.frame k hf⟩
  mono := by rintro A A' w cs x ⟨c, d, rfl, h, k⟩ hf; exact ⟨c, d, rfl, a.mono h hf, b.mono k hf⟩
/-- The same cells, read as something else. -/
def via (a : Lay α) (f : β → α) : Lay β where
  size := a.size
  rd A w cs x := a.rd A w cs (f x)
  len h := a.len h
  one h := a.one h
  frame h hf := a.frame h hf
  mono h hf := a.mono h hf

/-- Some elements, one behind the other. -/
def all (l : Lay α) (A : Nat → Prop) (w : World) : List Value → List α → Prop
  | cs, [] => cs = []
  | cs, x :: xs => ∃ c d, cs = c ++ d ∧ l.rd A w c x ∧ all l A w d xs
theorem all_len {l : Lay α} {A : Nat → Prop} {w : World} : ∀ {xs : List α} {cs : List Value}, l.all A w cs xs → cs.length = xs.length * l.size
  | [], _, h => by rw [show _ = _ from h]; simp
  | x :: xs, _, h => by
    obtain ⟨c, d, rfl, h, k⟩ := h
    rw [List.length_append, l.len h, all_len k, List.length_cons, Nat.succ_mul, Nat.add_comm]
theorem all_one {l : Lay α} {A : Nat → Prop} {w : World} : ∀ {xs : List α} {cs : List Value}, l.all A w cs xs → ∀ u ∈ cs, u.oneCell' = true
  | [], _, h, u, hu => by rw [show _ = _ from h] at hu; cases hu
  | x :: xs, _, h, u, hu => by
    obtain ⟨c, d, rfl, h, k⟩ := h
    rcases List.mem_append.1 hu with hu | hu
    · exact l.one h u hu
    · exact all_one k u hu
theorem all_frame {l : Lay α} {A : Nat → Prop} {w w' : World} (hf : ∀ k, A k → w'.heap[k]? = w.heap[k]?) : ∀ {xs : List α} {cs : List Value}, l.all A w cs xs → l.all A w' cs xs
  | [], _, h => h
  | x :: xs, _, h => by
    obtain ⟨c, d, e, h, k⟩ := h
    exact ⟨c, d, e, l.frame h hf, all_frame hf k⟩
theorem all_mono {l : Lay α} {A A' : Nat → Prop} {w : World} (hf : ∀ k, A k → A' k) : ∀ {xs : List α} {cs : List Value}, l.all A w cs xs → l.all A' w cs xs
  | [], _, h => h
  | x :: xs, _, h => by
    obtain ⟨c, d, e, h, k⟩ := h
    exact ⟨c, d, e, l.mono h hf, all_mono hf k⟩
theorem all_append {l : Lay α} {A : Nat → Prop} {w : World} : ∀ {xs : List α} {cs : List Value} {ys : List α} {ds : List Value}, l.all A w cs xs → l.all A w ds ys → l.all A w (cs ++ ds) (xs ++ ys)
  | [], _, _, _, h, k => by rw [show _ = _ from h]; exact k
  | x :: xs, _, _, _, h, k => by
    obtain ⟨c, d, rfl, h, m⟩ := h
    exact ⟨c, _, List.append_assoc _ _ _, h, all_append m k⟩
theorem all_single {l : Lay α} {A : Nat → Prop} {w : World} {c : List Value} {x : α} (h : l.rd A w c x) : l.all A w c [x] := ⟨c, [], (List.append_nil _).symm, h, rfl⟩
theorem all_split {l : Lay α} {A : Nat → Prop} {w : World} : ∀ {xs ys : List α} {cs : List Value}, l.all A w cs (xs ++ ys) → ∃ c d, cs = c ++ d ∧ l.all A w c xs ∧ l.all A w d ys
  | [], _, cs, h => ⟨[], cs, rfl, rfl, h⟩
  | x :: xs, ys, _, h => by
    obtain ⟨c, d, rfl, h, m⟩ := h
    obtain ⟨e, f, rfl, h1, h2⟩ := all_split (xs := xs) m
    exact ⟨c ++ e, f, (List.append_assoc _ _ _).symm, ⟨c, e, rfl, h, h1⟩, h2⟩
/-- Element i and its cells. -/
theorem all_at {l : Lay α} {A : Nat → Prop} {w : World} {xs : List α} {cs : List Value} (h : l.all A w cs xs) (i : Nat) (hi : i < xs.length) :
    ∃ es, l.rd A w es xs[i] ∧ ∀ j, j < l.size → cs[i * l.size + j]? = es[j]? := by
  have hx : xs = xs.take i ++ (xs[i] :: xs.drop (i + 1)) := by rw [← List.drop_eq_getElem_cons hi, List.take_append_drop]
  rw [hx] at h
  obtain ⟨c, d, rfl, h1, es, f, rfl, h2, h3⟩ := all_split h
  refine ⟨es, h2, fun j hj => ?_⟩
  have hl : c.length = i * l.size := by rw [all_len h1, List.length_take, Nat.min_eq_left (by omega)]
  have he := l.len h2
  rw [List.getElem?_append_right (by omega), hl, Nat.add_sub_cancel_left, List.getElem?_append_left (by omega)]

/-- Elements that lead nowhere. -/
def flat (l : Lay α) : Prop := ∀ {A A' : Nat → Prop} {w w' : World} {cs : List Value} {x : α}, l.rd A w cs x → l.rd A' w' cs x
theorem all_flat {l : Lay α} (hl : l.flat) {A A' : Nat → Prop} {w w' : World} : ∀ {xs : List α} {cs : List Value}, l.all A w cs xs → l.all A' w' cs xs
  | [], _, h => h
  | x :: xs, _, h => by
    obtain ⟨c, d, e, h, k⟩ := h
    exact ⟨c, d, e, hl h, all_flat hl k⟩
theorem flat_cell1 (f : α → Value) (h1 : ∀ x, (f x).oneCell' = true) : (cell1 f h1).flat := fun h => h
theorem flat_u8 : u8.flat := fun h => h
theorem flat_u32 : u32.flat := fun h => h
theorem flat_u64 : u64.flat := fun h => h
theorem flat_bool : bool.flat := fun h => h
theorem flat_str : str.flat := fun h => h
theorem flat_int : int.flat := fun h => h
theorem flat_pair {a : Lay α} {b : Lay β} (ha : a.flat) (hb : b.flat) : (a.pair b).flat := fun ⟨c, d, e, h, k⟩ => ⟨c, d, e, ha h, hb k⟩
theorem flat_via {a : Lay α} (ha : a.flat) (f : β → α) : (a.via f).flat := fun h => ha h

/-- A slice, nil or not, of elements. -/
def slice (l : Lay α) : Lay (List α) where
  size := 1
  rd A w cs xs := ∃ a cap, cs = [.slice a xs.length cap] ∧ xs.length ≤ cap ∧ cap ≤ maxLen ∧
    (0 < xs.length → ∃ b o cur T fz flat, a = some ⟨b, o, none⟩ ∧ A b ∧ w.heap[b]? = some (.cells cur T fz) ∧ l.all A w flat xs ∧ ∀ j, j < flat.length → cur[o + j]? = flat[j]?)
  len := by rintro A w cs x ⟨a, cap, rfl, _⟩; rfl
  one := by rintro A w cs x ⟨a, cap, rfl, _⟩ u hu; obtain rfl := List.mem_singleton.1 hu; rfl
  frame := by
    rintro A w w' cs x ⟨a, cap, rfl, h1, h2, h3⟩ hf
    refine ⟨a, cap, rfl, h1, h2, fun hp => ?_⟩
    obtain ⟨b, o, cur, T, fz, flat, e, hA, hh, hall, hc⟩ := h3 hp
    exact ⟨b, o, cur, T, fz, flat, e, hA, (hf b hA).trans hh, all_frame hf hall, hc⟩
  mono := by
    rintro A A' w cs x ⟨a, cap, rfl, h1, h2, h3⟩ hf
    refine ⟨a, cap, rfl, h1, h2, fun hp => ?_⟩
    obtain ⟨b, o, cur, T, fz, flat, e, hA, hh, hall, hc⟩ := h3 hp
    exact ⟨b, o, cur, T, fz, flat, e, hf b hA, hh, all_mono hf hall, hc⟩
/-- What the walk reads of element i. -/
theorem slice_at {l : Lay α} {A : Nat → Prop} {w : World} {a : Option Addr} {n cap : Nat} {xs : List α} (h : (slice l).rd A w [.slice a n cap] xs) (i : Nat) (hi : i < n) :
    ∃ (b o : Nat) (es : List Value) (hi' : i < xs.length), a = some ⟨b, o, none⟩ ∧ A b ∧ b < w.heap.size ∧ l.rd A w es xs[i] ∧ ∀ j, j < l.size → w.cell? ⟨b, o + i * l.size + j, none⟩ = es[j]? := by
  obtain ⟨a', cap', e, h1, h2, h3⟩ := h
  simp only [List.cons.injEq, Value.slice.injEq, and_true] at e
  obtain ⟨rfl, rfl, rfl⟩ := e
  obtain ⟨b, o, cur, T, fz, flat, rfl, hA, hh, hall, hc⟩ := h3 (by omega)
  obtain ⟨es, he, hes⟩ := all_at hall i hi
  have hfl := all_len hall
  refine ⟨b, o, es, hi, rfl, hA, (lt_heap hh), he, fun j hj => ?_⟩
  have hlt : i * l.size + j < flat.length := by
    rw [hfl]
    calc i * l.size + j < i * l.size + l.size := by omega
      _ = (i + 1) * l.size := by rw [Nat.succ_mul]
      _ ≤ xs.length * l.size := Nat.mul_le_mul_right _ hi
  rw [Lib.cell_of_heap hh, Nat.add_assoc, hc _ hlt, hes j hj]
theorem slice_form {l : Lay α} {A : Nat → Prop} {w : World} {v : Value} {xs : List α} (h : (slice l).rd A w [v] xs) : ∃ a cap, v = .slice a xs.length cap ∧ xs.length ≤ cap ∧ cap ≤ maxLen := by
  obtain ⟨a, cap, e, h1, h2, _⟩ := h
  exact ⟨a, cap, by simpa using e, h1, h2⟩
end Lay

/-! ### A row that the call owns, as elements -/
/-- The slice v is the call's own (blocks from lo on); its elements read as xs; what they lead to lies from lo on too, in other blocks than v's own. -/
def Own {α : Type} (l : Lay α) (e : TypeId) (lo : Nat) (w : World) (v : Value) (xs : List α) : Prop :=
  ∃ flat, w.ownsRow lo e l.size v xs.length flat ∧ l.all (fun k => lo ≤ k ∧ k < w.heap.size ∧ some k ≠ v.ownBlock) w flat xs
theorem own_nil {α : Type} (l : Lay α) (e : TypeId) (lo : Nat) (w : World) : Own l e lo w (.slice none 0 0) [] := ⟨[], World.ownsRow_nil _ _ _ _, rfl⟩
theorem Own.lt {α : Type} {l : Lay α} {e : TypeId} {lo : Nat} {w : World} {v : Value} {xs : List α} (h : Own l e lo w v xs) : ∀ k, v.ownBlock = some k → lo ≤ k ∧ k < w.heap.size := by
  obtain ⟨flat, h, _⟩ := h
  exact h.lt
theorem Own.fr {α : Type} {l : Lay α} {e : TypeId} {lo : Nat} {w w' : World} {v : Value} {xs : List α} {S : Nat → Prop} (h : Own l e lo w v xs) (hf : Fr S w w') (hs : ∀ k, lo ≤ k → k < w.heap.size → ¬ S k) : Own l e lo w' v xs := by
  have hlt := h.lt
  obtain ⟨flat, h, k⟩ := h
  refine ⟨flat, ?_, Lay.all_mono (fun k hk => ⟨hk.1, Nat.lt_of_lt_of_le hk.2.1 hf.size, hk.2.2⟩) (Lay.all_frame (fun k hk => hf.block k hk.2.1 (hs k hk.1 hk.2.1)) k)⟩
  obtain ⟨h1, h2⟩ := h
  refine ⟨h1, h2.imp id ?_⟩
  rintro ⟨g, cap, cur, rfl, hg, hh, r⟩
  have := hlt g rfl
  exact ⟨g, cap, cur, rfl, hg, (hf.block g this.2 (hs g this.1 this.2)).trans hh, r⟩
theorem Own.ext {α : Type} {l : Lay α} {e : TypeId} {lo : Nat} {w w' : World} {v : Value} {xs : List α} (h : Own l e lo w v xs) (hf : Ext w w') : Own l e lo w' v xs := h.fr hf (fun _ _ _ h => h)
theorem Own.slice {α : Type} {l : Lay α} {e : TypeId} {lo : Nat} {w : World} {v : Value} {xs : List α} (h : Own l e lo w v xs) : l.slice.rd (fun k => lo ≤ k ∧ k < w.heap.size) w [v] xs := by
  obtain ⟨flat, ⟨h1, h2⟩, k⟩ := h
  rcases h2 with ⟨rfl, h0⟩ | ⟨g, cap, cur, rfl, hg, hh, hn, hm, hs, ht⟩
  · have : xs = [] := List.eq_nil_of_length_eq_zero h0
    subst this
    exact ⟨none, 0, rfl, Nat.le_refl _, by simp [maxLen], fun h => absurd h (by simp)⟩
  · refine ⟨_, cap, rfl, hn, hm, fun _ => ⟨g, 0, cur, e, (0, 0), flat, rfl, ⟨hg, (lt_heap hh)⟩, hh, Lay.all_mono (fun k hk => ⟨hk.1, hk.2.1⟩) k, fun j hj => ?_⟩⟩
    rw [Nat.zero_add, ← ht, List.getElem?_take, if_pos (by omega)]
    simp
theorem Own.form {α : Type} {l : Lay α} {e : TypeId} {lo : Nat} {w : World} {v : Value} {xs : List α} (h : Own l e lo w v xs) : ∃ a cap, v = .slice a xs.length cap ∧ xs.length ≤ cap ∧ cap ≤ maxLen := Lay.slice_form h.slice
theorem Own.shape {α : Type} {l : Lay α} {e : TypeId} {lo : Nat} {w : World} {v : Value} {xs : List α} (h : Own l e lo w v xs) : ∃ a n cap, v = .slice a n cap := by
  obtain ⟨a, cap, e, _⟩ := h.form
  exact ⟨a, _, cap, e⟩
/-- Elements that lead nowhere: the row's own block alone must stand. -/
theorem Own.only {α : Type} {l : Lay α} (hl : l.flat) {e : TypeId} {lo : Nat} {w w' : World} {v : Value} {xs : List α} {S : Nat → Prop} (h : Own l e lo w v xs) (hf : Fr S w w') (hs : ∀ k, v.ownBlock = some k → ¬ S k) : Own l e lo w' v xs := by
  have hlt := h.lt
  obtain ⟨flat, ⟨h1, h2⟩, k⟩ := h
  refine ⟨flat, ⟨h1, h2.imp id ?_⟩, Lay.all_flat hl k⟩
  rintro ⟨g, cap, cur, rfl, hg, hh, r⟩
  exact ⟨g, cap, cur, rfl, hg, (hf.block g (hlt g rfl).2 (hs g rfl)).trans hh, r⟩
/-- A lower base. -/
theorem Own.lower {α : Type} {l : Lay α} {e : TypeId} {lo lo' : Nat} {w : World} {v : Value} {xs : List α} (h : Own l e lo w v xs) (hl : lo' ≤ lo) : Own l e lo' w v xs := by
  obtain ⟨flat, ⟨h1, h2⟩, k⟩ := h
  refine ⟨flat, ⟨h1, h2.imp id ?_⟩, Lay.all_mono (fun k hk => ⟨by omega, hk.2⟩) k⟩
  rintro ⟨g, cap, cur, rfl, hg, r⟩
  exact ⟨g, cap, cur, rfl, by omega, r⟩

section
variable {P : Program} {ops : Array Oper} {rest : List Oper} {o : Oper} {a : Act} {Q : Exit → Act → World → Prop} {K : Act → World → Prop}
/-- 'append(v, ys..)' at the operation: v the call's own, the new cells read at ad. -/
theorem own_append_wp {α : Type} (l : Lay α) {W : World} (lo : Nat) (s x : Operand) (t e : TypeId) (z : Value) (bytes : Nat)
    (ho : o.op = .call { callee := .builtin .append, args := #[s, x], argTypes := #[t, t] })
    (ht : P.underlying t = some (.slice e)) (hinfo : (P.info? e).map (fun i => (i.zero, i.size, i.bytes)) = some (some z, l.size, bytes)) (hz : z.cells.size = l.size) (hb0 : 0 < bytes) (hl0 : 0 < l.size)
    (v : Value) (xs ys : List α) (news : List Value) (ad : Addr) (m c : Nat) (hs : a.eval s = v) (hx : a.eval x = .slice (some ad) m c) (hm : ys.length = m)
    (HO : Own l e lo W v xs) (HN : l.all (fun k => lo ≤ k ∧ k < W.heap.size ∧ some k ≠ v.ownBlock) W news ys) (hnews : ∀ j u, news[j]? = some u → W.cell? (ad.add j) = some u)
    (hlo : lo ≤ W.heap.size) (hl : (xs.length + m) * bytes ≤ 140737488355328)
    (h : ∀ v1 w1, Own l e lo w1 v1 (xs ++ ys) → Fr (fun k => some k = v.ownBlock) W w1 → (v1.ownBlock = v.ownBlock ∨ v1.ownBlock = some W.heap.size) → K (a.put o.dst v1) w1) :
    o.wp P a W K Q := by
  obtain ⟨i0, hi, hzz⟩ := Option.map_eq_some_iff.1 hinfo
  simp only [Prod.mk.injEq] at hzz
  obtain ⟨hz0, hz1, hz2⟩ := hzz
  have hlt := HO.lt
  obtain ⟨flat, HO, HF⟩ := HO
  have hlen : xs.length + m ≤ 140737488355328 := Nat.le_trans (Nat.le_mul_of_pos_right _ hb0) hl
  obtain ⟨v1, w1, hr, hown, hg, _, hat⟩ := run_append_own_at (P := P) W lo t o.type e i0 z l.size bytes ht hi hz0 hz1 hz2 hz hl0 v xs.length flat HO ad m c news (by rw [Lay.all_len HN, hm]) hnews (Lay.all_one HN) (by simp only [maxLen]; omega) hl hlo
  unfold Oper.wp execOp
  simp only [ho, resolve, invoke, builtin, Sem.run_bind, Sem.run_pure, Result.andThen_ok, List.map_toArray, List.map_cons, List.map_nil, hs, hx, hr]
  show K _ _
  refine h v1 w1 ⟨flat ++ news, by rw [List.length_append, hm]; exact hown, ?_⟩ (grown_fr hg) hat
  have hlt1 := hown.lt
  have hA : ∀ k, (lo ≤ k ∧ k < W.heap.size ∧ some k ≠ v.ownBlock) → (lo ≤ k ∧ k < w1.heap.size ∧ some k ≠ v1.ownBlock) := fun k hk => ⟨hk.1, Nat.lt_of_lt_of_le hk.2.1 hg.size, fun e => by
    rcases hat with hat | hat
    · exact hk.2.2 (e.trans hat)
    · rw [hat] at e
      injection e with e
      omega⟩
  exact Lay.all_append (Lay.all_mono hA (Lay.all_frame (fun k hk => hg.block k hk.2.1 hk.2.2) HF)) (Lay.all_mono hA (Lay.all_frame (fun k hk => hg.block k hk.2.1 hk.2.2) HN))
/-- One element, in the block that the walk has just laid for it. -/
theorem own_append1_wp {α : Type} (l : Lay α) {W : World} (lo : Nat) (s x : Operand) (t e : TypeId) (z : Value) (bytes : Nat)
    (ho : o.op = .call { callee := .builtin .append, args := #[s, x], argTypes := #[t, t] })
    (ht : P.underlying t = some (.slice e)) (hinfo : (P.info? e).map (fun i => (i.zero, i.size, i.bytes)) = some (some z, l.size, bytes)) (hz : z.cells.size = l.size) (hb0 : 0 < bytes) (hl0 : 0 < l.size)
    (v : Value) (xs : List α) (y : α) (cs : Array Value) (hs : a.eval s = v) (hx : a.eval x = .slice (some ⟨W.heap.size, 0, none⟩) 1 1)
    (HO : Own l e lo W v xs) (HY : l.rd (fun k => lo ≤ k ∧ k < W.heap.size ∧ some k ≠ v.ownBlock) W cs.toList y)
    (hlo : lo ≤ W.heap.size) (hl : (xs.length + 1) * bytes ≤ 140737488355328)
    (h : ∀ v1 w1, Own l e lo w1 v1 (xs ++ [y]) → Fr (fun k => some k = v.ownBlock) W w1 → (∀ k, v1.ownBlock = some k → v.ownBlock = some k ∨ W.heap.size ≤ k) → K (a.put o.dst v1) w1) :
    o.wp P a (W.alloc (.cells cs e)) K Q := by
  have hlt := HO.lt
  refine own_append_wp l lo s x t e z bytes ho ht hinfo hz hb0 hl0 v xs [y] cs.toList ⟨W.heap.size, 0, none⟩ 1 1 hs hx rfl (HO.ext (ext_alloc _ _)) ?_ ?_ (by simp; omega) hl ?_
  · exact Lay.all_single (l.mono (l.frame HY (fun k hk => Below.heap_alloc _ _ _ hk.2.1)) (fun k hk => ⟨hk.1, by simp; omega, hk.2.2⟩))
  · intro j u hj
    rw [show ((⟨W.heap.size, 0, none⟩ : Addr).add j) = ⟨W.heap.size, j, none⟩ from by unfold Addr.add; split <;> simp_all, (blk_new W cs e).cell j]
    simpa using hj
  · intro v1 w1 h1 h2 h3
    refine h v1 w1 h1 (Fr.trans (ext_alloc W _) h2 (fun _ _ h => h.elim) (fun _ _ h => h)) (fun k hk => ?_)
    rcases h3 with h3 | h3
    · exact .inl (h3 ▸ hk)
    · rw [h3] at hk
      injection hk with hk
      refine .inr ?_
      simp at hk
      omega
/-- 'append(v, ys...)', ys a slice that is read, nil let in. -/
theorem own_appends_wp {α : Type} (l : Lay α) {W : World} (lo : Nat) (s x : Operand) (t e : TypeId) (z : Value) (bytes : Nat)
    (ho : o.op = .call { callee := .builtin .append, args := #[s, x], argTypes := #[t, t] })
    (ht : P.underlying t = some (.slice e)) (hinfo : (P.info? e).map (fun i => (i.zero, i.size, i.bytes)) = some (some z, l.size, bytes)) (hz : z.cells.size = l.size) (hb0 : 0 < bytes) (hl0 : 0 < l.size)
    (v : Value) (xs ys : List α) (aa : Option Addr) (m c : Nat) {A : Nat → Prop} (hs : a.eval s = v) (hx : a.eval x = .slice aa m c)
    (HO : Own l e lo W v xs) (HR : l.slice.rd A W [.slice aa m c] ys) (HF : ∀ flat, l.all A W flat ys → l.all (fun k => lo ≤ k ∧ k < W.heap.size ∧ some k ≠ v.ownBlock) W flat ys)
    (hlo : lo ≤ W.heap.size) (hl : (xs.length + ys.length) * bytes ≤ 140737488355328)
    (h : ∀ v1 w1, Own l e lo w1 v1 (xs ++ ys) → Fr (fun k => some k = v.ownBlock) W w1 → (∀ k, v1.ownBlock = some k → v.ownBlock = some k ∨ W.heap.size ≤ k) → K (a.put o.dst v1) w1) :
    o.wp P a W K Q := by
  have hm : ys.length = m := by
    obtain ⟨a', cap', e', _⟩ := HR
    simp only [List.cons.injEq, Value.slice.injEq, and_true] at e'
    exact e'.2.1.symm
  have hfin : ∀ v1 w1, Own l e lo w1 v1 (xs ++ ys) → Fr (fun k => some k = v.ownBlock) W w1 → (v1.ownBlock = v.ownBlock ∨ v1.ownBlock = some W.heap.size) → K (a.put o.dst v1) w1 := fun v1 w1 h1 h2 h3 =>
    h v1 w1 h1 h2 (fun k hk => by
      rcases h3 with h3 | h3
      · exact .inl (h3 ▸ hk)
      · rw [h3] at hk; injection hk with hk; exact .inr (Nat.le_of_eq hk))
  rcases aa with _ | ad
  · have h0 : ys = [] := by
      obtain ⟨a', cap', e', _, _, h3⟩ := HR
      simp only [List.cons.injEq, Value.slice.injEq, and_true] at e'
      obtain ⟨rfl, -, -⟩ := e'
      rcases Nat.eq_zero_or_pos ys.length with h | h
      · exact List.eq_nil_of_length_eq_zero h
      · obtain ⟨_, _, _, _, _, _, h, _⟩ := h3 h
        cases h
    subst h0
    obtain rfl : m = 0 := hm.symm
    obtain ⟨i0, hi, hzz⟩ := Option.map_eq_some_iff.1 hinfo
    simp only [Prod.mk.injEq] at hzz
    obtain ⟨hz0, hz1, hz2⟩ := hzz
    have hrun : (Builtin.append_ #[t, t] o.type #[v, .slice none 0 c]).run P W = .ok v W := by
      obtain ⟨flat, HO, _⟩ := HO
      rcases HO.2 with ⟨rfl, hn⟩ | ⟨g, cap, cur, rfl, _, _, hnc, _⟩
      · simp [Builtin.append_, run_underlying ht, sizeOf, typeInfo, hi, Builtin.lenOf, Builtin.firstCells]
      · simp [Builtin.append_, run_underlying ht, sizeOf, typeInfo, hi, Builtin.lenOf, Builtin.firstCells, hnc, storeCells]
    unfold Oper.wp execOp
    simp only [ho, resolve, invoke, builtin, Sem.run_bind, Sem.run_pure, Result.andThen_ok, List.map_toArray, List.map_cons, List.map_nil, hs, hx, hrun]
    exact (hfin v W (by rw [List.append_nil]; exact HO) (Fr.refl _ _) (.inl rfl))
  · rcases Nat.eq_zero_or_pos m with h0 | h0
    · have h0' : ys = [] := List.eq_nil_of_length_eq_zero (by omega)
      subst h0'
      exact own_append_wp l lo s x t e z bytes ho ht hinfo hz hb0 hl0 v xs [] [] ad m c hs hx hm HO rfl (by simp) hlo (by rw [← hm]; exact hl) hfin
    · obtain ⟨a', cap', e', _, _, h3⟩ := HR
      simp only [List.cons.injEq, Value.slice.injEq, and_true] at e'
      obtain ⟨rfl, -, -⟩ := e'
      obtain ⟨b, of, cur, T, fz, flat, e'', hA, hh, hall, hc⟩ := h3 (by omega)
      injection e'' with e''
      subst e''
      refine own_append_wp l lo s x t e z bytes ho ht hinfo hz hb0 hl0 v xs ys flat _ m c hs hx hm HO (HF flat hall) (fun j u hj => ?_) hlo (by rw [← hm]; exact hl) hfin
      have hlt : j < flat.length := by
        rcases Nat.lt_or_ge j flat.length with h | h
        · exact h
        · rw [List.getElem?_eq_none h] at hj; cases hj
      rw [addr_add, Lib.cell_of_heap hh, hc j hlt, hj]
/-- 'append(v, ys..)' at the operation: v the call's own, the new cells read at ad. -/
theorem own_append {α : Type} (l : Lay α) {W : World} (lo : Nat) (hgd : o.guard = none) (s x : Operand) (t e : TypeId) (z : Value) (bytes : Nat)
    (ho : o.op = .call { callee := .builtin .append, args := #[s, x], argTypes := #[t, t] })
    (ht : P.underlying t = some (.slice e)) (hinfo : (P.info? e).map (fun i => (i.zero, i.size, i.bytes)) = some (some z, l.size, bytes)) (hz : z.cells.size = l.size) (hb0 : 0 < bytes) (hl0 : 0 < l.size)
    (v : Value) (xs ys : List α) (news : List Value) (ad : Addr) (m c : Nat) (hs : a.eval s = v) (hx : a.eval x = .slice (some ad) m c) (hm : ys.length = m)
    (HO : Own l e lo W v xs) (HN : l.all (fun k => lo ≤ k ∧ k < W.heap.size ∧ some k ≠ v.ownBlock) W news ys) (hnews : ∀ j u, news[j]? = some u → W.cell? (ad.add j) = some u)
    (hlo : lo ≤ W.heap.size) (hl : (xs.length + m) * bytes ≤ 140737488355328)
    (h : ∀ v1 w1, Own l e lo w1 v1 (xs ++ ys) → Fr (fun k => some k = v.ownBlock) W w1 → (v1.ownBlock = v.ownBlock ∨ v1.ownBlock = some W.heap.size) → wpList P ops Q rest (a.put o.dst v1) w1) :
    wpList P ops Q (o :: rest) a W :=
  wpList_plain hgd fun _ hK => own_append_wp l lo s x t e z bytes ho ht hinfo hz hb0 hl0 v xs ys news ad m c hs hx hm HO HN hnews hlo hl fun v1 w1 h1 h2 h3 => hK _ _ (h v1 w1 h1 h2 h3)
/-- One element, in the block that the walk has just laid for it. -/
theorem own_append1 {α : Type} (l : Lay α) {W : World} (lo : Nat) (hgd : o.guard = none) (s x : Operand) (t e : TypeId) (z : Value) (bytes : Nat)
    (ho : o.op = .call { callee := .builtin .append, args := #[s, x], argTypes := #[t, t] })
    (ht : P.underlying t = some (.slice e)) (hinfo : (P.info? e).map (fun i => (i.zero, i.size, i.bytes)) = some (some z, l.size, bytes)) (hz : z.cells.size = l.size) (hb0 : 0 < bytes) (hl0 : 0 < l.size)
    (v : Value) (xs : List α) (y : α) (cs : Array Value) (hs : a.eval s = v) (hx : a.eval x = .slice (some ⟨W.heap.size, 0, none⟩) 1 1)
    (HO : Own l e lo W v xs) (HY : l.rd (fun k => lo ≤ k ∧ k < W.heap.size ∧ some k ≠ v.ownBlock) W cs.toList y)
    (hlo : lo ≤ W.heap.size) (hl : (xs.length + 1) * bytes ≤ 140737488355328)
    (h : ∀ v1 w1, Own l e lo w1 v1 (xs ++ [y]) → Fr (fun k => some k = v.ownBlock) W w1 → (∀ k, v1.ownBlock = some k → v.ownBlock = some k ∨ W.heap.size ≤ k) → wpList P ops Q rest (a.put o.dst v1) w1) :
    wpList P ops Q (o :: rest) a (W.alloc (.cells cs e)) :=
  wpList_plain hgd fun _ hK => own_append1_wp l lo s x t e z bytes ho ht hinfo hz hb0 hl0 v xs y cs hs hx HO HY hlo hl fun v1 w1 h1 h2 h3 => hK _ _ (h v1 w1 h1 h2 h3)
/-- 'append(v, ys...)', ys a slice that is read, nil let in. -/
theorem own_appends {α : Type} (l : Lay α) {W : World} (lo : Nat) (hgd : o.guard = none) (s x : Operand) (t e : TypeId) (z : Value) (bytes : Nat)
    (ho : o.op = .call { callee := .builtin .append, args := #[s, x], argTypes := #[t, t] })
    (ht : P.underlying t = some (.slice e)) (hinfo : (P.info? e).map (fun i => (i.zero, i.size, i.bytes)) = some (some z, l.size, bytes)) (hz : z.cells.size = l.size) (hb0 : 0 < bytes) (hl0 : 0 < l.size)
    (v : Value) (xs ys : List α) (aa : Option Addr) (m c : Nat) {A : Nat → Prop} (hs : a.eval s = v) (hx : a.eval x = .slice aa m c)
    (HO : Own l e lo W v xs) (HR : l.slice.rd A W [.slice aa m c] ys) (HF : ∀ flat, l.all A W flat ys → l.all (fun k => lo ≤ k ∧ k < W.heap.size ∧ some k ≠ v.ownBlock) W flat ys)
    (hlo : lo ≤ W.heap.size) (hl : (xs.length + ys.length) * bytes ≤ 140737488355328)
    (h : ∀ v1 w1, Own l e lo w1 v1 (xs ++ ys) → Fr (fun k => some k = v.ownBlock) W w1 → (∀ k, v1.ownBlock = some k → v.ownBlock = some k ∨ W.heap.size ≤ k) → wpList P ops Q rest (a.put o.dst v1) w1) :
    wpList P ops Q (o :: rest) a W :=
  wpList_plain hgd fun _ hK => own_appends_wp l lo s x t e z bytes ho ht hinfo hz hb0 hl0 v xs ys aa m c hs hx HO HR HF hlo hl fun v1 w1 h1 h2 h3 => hK _ _ (h v1 w1 h1 h2 h3)
end

/-- Element i of a slice of ints, as the walk reads it. -/
theorem int_at {A : Nat → Prop} {w : World} {a : Option Addr} {n cap : Nat} {xs : List Int} (h : Lay.int.slice.rd A w [.slice a n cap] xs) (i : Nat) (hi : i < xs.length) :
    ∃ (b o : Nat), a = some ⟨b, o, none⟩ ∧ A b ∧ w.cell? ⟨b, o + i, none⟩ = some (.int .i64 xs[i]) ∧ -9223372036854775808 ≤ xs[i] ∧ xs[i] ≤ 9223372036854775807 := by
  have hn : xs.length = n := by
    obtain ⟨_, _, e, _⟩ := h
    simp only [List.cons.injEq, Value.slice.injEq, and_true] at e
    exact e.2.1.symm
  obtain ⟨b, o, es, hi', e, hA, _, hr, hc⟩ := Lay.slice_at h i (by omega)
  refine ⟨b, o, e, hA, ?_, hr.2⟩
  have := hc 0 (by decide)
  rw [hr.1, show o + i * Lay.int.size + 0 = o + i from by show o + i * 1 + 0 = o + i; omega] at this
  exact this

/-! ### string(bytes) -/
/-- The string of some bytes. -/
def strOf (l : List UInt8) : ByteArray := ⟨l.toArray⟩
theorem strOf_data (l : List UInt8) : (strOf l).data.toList = l := rfl
theorem strOf_size (l : List UInt8) : (strOf l).size = l.length := rfl
theorem strOf_inj {l m : List UInt8} (h : strOf l = strOf m) : l = m := by have := congrArg (fun s : ByteArray => s.data.toList) h; exact this
theorem strOfNums_bytes (l : List UInt8) : strOfNums (l.map fun b => (b.toNat : Int)) = strOf l := by
  unfold strOfNums strOf
  congr 1
  congr 1
  rw [List.map_map]
  conv => rhs; rw [← List.map_id l]
  exact List.map_congr_left fun _ _ => by simp
theorem u8_cells {A : Nat → Prop} {w : World} : ∀ {l : List UInt8} {cs : List Value}, Lay.u8.all A w cs l → cs = l.map fun b => Value.int .u8 (b.toNat : Int)
  | [], _, h => h
  | b :: l, _, h => by
    obtain ⟨c, d, rfl, h, k⟩ := h
    rw [show c = [.int .u8 (b.toNat : Int)] from h, u8_cells k]
    rfl
theorem u8_all {A : Nat → Prop} {w : World} : ∀ (l : List UInt8), Lay.u8.all A w (l.map fun b => Value.int .u8 (b.toNat : Int)) l
  | [] => rfl
  | _ :: l => ⟨[_], _, rfl, rfl, u8_all l⟩
theorem conv_str {P : Program} {A : Nat → Prop} {w : World} {v : Value} {l : List UInt8} (h : Lay.u8.slice.rd A w [v] l) (hA : ∀ k, A k → k < w.heap.size) (src dst e : TypeId) (hs : P.underlying src = some (.slice e)) (he : P.underlying e = some (.int .u8)) (hd : P.underlying dst = some .string) :
    ∀ W, Ext w W → (convert src dst v).run P W = .ok (.string (strOf l)) W := by
  intro W hx
  have h := Lay.fr h hx (fun k hk => ⟨hA k hk, fun h => h⟩)
  obtain ⟨a, cap, e', h1, h2, h3⟩ := h
  obtain rfl : v = .slice a l.length cap := by simpa using e'
  rcases Nat.eq_zero_or_pos l.length with h0 | h0
  · obtain rfl : l = [] := List.eq_nil_of_length_eq_zero h0
    show (convert src dst (.slice a 0 cap)).run P W = _
    rw [run_convert_bytes_string W src dst e _ 0 cap hs he hd]
    cases a <;> simp [Conv.bytesToString, loadCells]
    all_goals rfl
  · obtain ⟨b, o, cur, T, fz, flat, rfl, hb, hh, hall, hc⟩ := h3 h0
    rw [← strOfNums_bytes]
    refine run_convert_bytes_arg W src e hs he b o l.length cap _ (by simp) (fun i hi => ?_) dst hd
    have hfl := u8_cells hall
    rw [Lib.cell_of_heap hh, hc i (by rw [hfl]; simpa using hi), hfl]
    simp [hi]
end Go.Proofs.YtbdahjpdjamgiaaGreatDoor
