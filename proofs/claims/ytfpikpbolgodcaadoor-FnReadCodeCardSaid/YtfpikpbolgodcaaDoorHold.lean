/- Objects that hold bytes. -/
import Derived.Test.YtfpikpbolgodcaaDoorLebU
namespace Go.Proofs.YtfpikpbolgodcaaDoor
open Go.RowKit

/-- The block g and the array that its first cell leads to. -/
def foot1 (w : World) (g : Nat) : Nat → Prop := fun k => k = g ∨ ∃ v, w.cell? ⟨g, 0, none⟩ = some v ∧ v.ownBlock = some k

/-- An object that holds bytes, and the blocks that are its own. -/
structure Hold where
  is : Nat → Nat → List UInt8 → World → Prop
  foot : World → Nat → Nat → Prop
  lt : ∀ {lo g bs w}, is lo g bs w → ∀ k, foot w g k → lo ≤ k ∧ k < w.heap.size
  frame : ∀ {lo g bs w w' S}, is lo g bs w → Fr S w w' → (∀ k, foot w g k → ¬ S k) → is lo g bs w' ∧ ∀ k, foot w' g k ↔ foot w g k
/-- What a write leaves. -/
structure Wrote (S : Hold) (lo g : Nat) (w : World) (bs : List UInt8) (w' : World) : Prop where
  is : S.is lo g bs w'
  fr : Fr (S.foot w g) w w'
  foot : ∀ k, S.foot w' g k → S.foot w g k ∨ w.heap.size ≤ k
theorem Wrote.trans {S : Hold} {lo g : Nat} {w w1 w2 : World} {bs bs' : List UInt8} (h : Wrote S lo g w bs w1) (k : Wrote S lo g w1 bs' w2) : Wrote S lo g w bs' w2 :=
  ⟨k.is, h.fr.trans k.fr (fun _ _ h => h) (fun i hi hs => by
    rcases h.foot i hs with h' | h'
    · exact h'
    · omega), fun i hi => by
    rcases k.foot i hi with h' | h'
    · exact h.foot i h'
    · have := h.fr.size
      exact .inr (by omega)⟩
theorem Wrote.refl {S : Hold} {lo g : Nat} {w : World} {bs : List UInt8} (h : S.is lo g bs w) : Wrote S lo g w bs w := ⟨h, Fr.refl _ _, fun _ h => .inl h⟩
/-- Something new is made first. -/
theorem Wrote.after {S : Hold} {lo g : Nat} {w w1 w2 : World} {bs bs' : List UInt8} (h : S.is lo g bs w) (hx : Ext w w1) (k : Wrote S lo g w1 bs' w2) : Wrote S lo g w bs' w2 :=
  Wrote.trans ⟨(S.frame h hx (fun _ _ h => h)).1, hx.to, fun i hi => .inl (((S.frame h hx (fun _ _ h => h)).2 i).1 hi)⟩ k
theorem Wrote.ext {S : Hold} {lo g : Nat} {w w1 w2 : World} {bs : List UInt8} (h : Wrote S lo g w bs w1) (hx : Ext w1 w2) : Wrote S lo g w bs w2 :=
  h.trans ⟨(S.frame h.is hx (fun _ _ h => h)).1, hx.to, fun i hi => .inl (((S.frame h.is hx (fun _ _ h => h)).2 i).1 hi)⟩
/-- All that lies below lo stands. -/
theorem Wrote.below {S : Hold} {lo g : Nat} {w w' : World} {bs0 bs : List UInt8} (h : S.is lo g bs0 w) (hw : Wrote S lo g w bs w') : Fr (fun k => lo ≤ k) w w' := hw.fr.mono fun k _ hk => (S.lt h k hk).1

/-! ### A block of one cell that leads to bytes -/
def IsB (T : TypeId) (lo g : Nat) (bs : List UInt8) (w : World) : Prop := lo ≤ g ∧ ∃ v, Blk w g #[v] T ∧ OwnB lo w v bs ∧ v.ownBlock ≠ some g
theorem IsB.lt {T : TypeId} {lo g : Nat} {bs : List UInt8} {w : World} (h : IsB T lo g bs w) : ∀ k, foot1 w g k → lo ≤ k ∧ k < w.heap.size := by
  obtain ⟨hg, v, hb, ho, hne⟩ := h
  rintro k (rfl | ⟨v', hc, hk⟩)
  · exact ⟨hg, hb.lt⟩
  · rw [hb.cell 0] at hc
    simp only [List.getElem?_toArray, List.getElem?_cons_zero, Option.some.injEq] at hc
    subst hc
    exact ho.lt k hk
theorem IsB.frame {T : TypeId} {lo g : Nat} {bs : List UInt8} {w w' : World} {S : Nat → Prop} (h : IsB T lo g bs w) (hf : Fr S w w') (hs : ∀ k, foot1 w g k → ¬ S k) : IsB T lo g bs w' ∧ ∀ k, foot1 w' g k ↔ foot1 w g k := by
  have hlt := h.lt
  obtain ⟨hg, v, hb, ho, hne⟩ := h
  have hc0 : w.cell? ⟨g, 0, none⟩ = some v := hb.cell 0
  have hb' := hb.fr hf (hs g (.inl rfl))
  have hc1 : w'.cell? ⟨g, 0, none⟩ = some v := hb'.cell 0
  refine ⟨⟨hg, v, hb', ?_, hne⟩, fun k => ?_⟩
  · exact Own.only Lay.flat_u8 ho hf (fun k hk => hs k (.inr ⟨v, hc0, hk⟩))
  · unfold foot1
    rw [hc0, hc1]
def holdB (T : TypeId) : Hold := ⟨IsB T, foot1, IsB.lt, IsB.frame⟩
theorem isB_new (T : TypeId) (w : World) : IsB T w.heap.size w.heap.size [] (w.alloc (.cells #[.slice none 0 0] T)) :=
  ⟨Nat.le_refl _, .slice none 0 0, blk_new w _ _, own_nil _ _ _ _, by simp [Value.ownBlock]⟩
/-- What was written to one of the call's own, read back off its one field. -/
theorem wrote_new {T : TypeId} {w w1 : World} {bs : List UInt8} (h : Wrote (holdB T) w.heap.size w.heap.size (w.alloc (.cells #[.slice none 0 0] T)) bs w1) :
    ∃ v, w1.cell? ⟨w.heap.size, 0, none⟩ = some v ∧ OwnB w.heap.size w1 v bs ∧ Ext w w1 := by
  obtain ⟨⟨hg, v, hb, ho, hne⟩, hf, -⟩ := h
  refine ⟨v, hb.cell 0, ho, Ext.fr (ext_alloc w _) hf |>.mono fun k hk hs => ?_⟩
  rcases hs with rfl | ⟨v', hc, hk'⟩
  · omega
  · rw [(blk_new w _ _).cell 0] at hc
    simp at hc
    subst hc
    simp [Value.ownBlock] at hk'
theorem isB_at (T : TypeId) (w : World) (n : Nat) (hn : w.heap.size = n) : (holdB T).is n n [] (w.alloc (.cells #[.slice none 0 0] T)) := by subst hn; exact isB_new T w
theorem wrote_at {T : TypeId} {w w1 : World} {bs : List UInt8} {n : Nat} (hn : w.heap.size = n) (h : Wrote (holdB T) n n (w.alloc (.cells #[.slice none 0 0] T)) bs w1) :
    ∃ v, w1.cell? ⟨n, 0, none⟩ = some v ∧ OwnB n w1 v bs ∧ Ext w w1 := by subst hn; exact wrote_new h
/-- The cell is read, a slice with more bytes in the same row or a new one is stored. -/
theorem isB_step {T : TypeId} {lo g : Nat} {bs' : List UInt8} {w w1 : World} {v v1 : Value} (hg : lo ≤ g) (hb : Blk w g #[v] T) (hne : v.ownBlock ≠ some g)
    (h1 : OwnB lo w1 v1 bs') (h2 : Fr (fun k => some k = v.ownBlock) w w1) (h3 : ∀ k, v1.ownBlock = some k → v.ownBlock = some k ∨ w.heap.size ≤ k) : Wrote (holdB T) lo g w bs' (w1.setCell ⟨g, 0, none⟩ v1) := by
  have hb1 := hb.fr h2 (fun e => hne e.symm)
  have hne1 : v1.ownBlock ≠ some g := fun e => by
    rcases h3 g e with h | h
    · exact hne h
    · have := hb.lt
      omega
  have hc0 : w.cell? ⟨g, 0, none⟩ = some v := hb.cell 0
  have hb2 : Blk (w1.setCell ⟨g, 0, none⟩ v1) g #[v1] _ := hb1.set 0 _
  refine ⟨⟨hg, _, hb2, Own.only Lay.flat_u8 h1 (fr_setCell w1 _ _) (fun k hk e => hne1 (by rw [hk, e])), hne1⟩, ?_, ?_⟩
  · exact h2.trans (fr_setCell w1 _ _) (fun k _ e => .inr ⟨v, hc0, e.symm⟩) (fun k _ e => .inl e)
  · rintro k (rfl | ⟨v', hc, hk⟩)
    · exact .inl (.inl rfl)
    · rw [hb2.cell 0] at hc
      simp at hc
      subst hc
      rcases h3 k hk with h | h
      · exact .inl (.inr ⟨v, hc0, h⟩)
      · exact .inr h

end Go.Proofs.YtfpikpbolgodcaaDoor
