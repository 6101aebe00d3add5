/- How arguments and declarations of locals lie. -/
import Derived.Test.YtfpikpbolgodcaaDoorCodePlain
namespace Go.Proofs.YtfpikpbolgodcaaDoor
open Go.RowKit
theorem arg_at {A : Nat → Prop} {w : World} {a : Option Addr} {n cap : Nat} {xs : List (Int × UInt64)} (h : Lay.arg.slice.rd A w [.slice a n cap] xs) (i : Nat) (hi : i < xs.length) :
    ∃ (b o : Nat), a = some ⟨b, o, none⟩ ∧ A b ∧ w.cell? ⟨b, o + i * 2, none⟩ = some (.int .i64 xs[i].1) ∧ w.cell? ⟨b, o + i * 2 + 1, none⟩ = some (.int .u64 (xs[i].2.toNat : Int)) ∧ -9223372036854775808 ≤ xs[i].1 ∧ xs[i].1 ≤ 9223372036854775807 := by
  have hn : xs.length = n := by
    obtain ⟨_, _, e, _⟩ := h
    simp only [List.cons.injEq, Value.slice.injEq, and_true] at e
    exact e.2.1.symm
  obtain ⟨b, o, es, hi', e, hA, _, hr, hc⟩ := Lay.slice_at h i (by omega)
  obtain ⟨c, d, rfl, h1, h2⟩ := hr
  obtain ⟨rfl, h3, h4⟩ := h1
  obtain rfl := h2
  exact ⟨b, o, e, hA, hc 0 (by decide), hc 1 (by decide), h3, h4⟩
abbrev Lay.loc : Lay (UInt32 × Int) := Lay.u32.pair Lay.int
theorem flat_loc : Lay.loc.flat := Lay.flat_pair Lay.flat_u32 Lay.flat_int
theorem loc_at {A : Nat → Prop} {w : World} {a : Option Addr} {n cap : Nat} {xs : List (UInt32 × Int)} (h : Lay.loc.slice.rd A w [.slice a n cap] xs) (i : Nat) (hi : i < xs.length) :
    ∃ (b o : Nat), a = some ⟨b, o, none⟩ ∧ A b ∧ w.cell? ⟨b, o + i * 2, none⟩ = some (.int .u32 (xs[i].1.toNat : Int)) ∧ w.cell? ⟨b, o + i * 2 + 1, none⟩ = some (.int .i64 xs[i].2) ∧ -9223372036854775808 ≤ xs[i].2 ∧ xs[i].2 ≤ 9223372036854775807 := by
  have hn : xs.length = n := by
    obtain ⟨_, _, e, _⟩ := h
    simp only [List.cons.injEq, Value.slice.injEq, and_true] at e
    exact e.2.1.symm
  obtain ⟨b, o, es, hi', e, hA, _, hr, hc⟩ := Lay.slice_at h i (by omega)
  obtain ⟨c, d, rfl, h1, h2⟩ := hr
  obtain rfl := h1
  obtain ⟨rfl, h3, h4⟩ := h2
  exact ⟨b, o, e, hA, hc 0 (by decide), hc 1 (by decide), h3, h4⟩
end Go.Proofs.YtfpikpbolgodcaaDoor
