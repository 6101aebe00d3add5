/- A type assertion to an interface type that fails. -/
import Derived.Test.YtfpikpbolgodcaaDoorMem
import Derived.Test.YtfpikpbolgodcaaDoorProg
import Derived.KernelRfl
namespace Go.Proofs.YtfpikpbolgodcaaDoor
open Go.RowKit
/-- The type T lacks a method of the interface type t. -/
def lacks (P : Program) (T t : TypeId) : Bool :=
  match P.underlying t, P.info? T with
  | some (.interface want), some i => !(want.toList.filter fun x => !i.methods.any fun m => m.name == x.1 && m.sig == x.2).isEmpty
  | _, _ => false
theorem least_some {l : List String} (h : l ≠ []) : ∃ m, Instr.least l = some m := by
  cases l with
  | nil => exact absurd rfl h
  | cons a l => exact ⟨_, rfl⟩
theorem part_some (p : String → Bool) (f : String → String) {l : List String} (h : l ≠ []) : ∃ m, (Instr.least (l.partition p).2 <|> Instr.least ((l.partition p).1.map f)) = some m := by
  rw [List.partition_eq_filter_filter]
  by_cases h1 : l.filter (not ∘ p) = []
  · rw [h1]
    have h2 : l.filter p ≠ [] := by
      intro h2
      apply h
      rw [List.filter_eq_nil_iff] at h1 h2
      cases l with
      | nil => rfl
      | cons a l =>
        have a1 := h1 a (by simp)
        have a2 := h2 a (by simp)
        simp at a1 a2
        simp [a1] at a2
    exact least_some (by simpa using h2)
  · obtain ⟨m, hm⟩ := least_some h1
    exact ⟨m, by show (Instr.least (l.filter (not ∘ p)) <|> _) = _; rw [hm]; rfl⟩
theorem missing_some {want : Array (String × TypeId)} {got : Array Method} (h : (want.toList.filter fun x => !got.any fun m => m.name == x.1 && m.sig == x.2) ≠ []) : ∃ m, Instr.missingMethod want got = some m := by
  unfold Instr.missingMethod
  exact part_some _ _ (by simpa using h)
theorem ta_fails {P : Program} {T x t : TypeId} {z : Value} (h : lacks P T t = true) (hz : ∀ W, (zeroValue t).run P W = .ok z W) (v : Value) (W : World) : (Instr.typeAssert (.iface T v) x t true).run P W = .ok (.tuple #[z, .bool false]) W := by
  unfold lacks at h
  split at h
  · rename_i want i hu hi
    obtain ⟨m, hm⟩ := missing_some (by simpa using h)
    unfold Instr.typeAssert
    simp [run_underlying hu, typeInfo, hi, hm, hz]
  · cases h
end Go.Proofs.YtfpikpbolgodcaaDoor
