/- Instructions as the package reads them: the plain side, and how they lie. -/
import Derived.Test.YtfpikpbolgodcaaDoorReadNum
import Derived.Test.YtfpikpbolgodcaaDoorTree
import Derived.Test.YtfpikpbolgodcaaDoorCodePlain
namespace Go.Proofs.YtfpikpbolgodcaaDoor
open Go.RowKit
/-- What is read. -/
inductive RI where
  | i32 (v : Int)
  | i64 (v : Int)
  | eqz
  | idx (op n : Nat)
  | ci (n r : Nat)
  | ret
  | blk (lp : Bool) (body : List RI)
/-- What comes of it: odd: nothing is said. -/
inductive PO where
  | ok (l : List RI) (rest : List UInt8)
  | bad
  | odd
def PO.app (acc : List RI) : PO → PO
  | .ok l r => .ok (acc ++ l) r
  | .bad => .bad
  | .odd => .odd
theorem PO.app_nil : ∀ p : PO, p.app [] = p
  | .ok _ _ => rfl
  | .bad => rfl
  | .odd => rfl
theorem PO.app_app (a b : List RI) : ∀ p : PO, (p.app b).app a = p.app (a ++ b)
  | .ok _ _ => by simp [PO.app]
  | .bad => rfl
  | .odd => rfl
def pIns : Nat → List UInt8 → PO
  | 0, _ => .odd
  | _ + 1, [] => .bad
  | f + 1, c :: r =>
    if c.toNat = 65 then (match readS 0 0 r with | none => .bad | some (v, r') => (pIns f r').app [.i32 (wrap32 v)])
    else if c.toNat = 66 then (match readS 0 0 r with | none => .bad | some (v, r') => (pIns f r').app [.i64 v])
    else if c.toNat = 69 then (pIns f r).app [.eqz]
    else if c.toNat = 32 ∨ c.toNat = 33 ∨ c.toNat = 16 ∨ c.toNat = 13 then (match readU 0 0 r with | none => .bad | some (n, r') => (pIns f r').app [.idx c.toNat (n % 4294967296)])
    else if c.toNat = 17 then (match readU 0 0 r with | none => .bad | some (_, []) => .bad | some (n, b :: r') => (pIns f r').app [.ci (n % 4294967296) b.toNat])
    else if c.toNat = 15 then (pIns f r).app [.ret]
    else if c.toNat = 2 ∨ c.toNat = 3 then
      (match r with
      | [] => .bad
      | b :: r1 => if b.toNat ≠ 64 then .odd else (match pIns f r1 with | .ok l r2 => (pIns f r2).app [.blk (decide (c.toNat = 3)) l] | .bad => .bad | .odd => .odd))
    else if c.toNat = 11 then .ok [] r
    else .odd
def idxT (op : Nat) : TypeId := if op = 32 then 155 else if op = 33 then 156 else if op = 16 then 157 else 161
namespace Lay
/-- Instructions read, of depth below n. -/
def ri : Nat → Lay RI
  | 0 => never RI 1
  | n + 1 => {
      size := 1
      rd := fun A w cs x => match x with
        | .i32 v => cs = [.iface 145 (.agg #[.int .i32 v])] ∧ -2147483648 ≤ v ∧ v < 2147483648
        | .i64 v => cs = [.iface 148 (.agg #[.int .i64 v])] ∧ -9223372036854775808 ≤ v ∧ v < 9223372036854775808
        | .eqz => cs = [.iface 152 (.agg #[])]
        | .idx op k => cs = [.iface (idxT op) (.agg #[.int .u32 (k : Int)])] ∧ k < 4294967296 ∧ (op = 32 ∨ op = 33 ∨ op = 16 ∨ op = 13)
        | .ci k r => cs = [.iface 160 (.agg #[.int .u32 (k : Int), .int .u8 (r : Int)])] ∧ k < 4294967296 ∧ r < 256
        | .ret => cs = [.iface 162 (.agg #[])]
        | .blk lp body => ∃ s, cs = [.iface (if lp then 165 else 164) (.agg #[.pointer none, s])] ∧ (ri n).slice.rd A w [s] body
      len := fun {A w cs x} h => by
        cases x <;> first | (rw [h.1]; rfl) | (rw [h]; rfl) | (obtain ⟨s, h, _⟩ := h; rw [h]; rfl)
      one := fun {A w cs x} h u hu => by
        cases x <;> first | (rw [h.1] at hu; obtain rfl := List.mem_singleton.1 hu; rfl) | (rw [h] at hu; obtain rfl := List.mem_singleton.1 hu; rfl) | (obtain ⟨s, h, _⟩ := h; rw [h] at hu; obtain rfl := List.mem_singleton.1 hu; rfl)
      frame := fun {A w w' cs x} h hf => by
        cases x <;> first | exact h | (obtain ⟨s, h, k⟩ := h; exact ⟨s, h, (ri n).slice.frame k hf⟩)
      mono := fun {A A' w cs x} h hf => by
        cases x <;> first | exact h | (obtain ⟨s, h, k⟩ := h; exact ⟨s, h, (ri n).slice.mono k hf⟩) }
theorem ri_size : ∀ n, (ri n).size = 1
  | 0 => rfl
  | _ + 1 => rfl
theorem ri_succ {A : Nat → Prop} {w : World} : ∀ (n : Nat) (cs : List Value) (x : RI), (ri n).rd A w cs x → (ri (n + 1)).rd A w cs x
  | 0, _, _, h => h.elim
  | n + 1, _, x, h => by
    cases x <;> first | exact h | (obtain ⟨s, h, k⟩ := h; exact ⟨s, h, slice_imp (ri_succ n) k⟩)
theorem ri_le {A : Nat → Prop} {w : World} {n m : Nat} (h : n ≤ m) {cs : List Value} {x : RI} (k : (ri n).rd A w cs x) : (ri m).rd A w cs x := by
  induction h with
  | refl => exact k
  | step _ ih => exact ri_succ _ _ _ ih
end Lay
end Go.Proofs.YtfpikpbolgodcaaDoor
