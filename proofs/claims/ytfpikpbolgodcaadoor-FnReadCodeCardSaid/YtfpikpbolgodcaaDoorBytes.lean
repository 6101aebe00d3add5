/- Rows of bytes. -/
import Derived.Test.YtfpikpbolgodcaaDoorProg
import Derived.Test.YtfpikpbolgodcaaDoorNum
import Derived.Test.YtfpikpbolgodcaaDoorMem
import Derived.KernelRfl
namespace Go.Proofs.YtfpikpbolgodcaaDoor
open Go.RowKit
theorem infoB : (Tryd.prog.info? 5).map (fun i => (i.zero, i.size, i.bytes)) = some (some (.int .u8 0), Lay.u8.size, 1) := by kernel_rfl
/-- A byte's row that the call owns. -/
abbrev OwnB (lo : Nat) (w : World) (v : Value) (xs : List UInt8) : Prop := Own Lay.u8 5 lo w v xs

/-- append(v, one byte): behind 'at_builtin'. -/
theorem appB {ops : Array Oper} {rest : List Oper} {o : Oper} {a : Act} {Q : Exit → Act → World → Prop} {W : World} (lo : Nat) (hgd : o.guard = none) (s x : Operand)
    (ho : o.op = .call { callee := .builtin .append, args := #[s, x], argTypes := #[22, 22] })
    (v : Value) (xs : List UInt8) (y : UInt8) (c : Int) (hc : c = (y.toNat : Int)) (hs : a.eval s = v) (hx : a.eval x = .slice (some ⟨W.heap.size, 0, none⟩) 1 1)
    (HO : OwnB lo W v xs) (hlo : lo ≤ W.heap.size) (hl : xs.length + 1 ≤ 140737488355328)
    (h : ∀ v1 w1, OwnB lo w1 v1 (xs ++ [y]) → Fr (fun k => some k = v.ownBlock) W w1 → (∀ k, v1.ownBlock = some k → v.ownBlock = some k ∨ W.heap.size ≤ k) → wpList Tryd.prog ops Q rest (a.put o.dst v1) w1) :
    wpList Tryd.prog ops Q (o :: rest) a (W.alloc (.cells #[.int .u8 c] 5)) := by
  subst hc
  exact own_append1 Lay.u8 lo hgd s x _ _ (.int .u8 0) 1 ho Tryd.underlying22 infoB rfl (by omega) (by decide) v xs y _ hs hx HO rfl hlo (by omega) h

theorem fr_row {w wr w1 : World} {v s0 : Value} (hb : Fr (fun k => some k = v.ownBlock) w wr) (h2 : Fr (fun k => some k = s0.ownBlock) wr w1) (hk : ∀ k, s0.ownBlock = some k → v.ownBlock = some k ∨ w.heap.size ≤ k) : Fr (fun k => some k = v.ownBlock) w w1 :=
  hb.trans h2 (fun _ _ h => h) (fun k hk' hs => by
    rcases hk k hs.symm with h | h
    · exact h.symm
    · omega)
theorem row_row {S : Nat → Prop} {w wr : World} {v s0 v1 : Value} (hb : Fr S w wr) (hk : ∀ k, s0.ownBlock = some k → v.ownBlock = some k ∨ w.heap.size ≤ k) (h3 : ∀ k, v1.ownBlock = some k → s0.ownBlock = some k ∨ wr.heap.size ≤ k) : ∀ k, v1.ownBlock = some k → v.ownBlock = some k ∨ w.heap.size ≤ k := fun k hk' => by
  rcases h3 k hk' with h | h
  · exact hk k h
  · have := hb.size
    exact .inr (by omega)
theorem byte_low (x : Nat) : ((x : Int) % 128) = ((UInt8.ofNat (x % 128)).toNat : Int) := by
  rw [UInt8.toNat_ofNat']
  omega
theorem byte_high (x : Nat) : ((x : Int) % 128 + 128) = ((UInt8.ofNat (x % 128 + 128)).toNat : Int) := by
  rw [UInt8.toNat_ofNat']
  omega

end Go.Proofs.YtfpikpbolgodcaaDoor
