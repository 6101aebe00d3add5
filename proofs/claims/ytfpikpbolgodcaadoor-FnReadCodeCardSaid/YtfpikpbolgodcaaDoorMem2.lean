/- More on frames and appends. No program here. -/
import Derived.Test.YtfpikpbolgodcaaDoorMem
namespace Go.Proofs.YtfpikpbolgodcaaDoor
section
variable {P : Program} {ops : Array Oper} {rest : List Oper} {o : Oper} {a : Act} {Q : Exit → Act → World → Prop} {K : Act → World → Prop}
/-- One element, in the block that the walk has just laid for it; its number spelled by the caller. -/
theorem own_append1n {α : Type} (l : Lay α) {W : World} (lo n : Nat) (hn : W.heap.size = n) (hgd : o.guard = none) (s x : Operand) (t e : TypeId) (z : Value) (bytes : Nat)
    (ho : o.op = .call { callee := .builtin .append, args := #[s, x], argTypes := #[t, t] })
    (ht : P.underlying t = some (.slice e)) (hinfo : (P.info? e).map (fun i => (i.zero, i.size, i.bytes)) = some (some z, l.size, bytes)) (hz : z.cells.size = l.size) (hb0 : 0 < bytes) (hl0 : 0 < l.size)
    (v : Value) (xs : List α) (y : α) (cs : Array Value) (hs : a.eval s = v) (hx : a.eval x = .slice (some ⟨n, 0, none⟩) 1 1)
    (HO : Own l e lo W v xs) (HY : l.rd (fun k => lo ≤ k ∧ k < W.heap.size ∧ some k ≠ v.ownBlock) W cs.toList y)
    (hlo : lo ≤ W.heap.size) (hl : (xs.length + 1) * bytes ≤ 140737488355328)
    (h : ∀ v1 w1, Own l e lo w1 v1 (xs ++ [y]) → Fr (fun k => some k = v.ownBlock) W w1 → (∀ k, v1.ownBlock = some k → v.ownBlock = some k ∨ W.heap.size ≤ k) → wpList P ops Q rest (a.put o.dst v1) w1) :
    wpList P ops Q (o :: rest) a (W.alloc (.cells cs e)) := by
  subst hn
  exact own_append1 l lo hgd s x t e z bytes ho ht hinfo hz hb0 hl0 v xs y cs hs hx HO HY hlo hl h
end
/-- What changes only from the heap's end on changes nothing. -/
theorem ext_up {w W : World} (h : Fr (fun k => w.heap.size ≤ k) w W) : Ext w W := h.mono (fun k hk h => absurd hk (by have h' : w.heap.size ≤ k := h; omega))
theorem Fr.new {w W : World} {S : Nat → Prop} (h : Fr S w W) (hS : ∀ k, S k → w.heap.size ≤ k) : Ext w W := h.mono (fun k hk h => absurd hk (by have := hS k h; omega))
end Go.Proofs.YtfpikpbolgodcaaDoor
