/- Instructions as trees, and how they lie. -/
import Derived.Test.YtfpikpbolgodcaaDoorMem
namespace Go.Proofs.YtfpikpbolgodcaaDoor
open Go.RowKit
/-- An instruction of plain data: opcode, arguments (kind, bits), structured, type, body. -/
inductive Ins where
  | mk (op : Int) (args : List (Int × UInt64)) (st : Bool) (ty : Int) (body : List Ins)
namespace Ins
def op : Ins → Int | mk o _ _ _ _ => o
def args : Ins → List (Int × UInt64) | mk _ a _ _ _ => a
def st : Ins → Bool | mk _ _ s _ _ => s
def ty : Ins → Int | mk _ _ _ t _ => t
def body : Ins → List Ins | mk _ _ _ _ b => b
end Ins
namespace Lay
/-- Nothing lies so. -/
def never (α : Type) (n : Nat) : Lay α where
  size := n
  rd _ _ _ _ := False
  len h := h.elim
  one h := h.elim
  frame h := h.elim
  mono h := h.elim
def arg : Lay (Int × UInt64) := int.pair u64
theorem flat_arg : arg.flat := flat_pair flat_int flat_u64
/-- Trees of depth below n. -/
def ins : Nat → Lay Ins
  | 0 => never Ins 5
  | n + 1 => (int.pair (arg.slice.pair (bool.pair (int.pair (ins n).slice)))).via (fun i => (i.op, i.args, i.st, i.ty, i.body))
theorem ins_size : ∀ n, (ins n).size = 5
  | 0 => rfl
  | _ + 1 => rfl
/-- An instruction's five cells. -/
theorem ins_cells {n : Nat} {A : Nat → Prop} {w : World} {cs : List Value} {x : Ins} (h : (ins n).rd A w cs x) :
    ∃ m aa an ac ba bn bc, n = m + 1 ∧ cs = [.int .i64 x.op, .slice aa an ac, .bool x.st, .int .i64 x.ty, .slice ba bn bc] ∧
      (-9223372036854775808 ≤ x.op ∧ x.op ≤ 9223372036854775807) ∧ (-9223372036854775808 ≤ x.ty ∧ x.ty ≤ 9223372036854775807) ∧
      arg.slice.rd A w [.slice aa an ac] x.args ∧ (ins m).slice.rd A w [.slice ba bn bc] x.body := by
  cases n with
  | zero => exact h.elim
  | succ m =>
    obtain ⟨c1, r1, rfl, ⟨rfl, o1, o2⟩, c2, r2, rfl, h2, c3, r3, rfl, h3, c4, r4, rfl, ⟨rfl, t1, t2⟩, h5⟩ := h
    obtain ⟨a2, k2, rfl, e1, e2, e3⟩ := id h2
    obtain ⟨a5, k5, rfl, f1, f2, f3⟩ := id h5
    obtain rfl : c3 = [.bool x.st] := h3
    exact ⟨m, a2, _, k2, a5, _, k5, rfl, rfl, ⟨o1, o2⟩, ⟨t1, t2⟩, h2, h5⟩
theorem all_imp {α : Type} {l l' : Lay α} {A : Nat → Prop} {w : World} (h : ∀ cs x, l.rd A w cs x → l'.rd A w cs x) : ∀ {xs : List α} {cs : List Value}, l.all A w cs xs → l'.all A w cs xs
  | [], _, k => k
  | x :: xs, _, k => by
    obtain ⟨c, d, e, h1, h2⟩ := k
    exact ⟨c, d, e, h _ _ h1, all_imp h h2⟩
theorem slice_imp {α : Type} {l l' : Lay α} {A : Nat → Prop} {w : World} (h : ∀ cs x, l.rd A w cs x → l'.rd A w cs x) {cs : List Value} {xs : List α} (k : l.slice.rd A w cs xs) : l'.slice.rd A w cs xs := by
  obtain ⟨a, cap, e, h1, h2, h3⟩ := k
  refine ⟨a, cap, e, h1, h2, fun hp => ?_⟩
  obtain ⟨b, o, cur, T, fz, flat, e, hA, hh, hall, hc⟩ := h3 hp
  exact ⟨b, o, cur, T, fz, flat, e, hA, hh, all_imp h hall, hc⟩
theorem ins_succ {A : Nat → Prop} {w : World} : ∀ (n : Nat) (cs : List Value) (x : Ins), (ins n).rd A w cs x → (ins (n + 1)).rd A w cs x
  | 0, _, _, h => h.elim
  | n + 1, _, _, h => by
    obtain ⟨c1, r1, rfl, h1, c2, r2, rfl, h2, c3, r3, rfl, h3, c4, r4, rfl, h4, h5⟩ := h
    exact ⟨c1, _, rfl, h1, c2, _, rfl, h2, c3, _, rfl, h3, c4, _, rfl, h4, slice_imp (ins_succ n) h5⟩
theorem ins_le {A : Nat → Prop} {w : World} {n m : Nat} (h : n ≤ m) {cs : List Value} {x : Ins} (k : (ins n).rd A w cs x) : (ins m).rd A w cs x := by
  induction h with
  | refl => exact k
  | step _ ih => exact ins_succ _ _ _ ih
/-- Instruction i of a row: its five cells, as the walk reads them. -/
theorem ins_at {n : Nat} {A : Nat → Prop} {w : World} {aa : Option Addr} {m c : Nat} {l : List Ins} (h : (ins n).slice.rd A w [.slice aa m c] l) (i : Nat) (hi : i < l.length) :
    ∃ k b o a1 n1 c1 a2 n2 c2, n = k + 1 ∧ aa = some ⟨b, o, none⟩ ∧ A b ∧ w.cell? ⟨b, o + i * 5, none⟩ = some (.int .i64 l[i].op) ∧ w.cell? ⟨b, o + i * 5 + 1, none⟩ = some (.slice a1 n1 c1) ∧
      w.cell? ⟨b, o + i * 5 + 2, none⟩ = some (.bool l[i].st) ∧ w.cell? ⟨b, o + i * 5 + 3, none⟩ = some (.int .i64 l[i].ty) ∧ w.cell? ⟨b, o + i * 5 + 4, none⟩ = some (.slice a2 n2 c2) ∧
      (-9223372036854775808 ≤ l[i].op ∧ l[i].op ≤ 9223372036854775807) ∧ (-9223372036854775808 ≤ l[i].ty ∧ l[i].ty ≤ 9223372036854775807) ∧
      arg.slice.rd A w [.slice a1 n1 c1] l[i].args ∧ (ins k).slice.rd A w [.slice a2 n2 c2] l[i].body := by
  have hm : m = l.length := by obtain ⟨_, _, e, _⟩ := h; simp only [List.cons.injEq, Value.slice.injEq, and_true] at e; exact e.2.1
  obtain ⟨b, o, es, hi', e, hA, _, hr, hc⟩ := slice_at h i (by omega)
  obtain ⟨k, a1, n1, c1, a2, n2, c2, hn, he, h1, h2, h3, h4⟩ := ins_cells hr
  rw [ins_size] at hc
  subst he
  exact ⟨k, b, o, a1, n1, c1, a2, n2, c2, hn, e, hA, hc 0 (by omega), hc 1 (by omega), hc 2 (by omega), hc 3 (by omega), hc 4 (by omega), h1, h2, h3, h4⟩
end Lay
end Go.Proofs.YtfpikpbolgodcaaDoor
