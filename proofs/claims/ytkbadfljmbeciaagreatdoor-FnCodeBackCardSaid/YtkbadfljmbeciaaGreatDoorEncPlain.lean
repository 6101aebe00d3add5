/- what the package writes for instructions; how they are read. -/
import Derived.Test.YtkbadfljmbeciaaGreatDoorIface
namespace Go.Proofs.YtkbadfljmbeciaaGreatDoor
open Go.RowKit
def bytesOfKind (k mb : Nat) : List UInt8 :=
  if k = 0 then sleb (wrap32 (mb : Int)) else if k = 1 then sleb (wrap64 (mb : Int)) else if k = 2 then uleb (mb % 4294967296) else if k = 3 then lowBytes 4 mb else if k = 4 then lowBytes 8 mb else if k = 5 then [UInt8.ofNat (mb % 256)] else uleb mb
theorem argBytes_kind (k : Nat) (hk : k < 6) (b : UInt64) : argBytes ((k : Int), b) = bytesOfKind k b.toNat := by
  have h : k = 0 ∨ k = 1 ∨ k = 2 ∨ k = 3 ∨ k = 4 ∨ k = 5 := by omega
  rcases h with rfl | rfl | rfl | rfl | rfl | rfl <;> simp [argBytes, bytesOfKind, wrap32, wrap64]
theorem argBytes_rest (k : Int) (hk : ¬ (k = 0 ∨ k = 1 ∨ k = 2 ∨ k = 3 ∨ k = 4 ∨ k = 5)) (b : UInt64) : argBytes (k, b) = bytesOfKind 6 b.toNat := by
  simp only [not_or] at hk
  simp [argBytes, bytesOfKind, hk.1, hk.2.1, hk.2.2.1, hk.2.2.2.1, hk.2.2.2.2.1, hk.2.2.2.2.2]
theorem argVal_rest (k : Int) (hk : ¬ (k = 0 ∨ k = 1 ∨ k = 2 ∨ k = 3 ∨ k = 4 ∨ k = 5)) (b : UInt64) : argVal (k, b) = .iface 81 (.int .u64 (b.toNat : Int)) := by
  simp only [not_or] at hk
  simp [argVal, hk.1, hk.2.1, hk.2.2.1, hk.2.2.2.1, hk.2.2.2.2.1, hk.2.2.2.2.2]
theorem lowBytes4_mod (n : Nat) : lowBytes 4 (n % 4294967296) = lowBytes 4 n := by
  simp only [lowBytes, List.cons.injEq, and_true]
  refine ⟨?_, ?_, ?_, ?_⟩ <;> (congr 1; omega)
theorem argBytes_len (a : Int × UInt64) : (argBytes a).length ≤ 10 := by
  obtain ⟨k, b⟩ := a
  have hb := b.toNat_lt
  have hw1 : -9223372036854775808 ≤ wrap32 (b.toNat : Int) ∧ wrap32 (b.toNat : Int) ≤ 9223372036854775807 := by unfold wrap32; omega
  have hw2 : -9223372036854775808 ≤ wrap64 (b.toNat : Int) ∧ wrap64 (b.toNat : Int) ≤ 9223372036854775807 := by unfold wrap64; omega
  have key : ∀ q : Nat, (bytesOfKind q b.toNat).length ≤ 10 := by
    intro q
    unfold bytesOfKind
    split
    · exact sleb_len64 _ hw1.1 hw1.2
    split
    · exact sleb_len64 _ hw2.1 hw2.2
    split
    · exact uleb_len64 _ (by omega)
    split
    · simp [lowBytes]
    split
    · simp [lowBytes]
    split
    · simp
    · exact uleb_len64 _ hb
  by_cases h : k = 0 ∨ k = 1 ∨ k = 2 ∨ k = 3 ∨ k = 4 ∨ k = 5
  · obtain ⟨q, rfl⟩ := Int.eq_ofNat_of_zero_le (by omega : 0 ≤ k)
    rw [show ((q : Nat) : Int) = (q : Int) from rfl, argBytes_kind q (by omega) b]
    exact key q
  · rw [argBytes_rest k h]
    exact key 6
mutual
/-- What the package writes for an instruction. -/
def encB1 : Ins → List UInt8
  | .mk op args st ty body => UInt8.ofNat (op % 256).toNat :: (args.flatMap argBytes ++ (if st then typeByte ty :: (encBL body ++ [11]) else []))
def encBL : List Ins → List UInt8
  | [] => []
  | x :: xs => encB1 x ++ encBL xs
end
mutual
/-- Blocks have a type that is one. -/
def tyOk1 : Ins → Prop
  | .mk _ _ st ty body => st = true → ty ≤ 3 ∧ tyOkA body
def tyOkA : List Ins → Prop
  | [] => True
  | x :: xs => tyOk1 x ∧ tyOkA xs
end
theorem tyOkA_at : ∀ {l : List Ins}, tyOkA l → ∀ (i : Nat) (h : i < l.length), tyOk1 l[i]
  | _ :: _, h, 0, _ => h.1
  | _ :: _, h, i + 1, hi => tyOkA_at h.2 i (by simpa using hi)
theorem encBL_append : ∀ (l m : List Ins), encBL (l ++ m) = encBL l ++ encBL m
  | [], m => rfl
  | x :: l, m => by simp only [List.cons_append, encBL, encBL_append l m, List.append_assoc]
theorem encBL_take {l : List Ins} {i : Nat} (h : i < l.length) : encBL (l.take (i + 1)) = encBL (l.take i) ++ encB1 l[i] := by
  rw [List.take_succ_eq_append_getElem h, encBL_append]; simp [encBL]
theorem encBL_split {l : List Ins} {i : Nat} (h : i < l.length) : ∃ m, encBL l = encBL (l.take i) ++ (encB1 l[i] ++ m) := by
  refine ⟨encBL (l.drop (i + 1)), ?_⟩
  have : l = l.take i ++ (l[i] :: l.drop (i + 1)) := by rw [← List.drop_eq_getElem_cons h, List.take_append_drop]
  conv => lhs; rw [this]
  rw [encBL_append, encBL]
theorem argB_split {l : List (Int × UInt64)} {i : Nat} (h : i < l.length) : ∃ m, l.flatMap argBytes = (l.take i).flatMap argBytes ++ (argBytes l[i] ++ m) := by
  refine ⟨(l.drop (i + 1)).flatMap argBytes, ?_⟩
  have : l = l.take i ++ (l[i] :: l.drop (i + 1)) := by rw [← List.drop_eq_getElem_cons h, List.take_append_drop]
  conv => lhs; rw [this]
  rw [List.flatMap_append, List.flatMap_cons]
theorem argB_take {l : List (Int × UInt64)} {i : Nat} (h : i < l.length) : (l.take (i + 1)).flatMap argBytes = (l.take i).flatMap argBytes ++ argBytes l[i] := by
  rw [List.take_succ_eq_append_getElem h, List.flatMap_append]; simp
/-- Data apart from what an object writes to. -/
def Away (S : Hold) (g : Nat) (w : World) (A : Nat → Prop) : Prop := ∀ k, A k → k < w.heap.size ∧ ¬ S.foot w g k
theorem Away.step {S : Hold} {lo g : Nat} {w w' : World} {bs : List UInt8} {A : Nat → Prop} (h : Away S g w A) (hW : Wrote S lo g w bs w') : Away S g w' A := fun k hk =>
  ⟨Nat.lt_of_lt_of_le (h k hk).1 hW.fr.size, fun hf => by
    rcases hW.foot k hf with h' | h'
    · exact (h k hk).2 h'
    · have := (h k hk).1; omega⟩
theorem any_at {A : Nat → Prop} {w : World} {a : Option Addr} {n cap : Nat} {xs : List (Int × UInt64)} (h : Lay.anyv.slice.rd A w [.slice a n cap] xs) (i : Nat) (hi : i < xs.length) :
    ∃ (b o : Nat), a = some ⟨b, o, none⟩ ∧ A b ∧ w.cell? ⟨b, o + i, none⟩ = some (argVal xs[i]) := by
  have hn : xs.length = n := by
    obtain ⟨_, _, e, _⟩ := h
    simp only [List.cons.injEq, Value.slice.injEq, and_true] at e
    exact e.2.1.symm
  obtain ⟨b, o, es, hi', e, hA, _, hr, hc⟩ := Lay.slice_at h i (by omega)
  obtain rfl : es = _ := hr
  have := hc 0 (by decide)
  rw [show o + i * Lay.anyv.size + 0 = o + i from by show o + i * 1 + 0 = o + i; omega] at this
  exact ⟨b, o, e, hA, this⟩
theorem own_at {n : Nat} {A : Nat → Prop} {w : World} {aa : Option Addr} {m c : Nat} {l : List Ins} (h : (Lay.own n).slice.rd A w [.slice aa m c] l) (i : Nat) (hi : i < l.length) :
    ∃ k b o a m' c', n = k + 1 ∧ aa = some ⟨b, o, none⟩ ∧ A b ∧ Lay.anyv.slice.rd A w [.slice a m' c'] l[i].args ∧
      ((l[i].st = false ∧ w.cell? ⟨b, o + i, none⟩ = some (.iface 274 (.agg #[.int .u8 (l[i].op % 256), .slice a m' c']))) ∨
       (l[i].st = true ∧ ∃ kp ba bn bc, w.cell? ⟨b, o + i, none⟩ = some (.iface 278 (.agg #[.int .u8 (l[i].op % 256), .slice a m' c', .pointer kp, .slice ba bn bc])) ∧ Lay.KindAt A w kp l[i].ty ∧ (Lay.own k).slice.rd A w [.slice ba bn bc] l[i].body)) := by
  have hm : m = l.length := by obtain ⟨_, _, e, _⟩ := h; simp only [List.cons.injEq, Value.slice.injEq, and_true] at e; exact e.2.1
  obtain ⟨b, o, es, hi', e, hA, _, hr, hc⟩ := Lay.slice_at h i (by omega)
  cases n with
  | zero => exact hr.elim
  | succ k =>
    obtain ⟨a, m', c', h1, h2⟩ := hr
    have h0 := hc 0 (by rw [Lay.own_size]; decide)
    rw [show o + i * (Lay.own (k + 1)).size + 0 = o + i from by rw [Lay.own_size]; omega] at h0
    refine ⟨k, b, o, a, m', c', rfl, e, hA, h1, ?_⟩
    split at h2
    · rename_i hs
      obtain ⟨kp, ba, bn, bc, rfl, h3, h4⟩ := h2
      exact .inr ⟨hs, kp, ba, bn, bc, h0, h3, h4⟩
    · rename_i hs
      subst h2
      exact .inl ⟨by simpa using hs, h0⟩
theorem KindAt.fr {A S : Nat → Prop} {w w' : World} {kp : Option Addr} {ty : Int} (h : Lay.KindAt A w kp ty) (hf : Fr S w w') (ha : ∀ k, A k → k < w.heap.size ∧ ¬ S k) : Lay.KindAt A w' kp ty := by
  unfold Lay.KindAt at *
  split at h
  · rename_i ht
    rw [if_pos ht]
    obtain ⟨kb, ko, cur, T, fz, e1, e2, e3, e4⟩ := h
    exact ⟨kb, ko, cur, T, fz, e1, e2, (hf.block kb (ha kb e2).1 (ha kb e2).2).trans e3, e4⟩
  · rename_i ht
    rw [if_neg ht]; exact h
theorem KindAt.cell {A : Nat → Prop} {w : World} {kp : Option Addr} {ty : Int} (h : Lay.KindAt A w kp ty) : if 0 ≤ ty then ∃ kb ko, kp = some ⟨kb, ko, none⟩ ∧ w.cell? ⟨kb, ko, none⟩ = some (.int .i64 ty) else kp = none := by
  unfold Lay.KindAt at h
  split at h
  · rename_i ht
    rw [if_pos ht]
    obtain ⟨kb, ko, cur, T, fz, e1, e2, e3, e4⟩ := h
    exact ⟨kb, ko, e1, by rw [Lib.cell_of_heap e3]; exact e4⟩
  · rename_i ht
    rw [if_neg ht]; exact h
end Go.Proofs.YtkbadfljmbeciaaGreatDoor
