/- spec.arguments, legal, LegalCode. -/
import Derived.Test.YtkbadfljmbeciaaGreatDoorLibA
import Derived.Test.YtkbadfljmbeciaaGreatDoorProg
import Derived.KernelRfl
import Derived.Deep.QuietTactic
import Derived.BigQuiet
import Derived.Outline
namespace Go.Proofs.YtkbadfljmbeciaaGreatDoor
open Go.RowKit
def ArgsPost (op : Int) (w : World) (e : Ending) (w' : World) : Prop :=
  ∃ v, e = .returned (.tuple #[v, .bool (kindsOf op).isSome]) ∧ Lay.int.slice.rd (fun k => w.heap.size ≤ k ∧ k < w'.heap.size) w' [v] ((kindsOf op).getD []) ∧ Ext w w'
theorem argsPost_nil {op : Int} {w : World} (h : kindsOf op = some []) : ArgsPost op w (.returned (.tuple #[.slice none 0 0, .bool true])) w :=
  ⟨_, by rw [h]; rfl, by rw [h]; exact ⟨none, 0, rfl, Nat.le_refl _, by decide, fun h => absurd h (by simp)⟩, Fr.refl _ _⟩
theorem argsPost_no {op : Int} {w : World} (h : kindsOf op = none) : ArgsPost op w (.returned (.tuple #[.slice none 0 0, .bool false])) w :=
  ⟨_, by rw [h]; rfl, by rw [h]; exact ⟨none, 0, rfl, Nat.le_refl _, by decide, fun h => absurd h (by simp)⟩, Fr.refl _ _⟩
theorem argsPost_one {op a : Int} {w : World} (h : kindsOf op = some [a]) (ha : 0 ≤ a ∧ a ≤ 9) : ArgsPost op w (.returned (.tuple #[.slice (some ⟨w.heap.size, 0, none⟩) 1 1, .bool true])) (w.alloc (.cells #[.int .i64 a] 3)) :=
  ⟨_, by rw [h]; rfl, by
    rw [h]
    exact ⟨_, 1, rfl, Nat.le_refl _, by decide, fun _ => ⟨w.heap.size, 0, _, _, _, [.int .i64 a], rfl, ⟨Nat.le_refl _, by simp⟩, blk_new w _ _, Lay.all_single ⟨rfl, by omega, by omega⟩, fun j hj => by simp⟩⟩, ext_alloc _ _⟩
theorem argsPost_two {op a b : Int} {w : World} (h : kindsOf op = some [a, b]) (ha : 0 ≤ a ∧ a ≤ 9) (hb : 0 ≤ b ∧ b ≤ 9) : ArgsPost op w (.returned (.tuple #[.slice (some ⟨w.heap.size, 0, none⟩) 2 2, .bool true])) (w.alloc (.cells #[.int .i64 a, .int .i64 b] 3)) :=
  ⟨_, by rw [h]; rfl, by
    rw [h]
    exact ⟨_, 2, rfl, Nat.le_refl _, by decide, fun _ => ⟨w.heap.size, 0, _, _, _, [.int .i64 a, .int .i64 b], rfl, ⟨Nat.le_refl _, by simp⟩, blk_new w _ _, ⟨[_], _, rfl, ⟨rfl, by omega, by omega⟩, Lay.all_single ⟨rfl, by omega, by omega⟩⟩, fun j hj => by simp⟩⟩, ext_alloc _ _⟩
theorem kinds0 {op : Int} (h : op = 0 ∨ op = 1 ∨ op = 15 ∨ op = 26 ∨ op = 27 ∨ (69 ≤ op ∧ op ≤ 191)) : kindsOf op = some [] := by
  unfold kindsOf
  by_cases h1 : op = 0 ∨ op = 1 ∨ op = 15 ∨ op = 26 ∨ op = 27
  · rw [if_pos h1]
  · rw [if_neg h1, if_neg (by omega), if_neg (by omega), if_neg (by omega), if_neg (by omega), if_neg (by omega), if_neg (by omega), if_neg (by omega), if_pos (by omega)]
theorem kinds2 {op : Int} (h : op = 12 ∨ op = 13 ∨ op = 16 ∨ op = 32 ∨ op = 33 ∨ op = 34 ∨ op = 35 ∨ op = 36) : kindsOf op = some [2] := by
  unfold kindsOf; rw [if_neg (by omega), if_pos h]
theorem kinds25 {op : Int} (h : op = 17) : kindsOf op = some [2, 5] := by subst h; rfl
theorem kinds00 {op : Int} (h : op = 40 ∨ op = 54) : kindsOf op = some [0, 0] := by rcases h with rfl | rfl <;> rfl
theorem kinds65 {op : Int} (h : op = 65) : kindsOf op = some [0] := by subst h; rfl
theorem kinds66 {op : Int} (h : op = 66) : kindsOf op = some [1] := by subst h; rfl
theorem kinds67 {op : Int} (h : op = 67) : kindsOf op = some [3] := by subst h; rfl
theorem kinds68 {op : Int} (h : op = 68) : kindsOf op = some [4] := by subst h; rfl
theorem kindsNo {op : Int} (h : ¬ (op = 0 ∨ op = 1 ∨ op = 15 ∨ op = 26 ∨ op = 27 ∨ op = 12 ∨ op = 13 ∨ op = 16 ∨ op = 32 ∨ op = 33 ∨ op = 34 ∨ op = 35 ∨ op = 36 ∨ op = 17 ∨ op = 40 ∨ op = 54 ∨ op = 65 ∨ op = 66 ∨ op = 67 ∨ op = 68 ∨ (69 ≤ op ∧ op ≤ 191))) : kindsOf op = none := by
  unfold kindsOf
  rw [if_neg (by omega), if_neg (by omega), if_neg (by omega), if_neg (by omega), if_neg (by omega), if_neg (by omega), if_neg (by omega), if_neg (by omega), if_neg (by omega)]
set_option maxRecDepth 100000 in
set_option maxHeartbeats 1000000 in
theorem arguments_lit (op : Int) (w : World) (h : op = 0 ∨ op = 1 ∨ op = 15 ∨ op = 26 ∨ op = 27 ∨ op = 12 ∨ op = 13 ∨ op = 16 ∨ op = 32 ∨ op = 33 ∨ op = 34 ∨ op = 35 ∨ op = 36 ∨ op = 17 ∨ op = 40 ∨ op = 54 ∨ op = 65 ∨ op = 66 ∨ op = 67 ∨ op = 68) :
    Calls Tryz.prog 42 #[.int .i64 op] w (ArgsPost op w) := by
  rcases h with rfl | rfl | rfl | rfl | rfl | rfl | rfl | rfl | rfl | rfl | rfl | rfl | rfl | rfl | rfl | rfl | rfl | rfl | rfl | rfl
  all_goals
    go_enter Tryz.func42, Tryz.ntmps42
    go_wp2
    go_ret2
    first
      | exact argsPost_nil rfl
      | exact argsPost_one rfl (by omega)
      | exact argsPost_two rfl (by omega) (by omega)
set_option maxRecDepth 100000 in
set_option maxHeartbeats 1000000 in
theorem arguments_rest (op : Int) (w : World) (h : ¬ (op = 0 ∨ op = 1 ∨ op = 15 ∨ op = 26 ∨ op = 27 ∨ op = 12 ∨ op = 13 ∨ op = 16 ∨ op = 32 ∨ op = 33 ∨ op = 34 ∨ op = 35 ∨ op = 36 ∨ op = 17 ∨ op = 40 ∨ op = 54 ∨ op = 65 ∨ op = 66 ∨ op = 67 ∨ op = 68)) :
    Calls Tryz.prog 42 #[.int .i64 op] w (ArgsPost op w) := by
  simp only [not_or, ← beq_eq_false_iff_ne] at h
  obtain ⟨h0, h1, h2, h3, h4, h5, h6, h7, h8, h9, h10, h11, h12, h13, h14, h15, h16, h17, h18, h19⟩ := h
  have H := Lib.hid (And.intro h0 (And.intro h1 (And.intro h2 (And.intro h3 (And.intro h4 (And.intro h5 (And.intro h6 (And.intro h7 (And.intro h8 (And.intro h9 (And.intro h10 (And.intro h11 (And.intro h12 (And.intro h13 (And.intro h14 (And.intro h15 (And.intro h16 (And.intro h17 (And.intro h18 h19)))))))))))))))))))
  simp only [beq_eq_false_iff_ne] at H
  by_cases a : 69 ≤ op
  · by_cases b : op ≤ 191
    · have hk := Lib.hid (kinds0 (op := op) (by omega))
      go_enter Tryz.func42, Tryz.ntmps42
      go_wp2
      go_ret2
      exact argsPost_nil hk.out
    · have hk : Hid (kindsOf op = none) := by have := H.out; exact kindsNo (by omega)
      go_enter Tryz.func42, Tryz.ntmps42
      go_wp2
      go_ret2
      exact argsPost_no hk.out
  · have hk : Hid (kindsOf op = none) := by have := H.out; exact kindsNo (by omega)
    go_enter Tryz.func42, Tryz.ntmps42
    go_wp2
    go_ret2
    exact argsPost_no hk.out
theorem arguments_calls (op : Int) (w : World) : Calls Tryz.prog 42 #[.int .i64 op] w (ArgsPost op w) := by
  by_cases h : op = 0 ∨ op = 1 ∨ op = 15 ∨ op = 26 ∨ op = 27 ∨ op = 12 ∨ op = 13 ∨ op = 16 ∨ op = 32 ∨ op = 33 ∨ op = 34 ∨ op = 35 ∨ op = 36 ∨ op = 17 ∨ op = 40 ∨ op = 54 ∨ op = 65 ∨ op = 66 ∨ op = 67 ∨ op = 68
  · exact arguments_lit op w h
  · exact arguments_rest op w h

/-! ### legal -/
theorem argsOk_iff : ∀ (ks : List Int) (bs : List (Int × UInt64)), ks.length = bs.length → (argsOk ks bs = true ↔ ∀ (i : Nat) (h : i < ks.length) (h' : i < bs.length), argOk ks[i] bs[i] = true)
  | [], [], _ => by simp [argsOk]
  | k :: ks, a :: bs, h => by
    have ih := argsOk_iff ks bs (by simpa using h)
    simp only [argsOk, Bool.and_eq_true, ih]
    constructor
    · rintro ⟨h1, h2⟩ i hi hi'
      cases i with
      | zero => exact h1
      | succ i => exact h2 i (by simpa using hi) (by simpa using hi')
    · intro h1
      exact ⟨h1 0 (by simp) (by simp), fun i hi hi' => h1 (i + 1) (by simpa using hi) (by simpa using hi')⟩
theorem argsOk_len : ∀ {ks : List Int} {bs : List (Int × UInt64)}, argsOk ks bs = true → ks.length = bs.length
  | [], [], _ => rfl
  | _ :: _, _ :: _, h => by
    simp only [argsOk, Bool.and_eq_true] at h
    simp [argsOk_len h.2]
theorem legalL_append (d : Int) : ∀ (l m : List Ins), legalL d (l ++ m) = (legalL d l && legalL d m)
  | [], m => by simp [legalL]
  | x :: l, m => by simp only [List.cons_append, legalL, legalL_append d l m, Bool.and_assoc]
theorem legalL_take {d : Int} {l : List Ins} {i : Nat} (h : i < l.length) (h1 : legalL d (l.take i) = true) (h2 : legal1 d l[i] = true) : legalL d (l.take (i + 1)) = true := by
  rw [List.take_succ_eq_append_getElem h, legalL_append, h1]
  simp [legalL, h2]
theorem legalL_no {d : Int} {l : List Ins} {i : Nat} (h : i < l.length) (h2 : legal1 d l[i] = false) : legalL d l = false := by
  have : l = l.take i ++ (l[i] :: l.drop (i + 1)) := by rw [← List.drop_eq_getElem_cons h, List.take_append_drop]
  rw [this, legalL_append]
  simp [legalL, h2]
theorem sOp_yes {op : Int} (h : op = 2 ∨ op = 3 ∨ op = 4) : structuredOp op = true := by rcases h with rfl | rfl | rfl <;> rfl
theorem sOp_no {op : Int} (h : ¬ (op = 2 ∨ op = 3 ∨ op = 4)) : structuredOp op = false := by
  simp only [not_or] at h
  simp [structuredOp, h.1, h.2.1, h.2.2]
theorem legal1_st {d op ty : Int} {args : List (Int × UInt64)} {st : Bool} {body : List Ins} (h : st ≠ structuredOp op) : legal1 d (.mk op args st ty body) = false := by simp [legal1, h]
theorem legal1_deep {d op ty : Int} {args : List (Int × UInt64)} {st : Bool} {body : List Ins} (h : 100 < d) : legal1 d (.mk op args st ty body) = false := by simp [legal1]; intros; omega
theorem legal1_s {d op ty : Int} {args : List (Int × UInt64)} {body : List Ins} (h : op = 2 ∨ op = 3 ∨ op = 4) (hd : d ≤ 100) : legal1 d (.mk op args true ty body) = (decide (args.length = 0) && decide (-1 ≤ ty) && decide (ty ≤ 3) && legalL (d + 1) body) := by
  rw [legal1, if_pos (sOp_yes h), sOp_yes h]
  simp [hd]
theorem legal1_n {d op ty : Int} {args : List (Int × UInt64)} {body : List Ins} (h : ¬ (op = 2 ∨ op = 3 ∨ op = 4)) (hd : d ≤ 100) : legal1 d (.mk op args false ty body) = (match kindsOf op with | some ks => argsOk ks args && decide (ty = 0) && decide (body.length = 0) | none => false) := by
  rw [legal1, sOp_no h]
  simp only [hd, decide_true, Bool.true_and]
  rfl
theorem legal1_some {d op ty : Int} {args : List (Int × UInt64)} {body : List Ins} {ks : List Int} (h : ¬ (op = 2 ∨ op = 3 ∨ op = 4)) (hd : d ≤ 100) (hk : kindsOf op = some ks) : legal1 d (.mk op args false ty body) = (argsOk ks args && decide (ty = 0) && decide (body.length = 0)) := by
  rw [legal1_n h hd, hk]
theorem legal1_none {d op ty : Int} {args : List (Int × UInt64)} {body : List Ins} (h : ¬ (op = 2 ∨ op = 3 ∨ op = 4)) (hd : d ≤ 100) (hk : kindsOf op = none) : legal1 d (.mk op args false ty body) = false := by
  rw [legal1_n h hd, hk]
end Go.Proofs.YtkbadfljmbeciaaGreatDoor
