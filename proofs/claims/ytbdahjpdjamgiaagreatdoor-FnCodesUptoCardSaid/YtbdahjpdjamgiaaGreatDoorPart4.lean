/- Texts of this proof, one behind the other. -/
import Derived.Test.YtbdahjpdjamgiaaGreatDoorPart3
/- What a code entry says, in plain Lean. -/
namespace Go.Proofs.YtbdahjpdjamgiaaGreatDoor
open Go.RowKit
mutual
/-- How many instructions, bodies' too. -/
def count1 : Ins → Nat
  | .mk _ _ _ _ b => 1 + countL b
def countL : List Ins → Nat
  | [] => 0
  | x :: xs => count1 x + countL xs
end
/-- The kinds of an opcode's arguments. -/
def kindsOf (op : Int) : Option (List Int) :=
  if op = 0 ∨ op = 1 ∨ op = 15 ∨ op = 26 ∨ op = 27 then some []
  else if op = 12 ∨ op = 13 ∨ op = 16 ∨ op = 32 ∨ op = 33 ∨ op = 34 ∨ op = 35 ∨ op = 36 then some [2]
  else if op = 17 then some [2, 5]
  else if op = 40 ∨ op = 54 then some [0, 0]
  else if op = 65 then some [0]
  else if op = 66 then some [1]
  else if op = 67 then some [3]
  else if op = 68 then some [4]
  else if 69 ≤ op ∧ op ≤ 191 then some [] else none
def structuredOp (op : Int) : Bool := decide (op = 2) || decide (op = 3) || decide (op = 4)
def argOk (k : Int) (a : Int × UInt64) : Bool := decide (a.1 = k) && !(decide (k = 5) && decide (255 < a.2.toNat)) && !((decide (k = 0) || decide (k = 2) || decide (k = 3)) && decide (4294967295 < a.2.toNat))
def argsOk : List Int → List (Int × UInt64) → Bool
  | [], [] => true
  | k :: ks, a :: al => argOk k a && argsOk ks al
  | _, _ => false
mutual
def legal1 : Int → Ins → Bool
  | d, .mk op args st ty body => decide (st = structuredOp op) && decide (d ≤ 100) &&
    (if structuredOp op then decide (args.length = 0) && decide (-1 ≤ ty) && decide (ty ≤ 3) && legalL (d + 1) body
     else match kindsOf op with
       | some ks => argsOk ks args && decide (ty = 0) && decide (body.length = 0)
       | none => false)
def legalL : Int → List Ins → Bool
  | _, [] => true
  | d, x :: xs => legal1 d x && legalL d xs
end
def localOk (x : UInt32 × Int) : Bool := decide (0 ≤ x.2) && decide (x.2 ≤ 3)
def legalCode (ls : List (UInt32 × Int)) (l : List Ins) : Bool := ls.all localOk && legalL 0 l
/-- Low byte first. -/
def lowBytes : Nat → Nat → List UInt8
  | 0, _ => []
  | n + 1, v => UInt8.ofNat (v % 256) :: lowBytes n (v / 256)
def argBytes (a : Int × UInt64) : List UInt8 :=
  if a.1 = 0 then sleb ((((a.2.toNat : Int) + 2147483648) % 4294967296) - 2147483648)
  else if a.1 = 1 then sleb ((((a.2.toNat : Int) + 9223372036854775808) % 18446744073709551616) - 9223372036854775808)
  else if a.1 = 2 then uleb (a.2.toNat % 4294967296)
  else if a.1 = 3 then lowBytes 4 a.2.toNat
  else if a.1 = 4 then lowBytes 8 a.2.toNat
  else if a.1 = 5 then [UInt8.ofNat (a.2.toNat % 256)]
  else uleb a.2.toNat
def typeByte (t : Int) : UInt8 := if 0 ≤ t then UInt8.ofNat ((127 - t) % 256).toNat else 64
mutual
def insB1 : Ins → List UInt8
  | .mk op args st ty body => UInt8.ofNat (op % 256).toNat :: (if st then typeByte ty :: (insBL body ++ [11]) else args.flatMap argBytes)
/-- Without the end. -/
def insBL : List Ins → List UInt8
  | [] => []
  | x :: xs => insB1 x ++ insBL xs
end
end Go.Proofs.YtbdahjpdjamgiaaGreatDoor
/- How arguments and declarations of locals lie. -/
namespace Go.Proofs.YtbdahjpdjamgiaaGreatDoor
open Go.RowKit
theorem arg_at {A : Nat → Prop} {w : World} {a : Option Addr} {n cap : Nat} {xs : List (Int × UInt64)} (h : Lay.arg.slice.rd A w [.slice a n cap] xs) (i : Nat) (hi : i < xs.length) :
    ∃ (b o : Nat), a = some ⟨b, o, none⟩ ∧ A b ∧ w.cell? ⟨b, o + i * 2, none⟩ = some (.int .i64 xs[i].1) ∧ w.cell? ⟨b, o + i * 2 + 1, none⟩ = some (.int .u64 (xs[i].2.toNat : Int)) ∧ -9223372036854775808 ≤ xs[i].1 ∧ xs[i].1 ≤ 9223372036854775807 := by
  have hn : xs.length = n := by
    obtain ⟨_, _, e, _⟩ := h
    simp only [List.cons.injEq, Value.slice.injEq, and_true] at e
    exact e.2.1.symm
  obtain ⟨b, o, es, hi', e, hA, _, hr, hc⟩ := Lay.slice_at h i (by omega)
  obtain ⟨c, d, rfl, h1, h2⟩ := hr
  obtain ⟨rfl, h3, h4⟩ := h1
  obtain rfl := h2
  exact ⟨b, o, e, hA, hc 0 (by decide), hc 1 (by decide), h3, h4⟩
abbrev Lay.loc : Lay (UInt32 × Int) := Lay.u32.pair Lay.int
theorem flat_loc : Lay.loc.flat := Lay.flat_pair Lay.flat_u32 Lay.flat_int
theorem loc_at {A : Nat → Prop} {w : World} {a : Option Addr} {n cap : Nat} {xs : List (UInt32 × Int)} (h : Lay.loc.slice.rd A w [.slice a n cap] xs) (i : Nat) (hi : i < xs.length) :
    ∃ (b o : Nat), a = some ⟨b, o, none⟩ ∧ A b ∧ w.cell? ⟨b, o + i * 2, none⟩ = some (.int .u32 (xs[i].1.toNat : Int)) ∧ w.cell? ⟨b, o + i * 2 + 1, none⟩ = some (.int .i64 xs[i].2) ∧ -9223372036854775808 ≤ xs[i].2 ∧ xs[i].2 ≤ 9223372036854775807 := by
  have hn : xs.length = n := by
    obtain ⟨_, _, e, _⟩ := h
    simp only [List.cons.injEq, Value.slice.injEq, and_true] at e
    exact e.2.1.symm
  obtain ⟨b, o, es, hi', e, hA, _, hr, hc⟩ := Lay.slice_at h i (by omega)
  obtain ⟨c, d, rfl, h1, h2⟩ := hr
  obtain rfl := h1
  obtain ⟨rfl, h3, h4⟩ := h2
  exact ⟨b, o, e, hA, hc 0 (by decide), hc 1 (by decide), h3, h4⟩
end Go.Proofs.YtbdahjpdjamgiaaGreatDoor
/- The keys of code entries. -/
namespace Go.Proofs.YtbdahjpdjamgiaaGreatDoor
open Go.RowKit
def keyArg (a : Int × UInt64) : List UInt8 := ulebI a.1 ++ uleb a.2.toNat
mutual
def keyI1 : Ins → List UInt8
  | .mk op args st ty body => ulebI op ++ (uleb args.length ++ (args.flatMap keyArg ++ (if st then uleb 1 ++ (ulebI (ty + 1) ++ (uleb body.length ++ keyIs body)) else uleb 0)))
def keyIs : List Ins → List UInt8
  | [] => []
  | x :: xs => keyI1 x ++ keyIs xs
end
def keyIL (l : List Ins) : List UInt8 := uleb l.length ++ keyIs l
theorem keyIs_append : ∀ (l m : List Ins), keyIs (l ++ m) = keyIs l ++ keyIs m
  | [], m => rfl
  | x :: l, m => by simp only [List.cons_append, keyIs, keyIs_append l m, List.append_assoc]
theorem keyIs_take {l : List Ins} {i : Nat} (h : i < l.length) : keyIs (l.take (i + 1)) = keyIs (l.take i) ++ keyI1 l[i] := by
  rw [List.take_succ_eq_append_getElem h, keyIs_append]; simp [keyIs]
theorem keyIs_split {l : List Ins} {i : Nat} (h : i < l.length) : ∃ m, keyIs l = keyIs (l.take i) ++ (keyI1 l[i] ++ m) := by
  refine ⟨keyIs (l.drop (i + 1)), ?_⟩
  have : l = l.take i ++ (l[i] :: l.drop (i + 1)) := by rw [← List.drop_eq_getElem_cons h, List.take_append_drop]
  conv => lhs; rw [this]
  rw [keyIs_append, keyIs]
theorem keyArgs_split {l : List (Int × UInt64)} {i : Nat} (h : i < l.length) : ∃ m, l.flatMap keyArg = (l.take i).flatMap keyArg ++ (keyArg l[i] ++ m) := by
  refine ⟨(l.drop (i + 1)).flatMap keyArg, ?_⟩
  have : l = l.take i ++ (l[i] :: l.drop (i + 1)) := by rw [← List.drop_eq_getElem_cons h, List.take_append_drop]
  conv => lhs; rw [this]
  rw [List.flatMap_append, List.flatMap_cons]
theorem keyArgs_take {l : List (Int × UInt64)} {i : Nat} (h : i < l.length) : (l.take (i + 1)).flatMap keyArg = (l.take i).flatMap keyArg ++ keyArg l[i] := by
  rw [List.take_succ_eq_append_getElem h, List.flatMap_append]; simp
def keyLoc (x : UInt32 × Int) : List UInt8 := uleb x.1.toNat ++ ulebI x.2
def codeKey (ls : List (UInt32 × Int)) (l : List Ins) : List UInt8 := uleb ls.length ++ (ls.flatMap keyLoc ++ keyIL l)
set_option maxRecDepth 100000 in
set_option maxHeartbeats 400000 in
theorem key_flag_calls (lo g : Nat) (b : Bool) (bs : List UInt8) (w : World) (hS : holdK.is lo g bs w) (hlo : lo ≤ w.heap.size) (hl : bs.length + 10 ≤ KeyCap) :
    Calls Tryz.prog 40 #[.pointer (some ⟨g, 0, none⟩), .bool b] w fun e w' => e = .returned (.tuple #[]) ∧ Wrote holdK lo g w (bs ++ uleb (if b then 1 else 0)) w' := by
  have H := Lib.hid (And.intro hS (And.intro hlo hl))
  clear hS hlo hl
  cases b with
  | true =>
    go_enter Tryz.func40, Tryz.ntmps40
    go_wp2_with fail
    refine (key_number_calls lo g 1 (by decide) bs w H.out.1 H.out.2.1 H.out.2.2).mono ?_
    rintro e w1 ⟨rfl, hW⟩
    have hW := Lib.hid hW
    go_wp2
    go_end0
    exact ⟨rfl, hW.out⟩
  | false =>
    go_enter Tryz.func40, Tryz.ntmps40
    go_wp2_with fail
    refine (key_number_calls lo g 0 (by decide) bs w H.out.1 H.out.2.1 H.out.2.2).mono ?_
    rintro e w1 ⟨rfl, hW⟩
    have hW := Lib.hid hW
    go_wp2
    go_end0
    exact ⟨rfl, hW.out⟩
/-- An int, written as a number: what the walk computes, and what the bytes are. -/
theorem ulebI_num (x : Int) : ∃ m : Nat, IntKind.u64.wrap x = (m : Int) ∧ m < 18446744073709551616 ∧ ulebI x = uleb m :=
  ⟨(x % 18446744073709551616).toNat, by rw [IntKind.wrap_u64]; omega, by omega, rfl⟩
theorem ulebI_num1 (x : Int) : ∃ m : Nat, (IntKind.u64.wrap (wrap64 (x + 1)) = (m : Int) ∧ IntKind.u64.wrap (IntKind.i64.wrap (x + 1)) = (m : Int)) ∧ m < 18446744073709551616 ∧ ulebI (x + 1) = uleb m :=
  ⟨((x + 1) % 18446744073709551616).toNat, ⟨by rw [IntKind.wrap_u64]; unfold wrap64; omega, by rw [IntKind.wrap_u64, IntKind.wrap_i64]; omega⟩, by omega, rfl⟩
end Go.Proofs.YtbdahjpdjamgiaaGreatDoor
