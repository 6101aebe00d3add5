/- The keys of code entries. -/
import Derived.Test.YtfpikpbolgodcaaDoorKey
import Derived.Test.YtfpikpbolgodcaaDoorCodeLay
namespace Go.Proofs.YtfpikpbolgodcaaDoor
open Go.RowKit
def keyArg (a : Int × UInt64) : List UInt8 := ulebI a.1 ++ uleb a.2.toNat
mutual
def keyI1 : Ins → List UInt8
  | .mk op args st ty body => ulebI op ++ (uleb args.length ++ (args.flatMap keyArg ++ (if st then uleb 1 ++ (ulebI (ty + 1) ++ (uleb body.length ++ keyIs body)) else uleb 0)))
def keyIs : List Ins → List UInt8
  | [] => []
  | x :: xs => keyI1 x ++ keyIs xs
end
def keyIL (l : List Ins) : List UInt8 := uleb l.length ++ keyIs l
theorem keyIs_append : ∀ (l m : List Ins), keyIs (l ++ m) = keyIs l ++ keyIs m
  | [], m => rfl
  | x :: l, m => by simp only [List.cons_append, keyIs, keyIs_append l m, List.append_assoc]
theorem keyIs_take {l : List Ins} {i : Nat} (h : i < l.length) : keyIs (l.take (i + 1)) = keyIs (l.take i) ++ keyI1 l[i] := by
  rw [List.take_succ_eq_append_getElem h, keyIs_append]; simp [keyIs]
theorem keyIs_split {l : List Ins} {i : Nat} (h : i < l.length) : ∃ m, keyIs l = keyIs (l.take i) ++ (keyI1 l[i] ++ m) := by
  refine ⟨keyIs (l.drop (i + 1)), ?_⟩
  have : l = l.take i ++ (l[i] :: l.drop (i + 1)) := by rw [← List.drop_eq_getElem_cons h, List.take_append_drop]
  conv => lhs; rw [this]
  rw [keyIs_append, keyIs]
theorem keyArgs_split {l : List (Int × UInt64)} {i : Nat} (h : i < l.length) : ∃ m, l.flatMap keyArg = (l.take i).flatMap keyArg ++ (keyArg l[i] ++ m) := by
  refine ⟨(l.drop (i + 1)).flatMap keyArg, ?_⟩
  have : l = l.take i ++ (l[i] :: l.drop (i + 1)) := by rw [← List.drop_eq_getElem_cons h, List.take_append_drop]
  conv => lhs; rw [this]
  rw [List.flatMap_append, List.flatMap_cons]
theorem keyArgs_take {l : List (Int × UInt64)} {i : Nat} (h : i < l.length) : (l.take (i + 1)).flatMap keyArg = (l.take i).flatMap keyArg ++ keyArg l[i] := by
  rw [List.take_succ_eq_append_getElem h, List.flatMap_append]; simp
def keyLoc (x : UInt32 × Int) : List UInt8 := uleb x.1.toNat ++ ulebI x.2
def codeKey (ls : List (UInt32 × Int)) (l : List Ins) : List UInt8 := uleb ls.length ++ (ls.flatMap keyLoc ++ keyIL l)
set_option maxRecDepth 100000 in
set_option maxHeartbeats 400000 in
theorem key_flag_calls (lo g : Nat) (b : Bool) (bs : List UInt8) (w : World) (hS : holdK.is lo g bs w) (hlo : lo ≤ w.heap.size) (hl : bs.length + 10 ≤ KeyCap) :
    Calls Tryd.prog 27 #[.pointer (some ⟨g, 0, none⟩), .bool b] w fun e w' => e = .returned (.tuple #[]) ∧ Wrote holdK lo g w (bs ++ uleb (if b then 1 else 0)) w' := by
  have H := Lib.hid (And.intro hS (And.intro hlo hl))
  clear hS hlo hl
  cases b with
  | true =>
    go_enter Tryd.func27, Tryd.ntmps27
    go_wp2_with fail
    refine (key_number_calls lo g 1 (by decide) bs w H.out.1 H.out.2.1 H.out.2.2).mono ?_
    rintro e w1 ⟨rfl, hW⟩
    have hW := Lib.hid hW
    go_wp2
    go_end0
    exact ⟨rfl, hW.out⟩
  | false =>
    go_enter Tryd.func27, Tryd.ntmps27
    go_wp2_with fail
    refine (key_number_calls lo g 0 (by decide) bs w H.out.1 H.out.2.1 H.out.2.2).mono ?_
    rintro e w1 ⟨rfl, hW⟩
    have hW := Lib.hid hW
    go_wp2
    go_end0
    exact ⟨rfl, hW.out⟩
/-- An int, written as a number: what the walk computes, and what the bytes are. -/
theorem ulebI_num (x : Int) : ∃ m : Nat, IntKind.u64.wrap x = (m : Int) ∧ m < 18446744073709551616 ∧ ulebI x = uleb m :=
  ⟨(x % 18446744073709551616).toNat, by rw [IntKind.wrap_u64]; omega, by omega, rfl⟩
theorem ulebI_num1 (x : Int) : ∃ m : Nat, (IntKind.u64.wrap (wrap64 (x + 1)) = (m : Int) ∧ IntKind.u64.wrap (IntKind.i64.wrap (x + 1)) = (m : Int)) ∧ m < 18446744073709551616 ∧ ulebI (x + 1) = uleb m :=
  ⟨((x + 1) % 18446744073709551616).toNat, ⟨by rw [IntKind.wrap_u64]; unfold wrap64; omega, by rw [IntKind.wrap_u64, IntKind.wrap_i64]; omega⟩, by omega, rfl⟩
end Go.Proofs.YtfpikpbolgodcaaDoor
