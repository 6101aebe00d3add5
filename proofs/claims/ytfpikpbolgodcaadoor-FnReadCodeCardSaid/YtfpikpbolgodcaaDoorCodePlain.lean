/- What a code entry says, in plain Lean. -/
import Derived.Test.YtfpikpbolgodcaaDoorTree
import Derived.Test.YtfpikpbolgodcaaDoorNum
namespace Go.Proofs.YtfpikpbolgodcaaDoor
open Go.RowKit
mutual
/-- How many instructions, bodies' too. -/
def count1 : Ins → Nat
  | .mk _ _ _ _ b => 1 + countL b
def countL : List Ins → Nat
  | [] => 0
  | x :: xs => count1 x + countL xs
end
/-- The kinds of an opcode's arguments. -/
def kindsOf (op : Int) : Option (List Int) :=
  if op = 0 ∨ op = 1 ∨ op = 15 ∨ op = 26 ∨ op = 27 then some []
  else if op = 12 ∨ op = 13 ∨ op = 16 ∨ op = 32 ∨ op = 33 ∨ op = 34 ∨ op = 35 ∨ op = 36 then some [2]
  else if op = 17 then some [2, 5]
  else if op = 40 ∨ op = 54 then some [0, 0]
  else if op = 65 then some [0]
  else if op = 66 then some [1]
  else if op = 67 then some [3]
  else if op = 68 then some [4]
  else if 69 ≤ op ∧ op ≤ 191 then some [] else none
def structuredOp (op : Int) : Bool := decide (op = 2) || decide (op = 3) || decide (op = 4)
def argOk (k : Int) (a : Int × UInt64) : Bool := decide (a.1 = k) && !(decide (k = 5) && decide (255 < a.2.toNat)) && !((decide (k = 0) || decide (k = 2) || decide (k = 3)) && decide (4294967295 < a.2.toNat))
def argsOk : List Int → List (Int × UInt64) → Bool
  | [], [] => true
  | k :: ks, a :: as => argOk k a && argsOk ks as
  | _, _ => false
mutual
def legal1 : Int → Ins → Bool
  | d, .mk op args st ty body => decide (st = structuredOp op) && decide (d ≤ 100) &&
    (if structuredOp op then decide (args.length = 0) && decide (-1 ≤ ty) && decide (ty ≤ 3) && legalL (d + 1) body
     else match kindsOf op with
       | some ks => argsOk ks args && decide (ty = 0) && decide (body.length = 0)
       | none => false)
def legalL : Int → List Ins → Bool
  | _, [] => true
  | d, x :: xs => legal1 d x && legalL d xs
end
def localOk (x : UInt32 × Int) : Bool := decide (0 ≤ x.2) && decide (x.2 ≤ 3)
def legalCode (ls : List (UInt32 × Int)) (l : List Ins) : Bool := ls.all localOk && legalL 0 l
/-- Low byte first. -/
def lowBytes : Nat → Nat → List UInt8
  | 0, _ => []
  | n + 1, v => UInt8.ofNat (v % 256) :: lowBytes n (v / 256)
def argBytes (a : Int × UInt64) : List UInt8 :=
  if a.1 = 0 then sleb ((((a.2.toNat : Int) + 2147483648) % 4294967296) - 2147483648)
  else if a.1 = 1 then sleb ((((a.2.toNat : Int) + 9223372036854775808) % 18446744073709551616) - 9223372036854775808)
  else if a.1 = 2 then uleb (a.2.toNat % 4294967296)
  else if a.1 = 3 then lowBytes 4 a.2.toNat
  else if a.1 = 4 then lowBytes 8 a.2.toNat
  else if a.1 = 5 then [UInt8.ofNat (a.2.toNat % 256)]
  else uleb a.2.toNat
def typeByte (t : Int) : UInt8 := if 0 ≤ t then UInt8.ofNat ((127 - t) % 256).toNat else 64
mutual
def insB1 : Ins → List UInt8
  | .mk op args st ty body => UInt8.ofNat (op % 256).toNat :: (if st then typeByte ty :: (insBL body ++ [11]) else args.flatMap argBytes)
/-- Without the end. -/
def insBL : List Ins → List UInt8
  | [] => []
  | x :: xs => insB1 x ++ insBL xs
end
end Go.Proofs.YtfpikpbolgodcaaDoor
