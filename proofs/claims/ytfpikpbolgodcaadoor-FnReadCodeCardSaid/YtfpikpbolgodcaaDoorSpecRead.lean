/- What the reference's reader makes of bytes: a model, in plain Lean. -/
import Derived.Test.YtfpikpbolgodcaaDoorCodePlain
namespace Go.Proofs.YtfpikpbolgodcaaDoor
/-- What is left, and the verdict: 0 good, 1 bad, 2 wide, 3 ends. -/
structure St where
  b : List UInt8
  v : Nat
def St.fail (s : St) (n : Nat) : St := ⟨[], if s.v = 0 then n else s.v⟩
def rByte (s : St) : Nat × St :=
  match s.b with
  | [] => (0, s.fail 3)
  | c :: r => (c.toNat, ⟨r, s.v⟩)
/-- An unsigned number of at most some bits: shift, what was gathered, how many bytes. -/
def unsG (bits : Nat) : Nat → Nat → Nat → List UInt8 → Nat × Nat
  | _, _, _, [] => (0, 0)
  | sh, acc, n, c :: r =>
    if bits ≤ sh then (0, 0)
    else if bits - sh < 7 ∧ c.toNat % 128 / 2 ^ (bits - sh) ≠ 0 then (0, 0)
    else if c.toNat < 128 then (acc ||| (c.toNat % 128 * 2 ^ sh % 2 ^ 64), n + 1)
    else unsG bits (sh + 7) (acc ||| (c.toNat % 128 * 2 ^ sh % 2 ^ 64)) (n + 1) r
def uns (bits : Nat) (b : List UInt8) : Nat × Nat := unsG bits 0 0 0 b
def endedB (bits : Nat) (b : List UInt8) : Bool := b.all (fun c => decide (128 ≤ c.toNat)) && decide (7 * b.length < bits)
/-- The top bits of a last byte of a signed number are not all alike. -/
def badTop (left c : Nat) : Bool :=
  let t : Int := (((c * 2 % 256 : Nat) : Int) + 128) % 256 - 128
  (decide (t / 2 ^ left ≠ 0) && decide (t / 2 ^ left ≠ -1)) || decide (128 ≤ c)
/-- A signed number: its 64 bits, how many bytes. -/
def sigG (bits : Nat) : Nat → Nat → Nat → List UInt8 → Nat × Nat
  | _, _, _, [] => (0, 0)
  | sh, acc, n, c :: r =>
    if bits ≤ sh then (0, 0)
    else if bits - sh < 7 ∧ badTop (bits - sh) c.toNat = true then (0, 0)
    else if c.toNat < 128 then
      (if 64 ≤ c.toNat ∧ sh + 7 < 64 then (acc ||| (c.toNat % 128 * 2 ^ sh % 2 ^ 64)) ||| (2 ^ 64 - 2 ^ (sh + 7)) else acc ||| (c.toNat % 128 * 2 ^ sh % 2 ^ 64), n + 1)
    else sigG bits (sh + 7) (acc ||| (c.toNat % 128 * 2 ^ sh % 2 ^ 64)) (n + 1) r
def sig (bits : Nat) (b : List UInt8) : Nat × Nat := sigG bits 0 0 0 b
def rNumber (s : St) : Nat × St :=
  if (uns 32 s.b).2 = 0 then (0, s.fail (if endedB 32 s.b then 3 else 2)) else ((uns 32 s.b).1 % 4294967296, ⟨s.b.drop (uns 32 s.b).2, s.v⟩)
def rSigned (bits : Nat) (s : St) : Nat × St :=
  if (sig bits s.b).2 = 0 then (0, s.fail (if endedB bits s.b then 3 else 2)) else ((if bits = 32 then (sig bits s.b).1 % 4294967296 else (sig bits s.b).1), ⟨s.b.drop (sig bits s.b).2, s.v⟩)
def rCount (s : St) : Nat × St :=
  if (rNumber s).2.b.length < (rNumber s).1 then (0, if 10000 < (rNumber s).1 then ⟨[], 2⟩ else (rNumber s).2.fail 3) else rNumber s
def rValueType (s : St) : Int × St :=
  (127 - ((rByte s).1 : Int), if (rByte s).2.v = 0 ∧ ((rByte s).1 < 124 ∨ 127 < (rByte s).1) then (rByte s).2.fail 1 else (rByte s).2)
def rTake (n : Nat) (s : St) : List UInt8 × St :=
  if s.b.length < n then ([], if 1048576 < n then ⟨[], 2⟩ else s.fail 3) else (s.b.take n, ⟨s.b.drop n, s.v⟩)
def leNat : List UInt8 → Nat
  | [] => 0
  | c :: r => c.toNat + 256 * leNat r
def rBits (k : Int) (s : St) : Nat × St :=
  if k = 0 then rSigned 32 s
  else if k = 1 then ((rSigned 64 s).1, if 9223372036854775808 ≤ (rSigned 64 s).1 ∧ 4 + (rSigned 64 s).2.b.length < s.b.length then (rSigned 64 s).2.fail 2 else (rSigned 64 s).2)
  else if k = 2 then rNumber s
  else if k = 5 then rByte s
  else (leNat (rTake (if k = 3 then 4 else if k = 4 then 8 else 0) s).1, (rTake (if k = 3 then 4 else if k = 4 then 8 else 0) s).2)
def rArgs : List Int → St → List (Int × UInt64) × St
  | [], s => ([], s)
  | k :: ks, s => ((k, UInt64.ofNat (rBits k s).1) :: (rArgs ks (rBits k s).2).1, (rArgs ks (rBits k s).2).2)
def rInstr (op : Int) (s : St) : Ins × St :=
  let s1 := if s.v = 0 ∧ kindsOf op = none then s.fail 2 else s
  (.mk op (rArgs ((kindsOf op).getD []) s1).1 false 0 [], (rArgs ((kindsOf op).getD []) s1).2)
def readOp (op : Nat) : Bool := decide (op = 13) || decide (op = 15) || decide (op = 16) || decide (op = 17) || decide (op = 32) || decide (op = 33) || decide (op = 65) || decide (op = 66) || decide (op = 69)
/-- Instructions up to an end: at most so many steps; what was gathered. -/
def rBody : Nat → Int → List Ins → St → List Ins × St
  | 0, _, _, s => ([], s)
  | f + 1, d, acc, s =>
    if s.v ≠ 0 then ([], s)
    else if (rByte s).2.v ≠ 0 then ([], (rByte s).2)
    else if (rByte s).1 = 11 then (acc, (rByte s).2)
    else if (rByte s).1 = 5 ∨ (rByte s).1 = 4 ∨ 100 < d then ([], (rByte s).2.fail 2)
    else if (rByte s).1 = 2 ∨ (rByte s).1 = 3 then
      let s2 := (rByte (rByte s).2).2
      let s3 := if s2.v = 0 ∧ (rByte (rByte s).2).1 ≠ 64 then s2.fail 2 else s2
      rBody f d (acc ++ [.mk ((rByte s).1 : Int) [] true (-1) (rBody f (d + 1) [] s3).1]) (rBody f (d + 1) [] s3).2
    else if readOp (rByte s).1 = false then ([], (rByte s).2.fail 2)
    else rBody f d (acc ++ [(rInstr ((rByte s).1 : Int) (rByte s).2).1]) (rInstr ((rByte s).1 : Int) (rByte s).2).2
def rLocals : Nat → St → List (UInt32 × Int) × St
  | 0, s => ([], s)
  | n + 1, s => ((UInt32.ofNat (rNumber s).1, (rValueType (rNumber s).2).1) :: (rLocals n (rValueType (rNumber s).2).2).1, (rLocals n (rValueType (rNumber s).2).2).2)
def rCode (b : List UInt8) : (List (UInt32 × Int) × List Ins) × Nat :=
  let s0 : St := ⟨b, 0⟩
  let s1 := (rLocals (rCount s0).1 (rCount s0).2).2
  let r := rBody (s1.b.length + 1) 0 [] s1
  let v := if r.2.v = 3 then 1 else if r.2.v = 0 ∧ 0 < r.2.b.length then 2 else r.2.v
  (((rLocals (rCount s0).1 (rCount s0).2).1, r.1), v)
end Go.Proofs.YtfpikpbolgodcaaDoor
