/-
  No cell of these rows narrows 'for every input' (looked for: loops, veiled, ifaces, maps, wideKeys, modest, calm, conditions, laid).
  DERIVED. THE GIVEN ROWS OF THIS SEAT. 7 by the template 'for every input the law returns true; each argument reads behind the call as it read before'; 0 by the template 'total and deterministic' (their statements: YtlnobgkgdklhoaaTotals.lean).
  GIVEN WITH THE SEED: the statements are not yours to turn. If you find one false, say at which input.
  Laid BY PROGRAM, IN A SANDBOX (cutbox-rows.mjs): the forced cells as the released guide's own fill.sh prints them over the translation f09904ae93e24be4… (all of the seat's roots in one cut). By AI agents, Wed Nov 11 2026. No macro, syntax, notation, axiom, sorry.
-/
import Derived.Test.YtlnobgkgdklhoaaChecked
import GoSem.Claim
import GoSem.ClaimJoined
import GoSem.ClaimMapViews
import Derived.JoinedTies
import Derived.KernelRfl
namespace Go.Proofs.Ytlnobgkgdklhoaa
/- THE CELL 'sum', in the pinned program and in every row, IS THE sha256 OF THE DUMP (.gsa) THAT YtlnobgkgdklhoaaProg.lean LOADS. Nothing in Lean hashes anything: it is a label: what it is worth is what the hold of that sum in a sandbox is worth. -/
noncomputable def Try.pinned : Pinned := { name := "ytlnobgkgdklhoaa", sum := "f09904ae93e24be4cfb2b56adc1102e5c64947fefd26f9a530b5f0b70972c57a", checked := Try.checked }
namespace Rows
def none {H : Type} : Left H := { results := [], args := [] }

/-- 'laws.FnEqual': WHATEVER THE INPUT: true; the input reads as it did. -/
def fnEqualSpec : ChangeSpec := { name := "fnEqual", fn := fun _ => fun
  | [d1, d2] => { results := [.lit (.bool true)], args := [d1, d2] }
  | _ => none }
def fnEqualRow : OpenClaim := { program := "ytlnobgkgdklhoaa", sum := "f09904ae93e24be4cfb2b56adc1102e5c64947fefd26f9a530b5f0b70972c57a", func := "pub-wasmbinaries/laws.FnEqual", spec := "fnEqual", apart := false }
def FnEqualSaid : Prop := fnEqualRow.holds Try.pinned (OpenSpec.ofChange fnEqualSpec)

/-- ITS FALSE NEIGHBOUR: 'it returns false'. Refute it at one input. -/
def fnEqualWrong : ChangeSpec := { name := "fnEqual", fn := fun _ => fun
  | [d1, d2] => { results := [.lit (.bool false)], args := [d1, d2] }
  | _ => none }
def FnEqualWrongFalsely : Prop := fnEqualRow.holds Try.pinned (OpenSpec.ofChange fnEqualWrong)

/-- 'laws.FnNumbersWritten': WHATEVER THE INPUT: true; the input reads as it did. -/
def fnNumbersWrittenSpec : ChangeSpec := { name := "fnNumbersWritten", fn := fun _ => fun
  | [d1, d2] => { results := [.lit (.bool true)], args := [d1, d2] }
  | _ => none }
def fnNumbersWrittenRow : OpenClaim := { program := "ytlnobgkgdklhoaa", sum := "f09904ae93e24be4cfb2b56adc1102e5c64947fefd26f9a530b5f0b70972c57a", func := "pub-wasmbinaries/laws.FnNumbersWritten", spec := "fnNumbersWritten", unfollowed := true, recurses := true, apart := false }
def FnNumbersWrittenSaid : Prop := fnNumbersWrittenRow.holds Try.pinned (OpenSpec.ofChange fnNumbersWrittenSpec)

/-- ITS FALSE NEIGHBOUR: 'it returns false'. Refute it at one input. -/
def fnNumbersWrittenWrong : ChangeSpec := { name := "fnNumbersWritten", fn := fun _ => fun
  | [d1, d2] => { results := [.lit (.bool false)], args := [d1, d2] }
  | _ => none }
def FnNumbersWrittenWrongFalsely : Prop := fnNumbersWrittenRow.holds Try.pinned (OpenSpec.ofChange fnNumbersWrittenWrong)

/-- 'laws.FnInt32': WHATEVER THE INPUT: true; the input reads as it did. -/
def fnInt32Spec : ChangeSpec := { name := "fnInt32", fn := fun _ => fun
  | [d] => { results := [.lit (.bool true)], args := [d] }
  | _ => none }
def fnInt32Row : OpenClaim := { program := "ytlnobgkgdklhoaa", sum := "f09904ae93e24be4cfb2b56adc1102e5c64947fefd26f9a530b5f0b70972c57a", func := "pub-wasmbinaries/laws.FnInt32", spec := "fnInt32", unfollowed := true, recurses := true, apart := false }
def FnInt32Said : Prop := fnInt32Row.holds Try.pinned (OpenSpec.ofChange fnInt32Spec)

/-- ITS FALSE NEIGHBOUR: 'it returns false'. Refute it at one input. -/
def fnInt32Wrong : ChangeSpec := { name := "fnInt32", fn := fun _ => fun
  | [d] => { results := [.lit (.bool false)], args := [d] }
  | _ => none }
def FnInt32WrongFalsely : Prop := fnInt32Row.holds Try.pinned (OpenSpec.ofChange fnInt32Wrong)

/-- 'laws.FnInt64': WHATEVER THE INPUT: true; the input reads as it did. -/
def fnInt64Spec : ChangeSpec := { name := "fnInt64", fn := fun _ => fun
  | [d] => { results := [.lit (.bool true)], args := [d] }
  | _ => none }
def fnInt64Row : OpenClaim := { program := "ytlnobgkgdklhoaa", sum := "f09904ae93e24be4cfb2b56adc1102e5c64947fefd26f9a530b5f0b70972c57a", func := "pub-wasmbinaries/laws.FnInt64", spec := "fnInt64", unfollowed := true, recurses := true, apart := false }
def FnInt64Said : Prop := fnInt64Row.holds Try.pinned (OpenSpec.ofChange fnInt64Spec)

/-- ITS FALSE NEIGHBOUR: 'it returns false'. Refute it at one input. -/
def fnInt64Wrong : ChangeSpec := { name := "fnInt64", fn := fun _ => fun
  | [d] => { results := [.lit (.bool false)], args := [d] }
  | _ => none }
def FnInt64WrongFalsely : Prop := fnInt64Row.holds Try.pinned (OpenSpec.ofChange fnInt64Wrong)

/-- 'laws.FnUint32': WHATEVER THE INPUT: true; the input reads as it did. -/
def fnUint32Spec : ChangeSpec := { name := "fnUint32", fn := fun _ => fun
  | [d] => { results := [.lit (.bool true)], args := [d] }
  | _ => none }
def fnUint32Row : OpenClaim := { program := "ytlnobgkgdklhoaa", sum := "f09904ae93e24be4cfb2b56adc1102e5c64947fefd26f9a530b5f0b70972c57a", func := "pub-wasmbinaries/laws.FnUint32", spec := "fnUint32", unfollowed := true, recurses := true, apart := false }
def FnUint32Said : Prop := fnUint32Row.holds Try.pinned (OpenSpec.ofChange fnUint32Spec)

/-- ITS FALSE NEIGHBOUR: 'it returns false'. Refute it at one input. -/
def fnUint32Wrong : ChangeSpec := { name := "fnUint32", fn := fun _ => fun
  | [d] => { results := [.lit (.bool false)], args := [d] }
  | _ => none }
def FnUint32WrongFalsely : Prop := fnUint32Row.holds Try.pinned (OpenSpec.ofChange fnUint32Wrong)

/-- 'laws.FnUint64': WHATEVER THE INPUT: true; the input reads as it did. -/
def fnUint64Spec : ChangeSpec := { name := "fnUint64", fn := fun _ => fun
  | [d] => { results := [.lit (.bool true)], args := [d] }
  | _ => none }
def fnUint64Row : OpenClaim := { program := "ytlnobgkgdklhoaa", sum := "f09904ae93e24be4cfb2b56adc1102e5c64947fefd26f9a530b5f0b70972c57a", func := "pub-wasmbinaries/laws.FnUint64", spec := "fnUint64", unfollowed := true, recurses := true, apart := false }
def FnUint64Said : Prop := fnUint64Row.holds Try.pinned (OpenSpec.ofChange fnUint64Spec)

/-- ITS FALSE NEIGHBOUR: 'it returns false'. Refute it at one input. -/
def fnUint64Wrong : ChangeSpec := { name := "fnUint64", fn := fun _ => fun
  | [d] => { results := [.lit (.bool false)], args := [d] }
  | _ => none }
def FnUint64WrongFalsely : Prop := fnUint64Row.holds Try.pinned (OpenSpec.ofChange fnUint64Wrong)

/-- 'laws.FnNumbersBack': WHATEVER THE INPUT: true; the input reads as it did. -/
def fnNumbersBackSpec : ChangeSpec := { name := "fnNumbersBack", fn := fun _ => fun
  | [d1, d2] => { results := [.lit (.bool true)], args := [d1, d2] }
  | _ => none }
def fnNumbersBackRow : OpenClaim := { program := "ytlnobgkgdklhoaa", sum := "f09904ae93e24be4cfb2b56adc1102e5c64947fefd26f9a530b5f0b70972c57a", func := "pub-wasmbinaries/laws.FnNumbersBack", spec := "fnNumbersBack", unfollowed := true, recurses := true, apart := false }
def FnNumbersBackSaid : Prop := fnNumbersBackRow.holds Try.pinned (OpenSpec.ofChange fnNumbersBackSpec)

/-- ITS FALSE NEIGHBOUR: 'it returns false'. Refute it at one input. -/
def fnNumbersBackWrong : ChangeSpec := { name := "fnNumbersBack", fn := fun _ => fun
  | [d1, d2] => { results := [.lit (.bool false)], args := [d1, d2] }
  | _ => none }
def FnNumbersBackWrongFalsely : Prop := fnNumbersBackRow.holds Try.pinned (OpenSpec.ofChange fnNumbersBackWrong)

/- THE SECOND FORM. 'bulk': how many values and letters a reading holds, each counted each time it is reached (what is shared counts as often as it is met; a slice's spare places count too). A statement '..UptoSaid' is the law's where the arguments, and the package variables that the reading takes, are together of bulk at most 1048576: NARROWER than '..Said'. Prove '..Said' where nothing that the law and all that it calls make is longer than what came in: it says more and counts as full. Else prove '..UptoSaid'. A law counts once. -/
mutual
def uptoBulk {H : Type} : DataW H → Nat
  | .lit (.string bytes) => bytes.length + 1
  | .lit _ => 1
  | .nil => 1
  | .ptr d => uptoBulk d + 1
  | .slice elems spare => uptoBulkAll elems + uptoBulkAll spare + 1
  | .agg parts => uptoBulkAll parts + 1
  | .iface _ d => uptoBulk d + 1
  | .map entries => uptoBulkEntries entries + 1
  | .held _ => 1
def uptoBulkAll {H : Type} : List (DataW H) → Nat
  | [] => 0
  | d :: r => uptoBulk d + uptoBulkAll r
def uptoBulkEntries {H : Type} : List (Lit × DataW H) → Nat
  | [] => 0
  | x :: r => uptoBulkEntry x + uptoBulkEntries r
def uptoBulkEntry {H : Type} : Lit × DataW H → Nat
  | (.string bytes, d) => bytes.length + uptoBulk d + 1
  | (_, d) => uptoBulk d + 1
 end
def uptoSmall : (H : Type) → List (DataW H) → Bool := fun _ ds => decide (uptoBulkAll ds ≤ 1048576)
def OpenSpec.upto (s : _root_.Go.ChangeSpec) : _root_.Go.OpenSpec := { _root_.Go.OpenSpec.ofChange s with cond := some uptoSmall }

/-- 'laws.FnEqual', WHERE WHAT IT READS IS OF BULK AT MOST 1048576: true; the input reads as it did. -/
def fnEqualUptoRow : OpenClaim := { program := "ytlnobgkgdklhoaa", sum := "f09904ae93e24be4cfb2b56adc1102e5c64947fefd26f9a530b5f0b70972c57a", func := "pub-wasmbinaries/laws.FnEqual", spec := "fnEqual", apart := false, narrowed := true }
def FnEqualUptoSaid : Prop := fnEqualUptoRow.holds Try.pinned (OpenSpec.upto fnEqualSpec)

/-- 'laws.FnNumbersWritten', WHERE WHAT IT READS IS OF BULK AT MOST 1048576: true; the input reads as it did. -/
def fnNumbersWrittenUptoRow : OpenClaim := { program := "ytlnobgkgdklhoaa", sum := "f09904ae93e24be4cfb2b56adc1102e5c64947fefd26f9a530b5f0b70972c57a", func := "pub-wasmbinaries/laws.FnNumbersWritten", spec := "fnNumbersWritten", unfollowed := true, recurses := true, apart := false, narrowed := true }
def FnNumbersWrittenUptoSaid : Prop := fnNumbersWrittenUptoRow.holds Try.pinned (OpenSpec.upto fnNumbersWrittenSpec)

/-- 'laws.FnInt32', WHERE WHAT IT READS IS OF BULK AT MOST 1048576: true; the input reads as it did. -/
def fnInt32UptoRow : OpenClaim := { program := "ytlnobgkgdklhoaa", sum := "f09904ae93e24be4cfb2b56adc1102e5c64947fefd26f9a530b5f0b70972c57a", func := "pub-wasmbinaries/laws.FnInt32", spec := "fnInt32", unfollowed := true, recurses := true, apart := false, narrowed := true }
def FnInt32UptoSaid : Prop := fnInt32UptoRow.holds Try.pinned (OpenSpec.upto fnInt32Spec)

/-- 'laws.FnInt64', WHERE WHAT IT READS IS OF BULK AT MOST 1048576: true; the input reads as it did. -/
def fnInt64UptoRow : OpenClaim := { program := "ytlnobgkgdklhoaa", sum := "f09904ae93e24be4cfb2b56adc1102e5c64947fefd26f9a530b5f0b70972c57a", func := "pub-wasmbinaries/laws.FnInt64", spec := "fnInt64", unfollowed := true, recurses := true, apart := false, narrowed := true }
def FnInt64UptoSaid : Prop := fnInt64UptoRow.holds Try.pinned (OpenSpec.upto fnInt64Spec)

/-- 'laws.FnUint32', WHERE WHAT IT READS IS OF BULK AT MOST 1048576: true; the input reads as it did. -/
def fnUint32UptoRow : OpenClaim := { program := "ytlnobgkgdklhoaa", sum := "f09904ae93e24be4cfb2b56adc1102e5c64947fefd26f9a530b5f0b70972c57a", func := "pub-wasmbinaries/laws.FnUint32", spec := "fnUint32", unfollowed := true, recurses := true, apart := false, narrowed := true }
def FnUint32UptoSaid : Prop := fnUint32UptoRow.holds Try.pinned (OpenSpec.upto fnUint32Spec)

/-- 'laws.FnUint64', WHERE WHAT IT READS IS OF BULK AT MOST 1048576: true; the input reads as it did. -/
def fnUint64UptoRow : OpenClaim := { program := "ytlnobgkgdklhoaa", sum := "f09904ae93e24be4cfb2b56adc1102e5c64947fefd26f9a530b5f0b70972c57a", func := "pub-wasmbinaries/laws.FnUint64", spec := "fnUint64", unfollowed := true, recurses := true, apart := false, narrowed := true }
def FnUint64UptoSaid : Prop := fnUint64UptoRow.holds Try.pinned (OpenSpec.upto fnUint64Spec)

/-- 'laws.FnNumbersBack', WHERE WHAT IT READS IS OF BULK AT MOST 1048576: true; the input reads as it did. -/
def fnNumbersBackUptoRow : OpenClaim := { program := "ytlnobgkgdklhoaa", sum := "f09904ae93e24be4cfb2b56adc1102e5c64947fefd26f9a530b5f0b70972c57a", func := "pub-wasmbinaries/laws.FnNumbersBack", spec := "fnNumbersBack", unfollowed := true, recurses := true, apart := false, narrowed := true }
def FnNumbersBackUptoSaid : Prop := fnNumbersBackUptoRow.holds Try.pinned (OpenSpec.upto fnNumbersBackSpec)

end Rows
end Go.Proofs.Ytlnobgkgdklhoaa
