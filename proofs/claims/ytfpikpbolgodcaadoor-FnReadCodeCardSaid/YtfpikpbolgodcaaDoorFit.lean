/- What fits. No program here. -/
import Derived.Test.YtfpikpbolgodcaaDoorTree
namespace Go.Proofs.YtfpikpbolgodcaaDoor
mutual
/-- What fits: no list is longer than 2^20. -/
def fit1 : Ins → Prop
  | .mk _ args _ _ body => args.length ≤ 1048576 ∧ body.length ≤ 1048576 ∧ fitA body
def fitA : List Ins → Prop
  | [] => True
  | x :: xs => fit1 x ∧ fitA xs
end
theorem fitA_at : ∀ {l : List Ins}, fitA l → ∀ (i : Nat) (h : i < l.length), fit1 l[i]
  | _ :: _, h, 0, _ => h.1
  | _ :: _, h, i + 1, hi => fitA_at h.2 i (by simpa using hi)
end Go.Proofs.YtfpikpbolgodcaaDoor
