/- From a walk to the row of a law: 'true, and each argument reads as it did'. No program here. -/
import Derived.Test.YtfpikpbolgodcaaDoorMem
import Derived.ProofKit
import Derived.OpenShut
import Derived.Carry
namespace Go.Proofs.YtfpikpbolgodcaaDoor
open Go.ChangeShapes Go.WideShapes Go.ChangeAt Go.RowKit
theorem trodAll_stays {H : Type} {enc : TypeId × Value → H} {P : Program} (hl : laidOutB P = true) {W W' : World} (hb : Below W.heap.size W W') :
    ∀ (ts : List TypeId) (vs : List Value) (ds : List (DataW H)) (ps : List MemPlace), (∀ t ∈ ts, P.readableRec t = true ∧ t < P.types.size) →
      DataW.TrodAll enc P W 0 (fun _ => true) true ts vs ds ps → (∀ x ∈ ps, x.block < W.heap.size) → DataW.TrodAll enc P W' 0 (fun b => decide (b < W.heap.size)) true ts vs ds ps
  | [], [], [], _, _, h, _ => h
  | t :: ts, v :: vs, d :: ds, _, ht, h, hlt => by
    obtain ⟨p, q, h1, h2, rfl⟩ := h
    refine ⟨p, q, Below.trod hl (ht t List.mem_cons_self).1 (ht t List.mem_cons_self).2 h1 hb (fun x hx => hlt x (List.mem_append_left _ hx)),
      trodAll_stays hl hb ts vs ds q (fun t h => ht t (List.mem_cons_of_mem _ h)) h2 (fun x hx => hlt x (List.mem_append_right _ hx)), rfl⟩
  | [], _ :: _, _, _, _, h, _ => h.elim
  | [], [], _ :: _, _, _, h, _ => h.elim
  | _ :: _, [], _, _, _, h, _ => h.elim
  | _ :: _, _ :: _, [], _, _, h, _ => h.elim
theorem post_true {H : Type} {enc : TypeId × Value → H} {P : Program} {f : Func} {s : ChangeSpec} {W W' : World} {args : Array Value} {ds : List (DataW H)} {before : List MemPlace}
    (hl : laidOutB P = true) (hts : ∀ t ∈ f.params.toList, P.readableRec t = true ∧ t < P.types.size) (hvars : s.vars = []) (hfn : s.fn H (ds ++ []) = { results := [.lit (.bool true)], args := ds })
    (tb : TypeId) (hres : f.resultTypes = #[tb]) (hb : P.underlying tb = some .bool) (hW : DataW.Whole enc P f.params.toList s.vars false W args.toList ds [] before) (hx : Ext W W') :
    s.post enc P f false true false false W args (.bool true) W' := by
  have hW' := hW
  obtain ⟨p, q, hA, hV, rfl, hfz, hnd⟩ := hW
  rw [hvars] at hV
  have hq : q = [] := hV
  subst hq
  have hlt := fun x hx => hW'.lt x hx
  rw [List.append_nil] at hlt
  refine ⟨ds, [], p ++ [], [], p, [], hW', ?_, ?_, ?_, hx.below.frame _, fun h => by cases h⟩
  · rw [hfn, hres]
    exact trodAll_cons_mk (shut_bool hb _) trodAll_mk0
  · rw [hfn]
    exact trodAll_stays hl hx.below _ _ _ _ hts hA hlt
  · rw [hvars]
    rw [hfn]
    exact rfl
end Go.Proofs.YtfpikpbolgodcaaDoor
