/- impl.Equal and the law FnEqual. -/
import Derived.Test.YtlnobgkgdklhoaaEqual
import Derived.Test.YtlnobgkgdklhoaaKey
import Derived.Test.YtlnobgkgdklhoaaOrd
namespace Go.Proofs.Ytlnobgkgdklhoaa
open Go.RowKit
theorem own_rd {α : Type} {l : Lay α} {e : TypeId} {lo : Nat} {w W : World} {v : Value} {xs : List α} (h : Own l e lo w v xs) (hE : Ext w W) : l.slice.rd (fun k => k < W.heap.size) W [v] xs :=
  l.slice.mono (Lay.fr h.slice hE (fun _ hk => ⟨hk.2, fun h => h⟩)) (fun _ h => Nat.lt_of_lt_of_le h.2 hE.size)
theorem boxes2 (w : World) (v1 v2 v3 v4 : Value) (t1 t2 : TypeId) (W : World) (h : Ext ((w.alloc (.cells #[v1, v2] t1)).alloc (.cells #[v3, v4] t2)) W) :
    Ext w W ∧ (∀ j, W.cell? ⟨w.heap.size, j, none⟩ = (#[v1, v2] : Array Value)[j]?) ∧ (∀ j, W.cell? ⟨w.heap.size + 1, j, none⟩ = (#[v3, v4] : Array Value)[j]?) := by
  refine ⟨((ext_alloc _ _).trans (ext_alloc _ _)).trans h, (((blk_new _ _ _).ext (ext_alloc _ _)).ext h).cell, ?_⟩
  have := (blk_new (w.alloc (.cells #[v1, v2] t1)) #[v3, v4] t2).ext h
  simpa using this.cell
set_option maxRecDepth 100000 in
set_option maxHeartbeats 2000000 in
theorem Equal_calls (x y : List Int × List Int) (v1 v2 v3 v4 : Value) (A : Nat → Prop) (w : World) (h1 : Lay.int.slice.rd A w [v1] x.1) (h2 : Lay.int.slice.rd A w [v2] x.2) (h3 : Lay.int.slice.rd A w [v3] y.1) (h4 : Lay.int.slice.rd A w [v4] y.2) (hA : ∀ k, A k → k < w.heap.size)
    (hx : x.1.length + x.2.length ≤ 4294967296) (hy : y.1.length + y.2.length ≤ 4294967296) :
    Calls Try.prog 11 #[.agg #[v1, v2], .agg #[v3, v4]] w fun e w' => e = .returned (.bool (decide (x = y))) ∧ Ext w w' := by
  have HB := Lib.hid (fun W' (h' : Ext ((w.alloc (.cells #[v1, v2] 26)).alloc (.cells #[v3, v4] 26)).drew W') => boxes2 w v1 v2 v3 v4 _ _ W' ((ext_drew _).trans h'))
  have H := Lib.hid (And.intro h1 (And.intro h2 (And.intro h3 (And.intro h4 (And.intro hA (And.intro hx hy))))))
  clear h1 h2 h3 h4 hA hx hy
  go_enter Try.func11, Try.ntmps11
  go_wp2
  refine region_items extFrm [(0, .take), (1, .take), (3, .take), (4, .take), (7, .take), (8, .take), (10, .take), (11, .take), (2, .run), (5, .run), (6, .take), (9, .run), (12, .run), (13, .take), (14, .run), (15, .take)] (by kernel_rfl) (by kernel_rfl) ?_
  simp only [itemsOf, List.getD_cons_zero, List.getD_cons_succ]
  generalize hW : ((w.alloc (.cells #[v1, v2] 26)).alloc (.cells #[v3, v4] 26)).drew = W0 at *
  clear hW
  repeat (apply item_take; rfl; rfl; rfl; rfl; exact fun _ _ _ _ h => h; (intro W hE K hK; have q := HB.out W hE; go_simp; exact hK))
  have X0 : Hid (Ext W0 W0) := Fr.refl _ _
  apply item_run; rfl; intro K hK; go_simp
  obtain ⟨h1, h2, h3, h4, hA, hx, hy⟩ := H.out
  refine (kinds_calls x.1 v1 A _ (Lay.fr h1 (HB.out _ X0.out).1 (fun k hk => ⟨hA k hk, fun h => h⟩)) (fun k hk => Nat.lt_of_lt_of_le (hA k hk) (HB.out _ X0.out).1.size) (by omega)).mono ?_
  rintro e w1 ⟨k1, rfl, o1, e1⟩
  obtain ⟨ka1, kn1, kc1, rfl⟩ := o1.shape
  refine hK _ _ e1 ?_
  have X1 := Lib.hid (X0.out.trans e1)
  have O1 : Hid (∀ W', Ext w1 W' → Lay.int.slice.rd (fun k => k < W'.heap.size) W' [.slice ka1 kn1 kc1] x.1) := fun W' hE => own_rd o1 hE
  clear h1 h2 h3 h4 hA hx hy hK K o1 e1
  repeat (apply item_take; rfl; rfl; rfl; rfl; exact fun _ _ _ _ h => h; (intro W hE K hK; go_simp; exact hK))
  apply item_run; rfl; intro K hK; go_simp
  obtain ⟨h1, h2, h3, h4, hA, hx, hy⟩ := H.out
  refine (kinds_calls x.2 v2 A _ (Lay.fr h2 (HB.out _ X1.out).1 (fun k hk => ⟨hA k hk, fun h => h⟩)) (fun k hk => Nat.lt_of_lt_of_le (hA k hk) (HB.out _ X1.out).1.size) (by omega)).mono ?_
  rintro e w2 ⟨k2, rfl, o2, e2⟩
  obtain ⟨ka2, kn2, kc2, rfl⟩ := o2.shape
  refine hK _ _ e2 ?_
  have X2 := Lib.hid (X1.out.trans e2)
  have O2 : Hid (∀ W', Ext w2 W' → Lay.int.slice.rd (fun k => k < W'.heap.size) W' [.slice ka2 kn2 kc2] x.2) := fun W' hE => own_rd o2 hE
  replace O1 : Hid (∀ W', Ext w2 W' → Lay.int.slice.rd (fun k => k < W'.heap.size) W' [.slice ka1 kn1 kc1] x.1) := fun W' hE => O1.out W' (e2.trans hE)
  clear h1 h2 h3 h4 hA hx hy hK K o2 e2
  repeat (apply item_take; rfl; rfl; rfl; rfl; exact fun _ _ _ _ h => h; (intro W hE K hK; go_simp; exact hK))
  apply item_run; rfl; intro K hK; go_simp
  obtain ⟨h1, h2, h3, h4, hA, hx, hy⟩ := H.out
  refine (kinds_calls y.1 v3 A _ (Lay.fr h3 (HB.out _ X2.out).1 (fun k hk => ⟨hA k hk, fun h => h⟩)) (fun k hk => Nat.lt_of_lt_of_le (hA k hk) (HB.out _ X2.out).1.size) (by omega)).mono ?_
  rintro e w3 ⟨k3, rfl, o3, e3⟩
  obtain ⟨ka3, kn3, kc3, rfl⟩ := o3.shape
  refine hK _ _ e3 ?_
  have X3 := Lib.hid (X2.out.trans e3)
  have O3 : Hid (∀ W', Ext w3 W' → Lay.int.slice.rd (fun k => k < W'.heap.size) W' [.slice ka3 kn3 kc3] y.1) := fun W' hE => own_rd o3 hE
  replace O1 : Hid (∀ W', Ext w3 W' → Lay.int.slice.rd (fun k => k < W'.heap.size) W' [.slice ka1 kn1 kc1] x.1) := fun W' hE => O1.out W' (e3.trans hE)
  replace O2 : Hid (∀ W', Ext w3 W' → Lay.int.slice.rd (fun k => k < W'.heap.size) W' [.slice ka2 kn2 kc2] x.2) := fun W' hE => O2.out W' (e3.trans hE)
  clear h1 h2 h3 h4 hA hx hy hK K o3 e3
  repeat (apply item_take; rfl; rfl; rfl; rfl; exact fun _ _ _ _ h => h; (intro W hE K hK; go_simp; exact hK))
  apply item_run; rfl; intro K hK; go_simp
  obtain ⟨h1, h2, h3, h4, hA, hx, hy⟩ := H.out
  refine (kinds_calls y.2 v4 A _ (Lay.fr h4 (HB.out _ X3.out).1 (fun k hk => ⟨hA k hk, fun h => h⟩)) (fun k hk => Nat.lt_of_lt_of_le (hA k hk) (HB.out _ X3.out).1.size) (by omega)).mono ?_
  rintro e w4 ⟨k4, rfl, o4, e4⟩
  obtain ⟨ka4, kn4, kc4, rfl⟩ := o4.shape
  refine hK _ _ e4 ?_
  have X4 := Lib.hid (X3.out.trans e4)
  have O4 : Hid (∀ W', Ext w4 W' → Lay.int.slice.rd (fun k => k < W'.heap.size) W' [.slice ka4 kn4 kc4] y.2) := fun W' hE => own_rd o4 hE
  replace O1 : Hid (∀ W', Ext w4 W' → Lay.int.slice.rd (fun k => k < W'.heap.size) W' [.slice ka1 kn1 kc1] x.1) := fun W' hE => O1.out W' (e4.trans hE)
  replace O2 : Hid (∀ W', Ext w4 W' → Lay.int.slice.rd (fun k => k < W'.heap.size) W' [.slice ka2 kn2 kc2] x.2) := fun W' hE => O2.out W' (e4.trans hE)
  replace O3 : Hid (∀ W', Ext w4 W' → Lay.int.slice.rd (fun k => k < W'.heap.size) W' [.slice ka3 kn3 kc3] y.1) := fun W' hE => O3.out W' (e4.trans hE)
  clear h1 h2 h3 h4 hA hx hy hK K o4 e4
  repeat (apply item_take; rfl; rfl; rfl; rfl; exact fun _ _ _ _ h => h; (intro W hE K hK; go_simp; exact hK))
  apply item_run; rfl; intro K hK; go_simp
  refine (FunctionType_Equal_calls x y _ _ _ _ (fun k => k < w4.heap.size) w4 (O1.out _ (Fr.refl _ _)) (O2.out _ (Fr.refl _ _)) (O3.out _ (Fr.refl _ _)) (O4.out _ (Fr.refl _ _)) (fun _ h => h)).mono ?_
  rintro e w5 ⟨rfl, e5⟩
  refine hK _ _ e5 ?_
  have X5 := Lib.hid ((HB.out _ X4.out).1.trans e5)
  clear hK K e5
  repeat (apply item_take; rfl; rfl; rfl; rfl; exact fun _ _ _ _ h => h; (intro W hE K hK; go_simp; exact hK))
  apply items_done
  go_wp2
  go_ret
  exact ⟨rfl, X5.out⟩
end Go.Proofs.Ytlnobgkgdklhoaa
