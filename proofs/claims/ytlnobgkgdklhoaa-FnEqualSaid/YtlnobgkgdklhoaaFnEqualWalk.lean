/- The walk of FnEqual. -/
import Derived.Test.YtlnobgkgdklhoaaImplEqual
import Derived.Test.YtlnobgkgdklhoaaKeyInj
namespace Go.Proofs.Ytlnobgkgdklhoaa
open Go.RowKit
set_option linter.unusedSimpArgs false
section
variable {P : Program} {ops : Array Oper} {Q : Exit → Act → World → Prop} {R : Frm}
/-- Two variables are made, in either order. -/
theorem item_two_alloc {i j : Oper} {rest : List Item} {a : Act} {w : World} (di dj : Tmp) (ti tj : TypeId) (zi zj : Array Value)
    (hi : ∀ (a : Act) (w : World) (K : Act → World → Prop), K (a.put (some di) (.pointer (some ⟨w.heap.size, 0, none⟩))) (w.alloc (.cells zi ti)) → i.wp P a w K Q)
    (hj : ∀ (a : Act) (w : World) (K : Act → World → Prop), K (a.put (some dj) (.pointer (some ⟨w.heap.size, 0, none⟩))) (w.alloc (.cells zj tj)) → j.wp P a w K Q)
    (hgi : i.guard = none) (hgj : j.guard = none) (hne : di ≠ dj) (hR : ∀ w w', Ext w w' → R.E w w')
    (h : ∀ gi gj w', Ext w w' → Blk w' gi zi ti → Blk w' gj zj tj → gi ≠ gj → w.heap.size ≤ gi → w.heap.size ≤ gj →
      wpItems P ops Q R rest ((a.put (some di) (.pointer (some ⟨gi, 0, none⟩))).put (some dj) (.pointer (some ⟨gj, 0, none⟩))) w') :
    wpItems P ops Q R (.two i j :: rest) a w := by
  have wi : ∀ a : Act, Region.wanted i (yielded ops a.tmps) = true := fun a => by simp [Region.wanted, hgi]
  have wj : ∀ a : Act, Region.wanted j (yielded ops a.tmps) = true := fun a => by simp [Region.wanted, hgj]
  refine ⟨fun a' w' => ∃ gi gj, a' = (a.put (some di) (.pointer (some ⟨gi, 0, none⟩))).put (some dj) (.pointer (some ⟨gj, 0, none⟩)) ∧ Ext w w' ∧ Blk w' gi zi ti ∧ Blk w' gj zj tj ∧ gi ≠ gj ∧ w.heap.size ≤ gi ∧ w.heap.size ≤ gj, ?_, ?_, ?_⟩
  · rintro a' w' ⟨gi, gj, rfl, h1, h2, h3, h4, h5, h6⟩
    exact h gi gj w' h1 h2 h3 h4 h5 h6
  · simp only [wpG, wi, if_true]
    refine hi _ _ _ ⟨hR _ _ (ext_alloc _ _), ?_⟩
    simp only [wj, if_true]
    refine hj _ _ _ ⟨hR _ _ (ext_alloc _ _), ?_⟩
    exact ⟨_, _, rfl, (ext_alloc _ _).trans (ext_alloc _ _), (blk_new _ _ _).ext (ext_alloc _ _), blk_new _ _ _, by simp, Nat.le_refl _, by simp⟩
  · simp only [wpG, wj, if_true]
    refine hj _ _ _ ⟨hR _ _ (ext_alloc _ _), ?_⟩
    simp only [wi, if_true]
    refine hi _ _ _ ⟨hR _ _ (ext_alloc _ _), ?_⟩
    refine ⟨_, _, ?_, (ext_alloc _ _).trans (ext_alloc _ _), blk_new _ _ _, (blk_new _ _ _).ext (ext_alloc _ _), by simp, by simp, Nat.le_refl _⟩
    simp only [Act.put, Array.setIfInBounds_comm _ _ (Ne.symm hne)]
end
theorem infoInt : (Try.prog.info? 3).map (fun i => (i.zero, i.size, i.bytes)) = some (some (.int .i64 0), Lay.int.size, 8) := by kernel_rfl
theorem up_ext {w W : World} (h : Fr (fun k => w.heap.size ≤ k) w.drew W) : Ext w W := ((ext_drew w).fr h).mono (fun k hk (h : w.heap.size ≤ k) => absurd hk (by omega))
theorem own_empty {α : Type} (l : Lay α) {e : TypeId} {lo g : Nat} {w : World} (h : Blk w g #[] e) (hl : lo ≤ g) : Own l e lo w (.slice (some ⟨g, 0, none⟩) 0 0) [] :=
  ⟨[], ⟨by simp, .inr ⟨g, 0, #[], rfl, hl, h, Nat.le_refl _, by decide, by simp, by simp⟩⟩, rfl⟩
theorem fits_facts (w : World) (v1 v2 v3 v4 : Value) (t1 t2 : TypeId) : Ext w ((w.alloc (.cells #[v1, v2] t1)).alloc (.cells #[v3, v4] t2)) := (ext_alloc _ _).trans (ext_alloc _ _)
set_option maxRecDepth 100000 in
set_option maxHeartbeats 2000000 in
theorem FnEqual_calls (x1 x2 y1 y2 : List Int) (v1 v2 v3 v4 : Value) (A : Nat → Prop) (w : World) (h1 : Lay.int.slice.rd A w [v1] x1) (h2 : Lay.int.slice.rd A w [v2] x2) (h3 : Lay.int.slice.rd A w [v3] y1) (h4 : Lay.int.slice.rd A w [v4] y2) (hA : ∀ k, A k → k < w.heap.size) :
    Calls Try.prog 3 #[.agg #[v1, v2], .agg #[v3, v4]] w fun e w' => e = .returned (.bool true) ∧ Ext w w' := by
  obtain ⟨a1, c1, rfl, -, -⟩ := Lay.slice_form h1
  obtain ⟨a2, c2, rfl, -, -⟩ := Lay.slice_form h2
  obtain ⟨a3, c3, rfl, -, -⟩ := Lay.slice_form h3
  obtain ⟨a4, c4, rfl, -, -⟩ := Lay.slice_form h4
  have HB := Lib.hid (fun W' h' => boxes2 w (.slice a1 x1.length c1) (.slice a2 x2.length c2) (.slice a3 y1.length c3) (.slice a4 y2.length c4) 24 24 W' h')
  have H := Lib.hid (And.intro h1 (And.intro h2 (And.intro h3 (And.intro h4 hA))))
  clear h1 h2 h3 h4 hA
  by_cases hx : x1.length ≤ 2147483647 ∧ x2.length ≤ 2147483647
  · by_cases hy : y1.length ≤ 2147483647 ∧ y2.length ≤ 2147483647
    · have hl1 := hx.1
      have hl2 := hx.2
      have hl3 := hy.1
      have hl4 := hy.2
      have dx : Hid (decide (x1.length ≤ 2147483647 ∧ x2.length ≤ 2147483647) = true) := decide_eq_true hx
      have dy : Hid (decide (y1.length ≤ 2147483647 ∧ y2.length ≤ 2147483647) = true) := decide_eq_true hy
      clear hx hy
      go_enter Try.func3, Try.ntmps3
      go_wp2_with (go_at_call 10; refine Hid.out ?_)
      refine (zzFits3_calls a1 a2 x1.length c1 x2.length c2 _).mono ?_
      rintro e w1 ⟨rfl, e1⟩
      rw [dx.out]
      have X1 := Lib.hid e1
      have hc0 := (HB.out _ e1).2.1
      have hc1 := (HB.out _ e1).2.2
      clear e1
      go_wp2_with (go_at_call 10; refine Hid.out ?_)
      refine (zzFits3_calls a3 a4 y1.length c3 y2.length c4 _).mono ?_
      rintro e w2 ⟨rfl, e2⟩
      rw [dy.out]
      have X2 := Lib.hid (X1.out.trans e2)
      clear e2 X1 hc0 hc1
      go_wp2_with fail
      refine region_items (frFrm (fun k => w2.heap.size ≤ k)) [(0, .take), (1, .take), (2, .take), (3, .take), (4, .take), (5, .take), (6, .take), (7, .take), (8, .take), (9, .take), (10, .two 11), (12, .run), (13, .last)] (by kernel_rfl) (by kernel_rfl) ?_
      simp only [itemsOf, List.getD_cons_zero, List.getD_cons_succ]
      have HB2 : Hid (∀ W', Fr (fun k => w2.heap.size ≤ k) w2.drew W' → (∀ j, W'.cell? ⟨w.heap.size, j, none⟩ = (#[Value.slice a1 x1.length c1, .slice a2 x2.length c2] : Array Value)[j]?) ∧ (∀ j, W'.cell? ⟨w.heap.size + 1, j, none⟩ = (#[Value.slice a3 y1.length c3, .slice a4 y2.length c4] : Array Value)[j]?)) := fun W' h' => (HB.out W' (X2.out.trans (up_ext h'))).2
      repeat (apply item_take; rfl; rfl; rfl; rfl; exact fun _ _ _ _ h => h; (intro W hE K hK; have q := HB2.out W hE; go_simp; exact hK))
      refine item_two_alloc 5 6 26 26 _ _ (fun a w K h => by go_simp; exact h) (fun a w K h => by go_simp; exact h) rfl rfl (by decide) (fun _ _ h => h.to) ?_
      intro g5 g6 w3 e3 b5 b6 hne hg5 hg6
      have c5 := b5.cell
      have f5 := b5.frz
      apply item_run; rfl; intro K hK; go_simp
      refine hK _ _ (Fr.setCell (Fr.setCell (Fr.refl _ _) (.inl hg5) _) (.inl hg5) _) ?_
      have b5' := (b5.set 0 (.slice a1 x1.length c1)).set 1 (.slice a2 x2.length c2)
      have b6' := b6.fr (Fr.setCell (Fr.setCell (Fr.refl (fun k => k = g5) w3) (p := ⟨g5, 0, none⟩) (.inl rfl) (.slice a1 x1.length c1)) (p := ⟨g5, 1, none⟩) (.inl rfl) (.slice a2 x2.length c2)) (fun e => hne e.symm)
      have e4 := (e3.to (S := fun k => k = g5)).trans (Fr.setCell (Fr.setCell (Fr.refl (fun k => k = g5) w3) (p := ⟨g5, 0, none⟩) (.inl rfl) (.slice a1 x1.length c1)) (p := ⟨g5, 1, none⟩) (.inl rfl) (.slice a2 x2.length c2)) (fun _ _ h => h) (fun _ _ h => h) (U := fun k => k = g5)
      simp only [List.setIfInBounds_toArray, List.set_cons_zero, List.set_cons_succ] at b5'
      generalize ((w3.setCell ⟨g5, 0, none⟩ (.slice a1 x1.length c1)).setCell ⟨g5, 1, none⟩ (.slice a2 x2.length c2)) = w4 at *
      clear hK K c5 f5 b5 b6 e3 w3
      have c6 := b6'.cell
      have f6 := b6'.frz
      apply item_last; rfl; intro K hK; go_simp
      refine hK _ _ ?_
      have b5 := b5'.fr (Fr.setCell (Fr.setCell (Fr.refl (fun k => k = g6) w4) (p := ⟨g6, 0, none⟩) (.inl rfl) (.slice a3 y1.length c3)) (p := ⟨g6, 1, none⟩) (.inl rfl) (.slice a4 y2.length c4)) hne
      have b6 := (b6'.set 0 (.slice a3 y1.length c3)).set 1 (.slice a4 y2.length c4)
      have e5 : Ext w2.drew _ := (e4.trans (Fr.setCell (Fr.setCell (Fr.refl (fun k => k = g6) w4) (p := ⟨g6, 0, none⟩) (.inl rfl) (.slice a3 y1.length c3)) (p := ⟨g6, 1, none⟩) (.inl rfl) (.slice a4 y2.length c4)) (fun _ _ h => .inl h) (fun _ _ h => .inr h) (U := fun k => k = g5 ∨ k = g6)).mono (fun k hk h => by
        have h5 : w2.heap.size ≤ g5 := hg5
        have h6 : w2.heap.size ≤ g6 := hg6
        have hk' : k < w2.heap.size := hk
        rcases h with rfl | rfl <;> omega)
      simp only [List.setIfInBounds_toArray, List.set_cons_zero, List.set_cons_succ] at b6
      generalize ((w4.setCell ⟨g6, 0, none⟩ (.slice a3 y1.length c3)).setCell ⟨g6, 1, none⟩ (.slice a4 y2.length c4)) = w5 at *
      have B5 := Lib.hid (And.intro b5 (And.intro b6 (And.intro hne (X2.out.trans ((ext_drew _).trans e5)))))
      clear hK K c6 f6 b5 b6 b5' b6' e4 e5 hne hg5 hg6 w4 X2 HB2 
      apply items_done
      go_wp2_with fail
      refine region_items (frFrm (fun k => w5.heap.size ≤ k)) [(1, .take), (2, .take), (4, .take), (5, .take), (7, .take), (8, .take), (10, .take), (11, .take), (14, .take), (0, .run), (3, .run), (6, .run), (9, .run), (12, .run), (13, .take)] (by kernel_rfl) (by kernel_rfl) ?_
      simp only [itemsOf, List.getD_cons_zero, List.getD_cons_succ]
      have HB5 : Hid (∀ W', Fr (fun k => w5.heap.size ≤ k) w5.drew W' → (∀ j, W'.cell? ⟨w.heap.size, j, none⟩ = (#[Value.slice a1 x1.length c1, .slice a2 x2.length c2] : Array Value)[j]?) ∧ (∀ j, W'.cell? ⟨w.heap.size + 1, j, none⟩ = (#[Value.slice a3 y1.length c3, .slice a4 y2.length c4] : Array Value)[j]?)) := fun W' h' => (HB.out W' (B5.out.2.2.2.trans (up_ext h'))).2
      repeat (apply item_take; rfl; rfl; rfl; rfl; exact fun _ _ _ _ h => h; (intro W hE K hK; have q := HB5.out W hE; go_simp; exact hK))
      apply item_run; rfl; intro K hK; go_simp
      refine hK _ _ ((ext_alloc w5.drew (.cells #[] 3)).to) ?_
      have O0 : Hid (Own Lay.int 3 w5.heap.size ((w5.alloc (.cells #[] 3)).drew) (.slice (some ⟨w5.heap.size, 0, none⟩) 0 0) []) := own_empty Lay.int (by exact (blk_new w5 #[] 3).ext (ext_drew _)) (Nat.le_refl _)
      have E0 : Hid (Ext w5 ((w5.alloc (.cells #[] 3)).drew)) := (ext_alloc _ _).trans (ext_drew _)
      generalize hz0 : (w5.alloc (.cells #[] 3)).drew = z0 at *
      generalize hu0 : Value.slice (some ⟨w5.heap.size, 0, none⟩) 0 0 = u0 at *
      clear hK K hz0 hu0
      apply item_run; rfl; intro K hK
      obtain ⟨h1, h2, h3, h4, hA⟩ := H.out
      refine own_appends_wp Lay.int w5.heap.size (.tmp 27) (.tmp 29) 22 3 (.int .i64 0) 8 rfl Try.underlying22 infoInt rfl (by decide) (by decide) u0 [] x1 a1 x1.length c1 rfl rfl O0.out (Lay.fr h1 (HB.out _ (B5.out.2.2.2.trans E0.out)).1 (fun k hk => ⟨hA k hk, fun h => h⟩)) (fun _ h => Lay.all_flat Lay.flat_int h) E0.out.size (by simp only [List.length_append, List.length_nil]; omega) ?_
      intro u1 z1 o1 f1 g1
      have O1 : Hid (Own Lay.int 3 w5.heap.size z1 u1 ([] ++ x1)) := o1
      have E1 : Hid (Ext w5 z1) := (E0.out.fr f1).mono (fun k hk e => absurd (O0.out.lt k e.symm).1 (by omega))
      refine hK _ _ (f1.mono (fun k _ e => (O0.out.lt k e.symm).1)) ?_
      clear hK K o1 f1 g1 h1 h2 h3 h4 hA O0 E0
      apply item_run; rfl; intro K hK
      obtain ⟨h1, h2, h3, h4, hA⟩ := H.out
      refine own_appends_wp Lay.int w5.heap.size (.tmp 30) (.tmp 32) 22 3 (.int .i64 0) 8 rfl Try.underlying22 infoInt rfl (by decide) (by decide) u1 ([] ++ x1) x2 a2 x2.length c2 rfl rfl O1.out (Lay.fr h2 (HB.out _ (B5.out.2.2.2.trans E1.out)).1 (fun k hk => ⟨hA k hk, fun h => h⟩)) (fun _ h => Lay.all_flat Lay.flat_int h) E1.out.size (by simp only [List.length_append, List.length_nil]; omega) ?_
      intro u2 z2 o1 f1 g1
      have O2 : Hid (Own Lay.int 3 w5.heap.size z2 u2 (([] ++ x1) ++ x2)) := o1
      have E2 : Hid (Ext w5 z2) := (E1.out.fr f1).mono (fun k hk e => absurd (O1.out.lt k e.symm).1 (by omega))
      refine hK _ _ (f1.mono (fun k _ e => (O1.out.lt k e.symm).1)) ?_
      clear hK K o1 f1 g1 h1 h2 h3 h4 hA O1 E1
      apply item_run; rfl; intro K hK
      obtain ⟨h1, h2, h3, h4, hA⟩ := H.out
      refine own_appends_wp Lay.int w5.heap.size (.tmp 33) (.tmp 35) 22 3 (.int .i64 0) 8 rfl Try.underlying22 infoInt rfl (by decide) (by decide) u2 (([] ++ x1) ++ x2) y1 a3 y1.length c3 rfl rfl O2.out (Lay.fr h3 (HB.out _ (B5.out.2.2.2.trans E2.out)).1 (fun k hk => ⟨hA k hk, fun h => h⟩)) (fun _ h => Lay.all_flat Lay.flat_int h) E2.out.size (by simp only [List.length_append, List.length_nil]; omega) ?_
      intro u3 z3 o1 f1 g1
      have O3 : Hid (Own Lay.int 3 w5.heap.size z3 u3 ((([] ++ x1) ++ x2) ++ y1)) := o1
      have E3 : Hid (Ext w5 z3) := (E2.out.fr f1).mono (fun k hk e => absurd (O2.out.lt k e.symm).1 (by omega))
      refine hK _ _ (f1.mono (fun k _ e => (O2.out.lt k e.symm).1)) ?_
      clear hK K o1 f1 g1 h1 h2 h3 h4 hA O2 E2
      apply item_run; rfl; intro K hK
      obtain ⟨h1, h2, h3, h4, hA⟩ := H.out
      refine own_appends_wp Lay.int w5.heap.size (.tmp 36) (.tmp 38) 22 3 (.int .i64 0) 8 rfl Try.underlying22 infoInt rfl (by decide) (by decide) u3 ((([] ++ x1) ++ x2) ++ y1) y2 a4 y2.length c4 rfl rfl O3.out (Lay.fr h4 (HB.out _ (B5.out.2.2.2.trans E3.out)).1 (fun k hk => ⟨hA k hk, fun h => h⟩)) (fun _ h => Lay.all_flat Lay.flat_int h) E3.out.size (by simp only [List.length_append, List.length_nil]; omega) ?_
      intro u4 z4 o1 f1 g1
      have O4 : Hid (Own Lay.int 3 w5.heap.size z4 u4 (((([] ++ x1) ++ x2) ++ y1) ++ y2)) := o1
      have E4 : Hid (Ext w5 z4) := (E3.out.fr f1).mono (fun k hk e => absurd (O3.out.lt k e.symm).1 (by omega))
      refine hK _ _ (f1.mono (fun k _ e => (O3.out.lt k e.symm).1)) ?_
      clear hK K o1 f1 g1 h1 h2 h3 h4 hA O3 E3
      obtain ⟨ua, uc, rfl, hu1, hu2⟩ := O4.out.form
      have hub : (((((([] ++ x1) ++ x2) ++ y1) ++ y2) : List Int).length : Int) ≤ 9223372036854775807 := by simp only [List.length_append, List.length_nil]; omega
      generalize hnn : ((((([] ++ x1) ++ x2) ++ y1) ++ y2) : List Int) = nn at *
      clear hu1 hu2
      repeat (apply item_take; rfl; rfl; rfl; rfl; exact fun _ _ _ _ h => h; (intro W hE K hK; go_simp; exact hK))
      apply items_done
      go_wp2_with fail
      have ON := Lib.hid (And.intro O4.out E4.out)
      clear O4 E4 hnn
      go_loopw [41, 8] (fun s41 _ w' => ∃ (i : Nat), i ≤ nn.length ∧ s41 = .int .i64 i ∧ Hid (Ext z4 w')) (fun s41 _ _ => nn.length - (intOf s41).toNat)
      case atStart => exact ⟨0, Nat.zero_le _, rfl, Fr.refl _ _⟩
      case round =>
        obtain ⟨i, hi, rfl, hX⟩ := hrel
        by_cases hlt : i < nn.length
        · have hRr := own_rd ON.out.1 hX.out
          obtain ⟨b, o, rfl, -, hcell, hx1, hx2⟩ := int_at hRr i hlt
          generalize nn[i] = t at *
          clear hRr hx1 hx2
          by_cases ht0 : t < 0
          · have d0 : decide (t < 0) = true := decide_eq_true ht0
            go_wp2
            go_ret
            exact ⟨rfl, (HB.out _ (B5.out.2.2.2.trans (ON.out.2.trans hX.out))).1⟩
          · have d0 : decide (t < 0) = false := decide_eq_false ht0
            by_cases ht3 : 3 < t
            · have d3 : decide (3 < t) = true := decide_eq_true ht3
              go_wp2
              go_ret
              exact ⟨rfl, (HB.out _ (B5.out.2.2.2.trans (ON.out.2.trans hX.out))).1⟩
            · have d3 : decide (3 < t) = false := decide_eq_false ht3
              go_wp2
              go_roundw
              case rel => exact ⟨i + 1, by omega, by go_num, hX⟩
              case measure => simp [intOf]; omega
        · obtain rfl : i = nn.length := by omega
          have EN := Lib.hid (B5.out.2.2.2.trans (ON.out.2.trans hX.out))
          have HC : Hid (∀ W', Ext wr.drew W' → (∀ j, W'.cell? ⟨w.heap.size, j, none⟩ = (#[Value.slice a1 x1.length c1, .slice a2 x2.length c2] : Array Value)[j]?) ∧ (∀ j, W'.cell? ⟨w.heap.size + 1, j, none⟩ = (#[Value.slice a3 y1.length c3, .slice a4 y2.length c4] : Array Value)[j]?) ∧ (∀ j, W'.cell? ⟨g5, j, none⟩ = (#[Value.slice a1 x1.length c1, .slice a2 x2.length c2] : Array Value)[j]?) ∧ (∀ j, W'.cell? ⟨g6, j, none⟩ = (#[Value.slice a3 y1.length c3, .slice a4 y2.length c4] : Array Value)[j]?)) := fun W' h' => by
            have hx := (ON.out.2.trans hX.out).trans ((ext_drew _).trans h')
            exact ⟨(HB.out _ (B5.out.2.2.2.trans hx)).2.1, (HB.out _ (B5.out.2.2.2.trans hx)).2.2, (B5.out.1.ext hx).cell, (B5.out.2.1.ext hx).cell⟩
          have Z0 : Hid (Ext w wr.drew) := ((HB.out _ EN.out).1).trans (ext_drew _)
          have R0 : Hid ((∀ k, A k → k < wr.drew.heap.size) ∧ ∀ {v : Value} {l : List Int}, Lay.int.slice.rd A w [v] l → Lay.int.slice.rd A wr.drew [v] l) :=
            ⟨fun k hk => Nat.lt_of_lt_of_le (H.out.2.2.2.2 k hk) Z0.out.size, fun h => Lay.fr h Z0.out (fun k hk => ⟨H.out.2.2.2.2 k hk, fun h => h⟩)⟩
          have hinj : Hid (strOf (typeKey (x1, x2)) = strOf (typeKey (y1, y2)) → (x1, x2) = (y1, y2)) := fun h =>
            typeKey_inj (int_range H.out.1) (int_range H.out.2.1) (int_range H.out.2.2.1) (int_range H.out.2.2.2.1) (strOf_inj h)
          clear ON hX EN B5
          go_wp2_with fail
          by_cases heq : (x1, x2) = (y1, y2)
          · have DD : Hid (decide ((x1, x2) = (y1, y2)) = true ∧ ((strOf (typeKey (x1, x2))).toList == (strOf (typeKey (y1, y2))).toList) = true) := ⟨decide_eq_true heq, by rw [heq]; exact beq_self_eq_true _⟩
            clear heq hinj
            refine region_items extFrm [(0, .take), (1, .take), (3, .take), (5, .take), (2, .run), (4, .run), (6, .run), (7, .take), (8, .take), (9, .take), (10, .take), (11, .take), (12, .run), (13, .take), (14, .take)] (by kernel_rfl) (by kernel_rfl) ?_
            simp only [itemsOf, List.getD_cons_zero, List.getD_cons_succ]
            repeat (apply item_take; rfl; rfl; rfl; rfl; exact fun _ _ _ _ h => h; (intro W hE K hK; have q := HC.out W hE; go_simp; exact hK))
            apply item_run; rfl; intro K hK; go_simp
            obtain ⟨h1, h2, h3, h4, hA⟩ := H.out
            have hw := R0.out
            refine (Equal_calls (x1, x2) (y1, y2) _ _ _ _ A _ (hw.2 h1) (hw.2 h2) (hw.2 h3) (hw.2 h4) hw.1 (by simp only; omega) (by simp only; omega)).mono ?_
            rintro e q1 ⟨rfl, f1⟩
            rw [DD.out.1]
            refine hK _ _ f1 ?_
            replace HC := Lib.hid (fun W' h' => HC.out W' (f1.trans h'))
            have R1 : Hid ((∀ k, A k → k < q1.heap.size) ∧ ∀ {v : Value} {l : List Int}, Lay.int.slice.rd A w [v] l → Lay.int.slice.rd A q1 [v] l) := ⟨fun k hk => Nat.lt_of_lt_of_le (hw.1 k hk) f1.size, fun h => Lay.fr (hw.2 h) f1 (fun k hk => ⟨hw.1 k hk, fun h => h⟩)⟩
            have Z1 : Hid (Ext w q1) := Z0.out.trans f1
            clear hK K h1 h2 h3 h4 hA hw f1 R0 Z0
            repeat (apply item_take; rfl; rfl; rfl; rfl; exact fun _ _ _ _ h => h; (intro W hE K hK; go_simp; exact hK))
            apply item_run; rfl; intro K hK; go_simp
            obtain ⟨h1, h2, h3, h4, hA⟩ := H.out
            have hw := R1.out
            refine (TypeKey_calls (x1, x2) _ _ A _ (hw.2 h1) (hw.2 h2) hw.1 (by simp only; omega)).mono ?_
            rintro e q2 ⟨rfl, f1⟩
            refine hK _ _ f1 ?_
            replace HC := Lib.hid (fun W' h' => HC.out W' (f1.trans h'))
            have R2 : Hid ((∀ k, A k → k < q2.heap.size) ∧ ∀ {v : Value} {l : List Int}, Lay.int.slice.rd A w [v] l → Lay.int.slice.rd A q2 [v] l) := ⟨fun k hk => Nat.lt_of_lt_of_le (hw.1 k hk) f1.size, fun h => Lay.fr (hw.2 h) f1 (fun k hk => ⟨hw.1 k hk, fun h => h⟩)⟩
            have Z2 : Hid (Ext w q2) := Z1.out.trans f1
            clear hK K h1 h2 h3 h4 hA hw f1 R1 Z1
            repeat (apply item_take; rfl; rfl; rfl; rfl; exact fun _ _ _ _ h => h; (intro W hE K hK; go_simp; exact hK))
            apply item_run; rfl; intro K hK; go_simp
            obtain ⟨h1, h2, h3, h4, hA⟩ := H.out
            have hw := R2.out
            refine (TypeKey_calls (y1, y2) _ _ A _ (hw.2 h3) (hw.2 h4) hw.1 (by simp only; omega)).mono ?_
            rintro e q3 ⟨rfl, f1⟩
            refine hK _ _ f1 ?_
            replace HC := Lib.hid (fun W' h' => HC.out W' (f1.trans h'))
            have R3 : Hid ((∀ k, A k → k < q3.heap.size) ∧ ∀ {v : Value} {l : List Int}, Lay.int.slice.rd A w [v] l → Lay.int.slice.rd A q3 [v] l) := ⟨fun k hk => Nat.lt_of_lt_of_le (hw.1 k hk) f1.size, fun h => Lay.fr (hw.2 h) f1 (fun k hk => ⟨hw.1 k hk, fun h => h⟩)⟩
            have Z3 : Hid (Ext w q3) := Z2.out.trans f1
            have dd := DD.out.2
            clear hK K h1 h2 h3 h4 hA hw f1 R2 Z2
            repeat (apply item_take; rfl; rfl; rfl; rfl; exact fun _ _ _ _ h => h; (intro W hE K hK; have q := HC.out W hE; go_simp; exact hK))
            apply item_run; rfl; intro K hK; go_simp
            obtain ⟨h1, h2, h3, h4, hA⟩ := H.out
            have hw := R3.out
            refine (Equal_calls (x1, x2) (x1, x2) _ _ _ _ A _ (hw.2 h1) (hw.2 h2) (hw.2 h1) (hw.2 h2) hw.1 (by simp only; omega) (by simp only; omega)).mono ?_
            rintro e q4 ⟨rfl, f1⟩
            rw [decide_eq_true rfl]
            refine hK _ _ f1 ?_
            replace HC := Lib.hid (fun W' h' => HC.out W' (f1.trans h'))
            have Z4 : Hid (Ext w q4) := Z3.out.trans f1
            clear hK K h1 h2 h3 h4 hA hw f1 R3 Z3
            repeat (apply item_take; rfl; rfl; rfl; rfl; exact fun _ _ _ _ h => h; (intro W hE K hK; go_simp; exact hK))
            apply items_done
            go_wp2
            go_ret
            exact ⟨rfl, Z4.out⟩
          · have DD : Hid (decide ((x1, x2) = (y1, y2)) = false ∧ ((strOf (typeKey (x1, x2))).toList == (strOf (typeKey (y1, y2))).toList) = false) := ⟨decide_eq_false heq, by rw [beq_eq_false_iff_ne]; exact fun h => heq (hinj.out (by rw [Lib.toList_data, Lib.toList_data] at h; exact ByteArray.ext (Array.toList_inj.1 h)))⟩
            clear heq hinj
            refine region_items extFrm [(0, .take), (1, .take), (3, .take), (5, .take), (2, .run), (4, .run), (6, .run), (7, .take), (8, .take), (9, .take), (10, .take), (11, .take), (12, .run), (13, .take), (14, .take)] (by kernel_rfl) (by kernel_rfl) ?_
            simp only [itemsOf, List.getD_cons_zero, List.getD_cons_succ]
            repeat (apply item_take; rfl; rfl; rfl; rfl; exact fun _ _ _ _ h => h; (intro W hE K hK; have q := HC.out W hE; go_simp; exact hK))
            apply item_run; rfl; intro K hK; go_simp
            obtain ⟨h1, h2, h3, h4, hA⟩ := H.out
            have hw := R0.out
            refine (Equal_calls (x1, x2) (y1, y2) _ _ _ _ A _ (hw.2 h1) (hw.2 h2) (hw.2 h3) (hw.2 h4) hw.1 (by simp only; omega) (by simp only; omega)).mono ?_
            rintro e q1 ⟨rfl, f1⟩
            rw [DD.out.1]
            refine hK _ _ f1 ?_
            replace HC := Lib.hid (fun W' h' => HC.out W' (f1.trans h'))
            have R1 : Hid ((∀ k, A k → k < q1.heap.size) ∧ ∀ {v : Value} {l : List Int}, Lay.int.slice.rd A w [v] l → Lay.int.slice.rd A q1 [v] l) := ⟨fun k hk => Nat.lt_of_lt_of_le (hw.1 k hk) f1.size, fun h => Lay.fr (hw.2 h) f1 (fun k hk => ⟨hw.1 k hk, fun h => h⟩)⟩
            have Z1 : Hid (Ext w q1) := Z0.out.trans f1
            clear hK K h1 h2 h3 h4 hA hw f1 R0 Z0
            repeat (apply item_take; rfl; rfl; rfl; rfl; exact fun _ _ _ _ h => h; (intro W hE K hK; go_simp; exact hK))
            apply item_run; rfl; intro K hK; go_simp
            obtain ⟨h1, h2, h3, h4, hA⟩ := H.out
            have hw := R1.out
            refine (TypeKey_calls (x1, x2) _ _ A _ (hw.2 h1) (hw.2 h2) hw.1 (by simp only; omega)).mono ?_
            rintro e q2 ⟨rfl, f1⟩
            refine hK _ _ f1 ?_
            replace HC := Lib.hid (fun W' h' => HC.out W' (f1.trans h'))
            have R2 : Hid ((∀ k, A k → k < q2.heap.size) ∧ ∀ {v : Value} {l : List Int}, Lay.int.slice.rd A w [v] l → Lay.int.slice.rd A q2 [v] l) := ⟨fun k hk => Nat.lt_of_lt_of_le (hw.1 k hk) f1.size, fun h => Lay.fr (hw.2 h) f1 (fun k hk => ⟨hw.1 k hk, fun h => h⟩)⟩
            have Z2 : Hid (Ext w q2) := Z1.out.trans f1
            clear hK K h1 h2 h3 h4 hA hw f1 R1 Z1
            repeat (apply item_take; rfl; rfl; rfl; rfl; exact fun _ _ _ _ h => h; (intro W hE K hK; go_simp; exact hK))
            apply item_run; rfl; intro K hK; go_simp
            obtain ⟨h1, h2, h3, h4, hA⟩ := H.out
            have hw := R2.out
            refine (TypeKey_calls (y1, y2) _ _ A _ (hw.2 h3) (hw.2 h4) hw.1 (by simp only; omega)).mono ?_
            rintro e q3 ⟨rfl, f1⟩
            refine hK _ _ f1 ?_
            replace HC := Lib.hid (fun W' h' => HC.out W' (f1.trans h'))
            have R3 : Hid ((∀ k, A k → k < q3.heap.size) ∧ ∀ {v : Value} {l : List Int}, Lay.int.slice.rd A w [v] l → Lay.int.slice.rd A q3 [v] l) := ⟨fun k hk => Nat.lt_of_lt_of_le (hw.1 k hk) f1.size, fun h => Lay.fr (hw.2 h) f1 (fun k hk => ⟨hw.1 k hk, fun h => h⟩)⟩
            have Z3 : Hid (Ext w q3) := Z2.out.trans f1
            have dd := DD.out.2
            clear hK K h1 h2 h3 h4 hA hw f1 R2 Z2
            repeat (apply item_take; rfl; rfl; rfl; rfl; exact fun _ _ _ _ h => h; (intro W hE K hK; have q := HC.out W hE; go_simp; exact hK))
            apply item_run; rfl; intro K hK; go_simp
            obtain ⟨h1, h2, h3, h4, hA⟩ := H.out
            have hw := R3.out
            refine (Equal_calls (x1, x2) (x1, x2) _ _ _ _ A _ (hw.2 h1) (hw.2 h2) (hw.2 h1) (hw.2 h2) hw.1 (by simp only; omega) (by simp only; omega)).mono ?_
            rintro e q4 ⟨rfl, f1⟩
            rw [decide_eq_true rfl]
            refine hK _ _ f1 ?_
            replace HC := Lib.hid (fun W' h' => HC.out W' (f1.trans h'))
            have Z4 : Hid (Ext w q4) := Z3.out.trans f1
            clear hK K h1 h2 h3 h4 hA hw f1 R3 Z3
            repeat (apply item_take; rfl; rfl; rfl; rfl; exact fun _ _ _ _ h => h; (intro W hE K hK; go_simp; exact hK))
            apply items_done
            go_wp2
            go_ret
            exact ⟨rfl, Z4.out⟩
    · have dx : Hid (decide (x1.length ≤ 2147483647 ∧ x2.length ≤ 2147483647) = true) := decide_eq_true hx
      have dy : Hid (decide (y1.length ≤ 2147483647 ∧ y2.length ≤ 2147483647) = false) := decide_eq_false hy
      clear hx hy
      go_enter Try.func3, Try.ntmps3
      go_wp2_with (go_at_call 10; refine Hid.out ?_)
      refine (zzFits3_calls a1 a2 x1.length c1 x2.length c2 _).mono ?_
      rintro e w1 ⟨rfl, e1⟩
      rw [dx.out]
      have X1 := Lib.hid e1
      have hc0 := (HB.out _ e1).2.1
      have hc1 := (HB.out _ e1).2.2
      clear e1
      go_wp2_with (go_at_call 10; refine Hid.out ?_)
      refine (zzFits3_calls a3 a4 y1.length c3 y2.length c4 _).mono ?_
      rintro e w2 ⟨rfl, e2⟩
      rw [dy.out]
      have X2 := Lib.hid ((HB.out _ (X1.out.trans e2)).1)
      clear e2 X1 hc0 hc1
      go_wp2
      go_ret
      exact ⟨rfl, X2.out⟩
  · have dx : Hid (decide (x1.length ≤ 2147483647 ∧ x2.length ≤ 2147483647) = false) := decide_eq_false hx
    clear hx
    go_enter Try.func3, Try.ntmps3
    go_wp2_with (go_at_call 10; refine Hid.out ?_)
    refine (zzFits3_calls a1 a2 x1.length c1 x2.length c2 _).mono ?_
    rintro e w1 ⟨rfl, e1⟩
    rw [dx.out]
    have X1 := Lib.hid ((HB.out _ e1).1)
    clear e1
    go_wp2
    go_ret
    exact ⟨rfl, X1.out⟩
end Go.Proofs.Ytlnobgkgdklhoaa
