/- impl.locals, impl.instrs. -/
import Derived.Test.YtkbadfljmbeciaaGreatDoorOwnLay
namespace Go.Proofs.YtkbadfljmbeciaaGreatDoor
open Go.RowKit
set_option maxRecDepth 100000 in
set_option maxHeartbeats 1000000 in
theorem locals_calls (l : List (UInt32 × Int)) (aa : Option Addr) (m c : Nat) (A : Nat → Prop) (w : World) (hR : Lay.loc.slice.rd A w [.slice aa m c] l) (hA : ∀ k, A k → k < w.heap.size) (hl : l.length ≤ 4294967296) :
    Calls Tryz.prog 39 #[.slice aa m c] w fun e w' => ∃ v, e = .returned v ∧ Own Lay.loc 259 w.heap.size w' v l ∧ Ext w w' := by
  obtain ⟨a', c', e, hlc, hcm⟩ := Lay.slice_form hR
  obtain ⟨rfl, rfl, rfl⟩ : aa = a' ∧ m = l.length ∧ c = c' := by simpa using e
  have hlen : (l.length : Int) ≤ 9223372036854775807 := by omega
  have H := Lib.hid (And.intro hR (And.intro hA hl))
  clear hR hA hl hlc hcm e
  go_enter Tryz.func39, Tryz.ntmps39
  go_wp2_with fail
  go_loopw [3, 8] (fun s3 s8 w' => ∃ (i : Nat), i ≤ l.length ∧ s8 = .int .i64 i ∧ Hid (Own Lay.loc 259 w.heap.size w' s3 (l.take i)) ∧ Hid (Ext w w')) (fun _ s8 _ => l.length - (intOf s8).toNat)
  case atStart => exact ⟨0, Nat.zero_le _, rfl, own_nil _ _ _ _, Fr.refl _ _⟩
  case round =>
    obtain ⟨i, hi, rfl, hO, hX⟩ := hrel
    by_cases hlt : i < l.length
    · have hRr := Lay.fr H.out.1 hX.out (fun k hk => ⟨H.out.2.1 k hk, fun h => h⟩)
      obtain ⟨b, o, rfl, hAb, e0, e1, hx1, hx2⟩ := loc_at hRr i hlt
      have htk := Lib.hid (show l.take (i + 1) = l.take i ++ [l[i]] from List.take_succ_eq_append_getElem hlt)
      generalize l[i] = x at *
      obtain ⟨cn, ty⟩ := x
      simp only [] at e0 e1 hx1 hx2
      have HB := Lib.hid (And.intro hx1 hx2)
      clear hRr hAb hx1 hx2
      go_wp2_with (at_builtin; refine Hid.out ?_)
      have hxv := ext_alloc wr (.cells #[.int .u32 cn.toNat, .int .i64 ty] 140)
      refine own_append1n Lay.loc w.heap.size (wr.heap.size + 1) (by simp) rfl (.tmp 12) (.tmp 18) _ _ _ 16 rfl Tryz.underlying145 infoLoc rfl (by omega) (by decide) u3 (l.take i) (cn, ty) _ rfl rfl (hO.out.ext hxv) ⟨[_], [_], rfl, rfl, rfl, HB.out⟩ (Nat.le_trans hX.out.size hxv.size) (by have := H.out.2.2; rw [List.length_take]; omega) ?_
      intro v1 w1 h1 h2 h3
      have hO1 : Hid (Own Lay.loc 259 w.heap.size w1 v1 (l.take (i + 1))) := by show Own _ _ _ _ _ _; rw [htk.out]; exact h1
      have hX1 : Hid (Ext w w1) := Fr.new (Ext.fr (Ext.trans hX.out hxv) h2) (fun k e => (hO.out.lt k e.symm).1)
      clear h1 h2 h3 hxv
      go_wp2
      go_roundw
      case rel => exact ⟨i + 1, by omega, by go_num, hO1, hX1⟩
      case measure => simp [intOf]; omega
    · obtain rfl : i = l.length := by omega
      go_wp2
      go_ret
      have := hO.out
      rw [List.take_length] at this
      exact ⟨_, rfl, this, hX.out⟩
set_option maxRecDepth 100000 in
set_option maxHeartbeats 4000000 in
theorem instrs_calls (n : Nat) : ∀ (l : List Ins) (aa : Option Addr) (m c : Nat) (A : Nat → Prop) (w : World), (Lay.ins n).slice.rd A w [.slice aa m c] l → (∀ k, A k → k < w.heap.size) → l.length ≤ 1048576 → fitA l →
    Calls Tryz.prog 40 #[.slice aa m c] w fun e w' => ∃ v, e = .returned v ∧ Own (Lay.own n) 301 w.heap.size w' v l ∧ Ext w w' := by
  induction n using Nat.strongRecOn with
  | ind n ih =>
    intro l aa m c A w hR hA hll hfa
    obtain ⟨a', c', e, hlc, hcm⟩ := Lay.slice_form hR
    obtain ⟨rfl, rfl, rfl⟩ : aa = a' ∧ m = l.length ∧ c = c' := by simpa using e
    have hlen : (l.length : Int) ≤ 9223372036854775807 := by simp only [maxLen] at hcm; omega
    have H := Lib.hid (And.intro hR (And.intro hA (And.intro hll (And.intro hfa ih))))
    clear hR hA ih hll hfa hlc hcm e
    go_enter Tryz.func40, Tryz.ntmps40
    go_wp2_with fail
    go_loopw [3, 13] (fun s3 s13 w' => ∃ (i : Nat), i ≤ l.length ∧ s13 = .int .i64 i ∧ Hid (Own (Lay.own n) 301 w.heap.size w' s3 (l.take i)) ∧ Hid (Ext w w')) (fun _ s13 _ => l.length - (intOf s13).toNat)
    case atStart => exact ⟨0, Nat.zero_le _, rfl, own_nil _ _ _ _, Fr.refl _ _⟩
    case round =>
      obtain ⟨i, hi, rfl, hO, hX⟩ := hrel
      by_cases hlt : i < l.length
      · obtain ⟨hR, hA, hll, hfa, ih⟩ := H.out
        have hRr := Lay.fr hR hX.out (fun k hk => ⟨hA k hk, fun h => h⟩)
        obtain ⟨k, b, o, a1, n1, c1, a2, n2, c2, rfl, rfl, hAb, e0, e1, e2, e3, e4, hopb, htyb, hargs, hbody⟩ := Lay.ins_at hRr i hlt
        have htk := Lib.hid (show l.take (i + 1) = l.take i ++ [l[i]] from List.take_succ_eq_append_getElem hlt)
        have hf := fitA_at hfa i hlt
        generalize l[i] = x at *
        obtain ⟨op, args, st, ty, body⟩ := x
        simp only [Ins.op, Ins.args, Ins.st, Ins.ty, Ins.body] at e0 e1 e2 e3 e4 hopb htyb hargs hbody
        obtain ⟨a1', c1', e1', hlc1, hcm1⟩ := Lay.slice_form hargs
        obtain ⟨rfl, rfl, rfl⟩ : a1 = a1' ∧ n1 = args.length ∧ c1 = c1' := by simpa using e1'
        obtain ⟨a2', c2', e2', hlc2, hcm2⟩ := Lay.slice_form hbody
        obtain ⟨rfl, rfl, rfl⟩ : a2 = a2' ∧ n2 = body.length ∧ c2 = c2' := by simpa using e2'
        have hal : (args.length : Int) ≤ 9223372036854775807 := by simp only [maxLen] at hcm1; omega
        have HB := Lib.hid (And.intro hopb (And.intro htyb (And.intro hargs (And.intro hbody hf))))
        clear hR hA hll hfa ih hRr hargs hbody hAb e1' e2' hlc1 hcm1 hlc2 hcm2 hopb htyb hf
        go_wp2_with fail
        have hB1 : Blk ((wr.alloc (.cells #[.int .i64 op, .slice a1 args.length c1, .bool st, .int .i64 ty, .slice a2 body.length c2] 263)).alloc (.cells #[.int .u8 (op % 256), .slice none 0 0] 274)) wr.heap.size #[.int .i64 op, .slice a1 args.length c1, .bool st, .int .i64 ty, .slice a2 body.length c2] 263 := (blk_new wr _ _).ext (ext_alloc _ _)
        have hB2 : Blk ((wr.alloc (.cells #[.int .i64 op, .slice a1 args.length c1, .bool st, .int .i64 ty, .slice a2 body.length c2] 263)).alloc (.cells #[.int .u8 (op % 256), .slice none 0 0] 274)) (wr.heap.size + 1) #[.int .u8 (op % 256), .slice none 0 0] 274 := by
          have := blk_new (wr.alloc (.cells #[.int .i64 op, .slice a1 args.length c1, .bool st, .int .i64 ty, .slice a2 body.length c2] 263)) #[.int .u8 (op % 256), .slice none 0 0] 274
          simpa using this
        have hx1 : Ext wr ((wr.alloc (.cells #[.int .i64 op, .slice a1 args.length c1, .bool st, .int .i64 ty, .slice a2 body.length c2] 263)).alloc (.cells #[.int .u8 (op % 256), .slice none 0 0] 274)) := Ext.trans (ext_alloc _ _) (ext_alloc _ _)
        generalize ((wr.alloc (.cells #[.int .i64 op, .slice a1 args.length c1, .bool st, .int .i64 ty, .slice a2 body.length c2] 263)).alloc (.cells #[.int .u8 (op % 256), .slice none 0 0] 274)) = W1 at *
        have H1 := Lib.hid (And.intro hB1 (And.intro hB2 (And.intro hx1 True.intro)))
        clear hB1 hB2 hx1
        obtain ⟨wo, rfl⟩ : ∃ wo : World, wo = wr := ⟨_, rfl⟩
        obtain ⟨g, hg⟩ : ∃ g, wo.heap.size + 1 = g := ⟨_, rfl⟩
        rw [hg] at H1 ⊢
        have hg := Lib.hid hg
        go_loopw [24] (fun s24 w' => ∃ (j : Nat) (va : Value), j ≤ args.length ∧ s24 = .int .i64 j ∧ Hid (Blk w' g #[.int .u8 (op % 256), va] 274 ∧ Own Lay.anyv 20 W1.heap.size w' va (args.take j) ∧ Fr (fun k => k = g) W1 w')) (fun s24 _ => args.length - (intOf s24).toNat)
        case atStart => exact ⟨0, _, Nat.zero_le _, rfl, H1.out.2.1, own_nil _ _ _ _, Fr.refl _ _⟩
        case round =>
          obtain ⟨j, va, hj, rfl, hV⟩ := hrel
          obtain ⟨va1, va2, va3, rfl⟩ := hV.out.2.1.shape
          by_cases hjl : j < args.length
          · have hA := H.out.2.1
            have hszw := hX.out.size
            have hargs := Lay.fr HB.out.2.2.1 (Ext.fr H1.out.2.2.1 hV.out.2.2) (fun k hk => ⟨Nat.lt_of_lt_of_le (hA k hk) hszw, fun e => by have e' : k = g := e; have := hA k hk; have := hg.out; omega⟩)
            obtain ⟨b3, o3, rfl, hA3, g0, g1, -, -⟩ := arg_at hargs j hjl
            have htj := Lib.hid (show args.take (j + 1) = args.take j ++ [args[j]] from List.take_succ_eq_append_getElem hjl)
            generalize args[j] = aq at *
            obtain ⟨ak, ab⟩ := aq
            simp only [] at g0 g1
            clear hargs hA3 hA hszw
            go_wp2_with fail
            have hBv := blk_new wr #[.int .i64 ak, .int .u64 ab.toNat] 264
            have hxv := ext_alloc wr (.cells #[.int .i64 ak, .int .u64 ab.toNat] 264)
            refine region_items extFrm [(0, .take), (1, .take), (2, .take), (3, .run), (4, .run), (5, .last), (6, .take), (7, .last)] (by kernel_rfl) (by kernel_rfl) ?_
            simp only [itemsOf, List.getD_cons_zero, List.getD_cons_succ]
            have HC := Lib.hid (fun W' (h : Ext (wr.alloc (.cells #[.int .i64 ak, .int .u64 ab.toNat] 264)).drew W') => And.intro ((hBv.ext (Ext.trans (ext_drew _) h)).cell) ((hV.out.1.ext (Ext.trans hxv (Ext.trans (ext_drew _) h))).cell))
            have hxv := Lib.hid (Ext.trans hxv (ext_drew _))
            clear hBv
            generalize (wr.alloc (.cells #[.int .i64 ak, .int .u64 ab.toNat] 264)).drew = W3 at *
            repeat (apply item_take; rfl; rfl; rfl; rfl; exact fun _ _ _ _ h => h; (intro W hE K hK; have q := HC.out W hE; go_simp; exact hK))
            apply item_run; rfl; intro K hK; go_simp
            obtain ⟨aT, av, hav⟩ := argVal_iface (ak, ab)
            have harg := arg_calls ak ab W3
            rw [hav] at harg
            have hav := Lib.hid (show [Value.iface aT av] = [argVal (ak, ab)] from by rw [hav])
            refine harg.mono ?_
            clear harg
            rintro e w4 ⟨rfl, hx4⟩
            refine hK _ _ hx4 ?_
            clear hK K
            have hx4 := Lib.hid (Ext.trans hxv.out hx4)
            apply item_run; rfl; intro K hK; go_simp
            refine hK _ _ (ext_alloc _ _) ?_
            clear hK K HC
            apply item_last; rfl; intro K hK
            refine own_append1_wp Lay.anyv W1.heap.size (.tmp 29) (.tmp 32) _ _ _ 16 rfl Tryz.underlying272 infoAny rfl (by omega) (by decide) (.slice va1 va2 va3) (args.take j) (ak, ab) _ rfl rfl (hV.out.2.1.ext hx4.out) hav.out (Nat.le_trans hV.out.2.2.size hx4.out.size) (by have := HB.out.2.2.2.2.1; rw [List.length_take]; omega) ?_
            intro v1 w5 h1 h2 h3
            refine hK _ _ ?_
            clear hK K
            have hne : ∀ k', k' = g → ¬ some k' = (Value.slice va1 va2 va3).ownBlock := fun k' e h => by have := (hV.out.2.1.lt k' h.symm).1; have := H1.out.2.1.lt; omega
            have hB5 := (hV.out.1.ext hx4.out).fr h2 (hne g rfl)
            have hc5 := hB5.cell
            have hf5 := hB5.frz
            have hO5 : Own Lay.anyv 20 W1.heap.size w5 v1 (args.take (j + 1)) := by rw [htj.out]; exact h1
            have hF5 : Fr (fun k => k = g) W1 w5 := Fr.trans (hV.out.2.2.ext hx4.out) h2 (fun _ _ h => h) (fun k hk e => absurd hk (by have := (hV.out.2.1.lt k e.symm).1; omega))
            obtain ⟨vb1, vb2, vb3, rfl⟩ := h1.shape
            have H5 := Lib.hid (And.intro hB5 (And.intro hO5 hF5))
            clear h1 h2 h3 hB5 hO5 hF5 hne
            repeat (apply item_take; rfl; rfl; rfl; rfl; exact fun _ _ _ _ h => h; (intro W hE K hK; go_simp; exact hK))
            apply item_last; rfl; intro K hK; go_simp
            refine hK _ _ ?_
            clear hK K hc5 hf5
            apply items_done
            have hV2 : Hid (Blk (w5.setCell ⟨g, 1, none⟩ (.slice vb1 vb2 vb3)) g #[.int .u8 (op % 256), .slice vb1 vb2 vb3] 274 ∧ Own Lay.anyv 20 W1.heap.size (w5.setCell ⟨g, 1, none⟩ (.slice vb1 vb2 vb3)) (.slice vb1 vb2 vb3) (args.take (j + 1)) ∧ Fr (fun k => k = g) W1 (w5.setCell ⟨g, 1, none⟩ (.slice vb1 vb2 vb3))) := by
              refine ⟨?_, Own.only Lay.flat_anyv H5.out.2.1 (fr_setCell _ _ _) (fun k' h e => by have := (H5.out.2.1.lt k' h).1; have e' : k' = g := e; have := H1.out.2.1.lt; omega), H5.out.2.2.setCell (.inl rfl) _⟩
              have := H5.out.1.set 1 (.slice vb1 vb2 vb3)
              simpa using this
            go_wp2
            go_roundw
            case rel => exact ⟨j + 1, _, by omega, by go_num, hV2⟩
            case measure => simp [intOf]; omega
          · obtain rfl : j = args.length := by omega
            have hq := Lib.hid (show Ext wo wr from Fr.new (Ext.fr H1.out.2.2.1 hV.out.2.2) (fun k e => by have e' : k = g := e; have := hg.out; omega))
            have hBi := Lib.hid (H1.out.1.fr hV.out.2.2 (fun e => by have e' : wo.heap.size = g := e; have := hg.out; omega))
            have hci := hBi.out.cell
            have hcg := hV.out.1.cell
            cases st with
            | false =>
              go_wp2_with (at_builtin; refine Hid.out ?_)
              have hWr := hq
              have hRD := Lib.hid (show (Lay.own (k + 1)).rd (fun k' => w.heap.size ≤ k' ∧ k' < wr.heap.size ∧ some k' ≠ u3.ownBlock) wr (#[Value.iface 274 (.agg #[.int .u8 (op % 256), .slice va1 va2 va3])] : Array Value).toList (.mk op args false ty body) from by
                have hu := hO.out.lt
                have hs1 := hX.out.size
                have hs2 := H1.out.2.2.1.size
                have hs3 := hV.out.2.2.size
                have ha := hV.out.2.1.slice
                rw [List.take_length] at ha
                exact Lay.own_mk_plain (Lay.mono _ ha (fun k' hk => ⟨by omega, by omega, fun e => by have := hu k' e.symm; omega⟩)))
              clear hci hcg
              refine own_append1n (Lay.own (k + 1)) w.heap.size wr.heap.size rfl rfl (.tmp 39) (.tmp 42) _ _ _ 16 rfl Tryz.underlying147 (infoIns (k + 1)) (by rw [Lay.own_size]; rfl) (by omega) (by rw [Lay.own_size]; decide) u3 (l.take i) (.mk op args false ty body) _ rfl rfl (hO.out.ext hWr.out) hRD.out (Nat.le_trans hX.out.size hWr.out.size) (by have := H.out.2.2.1; rw [List.length_take]; omega) ?_
              intro v1 w1 h1 h2 h3
              have hO1 : Hid (Own (Lay.own (k + 1)) 301 w.heap.size w1 v1 (l.take (i + 1))) := by show Own _ _ _ _ _ _; rw [htk.out]; exact h1
              have hX1 : Hid (Ext w w1) := Fr.new (Ext.fr (Ext.trans hX.out hWr.out) h2) (fun k' e => (hO.out.lt k' e.symm).1)
              clear h1 h2 h3 hWr hRD
              go_wp2
              go_roundw
              case rel => exact ⟨i + 1, by omega, by go_num, hO1, hX1⟩
              case measure => simp [intOf]; omega
            | true =>
              go_wp2_with fail
              refine region_plan extFrm (.fork [(0, .take), (1, .take), (2, .take)] 3 5 (.seq [(4, .take), (5, .run), (6, .last)]) (.seq [(3, .run), (4, .take), (6, .last)])) (by kernel_rfl) (by kernel_rfl) ?_
              simp only [wpPlan, itemsOf, List.getD_cons_zero, List.getD_cons_succ]
              have hxd := Lib.hid (ext_drew wr)
              have HC := Lib.hid (fun W' (h : Ext wr.drew W') => And.intro (hBi.out.ext (Ext.trans hxd.out h)).cell (hV.out.1.ext (Ext.trans hxd.out h)).cell)
              clear hci hcg
              generalize wr.drew = W2 at *
              repeat (apply item_take; rfl; rfl; rfl; rfl; exact fun _ _ _ _ h => h; (intro W hE K hK; have q := HC.out W hE; go_simp; exact hK))
              refine plan_fork rfl rfl ?_ ?_
              · intro K hK; go_simp
                refine (H.out.2.2.2.2 k (by omega) body a2 body.length c2 A W2 (Lay.fr HB.out.2.2.2.1 (Ext.trans hq.out hxd.out) (fun k hk => ⟨Nat.lt_of_lt_of_le (H.out.2.1 k hk) hX.out.size, fun h => h⟩)) (fun k hk => Nat.lt_of_lt_of_le (H.out.2.1 k hk) (Ext.trans hX.out (Ext.trans hq.out hxd.out)).size) HB.out.2.2.2.2.2.1 HB.out.2.2.2.2.2.2).mono ?_
                rintro e w3 ⟨v2, rfl, hOb, hx3⟩
                refine hK _ _ hx3 ?_
                clear hK K
                obtain ⟨ba, bn, bc, rfl⟩ := hOb.shape
                have HO3 := Lib.hid (And.intro hOb hx3)
                clear hOb hx3
                repeat (apply item_take; rfl; rfl; rfl; rfl; exact fun _ _ _ _ h => h; (intro W hE K hK; go_simp; exact hK))
                apply item_run; rfl; intro K hK; go_simp
                refine hK _ _ (ext_alloc _ _) ?_
                clear hK K
                apply item_last; rfl; intro K hK; go_simp
                refine hK _ _ ?_
                clear hK K
                apply items_done
                obtain ⟨W6, h, H6, hW6, hh⟩ : ∃ W6 h, Hid (Blk W6 h #[.int .u8 (op % 256), .slice va1 va2 va3, .pointer none, .slice ba bn bc] 278 ∧ Ext wr W6 ∧ (wo.heap.size < h ∧ wr.heap.size ≤ h) ∧ (Lay.own k).slice.rd (fun k' => wo.heap.size < k' ∧ k' < W6.heap.size ∧ k' ≠ h) W6 [.slice ba bn bc] body) ∧ (w3.alloc (.cells #[.int .u8 (op % 256), .slice va1 va2 va3, .pointer none, .slice ba bn bc] 278)) = W6 ∧ w3.heap.size = h := by
                  have hs1 := H1.out.1.lt
                  have hs2 := hV.out.2.2.size
                  have hs3 := hxd.out.size
                  have hs4 := HO3.out.2.size
                  refine ⟨_, _, ⟨blk_new _ _ _, Ext.trans hxd.out (Ext.trans HO3.out.2 (ext_alloc _ _)), ⟨by omega, by omega⟩, ?_⟩, rfl, rfl⟩
                  exact Lay.mono _ (Lay.fr HO3.out.1.slice (ext_alloc _ _) (fun k hk => ⟨hk.2, fun h => h⟩)) (fun k hk => ⟨by omega, by simp; omega, by omega⟩)
                rw [hW6, hh]
                clear HO3 hW6 hh HC w3
                have hch := H6.out.1.cell
                have hfh := fun o => (H6.out.1.ext (ext_alloc W6 o)).frz
                have hcha := fun o => (H6.out.1.ext (ext_alloc W6 o)).cell
                have hci := (hBi.out.ext H6.out.2.1).cell
                by_cases hty : 0 ≤ ty
                · have hty' : decide (0 ≤ ty) = true := decide_eq_true hty
                  go_wp2_with (at_builtin; refine Hid.out ?_)
                  have hK8 := blk_new W6 #[.int .i64 ty] 243
                  have hx7 := ext_alloc W6 (.cells #[.int .i64 ty] 243)
                  have hB8 := (H6.out.1.ext hx7).set 2 (.pointer (some ⟨W6.heap.size, 0, none⟩))
                  have hlh := H6.out.1.lt
                  have hf8 := fr_setCell (W6.alloc (.cells #[.int .i64 ty] 243)) ⟨h, 2, none⟩ (.pointer (some ⟨W6.heap.size, 0, none⟩))
                  have hx8 : Fr (fun k' => k' = h) W6 _ := Ext.fr hx7 hf8
                  have hK9 := hK8.fr hf8 (fun e => by have e' : W6.heap.size = h := e; omega)
                  have hsz8 := Lib.hid (show ((W6.alloc (.cells #[.int .i64 ty] 243)).setCell ⟨h, 2, none⟩ (.pointer (some ⟨W6.heap.size, 0, none⟩))).heap.size = W6.heap.size + 1 from by simp [World.setCell])
                  generalize ((W6.alloc (.cells #[.int .i64 ty] 243)).setCell ⟨h, 2, none⟩ (.pointer (some ⟨W6.heap.size, 0, none⟩))) = W8 at *
                  have hWr := Lib.hid (show Ext wo W8 from Ext.trans hq.out (Fr.new (Ext.fr H6.out.2.1 hx8) (fun k' e => by have e' : k' = h := e; have := H6.out.2.2.1.2; omega)))
                  have hRD := Lib.hid (show (Lay.own (k + 1)).rd (fun k' => w.heap.size ≤ k' ∧ k' < W8.heap.size ∧ some k' ≠ u3.ownBlock) W8 (#[Value.iface 278 (.agg #[.int .u8 (op % 256), .slice va1 va2 va3, .pointer (some ⟨W6.heap.size, 0, none⟩), .slice ba bn bc])] : Array Value).toList (.mk op args true ty body) from by
                    have hu := hO.out.lt
                    have hs1 := hX.out.size
                    have hs2 := H1.out.2.2.1.size
                    have hs3 := hV.out.2.2.size
                    have hs7 := H6.out.2.2.1
                    have hs4 := H6.out.2.1.size
                    have hs5 := hx8.size
                    have hs6 := hK9.lt
                    have ha := hV.out.2.1.slice
                    rw [List.take_length] at ha
                    refine Lay.own_mk_block (Lay.mono _ (Lay.fr ha (Ext.fr H6.out.2.1 hx8) (fun k' hk => ⟨hk.2, fun e => by have e' : k' = h := e; omega⟩)) (fun k' hk => ⟨by omega, by omega, fun e => by have := hu k' e.symm; omega⟩)) ?_ ?_
                    · unfold Lay.KindAt
                      rw [if_pos hty]
                      exact ⟨W6.heap.size, 0, _, _, _, rfl, ⟨by omega, by omega, fun e => by have := hu _ e.symm; omega⟩, hK9, rfl⟩
                    · exact Lay.mono _ (Lay.fr H6.out.2.2.2 hx8 (fun k' hk => ⟨hk.2.1, fun e => hk.2.2 e⟩)) (fun k' hk => ⟨by omega, by omega, fun e => by have := hu k' e.symm; omega⟩))
                  clear hK8 hx7 hB8 hlh hf8 hx8 hK9 hch hfh hci hcha
                  refine own_append1n (Lay.own (k + 1)) w.heap.size (W6.heap.size + 1) hsz8.out rfl (.tmp 55) (.tmp 58) _ _ _ 16 rfl Tryz.underlying147 (infoIns (k + 1)) (by rw [Lay.own_size]; rfl) (by omega) (by rw [Lay.own_size]; decide) u3 (l.take i) (.mk op args true ty body) _ rfl rfl (hO.out.ext hWr.out) hRD.out (Nat.le_trans hX.out.size hWr.out.size) (by have := H.out.2.2.1; rw [List.length_take]; omega) ?_
                  intro v1 w1 h1 h2 h3
                  have hO1 : Hid (Own (Lay.own (k + 1)) 301 w.heap.size w1 v1 (l.take (i + 1))) := by show Own _ _ _ _ _ _; rw [htk.out]; exact h1
                  have hX1 : Hid (Ext w w1) := Fr.new (Ext.fr (Ext.trans hX.out hWr.out) h2) (fun k' e => (hO.out.lt k' e.symm).1)
                  clear h1 h2 h3 hWr hRD
                  go_wp2
                  go_roundw
                  case rel => exact ⟨i + 1, by omega, by go_num, hO1, hX1⟩
                  case measure => simp [intOf]; omega
                · have hty' : decide (0 ≤ ty) = false := decide_eq_false hty
                  go_wp2_with (at_builtin; refine Hid.out ?_)
                  have hWr := Lib.hid (show Ext wo W6 from Ext.trans hq.out H6.out.2.1)
                  have hRD := Lib.hid (show (Lay.own (k + 1)).rd (fun k' => w.heap.size ≤ k' ∧ k' < W6.heap.size ∧ some k' ≠ u3.ownBlock) W6 (#[Value.iface 278 (.agg #[.int .u8 (op % 256), .slice va1 va2 va3, .pointer none, .slice ba bn bc])] : Array Value).toList (.mk op args true ty body) from by
                    have hu := hO.out.lt
                    have hs1 := hX.out.size
                    have hs2 := H1.out.2.2.1.size
                    have hs3 := hV.out.2.2.size
                    have hs7 := H6.out.2.2.1
                    have hs4 := H6.out.2.1.size
                    have ha := hV.out.2.1.slice
                    rw [List.take_length] at ha
                    refine Lay.own_mk_block (Lay.mono _ (Lay.fr ha H6.out.2.1 (fun k' hk => ⟨hk.2, fun h => h⟩)) (fun k' hk => ⟨by omega, by omega, fun e => by have := hu k' e.symm; omega⟩)) ?_ ?_
                    · unfold Lay.KindAt
                      rw [if_neg (by omega)]
                    · exact Lay.mono _ H6.out.2.2.2 (fun k' hk => ⟨by omega, by omega, fun e => by have := hu k' e.symm; omega⟩))
                  clear hch hfh hci hcha
                  refine own_append1n (Lay.own (k + 1)) w.heap.size W6.heap.size rfl rfl (.tmp 55) (.tmp 58) _ _ _ 16 rfl Tryz.underlying147 (infoIns (k + 1)) (by rw [Lay.own_size]; rfl) (by omega) (by rw [Lay.own_size]; decide) u3 (l.take i) (.mk op args true ty body) _ rfl rfl (hO.out.ext hWr.out) hRD.out (Nat.le_trans hX.out.size hWr.out.size) (by have := H.out.2.2.1; rw [List.length_take]; omega) ?_
                  intro v1 w1 h1 h2 h3
                  have hO1 : Hid (Own (Lay.own (k + 1)) 301 w.heap.size w1 v1 (l.take (i + 1))) := by show Own _ _ _ _ _ _; rw [htk.out]; exact h1
                  have hX1 : Hid (Ext w w1) := Fr.new (Ext.fr (Ext.trans hX.out hWr.out) h2) (fun k' e => (hO.out.lt k' e.symm).1)
                  clear h1 h2 h3 hWr hRD
                  go_wp2
                  go_roundw
                  case rel => exact ⟨i + 1, by omega, by go_num, hO1, hX1⟩
                  case measure => simp [intOf]; omega
              · intro K hK; go_simp
                refine hK _ _ (ext_alloc _ _) ?_
                clear hK K
                apply item_run; rfl; intro K hK; go_simp
                have hx2 := Ext.trans (Ext.trans hq.out hxd.out) (ext_alloc W2 (.cells #[.int .u8 0, .slice none 0 0, .pointer none, .slice none 0 0] 278))
                refine (H.out.2.2.2.2 k (by omega) body a2 body.length c2 A _ (Lay.fr HB.out.2.2.2.1 hx2 (fun k hk => ⟨Nat.lt_of_lt_of_le (H.out.2.1 k hk) hX.out.size, fun h => h⟩)) (fun k hk => Nat.lt_of_lt_of_le (H.out.2.1 k hk) (Ext.trans hX.out hx2).size) HB.out.2.2.2.2.2.1 HB.out.2.2.2.2.2.2).mono ?_
                rintro e w3 ⟨v2, rfl, hOb, hx3⟩
                refine hK _ _ hx3 ?_
                clear hK K
                obtain ⟨ba, bn, bc, rfl⟩ := hOb.shape
                have HO3 := Lib.hid (And.intro hOb hx3)
                have hG := (blk_new W2 #[.int .u8 0, .slice none 0 0, .pointer none, .slice none 0 0] 278).ext hx3
                have HG := Lib.hid hG
                have hcG := hG.cell
                have hfG := hG.frz
                clear hOb hx3 hx2 hG
                repeat (apply item_take; rfl; rfl; rfl; rfl; exact fun _ _ _ _ h => h; (intro W hE K hK; go_simp; exact hK))
                apply item_last; rfl; intro K hK; go_simp
                refine hK _ _ ?_
                clear hK K
                apply items_done
                obtain ⟨W6, h, H6, hW6, hh⟩ : ∃ W6 h, Hid (Blk W6 h #[.int .u8 (op % 256), .slice va1 va2 va3, .pointer none, .slice ba bn bc] 278 ∧ Ext wr W6 ∧ (wo.heap.size < h ∧ wr.heap.size ≤ h) ∧ (Lay.own k).slice.rd (fun k' => wo.heap.size < k' ∧ k' < W6.heap.size ∧ k' ≠ h) W6 [.slice ba bn bc] body) ∧ ((((w3.setCell ⟨W2.heap.size, 0, none⟩ (.int .u8 (op % 256))).setCell ⟨W2.heap.size, 1, none⟩ (.slice va1 va2 va3)).setCell ⟨W2.heap.size, 2, none⟩ (.pointer none)).setCell ⟨W2.heap.size, 3, none⟩ (.slice ba bn bc)) = W6 ∧ W2.heap.size = h := by
                  have hfs := Fr.setCell (Fr.setCell (Fr.setCell (Fr.setCell (Fr.refl (fun k => k = W2.heap.size) w3) (p := ⟨W2.heap.size, 0, none⟩) (.inl rfl) (.int .u8 (op % 256))) (p := ⟨W2.heap.size, 1, none⟩) (.inl rfl) (.slice va1 va2 va3)) (p := ⟨W2.heap.size, 2, none⟩) (.inl rfl) (.pointer none)) (p := ⟨W2.heap.size, 3, none⟩) (.inl rfl) (.slice ba bn bc)
                  have hx4 := Ext.fr (Ext.trans (ext_alloc _ _) HO3.out.2) hfs
                  have hs1 := H1.out.1.lt
                  have hs2 := hV.out.2.2.size
                  have hs3 := hxd.out.size
                  refine ⟨_, _, ⟨?_, Ext.trans hxd.out (hx4.mono (fun k hk e => absurd hk (by omega))), ⟨by omega, hs3⟩, ?_⟩, rfl, rfl⟩
                  · have := (((HG.out.set 0 (.int .u8 (op % 256))).set 1 (.slice va1 va2 va3)).set 2 (.pointer none)).set 3 (.slice ba bn bc)
                    simpa using this
                  · have hs := HO3.out.1.slice
                    exact Lay.mono _ (Lay.fr hs hfs (fun k hk => ⟨hk.2, fun e => by have := hk.1; simp at this; omega⟩)) (fun k hk => ⟨by have := hk.1; simp at this; omega, Nat.lt_of_lt_of_le hk.2 hfs.size, by have := hk.1; simp at this; omega⟩)
                rw [hW6, hh]
                clear HO3 hW6 hh hcG hfG HG HC w3
                have hch := H6.out.1.cell
                have hfh := fun o => (H6.out.1.ext (ext_alloc W6 o)).frz
                have hcha := fun o => (H6.out.1.ext (ext_alloc W6 o)).cell
                have hci := (hBi.out.ext H6.out.2.1).cell
                by_cases hty : 0 ≤ ty
                · have hty' : decide (0 ≤ ty) = true := decide_eq_true hty
                  go_wp2_with (at_builtin; refine Hid.out ?_)
                  have hK8 := blk_new W6 #[.int .i64 ty] 243
                  have hx7 := ext_alloc W6 (.cells #[.int .i64 ty] 243)
                  have hB8 := (H6.out.1.ext hx7).set 2 (.pointer (some ⟨W6.heap.size, 0, none⟩))
                  have hlh := H6.out.1.lt
                  have hf8 := fr_setCell (W6.alloc (.cells #[.int .i64 ty] 243)) ⟨h, 2, none⟩ (.pointer (some ⟨W6.heap.size, 0, none⟩))
                  have hx8 : Fr (fun k' => k' = h) W6 _ := Ext.fr hx7 hf8
                  have hK9 := hK8.fr hf8 (fun e => by have e' : W6.heap.size = h := e; omega)
                  have hsz8 := Lib.hid (show ((W6.alloc (.cells #[.int .i64 ty] 243)).setCell ⟨h, 2, none⟩ (.pointer (some ⟨W6.heap.size, 0, none⟩))).heap.size = W6.heap.size + 1 from by simp [World.setCell])
                  generalize ((W6.alloc (.cells #[.int .i64 ty] 243)).setCell ⟨h, 2, none⟩ (.pointer (some ⟨W6.heap.size, 0, none⟩))) = W8 at *
                  have hWr := Lib.hid (show Ext wo W8 from Ext.trans hq.out (Fr.new (Ext.fr H6.out.2.1 hx8) (fun k' e => by have e' : k' = h := e; have := H6.out.2.2.1.2; omega)))
                  have hRD := Lib.hid (show (Lay.own (k + 1)).rd (fun k' => w.heap.size ≤ k' ∧ k' < W8.heap.size ∧ some k' ≠ u3.ownBlock) W8 (#[Value.iface 278 (.agg #[.int .u8 (op % 256), .slice va1 va2 va3, .pointer (some ⟨W6.heap.size, 0, none⟩), .slice ba bn bc])] : Array Value).toList (.mk op args true ty body) from by
                    have hu := hO.out.lt
                    have hs1 := hX.out.size
                    have hs2 := H1.out.2.2.1.size
                    have hs3 := hV.out.2.2.size
                    have hs7 := H6.out.2.2.1
                    have hs4 := H6.out.2.1.size
                    have hs5 := hx8.size
                    have hs6 := hK9.lt
                    have ha := hV.out.2.1.slice
                    rw [List.take_length] at ha
                    refine Lay.own_mk_block (Lay.mono _ (Lay.fr ha (Ext.fr H6.out.2.1 hx8) (fun k' hk => ⟨hk.2, fun e => by have e' : k' = h := e; omega⟩)) (fun k' hk => ⟨by omega, by omega, fun e => by have := hu k' e.symm; omega⟩)) ?_ ?_
                    · unfold Lay.KindAt
                      rw [if_pos hty]
                      exact ⟨W6.heap.size, 0, _, _, _, rfl, ⟨by omega, by omega, fun e => by have := hu _ e.symm; omega⟩, hK9, rfl⟩
                    · exact Lay.mono _ (Lay.fr H6.out.2.2.2 hx8 (fun k' hk => ⟨hk.2.1, fun e => hk.2.2 e⟩)) (fun k' hk => ⟨by omega, by omega, fun e => by have := hu k' e.symm; omega⟩))
                  clear hK8 hx7 hB8 hlh hf8 hx8 hK9 hch hfh hci hcha
                  refine own_append1n (Lay.own (k + 1)) w.heap.size (W6.heap.size + 1) hsz8.out rfl (.tmp 55) (.tmp 58) _ _ _ 16 rfl Tryz.underlying147 (infoIns (k + 1)) (by rw [Lay.own_size]; rfl) (by omega) (by rw [Lay.own_size]; decide) u3 (l.take i) (.mk op args true ty body) _ rfl rfl (hO.out.ext hWr.out) hRD.out (Nat.le_trans hX.out.size hWr.out.size) (by have := H.out.2.2.1; rw [List.length_take]; omega) ?_
                  intro v1 w1 h1 h2 h3
                  have hO1 : Hid (Own (Lay.own (k + 1)) 301 w.heap.size w1 v1 (l.take (i + 1))) := by show Own _ _ _ _ _ _; rw [htk.out]; exact h1
                  have hX1 : Hid (Ext w w1) := Fr.new (Ext.fr (Ext.trans hX.out hWr.out) h2) (fun k' e => (hO.out.lt k' e.symm).1)
                  clear h1 h2 h3 hWr hRD
                  go_wp2
                  go_roundw
                  case rel => exact ⟨i + 1, by omega, by go_num, hO1, hX1⟩
                  case measure => simp [intOf]; omega
                · have hty' : decide (0 ≤ ty) = false := decide_eq_false hty
                  go_wp2_with (at_builtin; refine Hid.out ?_)
                  have hWr := Lib.hid (show Ext wo W6 from Ext.trans hq.out H6.out.2.1)
                  have hRD := Lib.hid (show (Lay.own (k + 1)).rd (fun k' => w.heap.size ≤ k' ∧ k' < W6.heap.size ∧ some k' ≠ u3.ownBlock) W6 (#[Value.iface 278 (.agg #[.int .u8 (op % 256), .slice va1 va2 va3, .pointer none, .slice ba bn bc])] : Array Value).toList (.mk op args true ty body) from by
                    have hu := hO.out.lt
                    have hs1 := hX.out.size
                    have hs2 := H1.out.2.2.1.size
                    have hs3 := hV.out.2.2.size
                    have hs7 := H6.out.2.2.1
                    have hs4 := H6.out.2.1.size
                    have ha := hV.out.2.1.slice
                    rw [List.take_length] at ha
                    refine Lay.own_mk_block (Lay.mono _ (Lay.fr ha H6.out.2.1 (fun k' hk => ⟨hk.2, fun h => h⟩)) (fun k' hk => ⟨by omega, by omega, fun e => by have := hu k' e.symm; omega⟩)) ?_ ?_
                    · unfold Lay.KindAt
                      rw [if_neg (by omega)]
                    · exact Lay.mono _ H6.out.2.2.2 (fun k' hk => ⟨by omega, by omega, fun e => by have := hu k' e.symm; omega⟩))
                  clear hch hfh hci hcha
                  refine own_append1n (Lay.own (k + 1)) w.heap.size W6.heap.size rfl rfl (.tmp 55) (.tmp 58) _ _ _ 16 rfl Tryz.underlying147 (infoIns (k + 1)) (by rw [Lay.own_size]; rfl) (by omega) (by rw [Lay.own_size]; decide) u3 (l.take i) (.mk op args true ty body) _ rfl rfl (hO.out.ext hWr.out) hRD.out (Nat.le_trans hX.out.size hWr.out.size) (by have := H.out.2.2.1; rw [List.length_take]; omega) ?_
                  intro v1 w1 h1 h2 h3
                  have hO1 : Hid (Own (Lay.own (k + 1)) 301 w.heap.size w1 v1 (l.take (i + 1))) := by show Own _ _ _ _ _ _; rw [htk.out]; exact h1
                  have hX1 : Hid (Ext w w1) := Fr.new (Ext.fr (Ext.trans hX.out hWr.out) h2) (fun k' e => (hO.out.lt k' e.symm).1)
                  clear h1 h2 h3 hWr hRD
                  go_wp2
                  go_roundw
                  case rel => exact ⟨i + 1, by omega, by go_num, hO1, hX1⟩
                  case measure => simp [intOf]; omega
      · obtain rfl : i = l.length := by omega
        go_wp2
        go_ret
        have := hO.out
        rw [List.take_length] at this
        exact ⟨_, rfl, this, hX.out⟩
end Go.Proofs.YtkbadfljmbeciaaGreatDoor
