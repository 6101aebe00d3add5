/- Texts of this proof, one behind the other. -/
import Derived.Test.YtbdahjpdjamgiaaGreatDoorPart3
import Derived.Test.YtbdahjpdjamgiaaGreatDoorPart4
import Derived.Test.YtbdahjpdjamgiaaGreatDoorProg
import Derived.KernelRfl
import Derived.Deep.QuietTactic
import Derived.BigQuiet
import Derived.Test.YtbdahjpdjamgiaaGreatDoorPart14
/- What fits. No program here. -/
namespace Go.Proofs.YtbdahjpdjamgiaaGreatDoor
mutual
/-- What fits: no list is longer than 2^20. -/
def fit1 : Ins → Prop
  | .mk _ args _ _ body => args.length ≤ 1048576 ∧ body.length ≤ 1048576 ∧ fitA body
def fitA : List Ins → Prop
  | [] => True
  | x :: xs => fit1 x ∧ fitA xs
end
theorem fitA_at : ∀ {l : List Ins}, fitA l → ∀ (i : Nat) (h : i < l.length), fit1 l[i]
  | _ :: _, h, 0, _ => h.1
  | _ :: _, h, i + 1, hi => fitA_at h.2 i (by simpa using hi)
end Go.Proofs.YtbdahjpdjamgiaaGreatDoor
/- laws.plainInstrs, givenCode. -/
namespace Go.Proofs.YtbdahjpdjamgiaaGreatDoor
open Go.RowKit
theorem infoArgL : (Tryz.prog.info? 142).map (fun i => (i.zero, i.size, i.bytes)) = some (some (.agg #[.int .i64 0, .int .u64 0]), Lay.arg.size, 16) := by kernel_rfl
theorem infoInstrL (n : Nat) : (Tryz.prog.info? 138).map (fun i => (i.zero, i.size, i.bytes)) = some (some (.agg #[.int .i64 0, .slice none 0 0, .bool false, .int .i64 0, .slice none 0 0]), (Lay.ins n).size, 72) := by rw [Lay.ins_size]; kernel_rfl
theorem ins_mkL {n : Nat} {A : Nat → Prop} {w : World} {op ty : Int} {args : List (Int × UInt64)} {st : Bool} {body : List Ins} {v1 v2 : Value} (h1 : -9223372036854775808 ≤ op ∧ op ≤ 9223372036854775807) (h2 : -9223372036854775808 ≤ ty ∧ ty ≤ 9223372036854775807)
    (ha : Lay.arg.slice.rd A w [v1] args) (hb : (Lay.ins n).slice.rd A w [v2] body) : (Lay.ins (n + 1)).rd A w [.int .i64 op, v1, .bool st, .int .i64 ty, v2] (.mk op args st ty body) :=
  ⟨[_], _, rfl, ⟨rfl, h1⟩, [_], _, rfl, ha, [_], _, rfl, rfl, [_], _, rfl, ⟨rfl, h2⟩, hb⟩
theorem flat_argL' : Lay.arg.flat := Lay.flat_arg
set_option maxRecDepth 100000 in
set_option maxHeartbeats 4000000 in
theorem lawsPlainInstrs_calls (n : Nat) : ∀ (l : List Ins) (aa : Option Addr) (m c : Nat) (A : Nat → Prop) (w : World), (Lay.ins n).slice.rd A w [.slice aa m c] l → (∀ k, A k → k < w.heap.size) → l.length ≤ 1048576 → fitA l →
    Calls Tryz.prog 32 #[.slice aa m c] w fun e w' => ∃ v, e = .returned v ∧ Own (Lay.ins n) 138 w.heap.size w' v l ∧ Ext w w' := by
  induction n using Nat.strongRecOn with
  | ind n ih =>
    intro l aa m c A w hR hA hll hfa
    obtain ⟨a', c', e, hlc, hcm⟩ := Lay.slice_form hR
    obtain ⟨rfl, rfl, rfl⟩ : aa = a' ∧ m = l.length ∧ c = c' := by simpa using e
    have hlen : (l.length : Int) ≤ 9223372036854775807 := by simp only [maxLen] at hcm; omega
    have H := Lib.hid (And.intro hR (And.intro hA (And.intro hll (And.intro hfa ih))))
    clear hR hA ih hll hfa hlc hcm e
    go_enter Tryz.func32, Tryz.ntmps32
    go_wp2_with fail
    go_loopw [3, 11] (fun s3 s11 w' => ∃ (i : Nat), i ≤ l.length ∧ s11 = .int .i64 i ∧ Hid (Own (Lay.ins n) 138 w.heap.size w' s3 (l.take i)) ∧ Hid (Ext w w')) (fun _ s11 _ => l.length - (intOf s11).toNat)
    case atStart => exact ⟨0, Nat.zero_le _, rfl, own_nil _ _ _ _, Fr.refl _ _⟩
    case round =>
      obtain ⟨i, hi, rfl, hO, hX⟩ := hrel
      by_cases hlt : i < l.length
      · obtain ⟨hR, hA, hll, hfa, ih⟩ := H.out
        have hRr := Lay.fr hR hX.out (fun k hk => ⟨hA k hk, fun h => h⟩)
        obtain ⟨k, b, o, a1, n1, c1, a2, n2, c2, rfl, rfl, hAb, e0, e1, e2, e3, e4, hopb, htyb, hargs, hbody⟩ := Lay.ins_at hRr i hlt
        have htk := Lib.hid (show l.take (i + 1) = l.take i ++ [l[i]] from List.take_succ_eq_append_getElem hlt)
        have hf := fitA_at hfa i hlt
        generalize l[i] = x at *
        obtain ⟨op, args, st, ty, body⟩ := x
        simp only [Ins.op, Ins.args, Ins.st, Ins.ty, Ins.body] at e0 e1 e2 e3 e4 hopb htyb hargs hbody
        obtain ⟨a1', c1', e1', hlc1, hcm1⟩ := Lay.slice_form hargs
        obtain ⟨rfl, rfl, rfl⟩ : a1 = a1' ∧ n1 = args.length ∧ c1 = c1' := by simpa using e1'
        obtain ⟨a2', c2', e2', hlc2, hcm2⟩ := Lay.slice_form hbody
        obtain ⟨rfl, rfl, rfl⟩ : a2 = a2' ∧ n2 = body.length ∧ c2 = c2' := by simpa using e2'
        have hal : (args.length : Int) ≤ 9223372036854775807 := by simp only [maxLen] at hcm1; omega
        have HB := Lib.hid (And.intro hopb (And.intro htyb (And.intro hargs (And.intro hbody hf))))
        clear hR hA hll hfa ih hRr hargs hbody hAb e1' e2' hlc1 hcm1 hlc2 hcm2 hopb htyb hf
        go_wp2_with fail
        refine region_plan extFrm (.fork [(0, .take), (1, .take), (2, .take), (3, .take), (4, .take), (5, .take), (6, .take), (7, .take)] 8 10 (.seq [(9, .take), (10, .run), (11, .last)]) (.seq [(8, .run), (9, .take), (11, .last)])) (by kernel_rfl) (by kernel_rfl) ?_
        simp only [wpPlan, itemsOf, List.getD_cons_zero, List.getD_cons_succ]
        have hB1 := blk_new wr #[.int .i64 op, .slice a1 args.length c1, .bool st, .int .i64 ty, .slice a2 body.length c2] 250
        have hx1 := ext_alloc wr (.cells #[.int .i64 op, .slice a1 args.length c1, .bool st, .int .i64 ty, .slice a2 body.length c2] 250)
        generalize (wr.alloc (.cells #[.int .i64 op, .slice a1 args.length c1, .bool st, .int .i64 ty, .slice a2 body.length c2] 250)) = W1 at *
        have hxd := ext_drew W1
        have hB2 := hB1.ext hxd
        have hx2 := Ext.trans hx1 hxd
        generalize W1.drew = W2 at *
        have HC := Lib.hid (fun W' (h : Ext W2 W') => (hB2.ext h).cell)
        have H2 := Lib.hid (And.intro hB2 hx2)
        clear hB1 hx1 hxd hB2 hx2
        repeat (apply item_take; rfl; rfl; rfl; rfl; exact fun _ _ _ _ h => h; (intro W hE K hK; have q := HC.out W hE; go_simp; exact hK))
        refine plan_fork rfl rfl ?_ ?_
        · intro K hK; go_simp
          obtain ⟨hopb, htyb, hargs, hbody, hf⟩ := HB.out
          obtain ⟨hR, hA, hll, hfa, ih⟩ := H.out
          refine (ih k (by omega) body a2 body.length c2 A W2 (Lay.fr hbody H2.out.2 (fun k hk => ⟨Nat.lt_of_lt_of_le (hA k hk) hX.out.size, fun h => h⟩)) (fun k hk => Nat.lt_of_lt_of_le (hA k hk) (Ext.trans hX.out H2.out.2).size) hf.2.1 hf.2.2).mono ?_
          rintro e w3 ⟨v2, rfl, hOb, hx3⟩
          refine hK _ _ hx3 ?_
          clear hK K
          obtain ⟨ba, bn, bc, rfl⟩ := hOb.shape
          have HO3 := Lib.hid (And.intro hOb hx3)
          clear hopb htyb hargs hbody hf hR hA hll hfa ih hOb hx3
          repeat (apply item_take; rfl; rfl; rfl; rfl; exact fun _ _ _ _ h => h; (intro W hE K hK; go_simp; exact hK))
          apply item_run; rfl; intro K hK; go_simp
          refine hK _ _ (ext_alloc _ _) ?_
          clear hK K
          apply item_last; rfl; intro K hK; go_simp
          refine hK _ _ ?_
          clear hK K
          apply items_done
          obtain ⟨W4, g, H4, hW4, hg⟩ : ∃ W4 g, Hid (Blk W4 g #[.int .i64 op, .slice none 0 0, .bool st, .int .i64 ty, .slice ba bn bc] 138 ∧ Ext W2 W4 ∧ (wr.heap.size < g ∧ W2.heap.size ≤ g) ∧ (Lay.ins k).slice.rd (fun k' => wr.heap.size < k' ∧ k' < W4.heap.size ∧ k' ≠ g) W4 [.slice ba bn bc] body) ∧ (w3.alloc (.cells #[.int .i64 op, .slice none 0 0, .bool st, .int .i64 ty, .slice ba bn bc] 138)) = W4 ∧ w3.heap.size = g := by
            refine ⟨_, _, ⟨blk_new _ _ _, Ext.trans HO3.out.2 (ext_alloc _ _), ?_, ?_⟩, rfl, rfl⟩
            · have := H2.out.1.lt; have := HO3.out.2.size; exact ⟨by omega, this⟩
            · refine Lay.mono _ (Lay.fr HO3.out.1.slice (ext_alloc _ _) (fun k hk => ⟨hk.2, fun h => h⟩)) (fun k hk => ⟨by have := H2.out.1.lt; omega, by simp; omega, by omega⟩)
          rw [hW4, hg]
          clear HO3 hW4 hg w3
          have hcv := (H2.out.1.ext H4.out.2.1).cell
          have hcg := H4.out.1.cell
          go_wp2_with fail
          clear hcv hcg
          obtain ⟨wo, rfl⟩ : ∃ wo : World, wo = wr := ⟨_, rfl⟩
          go_loopw [28] (fun s28 w' => ∃ (j : Nat) (va : Value), j ≤ args.length ∧ s28 = .int .i64 j ∧ Hid (Blk w' g #[.int .i64 op, va, .bool st, .int .i64 ty, .slice ba bn bc] 138 ∧ Own Lay.arg 142 W4.heap.size w' va (args.take j) ∧ Fr (fun k => k = g) W4 w')) (fun s28 _ => args.length - (intOf s28).toNat)
          case atStart => exact ⟨0, _, Nat.zero_le _, rfl, H4.out.1, own_nil _ _ _ _, Fr.refl _ _⟩
          case round =>
            obtain ⟨j, va, hj, rfl, hV⟩ := hrel
            have hgs := H4.out.1.lt
            by_cases hjl : j < args.length
            · have hA := H.out.2.1
              have hszw := hX.out.size
              have hargs := Lay.fr HB.out.2.2.1 (Ext.fr (Ext.trans H2.out.2 H4.out.2.1) hV.out.2.2) (fun k hk => ⟨Nat.lt_of_lt_of_le (hA k hk) hszw, fun e => by have := hA k hk; have := H4.out.2.2.1.1; omega⟩)
              obtain ⟨b3, o3, rfl, hA3, g0, g1, gb0, gb1⟩ := arg_at hargs j hjl
              have hab := Lib.hid (And.intro gb0 gb1)
              have htj := Lib.hid (show args.take (j + 1) = args.take j ++ [args[j]] from List.take_succ_eq_append_getElem hjl)
              generalize args[j] = aq at *
              obtain ⟨ak, ab⟩ := aq
              simp only [] at g0 g1
              have hcg := hV.out.1.cell
              have hfg := hV.out.1.frz
              have hgw := hV.out.1.lt
              obtain ⟨va1, va2, va3, rfl⟩ := hV.out.2.1.shape
              clear hargs hA3 hA hszw gb0 gb1
              go_wp2_with (at_builtin; refine Hid.out ?_)
              have hxv := ext_alloc wr (.cells #[.int .i64 ak, .int .u64 ab.toNat] 251)
              refine own_append1n Lay.arg W4.heap.size (wr.heap.size + 1) (by simp) rfl (.tmp 33) (.tmp 39) _ _ _ 16 rfl Tryz.underlying136 infoArgL rfl (by omega) (by decide) (.slice va1 va2 va3) (args.take j) (ak, ab) _ rfl rfl (hV.out.2.1.ext hxv) ⟨[_], [_], rfl, ⟨rfl, hab.out⟩, rfl⟩ (Nat.le_trans hV.out.2.2.size hxv.size) (by have := HB.out.2.2.2.2.1; rw [List.length_take]; omega) ?_
              intro v1 w1 h1 h2 h3
              have hne : ∀ k', k' = g → ¬ some k' = (Value.slice va1 va2 va3).ownBlock := fun k' e h => by have := (hV.out.2.1.lt k' h.symm).1; omega
              have hB5 := (hV.out.1.ext hxv).fr h2 (hne g rfl)
              have hc5 := hB5.cell
              have hf5 := hB5.frz
              have hO5 : Own Lay.arg 142 W4.heap.size w1 v1 (args.take (j + 1)) := by rw [htj.out]; exact h1
              have hF5 : Fr (fun k => k = g) W4 w1 := Fr.trans (hV.out.2.2.ext hxv) h2 (fun _ _ h => h) (fun k hk e => absurd hk (by have := (hV.out.2.1.lt k e.symm).1; omega))
              obtain ⟨vb1, vb2, vb3, rfl⟩ := h1.shape
              have H5 := Lib.hid (And.intro hB5 (And.intro hO5 hF5))
              clear h1 h2 h3 hB5 hO5 hF5 hcg hfg hxv hne
              go_wp2_with fail
              have hV2 : Hid (Blk (w1.setCell ⟨g, 1, none⟩ (.slice vb1 vb2 vb3)) g #[.int .i64 op, .slice vb1 vb2 vb3, .bool st, .int .i64 ty, .slice ba bn bc] 138 ∧ Own Lay.arg 142 W4.heap.size (w1.setCell ⟨g, 1, none⟩ (.slice vb1 vb2 vb3)) (.slice vb1 vb2 vb3) (args.take (j + 1)) ∧ Fr (fun k => k = g) W4 (w1.setCell ⟨g, 1, none⟩ (.slice vb1 vb2 vb3))) := by
                refine ⟨?_, Own.only flat_argL' H5.out.2.1 (fr_setCell _ _ _) (fun k' h e => by have := (H5.out.2.1.lt k' h).1; have e' : k' = g := e; omega), H5.out.2.2.setCell (.inl rfl) _⟩
                have := H5.out.1.set 1 (.slice vb1 vb2 vb3)
                simpa using this
              clear hc5 hf5
              go_roundw
              case rel => exact ⟨j + 1, _, by omega, by go_num, hV2⟩
              case measure => simp [intOf]; omega
            · obtain rfl : j = args.length := by omega
              have hcg := hV.out.1.cell
              obtain ⟨va1, va2, va3, rfl⟩ := hV.out.2.1.shape
              go_wp2_with (at_builtin; refine Hid.out ?_)
              have hWr : Ext wo wr := Ext.trans H2.out.2 (Fr.new (Ext.fr H4.out.2.1 hV.out.2.2) (fun k e => by have := H4.out.2.2.1.2; have e' : k = g := e; omega))
              refine own_append1n (Lay.ins (k + 1)) w.heap.size wr.heap.size rfl rfl (.tmp 43) (.tmp 45) _ _ _ 72 rfl Tryz.underlying38 (infoInstrL (k + 1)) (by rw [Lay.ins_size]; rfl) (by omega) (by rw [Lay.ins_size]; decide) u3 (l.take i) (.mk op args st ty body) _ rfl rfl (hO.out.ext hWr) ?_ (Nat.le_trans hX.out.size hWr.size) (by have := H.out.2.2.1; rw [List.length_take]; omega) ?_
              · have hu := hO.out.lt
                have hsz := hX.out.size
                have hsz2 := hWr.size
                have hsz3 := H4.out.2.1.size
                have hsz4 := H2.out.1.lt
                have ha := hV.out.2.1.slice
                rw [List.take_length] at ha
                refine ins_mkL HB.out.1 HB.out.2.1 (Lay.mono _ ha (fun k' hk => ⟨by omega, hk.2, fun e => by have := hu k' e.symm; omega⟩)) (Lay.mono _ (Lay.fr H4.out.2.2.2 hV.out.2.2 (fun k' hk => ⟨hk.2.1, fun e => hk.2.2 e⟩)) (fun k' hk => ⟨by omega, Nat.lt_of_lt_of_le hk.2.1 hV.out.2.2.size, fun e => by have := hu k' e.symm; omega⟩))
              intro v1 w1 h1 h2 h3
              have hO1 : Hid (Own (Lay.ins (k + 1)) 138 w.heap.size w1 v1 (l.take (i + 1))) := by show Own _ _ _ _ _ _; rw [htk.out]; exact h1
              have hX1 : Hid (Ext w w1) := Fr.new (Ext.fr (Ext.trans hX.out hWr) h2) (fun k' e => (hO.out.lt k' e.symm).1)
              clear h1 h2 h3 hcg hWr
              go_wp2
              go_roundw
              case rel => exact ⟨i + 1, by omega, by go_num, hO1, hX1⟩
              case measure => simp [intOf]; omega
        · intro K hK; go_simp
          refine hK _ _ (ext_alloc _ _) ?_
          clear hK K
          apply item_run; rfl; intro K hK; go_simp
          obtain ⟨hopb, htyb, hargs, hbody, hf⟩ := HB.out
          obtain ⟨hR, hA, hll, hfa, ih⟩ := H.out
          have hx2 := Ext.trans H2.out.2 (ext_alloc W2 (.cells #[.int .i64 0, .slice none 0 0, .bool false, .int .i64 0, .slice none 0 0] 138))
          refine (ih k (by omega) body a2 body.length c2 A _ (Lay.fr hbody hx2 (fun k hk => ⟨Nat.lt_of_lt_of_le (hA k hk) hX.out.size, fun h => h⟩)) (fun k hk => Nat.lt_of_lt_of_le (hA k hk) (Ext.trans hX.out hx2).size) hf.2.1 hf.2.2).mono ?_
          rintro e w3 ⟨v2, rfl, hOb, hx3⟩
          refine hK _ _ hx3 ?_
          clear hK K
          obtain ⟨ba, bn, bc, rfl⟩ := hOb.shape
          have HO3 := Lib.hid (And.intro hOb hx3)
          have hG := (blk_new W2 #[.int .i64 0, .slice none 0 0, .bool false, .int .i64 0, .slice none 0 0] 138).ext hx3
          have HG := Lib.hid hG
          have hcG := hG.cell
          have hfG := hG.frz
          clear hopb htyb hargs hbody hf hR hA hll hfa ih hOb hx3 hx2 hG
          repeat (apply item_take; rfl; rfl; rfl; rfl; exact fun _ _ _ _ h => h; (intro W hE K hK; go_simp; exact hK))
          apply item_last; rfl; intro K hK; go_simp
          refine hK _ _ ?_
          clear hK K
          apply items_done
          obtain ⟨W4, g, H4, hW4, hg⟩ : ∃ W4 g, Hid (Blk W4 g #[.int .i64 op, .slice none 0 0, .bool st, .int .i64 ty, .slice ba bn bc] 138 ∧ Ext W2 W4 ∧ (wr.heap.size < g ∧ W2.heap.size ≤ g) ∧ (Lay.ins k).slice.rd (fun k' => wr.heap.size < k' ∧ k' < W4.heap.size ∧ k' ≠ g) W4 [.slice ba bn bc] body) ∧ (((((w3.setCell ⟨W2.heap.size, 0, none⟩ (.int .i64 op)).setCell ⟨W2.heap.size, 1, none⟩ (.slice none 0 0)).setCell ⟨W2.heap.size, 2, none⟩ (.bool st)).setCell ⟨W2.heap.size, 3, none⟩ (.int .i64 ty)).setCell ⟨W2.heap.size, 4, none⟩ (.slice ba bn bc)) = W4 ∧ W2.heap.size = g := by
            have hfs := Fr.setCell (Fr.setCell (Fr.setCell (Fr.setCell (Fr.setCell (Fr.refl (fun k => k = W2.heap.size) w3) (p := ⟨W2.heap.size, 0, none⟩) (.inl rfl) (.int .i64 op)) (p := ⟨W2.heap.size, 1, none⟩) (.inl rfl) (.slice none 0 0)) (p := ⟨W2.heap.size, 2, none⟩) (.inl rfl) (.bool st)) (p := ⟨W2.heap.size, 3, none⟩) (.inl rfl) (.int .i64 ty)) (p := ⟨W2.heap.size, 4, none⟩) (.inl rfl) (.slice ba bn bc)
            have hx4 := Ext.fr (Ext.trans (ext_alloc _ _) HO3.out.2) hfs
            refine ⟨_, _, ⟨?_, hx4.mono (fun k hk e => absurd hk (by omega)), ⟨H2.out.1.lt, Nat.le_refl _⟩, ?_⟩, rfl, rfl⟩
            · have := ((((HG.out.set 0 (.int .i64 op)).set 1 (.slice none 0 0)).set 2 (.bool st)).set 3 (.int .i64 ty)).set 4 (.slice ba bn bc)
              simpa using this
            · have hs := HO3.out.1.slice
              refine Lay.mono _ (Lay.fr hs hfs (fun k hk => ⟨hk.2, fun e => by have := hk.1; simp at this; omega⟩)) (fun k hk => ⟨by have := H2.out.1.lt; have := hk.1; simp at this; omega, Nat.lt_of_lt_of_le hk.2 hfs.size, by have := hk.1; simp at this; omega⟩)
          rw [hW4, hg]
          clear HO3 hW4 hg hcG hfG HG w3
          have hcv := (H2.out.1.ext H4.out.2.1).cell
          have hcg := H4.out.1.cell
          go_wp2_with fail
          clear hcv hcg
          obtain ⟨wo, rfl⟩ : ∃ wo : World, wo = wr := ⟨_, rfl⟩
          go_loopw [28] (fun s28 w' => ∃ (j : Nat) (va : Value), j ≤ args.length ∧ s28 = .int .i64 j ∧ Hid (Blk w' g #[.int .i64 op, va, .bool st, .int .i64 ty, .slice ba bn bc] 138 ∧ Own Lay.arg 142 W4.heap.size w' va (args.take j) ∧ Fr (fun k => k = g) W4 w')) (fun s28 _ => args.length - (intOf s28).toNat)
          case atStart => exact ⟨0, _, Nat.zero_le _, rfl, H4.out.1, own_nil _ _ _ _, Fr.refl _ _⟩
          case round =>
            obtain ⟨j, va, hj, rfl, hV⟩ := hrel
            have hgs := H4.out.1.lt
            by_cases hjl : j < args.length
            · have hA := H.out.2.1
              have hszw := hX.out.size
              have hargs := Lay.fr HB.out.2.2.1 (Ext.fr (Ext.trans H2.out.2 H4.out.2.1) hV.out.2.2) (fun k hk => ⟨Nat.lt_of_lt_of_le (hA k hk) hszw, fun e => by have := hA k hk; have := H4.out.2.2.1.1; omega⟩)
              obtain ⟨b3, o3, rfl, hA3, g0, g1, gb0, gb1⟩ := arg_at hargs j hjl
              have hab := Lib.hid (And.intro gb0 gb1)
              have htj := Lib.hid (show args.take (j + 1) = args.take j ++ [args[j]] from List.take_succ_eq_append_getElem hjl)
              generalize args[j] = aq at *
              obtain ⟨ak, ab⟩ := aq
              simp only [] at g0 g1
              have hcg := hV.out.1.cell
              have hfg := hV.out.1.frz
              have hgw := hV.out.1.lt
              obtain ⟨va1, va2, va3, rfl⟩ := hV.out.2.1.shape
              clear hargs hA3 hA hszw gb0 gb1
              go_wp2_with (at_builtin; refine Hid.out ?_)
              have hxv := ext_alloc wr (.cells #[.int .i64 ak, .int .u64 ab.toNat] 251)
              refine own_append1n Lay.arg W4.heap.size (wr.heap.size + 1) (by simp) rfl (.tmp 33) (.tmp 39) _ _ _ 16 rfl Tryz.underlying136 infoArgL rfl (by omega) (by decide) (.slice va1 va2 va3) (args.take j) (ak, ab) _ rfl rfl (hV.out.2.1.ext hxv) ⟨[_], [_], rfl, ⟨rfl, hab.out⟩, rfl⟩ (Nat.le_trans hV.out.2.2.size hxv.size) (by have := HB.out.2.2.2.2.1; rw [List.length_take]; omega) ?_
              intro v1 w1 h1 h2 h3
              have hne : ∀ k', k' = g → ¬ some k' = (Value.slice va1 va2 va3).ownBlock := fun k' e h => by have := (hV.out.2.1.lt k' h.symm).1; omega
              have hB5 := (hV.out.1.ext hxv).fr h2 (hne g rfl)
              have hc5 := hB5.cell
              have hf5 := hB5.frz
              have hO5 : Own Lay.arg 142 W4.heap.size w1 v1 (args.take (j + 1)) := by rw [htj.out]; exact h1
              have hF5 : Fr (fun k => k = g) W4 w1 := Fr.trans (hV.out.2.2.ext hxv) h2 (fun _ _ h => h) (fun k hk e => absurd hk (by have := (hV.out.2.1.lt k e.symm).1; omega))
              obtain ⟨vb1, vb2, vb3, rfl⟩ := h1.shape
              have H5 := Lib.hid (And.intro hB5 (And.intro hO5 hF5))
              clear h1 h2 h3 hB5 hO5 hF5 hcg hfg hxv hne
              go_wp2_with fail
              have hV2 : Hid (Blk (w1.setCell ⟨g, 1, none⟩ (.slice vb1 vb2 vb3)) g #[.int .i64 op, .slice vb1 vb2 vb3, .bool st, .int .i64 ty, .slice ba bn bc] 138 ∧ Own Lay.arg 142 W4.heap.size (w1.setCell ⟨g, 1, none⟩ (.slice vb1 vb2 vb3)) (.slice vb1 vb2 vb3) (args.take (j + 1)) ∧ Fr (fun k => k = g) W4 (w1.setCell ⟨g, 1, none⟩ (.slice vb1 vb2 vb3))) := by
                refine ⟨?_, Own.only flat_argL' H5.out.2.1 (fr_setCell _ _ _) (fun k' h e => by have := (H5.out.2.1.lt k' h).1; have e' : k' = g := e; omega), H5.out.2.2.setCell (.inl rfl) _⟩
                have := H5.out.1.set 1 (.slice vb1 vb2 vb3)
                simpa using this
              clear hc5 hf5
              go_roundw
              case rel => exact ⟨j + 1, _, by omega, by go_num, hV2⟩
              case measure => simp [intOf]; omega
            · obtain rfl : j = args.length := by omega
              have hcg := hV.out.1.cell
              obtain ⟨va1, va2, va3, rfl⟩ := hV.out.2.1.shape
              go_wp2_with (at_builtin; refine Hid.out ?_)
              have hWr : Ext wo wr := Ext.trans H2.out.2 (Fr.new (Ext.fr H4.out.2.1 hV.out.2.2) (fun k e => by have := H4.out.2.2.1.2; have e' : k = g := e; omega))
              refine own_append1n (Lay.ins (k + 1)) w.heap.size wr.heap.size rfl rfl (.tmp 43) (.tmp 45) _ _ _ 72 rfl Tryz.underlying38 (infoInstrL (k + 1)) (by rw [Lay.ins_size]; rfl) (by omega) (by rw [Lay.ins_size]; decide) u3 (l.take i) (.mk op args st ty body) _ rfl rfl (hO.out.ext hWr) ?_ (Nat.le_trans hX.out.size hWr.size) (by have := H.out.2.2.1; rw [List.length_take]; omega) ?_
              · have hu := hO.out.lt
                have hsz := hX.out.size
                have hsz2 := hWr.size
                have hsz3 := H4.out.2.1.size
                have hsz4 := H2.out.1.lt
                have ha := hV.out.2.1.slice
                rw [List.take_length] at ha
                refine ins_mkL HB.out.1 HB.out.2.1 (Lay.mono _ ha (fun k' hk => ⟨by omega, hk.2, fun e => by have := hu k' e.symm; omega⟩)) (Lay.mono _ (Lay.fr H4.out.2.2.2 hV.out.2.2 (fun k' hk => ⟨hk.2.1, fun e => hk.2.2 e⟩)) (fun k' hk => ⟨by omega, Nat.lt_of_lt_of_le hk.2.1 hV.out.2.2.size, fun e => by have := hu k' e.symm; omega⟩))
              intro v1 w1 h1 h2 h3
              have hO1 : Hid (Own (Lay.ins (k + 1)) 138 w.heap.size w1 v1 (l.take (i + 1))) := by show Own _ _ _ _ _ _; rw [htk.out]; exact h1
              have hX1 : Hid (Ext w w1) := Fr.new (Ext.fr (Ext.trans hX.out hWr) h2) (fun k' e => (hO.out.lt k' e.symm).1)
              clear h1 h2 h3 hcg hWr
              go_wp2
              go_roundw
              case rel => exact ⟨i + 1, by omega, by go_num, hO1, hX1⟩
              case measure => simp [intOf]; omega
      · obtain rfl : i = l.length := by omega
        go_wp2
        go_ret
        have := hO.out
        rw [List.take_length] at this
        exact ⟨_, rfl, this, hX.out⟩
end Go.Proofs.YtbdahjpdjamgiaaGreatDoor
