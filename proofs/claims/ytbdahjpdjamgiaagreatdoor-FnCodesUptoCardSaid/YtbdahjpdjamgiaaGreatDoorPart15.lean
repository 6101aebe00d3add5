/- impl.plainInstrs. Written by wip/tools/gen_pi.py. -/
import Derived.Test.YtbdahjpdjamgiaaGreatDoorPart14
namespace Go.Proofs.YtbdahjpdjamgiaaGreatDoor
open Go.RowKit
mutual
/-- No list is longer than 2^20. -/
def fitR1 : RI → Prop
  | .blk _ b => b.length ≤ 1048576 ∧ fitRL b
  | _ => True
def fitRL : List RI → Prop
  | [] => True
  | x :: xs => fitR1 x ∧ fitRL xs
end
theorem fitRL_at : ∀ {l : List RI}, fitRL l → ∀ (i : Nat) (h : i < l.length), fitR1 l[i]
  | _ :: _, h, 0, _ => h.1
  | _ :: _, h, i + 1, hi => fitRL_at h.2 i (by simpa using hi)
theorem toIL_len : ∀ l : List RI, (toIL l).length = l.length
  | [] => by rw [toIL]; rfl
  | x :: xs => by rw [toIL, List.length_cons, toIL_len xs, List.length_cons]
theorem toIL_append : ∀ l m : List RI, toIL (l ++ m) = toIL l ++ toIL m
  | [], m => by rw [toIL]; rfl
  | x :: xs, m => by rw [List.cons_append, toIL, toIL_append xs m, toIL, List.cons_append]
theorem toIL_one (x : RI) : toIL [x] = [toI1 x] := by rw [toIL, toIL]
theorem ri_args_len (x : RI) : x.args.length ≤ 2 := by cases x <;> simp [RI.args]
theorem si_no (T : TypeId) (h : lacks Tryz.prog T 288 = true) (v : Value) (W : World) : (Instr.typeAssert (.iface T v) 283 288 true).run Tryz.prog W = .ok (.tuple #[.nilIface, .bool false]) W :=
  ta_fails h (fun W => by kernel_rfl) v W
/-- All that an instruction which is read answers. -/
def RiAll (A : Nat → Prop) (w : World) (k : Nat) (T : TypeId) (p : Value) (x : RI) : Prop :=
  RiOp T p x.op ∧ x.op < 256 ∧ RiArgs T p x.args ∧ (x.isBlk = false → (∀ W, (Instr.typeAssert (.iface T p) 283 288 true).run Tryz.prog W = .ok (.tuple #[.nilIface, .bool false]) W) ∧ toI1 x = .mk x.op x.args false (-1) []) ∧
    (∀ lp body, x = .blk lp body → ∃ a m c, (∀ W, (Instr.typeAssert (.iface T p) 283 288 true).run Tryz.prog W = .ok (.tuple #[.iface T p, .bool true]) W) ∧
      Answers T p "Instructions" (fun _ v _ => v = .slice a m c) ∧ Answers T p "BlockType" (fun _ v _ => v = .pointer none) ∧ (Lay.ri k).slice.rd A w [.slice a m c] body)
theorem ri_all {n : Nat} {A : Nat → Prop} {w : World} {cs : List Value} {x : RI} (h : (Lay.ri n).rd A w cs x) : ∃ k T p, n = k + 1 ∧ cs = [.iface T p] ∧ RiAll A w k T p x := by
  cases n with
  | zero => exact h.elim
  | succ k =>
    cases x with
    | i32 v => obtain ⟨rfl, h1⟩ := h; exact ⟨k, _, _, rfl, rfl, i32_op v, (by decide : (65 : Nat) < 256), i32_args h1, fun _ => ⟨fun W => si_no _ (by kernel_rfl) _ W, (by rw [toI1]; rfl)⟩, fun _ _ e => by cases e⟩
    | i64 v => obtain ⟨rfl, h1⟩ := h; exact ⟨k, _, _, rfl, rfl, i64_op v, (by decide : (66 : Nat) < 256), i64_args h1, fun _ => ⟨fun W => si_no _ (by kernel_rfl) _ W, (by rw [toI1]; rfl)⟩, fun _ _ e => by cases e⟩
    | eqz => obtain rfl := h; exact ⟨k, _, _, rfl, rfl, eqz_op, (by decide), eqz_args, fun _ => ⟨fun W => si_no _ (by kernel_rfl) _ W, (by rw [toI1]; rfl)⟩, fun _ _ e => by cases e⟩
    | ret => obtain rfl := h; exact ⟨k, _, _, rfl, rfl, ret_op, (by decide), ret_args, fun _ => ⟨fun W => si_no _ (by kernel_rfl) _ W, (by rw [toI1]; rfl)⟩, fun _ _ e => by cases e⟩
    | ci a b => obtain ⟨rfl, h1, h2⟩ := h; exact ⟨k, _, _, rfl, rfl, ci_op a b, (by decide : (17 : Nat) < 256), ci_args h1 h2, fun _ => ⟨fun W => si_no _ (by kernel_rfl) _ W, (by rw [toI1]; rfl)⟩, fun _ _ e => by cases e⟩
    | idx o m =>
      obtain ⟨rfl, h1, h2⟩ := h
      rcases h2 with rfl | rfl | rfl | rfl
      · exact ⟨k, _, _, rfl, rfl, gl_op m, (by decide : (32 : Nat) < 256), gl_args h1, fun _ => ⟨fun W => si_no _ (by kernel_rfl) _ W, (by rw [toI1]; rfl)⟩, fun _ _ e => by cases e⟩
      · exact ⟨k, _, _, rfl, rfl, sl_op m, (by decide : (33 : Nat) < 256), sl_args h1, fun _ => ⟨fun W => si_no _ (by kernel_rfl) _ W, (by rw [toI1]; rfl)⟩, fun _ _ e => by cases e⟩
      · exact ⟨k, _, _, rfl, rfl, call_op m, (by decide : (16 : Nat) < 256), call_args h1, fun _ => ⟨fun W => si_no _ (by kernel_rfl) _ W, (by rw [toI1]; rfl)⟩, fun _ _ e => by cases e⟩
      · exact ⟨k, _, _, rfl, rfl, brif_op m, (by decide : (13 : Nat) < 256), brif_args h1, fun _ => ⟨fun W => si_no _ (by kernel_rfl) _ W, (by rw [toI1]; rfl)⟩, fun _ _ e => by cases e⟩
    | blk lp body =>
      obtain ⟨s, rfl, hb⟩ := h
      obtain ⟨sa, sc, rfl, -, -⟩ := Lay.slice_form hb
      cases lp with
      | false => exact ⟨k, _, _, rfl, rfl, block_op _, (by decide : (2 : Nat) < 256), block_args _, (fun e => by cases e), fun lp' b' e => by
          simp only [RI.blk.injEq] at e
          obtain ⟨rfl, rfl⟩ := e
          exact ⟨_, _, _, fun W => block_si _ W, block_in _, block_bt _, hb⟩⟩
      | true => exact ⟨k, _, _, rfl, rfl, loop_op _, (by decide : (3 : Nat) < 256), loop_args _, (fun e => by cases e), fun lp' b' e => by
          simp only [RI.blk.injEq] at e
          obtain ⟨rfl, rfl⟩ := e
          exact ⟨_, _, _, fun W => loop_si _ W, loop_in _, loop_bt _, hb⟩⟩
theorem ri_at {n : Nat} {A : Nat → Prop} {w : World} {a : Option Addr} {m cap : Nat} {xs : List RI} (h : (Lay.ri n).slice.rd A w [.slice a m cap] xs) (i : Nat) (hi : i < xs.length) :
    ∃ (k b o : Nat) (T : TypeId) (p : Value), n = k + 1 ∧ a = some ⟨b, o, none⟩ ∧ w.cell? ⟨b, o + i, none⟩ = some (.iface T p) ∧ RiAll A w k T p xs[i] := by
  have hn : xs.length = m := by
    obtain ⟨_, _, e, _⟩ := h
    simp only [List.cons.injEq, Value.slice.injEq, and_true] at e
    exact e.2.1.symm
  obtain ⟨b, o, es, hi', e, hA, _, hr, hc⟩ := Lay.slice_at h i (by omega)
  obtain ⟨k, T, p, hk, rfl, hall⟩ := ri_all hr
  have := hc 0 (by rw [Lay.ri_size]; decide)
  rw [Lay.ri_size, Nat.mul_one, Nat.add_zero] at this
  exact ⟨k, b, o, T, p, hk, e, this, hall⟩
theorem argI_at {A : Nat → Prop} {w : World} {a : Option Addr} {m cap : Nat} {xs : List (Int × UInt64)} (h : Lay.argI.slice.rd A w [.slice a m cap] xs) (i : Nat) (hi : i < xs.length) :
    ∃ (b o : Nat), a = some ⟨b, o, none⟩ ∧ w.cell? ⟨b, o + i, none⟩ = some (argIv xs[i]) ∧ okI xs[i] := by
  have hn : xs.length = m := by
    obtain ⟨_, _, e, _⟩ := h
    simp only [List.cons.injEq, Value.slice.injEq, and_true] at e
    exact e.2.1.symm
  obtain ⟨b, o, es, hi', e, hA, _, hr, hc⟩ := Lay.slice_at h i (by omega)
  obtain ⟨rfl, hok⟩ := hr
  have := hc 0 (by decide)
  rw [show o + i * Lay.argI.size + 0 = o + i from by show o + i * 1 + 0 = o + i; omega] at this
  exact ⟨b, o, e, this, hok⟩
theorem infoArgP : (Tryz.prog.info? 251).map (fun i => (i.zero, i.size, i.bytes)) = some (some (.agg #[.int .i64 0, .int .u64 0]), Lay.arg.size, 16) := by kernel_rfl
theorem infoInstrP (n : Nat) : (Tryz.prog.info? 250).map (fun i => (i.zero, i.size, i.bytes)) = some (some (.agg #[.int .i64 0, .slice none 0 0, .bool false, .int .i64 0, .slice none 0 0]), (Lay.ins n).size, 72) := by rw [Lay.ins_size]; kernel_rfl
theorem ins_mkP {n : Nat} {A : Nat → Prop} {w : World} {op ty : Int} {args : List (Int × UInt64)} {st : Bool} {body : List Ins} {v1 v2 : Value} (h1 : -9223372036854775808 ≤ op ∧ op ≤ 9223372036854775807) (h2 : -9223372036854775808 ≤ ty ∧ ty ≤ 9223372036854775807)
    (ha : Lay.arg.slice.rd A w [v1] args) (hb : (Lay.ins n).slice.rd A w [v2] body) : (Lay.ins (n + 1)).rd A w [.int .i64 op, v1, .bool st, .int .i64 ty, v2] (.mk op args st ty body) :=
  ⟨[_], _, rfl, ⟨rfl, h1⟩, [_], _, rfl, ha, [_], _, rfl, rfl, [_], _, rfl, ⟨rfl, h2⟩, hb⟩
theorem slice_nilP {α : Type} (l : Lay α) {A : Nat → Prop} {w : World} : l.slice.rd A w [.slice none 0 0] [] := ⟨none, 0, rfl, Nat.le_refl _, by decide, fun h => absurd h (by simp)⟩
set_option maxRecDepth 100000 in
set_option maxHeartbeats 4000000 in
theorem plainInstrs_calls (n : Nat) : ∀ (l : List RI) (aa : Option Addr) (m c : Nat) (A : Nat → Prop) (w : World), (Lay.ri n).slice.rd A w [.slice aa m c] l → (∀ k, A k → k < w.heap.size) → l.length ≤ 1048576 → fitRL l →
    Calls Tryz.prog 53 #[.slice aa m c] w fun e w' => ∃ v, e = .returned v ∧ Own (Lay.ins n) 250 w.heap.size w' v (toIL l) ∧ Ext w w' := by
  induction n using Nat.strongRecOn with
  | ind n ih =>
    intro l aa m c A w hR hA hll hfa
    obtain ⟨a', c', e, hlc, hcm⟩ := Lay.slice_form hR
    obtain ⟨rfl, rfl, rfl⟩ : aa = a' ∧ m = l.length ∧ c = c' := by simpa using e
    have hlen : (l.length : Int) ≤ 9223372036854775807 := by simp only [maxLen] at hcm; omega
    have H := Lib.hid (And.intro hR (And.intro hA (And.intro hll (And.intro hfa ih))))
    clear hR hA ih hll hfa hlc hcm e
    go_enter Tryz.func53, Tryz.ntmps53
    go_wp2_with fail
    go_loopw [3, 14] (fun s3 s14 w' => ∃ (i : Nat), i ≤ l.length ∧ s14 = .int .i64 i ∧ Hid (Own (Lay.ins n) 250 w.heap.size w' s3 (toIL (l.take i))) ∧ Hid (Ext w w')) (fun _ s14 _ => l.length - (intOf s14).toNat)
    case atStart => exact ⟨0, Nat.zero_le _, rfl, by show Own _ _ _ _ _ _; rw [List.take_zero, toIL]; exact own_nil _ _ _ _, Fr.refl _ _⟩
    case round =>
      obtain ⟨i, hi, rfl, hO, hX⟩ := hrel
      by_cases hlt : i < l.length
      · obtain ⟨hR, hA, hll, hfa, ih⟩ := H.out
        have hRr := Lay.fr hR hX.out (fun k hk => ⟨hA k hk, fun h => h⟩)
        obtain ⟨k, b, o, T, p, rfl, rfl, e0, hall⟩ := ri_at hRr i hlt
        have htk := Lib.hid (show toIL (l.take (i + 1)) = toIL (l.take i) ++ [toI1 l[i]] from by rw [List.take_succ_eq_append_getElem hlt, toIL_append, toIL_one])
        have hf := fitRL_at hfa i hlt
        generalize l[i] = x at *
        obtain ⟨⟨fo, po, hna, hme, hcf, hop⟩, hop256, hargs, hno, hyes⟩ := hall
        have hal := ri_args_len x
        have HA := Lib.hid (And.intro hargs (And.intro hno (And.intro hyes (And.intro hf hal))))
        have hopc := Lib.hid hop
        clear hR hA hll hfa ih hRr hargs hno hyes hf hop hal
        go_wp2_with fail
        refine (hopc.out _).mono ?_
        rintro e wa ⟨v, rfl, rfl, hxa⟩
        have hxa := Lib.hid hxa
        clear hna hme hcf hopc
        obtain ⟨⟨fa, pa, hna, hme, hcf, hia⟩, hno, hyes, hf, hal⟩ := HA.out
        have hiac := Lib.hid hia
        have hx1 := ext_alloc wa (.cells #[.int .i64 (x.op : Int), .slice none 0 0, .bool false, .int .i64 (-1), .slice none 0 0] 250)
        obtain ⟨W1, g, hW1, hg, H1⟩ : ∃ W1 g, Hid ((wa.alloc (.cells #[.int .i64 (x.op : Int), .slice none 0 0, .bool false, .int .i64 (-1), .slice none 0 0] 250)) = W1) ∧ Hid (wa.heap.size = g) ∧ Hid (Blk W1 g #[.int .i64 (x.op : Int), .slice none 0 0, .bool false, .int .i64 (-1), .slice none 0 0] 250 ∧ Ext wr W1 ∧ wr.heap.size ≤ g) :=
          ⟨_, _, rfl, rfl, blk_new _ _ _, Ext.trans hxa.out hx1, hxa.out.size⟩
        clear hno hyes hf hal hia hx1 hxa
        go_wp2_with fail
        rw [hW1.out]
        refine (hiac.out W1).mono ?_
        rintro e wb ⟨v, rfl, hvr, hxb⟩
        rw [hg.out]
        obtain ⟨va, vc, rfl, -, -⟩ := Lay.slice_form hvr
        have H2 := Lib.hid (And.intro hvr hxb)
        clear hna hme hcf hiac hvr hxb hW1 hg
        have hal := HA.out.2.2.2.2
        obtain ⟨wo, rfl⟩ : ∃ wo : World, wo = wr := ⟨_, rfl⟩
        go_wp2_with fail
        go_loopw [8, 25] (fun s8 s25 w' => ∃ (j : Nat) (va : Value), j ≤ x.args.length ∧ s25 = .int .i64 j ∧ Hid (Blk w' g #[.int .i64 (x.op : Int), va, .bool false, .int .i64 (-1), .slice none 0 0] 250 ∧ Own Lay.arg 251 wb.heap.size w' va (x.args.take j) ∧ Fr (fun k => k = g) wb w')) (fun _ s25 _ => x.args.length - (intOf s25).toNat)
        case atStart => exact ⟨0, _, Nat.zero_le _, rfl, H1.out.1.ext H2.out.2, own_nil _ _ _ _, Fr.refl _ _⟩
        case round =>
          obtain ⟨j, vr, hj, rfl, hV⟩ := hrel
          obtain ⟨vr1, vr2, vr3, rfl⟩ := hV.out.2.1.shape
          have hgs := Lib.hid (And.intro H1.out.1.lt H2.out.2.size)
          by_cases hjl : j < x.args.length
          · have hargs := Lay.fr H2.out.1 hV.out.2.2 (fun k hk => ⟨hk.2, fun e => by have e' : k = g := e; have := hgs.out; omega⟩)
            obtain ⟨b3, o3, rfl, g0, hok⟩ := argI_at hargs j hjl
            have htj := Lib.hid (show x.args.take (j + 1) = x.args.take j ++ [x.args[j]] from List.take_succ_eq_append_getElem hjl)
            generalize x.args[j] = aq at *
            have hok := Lib.hid hok
            clear hargs
            go_wp2_with fail
            refine region_items extFrm [(0, .take), (1, .take), (2, .take), (3, .run), (4, .run), (5, .last), (6, .take), (7, .last)] (by kernel_rfl) (by kernel_rfl) ?_
            simp only [itemsOf, List.getD_cons_zero, List.getD_cons_succ]
            have HC := Lib.hid (fun W' (h : Ext wr.drew W') => (hV.out.1.ext (Ext.trans (ext_drew _) h)).cell)
            have hxd := Lib.hid (ext_drew wr)
            generalize wr.drew = W3 at *
            repeat (apply item_take; rfl; rfl; rfl; rfl; exact fun _ _ _ _ h => h; (intro W hE K hK; have q := HC.out W hE; go_simp; exact hK))
            apply item_run; rfl; intro K hK; go_simp
            refine (plainArg_calls aq hok.out W3).mono ?_
            rintro e w4 ⟨rfl, hx4⟩
            refine hK _ _ hx4 ?_
            clear hK K
            have hx4 := Lib.hid (Ext.trans hxd.out hx4)
            apply item_run; rfl; intro K hK; go_simp
            refine hK _ _ (ext_alloc _ _) ?_
            clear hK K HC
            have hkb := Lib.hid (show -9223372036854775808 ≤ aq.1 ∧ aq.1 ≤ 9223372036854775807 from by rcases hok.out with h | h | h | h <;> omega)
            apply item_last; rfl; intro K hK
            refine own_append1_wp Lay.arg wb.heap.size (.tmp 30) (.tmp 33) _ _ _ 16 rfl Tryz.underlying248 infoArgP rfl (by omega) (by decide) (.slice vr1 vr2 vr3) (x.args.take j) aq _ rfl rfl (hV.out.2.1.ext hx4.out) ⟨[_], [_], rfl, ⟨rfl, hkb.out⟩, rfl⟩ (Nat.le_trans hV.out.2.2.size hx4.out.size) (by rw [List.length_take]; omega) ?_
            intro v1 w5 h1 h2 h3
            refine hK _ _ ?_
            clear hK K
            have hne : ∀ k', k' = g → ¬ some k' = (Value.slice vr1 vr2 vr3).ownBlock := fun k' e h => by have := (hV.out.2.1.lt k' h.symm).1; have := hgs.out; omega
            have hB5 := (hV.out.1.ext hx4.out).fr h2 (hne g rfl)
            have hc5 := hB5.cell
            have hf5 := hB5.frz
            have hO5 : Own Lay.arg 251 wb.heap.size w5 v1 (x.args.take (j + 1)) := by rw [htj.out]; exact h1
            have hF5 : Fr (fun k => k = g) wb w5 := Fr.trans (hV.out.2.2.ext hx4.out) h2 (fun _ _ h => h) (fun k hk e => absurd hk (by have := (hV.out.2.1.lt k e.symm).1; omega))
            obtain ⟨vb1, vb2, vb3, rfl⟩ := h1.shape
            have H5 := Lib.hid (And.intro hB5 (And.intro hO5 hF5))
            clear h1 h2 h3 hB5 hO5 hF5 hne
            repeat (apply item_take; rfl; rfl; rfl; rfl; exact fun _ _ _ _ h => h; (intro W hE K hK; go_simp; exact hK))
            apply item_last; rfl; intro K hK; go_simp
            refine hK _ _ ?_
            clear hK K hc5 hf5
            apply items_done
            have hV2 : Hid (Blk (w5.setCell ⟨g, 1, none⟩ (.slice vb1 vb2 vb3)) g #[.int .i64 (x.op : Int), .slice vb1 vb2 vb3, .bool false, .int .i64 (-1), .slice none 0 0] 250 ∧ Own Lay.arg 251 wb.heap.size (w5.setCell ⟨g, 1, none⟩ (.slice vb1 vb2 vb3)) (.slice vb1 vb2 vb3) (x.args.take (j + 1)) ∧ Fr (fun k => k = g) wb (w5.setCell ⟨g, 1, none⟩ (.slice vb1 vb2 vb3))) := by
              refine ⟨?_, Own.only Lay.flat_arg H5.out.2.1 (fr_setCell _ _ _) (fun k' h e => by have := (H5.out.2.1.lt k' h).1; have e' : k' = g := e; have := hgs.out; omega), H5.out.2.2.setCell (.inl rfl) _⟩
              have := H5.out.1.set 1 (.slice vb1 vb2 vb3)
              simpa using this
            go_wp2
            go_roundw
            case rel => exact ⟨j + 1, _, by omega, by go_num, hV2⟩
            case measure => simp [intOf]; omega
          · obtain rfl : j = x.args.length := by omega
            have hV' := hV.out
            rw [List.take_length] at hV'
            have hVf := Lib.hid hV'
            have hcg := hV'.1.cell
            have hfg := hV'.1.frz
            clear hV hV'
            cases hblk : x.isBlk with
            | false =>
              obtain ⟨hsi, htI⟩ := HA.out.2.1 hblk
              have htI := Lib.hid htI
              clear hblk
              have hWr := Lib.hid (show Ext wo wr from Fr.new (Ext.fr (Ext.trans H1.out.2.1 H2.out.2) hVf.out.2.2) (fun k e => by have e' : k = g := e; have := H1.out.2.2; omega))
              have hRD := Lib.hid (show (Lay.ins (k + 1)).rd (fun k' => w.heap.size ≤ k' ∧ k' < wr.heap.size ∧ some k' ≠ u3.ownBlock) wr (#[Value.int .i64 (x.op : Int), .slice vr1 vr2 vr3, .bool false, .int .i64 (-1), .slice none 0 0] : Array Value).toList (toI1 x) from by
                have hu := hO.out.lt
                have hs1 := hX.out.size
                have hs2 := H1.out.2.1.size
                have hs3 := H2.out.2.size
                rw [htI.out]
                exact ins_mkP (by omega) (by omega) (Lay.mono _ hVf.out.2.1.slice (fun k' hk => ⟨by omega, hk.2, fun e => by have := (hu k' e.symm).2; omega⟩)) (slice_nilP _))
              go_wp2_with (at_builtin; refine Hid.out ?_)
              clear hcg hfg
              refine own_append1n (Lay.ins (k + 1)) w.heap.size wr.heap.size rfl rfl (.tmp 56) (.tmp 58) _ _ _ 72 rfl Tryz.underlying66 (infoInstrP (k + 1)) (by rw [Lay.ins_size]; rfl) (by omega) (by rw [Lay.ins_size]; decide) u3 (toIL (l.take i)) _ _ rfl rfl (hO.out.ext hWr.out) hRD.out (Nat.le_trans hX.out.size hWr.out.size) (by have := H.out.2.2.1; rw [toIL_len, List.length_take]; omega) ?_
              intro v1 w1 h1 h2 h3
              have hO1 : Hid (Own (Lay.ins (k + 1)) 250 w.heap.size w1 v1 (toIL (l.take (i + 1)))) := by show Own _ _ _ _ _ _; rw [htk.out]; exact h1
              have hX1 : Hid (Ext w w1) := Fr.new (Ext.fr (Ext.trans hX.out hWr.out) h2) (fun k' e => (hO.out.lt k' e.symm).1)
              clear h1 h2 h3 hWr hRD
              go_wp2
              go_roundw
              case rel => exact ⟨i + 1, by omega, by go_num, hO1, hX1⟩
              case measure => simp [intOf]; omega
            | true =>
              obtain ⟨lp, body, rfl⟩ : ∃ lp body, x = .blk lp body := by cases x <;> first | (cases hblk; done) | exact ⟨_, _, rfl⟩
              obtain ⟨ba, bm, bc, hsi, ⟨fi, pi', hna, hme, hcf, hin⟩, hbtA, hbody⟩ := HA.out.2.2.1 lp body rfl
              obtain ⟨bd, cd, ed, -, -⟩ := Lay.slice_form hbody
              have hinc := Lib.hid hin
              have hB := Lib.hid (And.intro hbody hbtA)
              have htI := Lib.hid (show toI1 (.blk lp body) = .mk ((RI.blk lp body).op : Int) (RI.blk lp body).args true (-1) (toIL body) from by rw [toI1]; cases lp <;> rfl)
              clear hblk hin hbtA hbody ed
              go_wp2_with fail
              refine (hinc.out _).mono ?_
              rintro e w7 ⟨v, rfl, rfl, hx7⟩
              have hx7 := Lib.hid hx7
              clear hna hme hcf hinc
              go_wp2_with fail
              have hXa := Lib.hid (show Ext wo w7 from Fr.new (Ext.fr (Ext.trans H1.out.2.1 H2.out.2) (hVf.out.2.2.ext hx7.out)) (fun k e => by have e' : k = g := e; have := H1.out.2.2; omega))
              obtain ⟨hR, hA, hll, hfa, ih⟩ := H.out
              have hsz := hX.out.size
              refine (ih k (by omega) body ba bm bc A w7 (Lay.fr hB.out.1 hXa.out (fun k hk => ⟨Nat.lt_of_lt_of_le (hA k hk) hsz, fun h => h⟩)) (fun k hk => Nat.lt_of_lt_of_le (hA k hk) (Nat.le_trans hsz hXa.out.size)) HA.out.2.2.2.1.1 HA.out.2.2.2.1.2).mono ?_
              rintro e w8 ⟨v8, rfl, o8, hx8⟩
              obtain ⟨y1, y2, y3, rfl⟩ := o8.shape
              have hB8 := (hVf.out.1.ext hx7.out).ext hx8
              have hc8 := hB8.cell
              have hf8 := hB8.frz
              have hbx : Hid (Blk ((w8.setCell ⟨g, 2, none⟩ (.bool true)).setCell ⟨g, 4, none⟩ (.slice y1 y2 y3)) g #[.int .i64 ((RI.blk lp body).op : Int), .slice vr1 vr2 vr3, .bool true, .int .i64 (-1), .slice y1 y2 y3] 250 ∧ Own (Lay.ins k) 250 w7.heap.size ((w8.setCell ⟨g, 2, none⟩ (.bool true)).setCell ⟨g, 4, none⟩ (.slice y1 y2 y3)) (.slice y1 y2 y3) (toIL body) ∧ Own Lay.arg 251 wb.heap.size ((w8.setCell ⟨g, 2, none⟩ (.bool true)).setCell ⟨g, 4, none⟩ (.slice y1 y2 y3)) (.slice vr1 vr2 vr3) (RI.blk lp body).args ∧ Ext wo ((w8.setCell ⟨g, 2, none⟩ (.bool true)).setCell ⟨g, 4, none⟩ (.slice y1 y2 y3))) := by
                have hs : Fr (fun k => k = g) w8 ((w8.setCell ⟨g, 2, none⟩ (.bool true)).setCell ⟨g, 4, none⟩ (.slice y1 y2 y3)) := Fr.setCell (Fr.setCell (Fr.refl (fun k => k = g) w8) (p := ⟨g, 2, none⟩) (.inl rfl) _) (p := ⟨g, 4, none⟩) (.inl rfl) _
                have hg7 : g < w7.heap.size := by have := (hVf.out.1.ext hx7.out).lt; exact this
                have hgo := hgs.out
                have h11 := H1.out.2.2
                refine ⟨?_, o8.fr hs (fun k' h1 h2 e => by have e' : k' = g := e; omega), Own.only Lay.flat_arg ((hVf.out.2.1.ext hx7.out).ext hx8) hs (fun k' h e => by have := (hVf.out.2.1.lt k' h).1; have e' : k' = g := e; omega), Fr.new (Ext.fr (Ext.trans hXa.out hx8) hs) (fun k' e => by have e' : k' = g := e; omega)⟩
                have := (hB8.set 2 (.bool true)).set 4 (.slice y1 y2 y3)
                simpa using this
              obtain ⟨W9, hW9⟩ : ∃ W9, Hid (((w8.setCell ⟨g, 2, none⟩ (.bool true)).setCell ⟨g, 4, none⟩ (.slice y1 y2 y3)) = W9) := ⟨_, rfl⟩
              rw [hW9.out] at hbx
              obtain ⟨fb, pb, hna, hme, hcf, hbt⟩ := hB.out.2
              have hbtc := Lib.hid hbt
              have hl7 := Lib.hid (show wo.heap.size ≤ w7.heap.size from hXa.out.size)
              clear hbt hB8 o8 hx8 hR hA hll hfa ih hXa hx7
              go_wp2_with fail
              rw [hW9.out]
              refine (hbtc.out W9).mono ?_
              rintro e w10 ⟨v, rfl, rfl, hx10⟩
              have hB10 := hbx.out.1.ext hx10
              have hc10 := hB10.cell
              have hWr := Lib.hid (Ext.trans hbx.out.2.2.2 hx10)
              have hRD := Lib.hid (show (Lay.ins (k + 1)).rd (fun k' => w.heap.size ≤ k' ∧ k' < w10.heap.size ∧ some k' ≠ u3.ownBlock) w10 (#[Value.int .i64 ((RI.blk lp body).op : Int), .slice vr1 vr2 vr3, .bool true, .int .i64 (-1), .slice y1 y2 y3] : Array Value).toList (toI1 (.blk lp body)) from by
                have hu := hO.out.lt
                have hs1 := hX.out.size
                have hs2 := H1.out.2.1.size
                have hs3 := H2.out.2.size
                have hs4 := hl7.out
                rw [htI.out]
                exact ins_mkP (by omega) (by omega) (Lay.mono _ (hbx.out.2.2.1.ext hx10).slice (fun k' hk => ⟨by omega, hk.2, fun e => by have := (hu k' e.symm).2; omega⟩)) (Lay.mono _ (hbx.out.2.1.ext hx10).slice (fun k' hk => ⟨by omega, hk.2, fun e => by have := (hu k' e.symm).2; omega⟩)))
              clear hna hme hcf hbtc hx10 hB10 hc8 hf8 hcg hfg hbx hW9
              go_wp2_with (at_builtin; refine Hid.out ?_)
              clear hc10
              refine own_append1n (Lay.ins (k + 1)) w.heap.size w10.heap.size rfl rfl (.tmp 56) (.tmp 58) _ _ _ 72 rfl Tryz.underlying66 (infoInstrP (k + 1)) (by rw [Lay.ins_size]; rfl) (by omega) (by rw [Lay.ins_size]; decide) u3 (toIL (l.take i)) _ _ rfl rfl (hO.out.ext hWr.out) hRD.out (Nat.le_trans hX.out.size hWr.out.size) (by have := H.out.2.2.1; rw [toIL_len, List.length_take]; omega) ?_
              intro v1 w1 h1 h2 h3
              have hO1 : Hid (Own (Lay.ins (k + 1)) 250 w.heap.size w1 v1 (toIL (l.take (i + 1)))) := by show Own _ _ _ _ _ _; rw [htk.out]; exact h1
              have hX1 : Hid (Ext w w1) := Fr.new (Ext.fr (Ext.trans hX.out hWr.out) h2) (fun k' e => (hO.out.lt k' e.symm).1)
              clear h1 h2 h3 hWr hRD
              go_wp2
              go_roundw
              case rel => exact ⟨i + 1, by omega, by go_num, hO1, hX1⟩
              case measure => simp [intOf]; omega
      · obtain rfl : i = l.length := by omega
        rw [List.take_length] at hO
        go_wp2
        go_ret
        exact ⟨_, rfl, hO.out, hX.out⟩
end Go.Proofs.YtbdahjpdjamgiaaGreatDoor
