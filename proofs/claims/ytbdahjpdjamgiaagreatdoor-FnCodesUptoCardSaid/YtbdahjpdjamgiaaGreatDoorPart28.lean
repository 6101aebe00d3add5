/- spec.instrsBytes, CodeBytes. -/
import Derived.Test.YtbdahjpdjamgiaaGreatDoorPart27
import Derived.Test.YtbdahjpdjamgiaaGreatDoorPart14
namespace Go.Proofs.YtbdahjpdjamgiaaGreatDoor
open Go.RowKit
theorem insBL_append : ∀ (l m : List Ins), insBL (l ++ m) = insBL l ++ insBL m
  | [], m => rfl
  | x :: l, m => by simp only [List.cons_append, insBL, insBL_append l m, List.append_assoc]
theorem insBL_take {l : List Ins} {i : Nat} (h : i < l.length) : insBL (l.take (i + 1)) = insBL (l.take i) ++ insB1 l[i] := by
  rw [List.take_succ_eq_append_getElem h, insBL_append]; simp [insBL]
theorem insBL_split {l : List Ins} {i : Nat} (h : i < l.length) : ∃ m, insBL l = insBL (l.take i) ++ (insB1 l[i] ++ m) := by
  refine ⟨insBL (l.drop (i + 1)), ?_⟩
  have : l = l.take i ++ (l[i] :: l.drop (i + 1)) := by rw [← List.drop_eq_getElem_cons h, List.take_append_drop]
  conv => lhs; rw [this]
  rw [insBL_append, insBL]
theorem insB1_true (op ty : Int) (args : List (Int × UInt64)) (body : List Ins) : insB1 (.mk op args true ty body) = UInt8.ofNat (op % 256).toNat :: (typeByte ty :: (insBL body ++ [11])) := by simp [insB1]
theorem insB1_false (op ty : Int) (args : List (Int × UInt64)) (body : List Ins) : insB1 (.mk op args false ty body) = UInt8.ofNat (op % 256).toNat :: args.flatMap argBytes := by simp [insB1]
/-- append(v, byte), at a list of operations: the address of the byte spelled by the caller. -/
theorem appB1 {ops : Array Oper} {rest : List Oper} {o : Oper} {a : Act} {Q : Exit → Act → World → Prop} {W : World} (lo n : Nat) (hn : W.heap.size = n) (hgd : o.guard = none) (s x : Operand)
    (ho : o.op = .call { callee := .builtin .append, args := #[s, x], argTypes := #[43, 43] }) (v : Value) (xs : List UInt8) (y : Nat) (hy : y < 256) (hs : a.eval s = v) (hx : a.eval x = .slice (some ⟨n, 0, none⟩) 1 1)
    (HO : OwnB lo W v xs) (hlo : lo ≤ W.heap.size) (hl : xs.length + 1 ≤ 140737488355328)
    (h : ∀ v1 w1, OwnB lo w1 v1 (xs ++ [UInt8.ofNat y]) → Fr (fun k => some k = v.ownBlock) W w1 → (∀ k, v1.ownBlock = some k → v.ownBlock = some k ∨ W.heap.size ≤ k) → wpList Tryz.prog ops Q rest (a.put o.dst v1) w1) :
    wpList Tryz.prog ops Q (o :: rest) a (W.alloc (.cells #[.int .u8 (y : Int)] 5)) :=
  own_append1n Lay.u8 lo n hn hgd s x _ _ (.int .u8 0) 1 ho Tryz.underlying43 infoB rfl (by omega) (by decide) v xs (UInt8.ofNat y) _ hs hx HO (congrArg (fun v => [v]) (ofNat_cell y hy).symm) hlo (by omega) h
section
variable {P : Program} {o : Oper} {a : Act} {Q : Exit → Act → World → Prop} {K : Act → World → Prop}
theorem own_append1_wp2 {α : Type} (l : Lay α) {W : World} (lo : Nat) (s x : Operand) (t e : TypeId) (z : Value) (bytes : Nat)
    (ho : o.op = .call { callee := .builtin .append, args := #[s, x], argTypes := #[t, t] })
    (ht : P.underlying t = some (.slice e)) (hinfo : (P.info? e).map (fun i => (i.zero, i.size, i.bytes)) = some (some z, l.size, bytes)) (hz : z.cells.size = l.size) (hb0 : 0 < bytes) (hl0 : 0 < l.size)
    (v : Value) (xs : List α) (y : α) (cs : Array Value) (hs : a.eval s = v) (hx : a.eval x = .slice (some ⟨W.heap.size, 0, none⟩) 1 1)
    (HO : Own l e lo W v xs) (HY : l.rd (fun k => lo ≤ k ∧ k < W.heap.size ∧ some k ≠ v.ownBlock) W cs.toList y)
    (hlo : lo ≤ W.heap.size) (hl : (xs.length + 1) * bytes ≤ 140737488355328)
    (h : ∀ v1 w1, Own l e lo w1 v1 (xs ++ [y]) → Fr (fun k => some k = v.ownBlock) W w1 → Fr (fun k => some k = v.ownBlock) (W.alloc (.cells cs e)) w1 → (∀ k, v1.ownBlock = some k → v.ownBlock = some k ∨ W.heap.size ≤ k) → K (a.put o.dst v1) w1) :
    o.wp P a (W.alloc (.cells cs e)) K Q := by
  have hlt := HO.lt
  refine own_append_wp l lo s x t e z bytes ho ht hinfo hz hb0 hl0 v xs [y] cs.toList ⟨W.heap.size, 0, none⟩ 1 1 hs hx rfl (HO.ext (ext_alloc _ _)) ?_ ?_ (by simp; omega) hl ?_
  · exact Lay.all_single (l.mono (l.frame HY (fun k hk => Below.heap_alloc _ _ _ hk.2.1)) (fun k hk => ⟨hk.1, by simp; omega, hk.2.2⟩))
  · intro j u hj
    rw [show ((⟨W.heap.size, 0, none⟩ : Addr).add j) = ⟨W.heap.size, j, none⟩ from by unfold Addr.add; split <;> simp_all, (blk_new W cs e).cell j]
    simpa using hj
  · intro v1 w1 h1 h2 h3
    refine h v1 w1 h1 (Fr.trans (ext_alloc W _) h2 (fun _ _ h => h.elim) (fun _ _ h => h)) h2 (fun k hk => ?_)
    rcases h3 with h3 | h3
    · exact .inl (h3 ▸ hk)
    · rw [h3] at hk
      injection hk with hk
      refine .inr ?_
      simp at hk
      omega
end
set_option maxRecDepth 100000 in
set_option maxHeartbeats 4000000 in
theorem instrsBytes_calls (n : Nat) : ∀ (l : List Ins) (aa : Option Addr) (m c : Nat) (A : Nat → Prop) (w : World), (Lay.ins n).slice.rd A w [.slice aa m c] l → (∀ k, A k → k < w.heap.size) → (insBL l).length + 20 ≤ 70368744177664 →
    Calls Tryz.prog 16 #[.slice aa m c] w fun e w' => ∃ v, e = .returned v ∧ OwnB w.heap.size w' v (insBL l ++ [11]) ∧ Ext w w' := by
  induction n using Nat.strongRecOn with
  | ind n ih =>
    intro l aa m c A w hR hA hl
    obtain ⟨a', c', e, hlc, hcm⟩ := Lay.slice_form hR
    obtain ⟨rfl, rfl, rfl⟩ : aa = a' ∧ m = l.length ∧ c = c' := by simpa using e
    have hlen : (l.length : Int) ≤ 9223372036854775807 := by simp only [maxLen] at hcm; omega
    have H := Lib.hid (And.intro hR (And.intro hA (And.intro hl ih)))
    clear hR hA ih hl hlc hcm e
    go_enter Tryz.func16, Tryz.ntmps16
    go_wp2_with fail
    go_loopw [3, 11] (fun s3 s11 w' => ∃ (i : Nat), i ≤ l.length ∧ s11 = .int .i64 i ∧ Hid (OwnB w.heap.size w' s3 (insBL (l.take i))) ∧ Hid (Ext w w')) (fun _ s11 _ => l.length - (intOf s11).toNat)
    case atStart => exact ⟨0, Nat.zero_le _, rfl, own_nil _ _ _ _, Fr.refl _ _⟩
    case round =>
      obtain ⟨i, hi, rfl, hO, hX⟩ := hrel
      by_cases hlt : i < l.length
      · obtain ⟨hR, hA, hl, ih⟩ := H.out
        obtain ⟨k, b, o, a1, n1, c1, a2, n2, c2, rfl, rfl, hAb, e0, e1, e2, e3, e4, hopb, htyb, hargs, hbody⟩ := Lay.ins_at hR i hlt
        replace e0 := hX.out.cell e0 (fun h => h)
        replace e1 := hX.out.cell e1 (fun h => h)
        replace e2 := hX.out.cell e2 (fun h => h)
        replace e3 := hX.out.cell e3 (fun h => h)
        replace e4 := hX.out.cell e4 (fun h => h)
        have htk := Lib.hid (insBL_take hlt)
        obtain ⟨rest, hsp⟩ := insBL_split hlt
        have hcap := Lib.hid (show (insBL (l.take i)).length + (insB1 l[i]).length + 20 ≤ 70368744177664 from by
          have := hl
          rw [hsp] at this
          simp only [List.length_append] at this
          omega)
        generalize l[i] = x at *
        obtain ⟨op, args, st, ty, body⟩ := x
        simp only [Ins.op, Ins.args, Ins.st, Ins.ty, Ins.body] at e0 e1 e2 e3 e4 hopb htyb hargs hbody
        obtain ⟨a1', c1', e1', hlc1, hcm1⟩ := Lay.slice_form hargs
        obtain ⟨rfl, rfl, rfl⟩ : a1 = a1' ∧ n1 = args.length ∧ c1 = c1' := by simpa using e1'
        have hal : (args.length : Int) ≤ 9223372036854775807 := by simp only [maxLen] at hcm1; omega
        obtain ⟨mo, hmo1, hmo, hmo2⟩ : ∃ mo : Nat, op % 256 = (mo : Int) ∧ mo < 256 ∧ (op % 256).toNat = mo := ⟨(op % 256).toNat, by omega, by omega, rfl⟩
        have hmo := Lib.hid hmo
        have hmo2 := Lib.hid hmo2
        have HBx := Lib.hid (fun W (h : Ext w W) => And.intro (Lay.fr hargs h (fun k hk => ⟨hA k hk, fun h => h⟩)) (Lay.fr hbody h (fun k hk => ⟨hA k hk, fun h => h⟩)))
        clear hR hA hl ih hargs hbody hAb e1' hlc1 hcm1 hopb hsp
        go_wp2_with (at_builtin; refine Hid.out ?_)
        have hB1 := blk_new wr #[.int .i64 op, .slice a1 args.length c1, .bool st, .int .i64 ty, .slice a2 n2 c2] 138
        have hx1 := ext_alloc wr (.cells #[.int .i64 op, .slice a1 args.length c1, .bool st, .int .i64 ty, .slice a2 n2 c2] 138)
        refine appB1 w.heap.size (wr.heap.size + 1) (by simp) rfl (.tmp 15) (.tmp 19) rfl u3 (insBL (l.take i)) mo hmo.out rfl rfl (hO.out.ext hx1) (Nat.le_trans hX.out.size hx1.size) (by have := hcap.out; omega) ?_
        intro v1 w1 h1 h2 h3
        have hB2 := hB1.fr h2 (fun e => by have := (hO.out.lt _ e.symm).2; omega)
        have hcB := hB2.cell
        have HB2 := Lib.hid hB2
        have hX2 : Ext w w1 := Fr.new (Ext.fr (Ext.trans hX.out hx1) h2) (fun k e => (hO.out.lt k e.symm).1)
        obtain ⟨d1, d2, d3, rfl⟩ := h1.shape
        have H2 := Lib.hid (And.intro h1 hX2)
        have hvb := Lib.hid (show ¬ some wr.heap.size = (Value.slice d1 d2 d3).ownBlock from fun e => by
          rcases h3 _ e.symm with h | h
          · have := (hO.out.lt _ h).2; omega
          · exact absurd h (by simp))
        clear hB1 hx1 h1 h2 h3 hB2 hX2 hmo1
        cases st with
        | true =>
          by_cases hty0 : 0 ≤ ty
          · obtain ⟨tb, htb1, htb2⟩ : ∃ tb : Nat, (127 - ty) % 256 = (tb : Int) ∧ tb < 256 := ⟨((127 - ty) % 256).toNat, by omega, by omega⟩
            have htb := Lib.hid (show typeByte ty = UInt8.ofNat tb from by unfold typeByte; rw [if_pos hty0, htb1, Int.toNat_natCast])
            have htb2 := Lib.hid htb2
            have hd0 : decide (0 ≤ ty) = true := decide_eq_true hty0
            go_wp2_with fail
            refine region_items (frFrm (fun k => some k = (Value.slice d1 d2 d3).ownBlock)) [(0, .take), (1, .take), (4, .take), (5, .take), (2, .run), (3, .run), (6, .run), (7, .last), (8, .take)] (by kernel_rfl) (by kernel_rfl) ?_
            simp only [itemsOf, List.getD_cons_zero, List.getD_cons_succ]
            have HC := Lib.hid (fun W' (h : Fr (fun k => some k = (Value.slice d1 d2 d3).ownBlock) w1.drew W') => (HB2.out.fr ((ext_drew _).fr h) (fun e => hvb.out e)).cell)
            have hX3 := Lib.hid (Ext.trans H2.out.2 (ext_drew w1))
            have hO3 := Lib.hid (H2.out.1.ext (ext_drew w1))
            clear hcB
            generalize w1.drew = W3 at *
            repeat (apply item_take; rfl; rfl; rfl; rfl; exact fun _ _ _ _ h => h; (intro W hE K hK; have q := HC.out W hE; go_simp; exact hK))
            apply item_run; rfl; intro K hK; go_simp
            refine hK _ _ (ext_alloc _ _).to ?_
            clear hK K HC
            apply item_run; rfl; intro K hK
            refine own_append1_wp2 Lay.u8 w.heap.size (.tmp 30) (.tmp 32) _ _ (.int .u8 0) 1 rfl Tryz.underlying43 infoB rfl (by omega) (by decide) (.slice d1 d2 d3) _ (UInt8.ofNat tb) _ rfl rfl hO3.out (congrArg (fun v => [v]) (ofNat_cell tb htb2.out).symm) hX3.out.size (by have := hcap.out; rw [insB1_true] at this; simp only [List.length_append, List.length_cons, List.length_nil] at this ⊢; omega) ?_
            intro v4 w4 k1 k2 k2' k3
            refine hK _ _ k2' ?_
            have hX4 : Ext w w4 := Fr.new (Ext.fr hX3.out k2) (fun k e => (hO3.out.lt k e.symm).1)
            obtain ⟨f1, f2, f3, rfl⟩ := k1.shape
            have H4 := Lib.hid (And.intro k1 hX4)
            clear hK K k1 k2 k2' k3 hX4
            apply item_run; rfl; intro K hK; go_simp
            refine (H.out.2.2.2 k (by omega) body a2 n2 c2 A w4 (HBx.out w4 H4.out.2).2 (fun k hk => Nat.lt_of_lt_of_le (H.out.2.1 k hk) H4.out.2.size) (by have := hcap.out; rw [insB1_true] at this; simp only [List.length_append, List.length_cons, List.length_nil] at this ⊢; omega)).mono ?_
            rintro e w5 ⟨v5, rfl, o5, x5⟩
            refine hK _ _ x5.to ?_
            obtain ⟨g1, g2, g3, rfl⟩ := o5.shape
            have H5 := Lib.hid (And.intro o5 x5)
            clear hK K o5 x5
            apply item_last; rfl; intro K hK
            refine own_appends_wp Lay.u8 w.heap.size (.tmp 33) (.tmp 36) _ _ (.int .u8 0) 1 rfl Tryz.underlying43 infoB rfl (by omega) (by decide) (.slice f1 f2 f3) _ _ g1 g2 g3 rfl rfl (H4.out.1.ext H5.out.2) H5.out.1.slice (fun _ h => Lay.all_flat Lay.flat_u8 h) (Ext.trans H4.out.2 H5.out.2).size (by have := hcap.out; rw [insB1_true] at this; simp only [List.length_append, List.length_cons, List.length_nil] at this ⊢; omega) ?_
            intro v6 w6 k1 k2 k3
            refine hK _ _ ?_
            have hO1 : Hid (OwnB w.heap.size w6 v6 (insBL (l.take (i + 1)))) := by
              show Own _ _ _ _ _ _
              rw [htk.out, insB1_true, hmo2.out, htb.out]
              simpa using k1
            have hX1 : Hid (Ext w w6) := Fr.new (Ext.fr (Ext.trans H4.out.2 H5.out.2) k2) (fun k e => (H4.out.1.lt k e.symm).1)
            clear hK K k1 k2 k3
            repeat (apply item_take; rfl; rfl; rfl; rfl; exact fun _ _ _ _ h => h; (intro W hE K hK; go_simp; exact hK))
            apply items_done
            go_wp2
            go_roundw
            case rel => exact ⟨i + 1, by omega, by go_num, hO1, hX1⟩
            case measure => simp [intOf]; omega
          · have htb := Lib.hid (show typeByte ty = UInt8.ofNat 64 from by unfold typeByte; rw [if_neg hty0]; rfl)
            have hd0 : decide (0 ≤ ty) = false := decide_eq_false hty0
            go_wp2_with fail
            refine region_items (frFrm (fun k => some k = (Value.slice d1 d2 d3).ownBlock)) [(0, .take), (1, .take), (4, .take), (5, .take), (2, .run), (3, .run), (6, .run), (7, .last), (8, .take)] (by kernel_rfl) (by kernel_rfl) ?_
            simp only [itemsOf, List.getD_cons_zero, List.getD_cons_succ]
            have HC := Lib.hid (fun W' (h : Fr (fun k => some k = (Value.slice d1 d2 d3).ownBlock) w1.drew W') => (HB2.out.fr ((ext_drew _).fr h) (fun e => hvb.out e)).cell)
            have hX3 := Lib.hid (Ext.trans H2.out.2 (ext_drew w1))
            have hO3 := Lib.hid (H2.out.1.ext (ext_drew w1))
            clear hcB
            generalize w1.drew = W3 at *
            repeat (apply item_take; rfl; rfl; rfl; rfl; exact fun _ _ _ _ h => h; (intro W hE K hK; have q := HC.out W hE; go_simp; exact hK))
            apply item_run; rfl; intro K hK; go_simp
            refine hK _ _ (ext_alloc _ _).to ?_
            clear hK K HC
            apply item_run; rfl; intro K hK
            refine own_append1_wp2 Lay.u8 w.heap.size (.tmp 30) (.tmp 32) _ _ (.int .u8 0) 1 rfl Tryz.underlying43 infoB rfl (by omega) (by decide) (.slice d1 d2 d3) _ (UInt8.ofNat 64) _ rfl rfl hO3.out (congrArg (fun v => [v]) (ofNat_cell 64 (by decide)).symm) hX3.out.size (by have := hcap.out; rw [insB1_true] at this; simp only [List.length_append, List.length_cons, List.length_nil] at this ⊢; omega) ?_
            intro v4 w4 k1 k2 k2' k3
            refine hK _ _ k2' ?_
            have hX4 : Ext w w4 := Fr.new (Ext.fr hX3.out k2) (fun k e => (hO3.out.lt k e.symm).1)
            obtain ⟨f1, f2, f3, rfl⟩ := k1.shape
            have H4 := Lib.hid (And.intro k1 hX4)
            clear hK K k1 k2 k2' k3 hX4
            apply item_run; rfl; intro K hK; go_simp
            refine (H.out.2.2.2 k (by omega) body a2 n2 c2 A w4 (HBx.out w4 H4.out.2).2 (fun k hk => Nat.lt_of_lt_of_le (H.out.2.1 k hk) H4.out.2.size) (by have := hcap.out; rw [insB1_true] at this; simp only [List.length_append, List.length_cons, List.length_nil] at this ⊢; omega)).mono ?_
            rintro e w5 ⟨v5, rfl, o5, x5⟩
            refine hK _ _ x5.to ?_
            obtain ⟨g1, g2, g3, rfl⟩ := o5.shape
            have H5 := Lib.hid (And.intro o5 x5)
            clear hK K o5 x5
            apply item_last; rfl; intro K hK
            refine own_appends_wp Lay.u8 w.heap.size (.tmp 33) (.tmp 36) _ _ (.int .u8 0) 1 rfl Tryz.underlying43 infoB rfl (by omega) (by decide) (.slice f1 f2 f3) _ _ g1 g2 g3 rfl rfl (H4.out.1.ext H5.out.2) H5.out.1.slice (fun _ h => Lay.all_flat Lay.flat_u8 h) (Ext.trans H4.out.2 H5.out.2).size (by have := hcap.out; rw [insB1_true] at this; simp only [List.length_append, List.length_cons, List.length_nil] at this ⊢; omega) ?_
            intro v6 w6 k1 k2 k3
            refine hK _ _ ?_
            have hO1 : Hid (OwnB w.heap.size w6 v6 (insBL (l.take (i + 1)))) := by
              show Own _ _ _ _ _ _
              rw [htk.out, insB1_true, hmo2.out, htb.out]
              simpa using k1
            have hX1 : Hid (Ext w w6) := Fr.new (Ext.fr (Ext.trans H4.out.2 H5.out.2) k2) (fun k e => (H4.out.1.lt k e.symm).1)
            clear hK K k1 k2 k3
            repeat (apply item_take; rfl; rfl; rfl; rfl; exact fun _ _ _ _ h => h; (intro W hE K hK; go_simp; exact hK))
            apply items_done
            go_wp2
            go_roundw
            case rel => exact ⟨i + 1, by omega, by go_num, hO1, hX1⟩
            case measure => simp [intOf]; omega
        | false =>
          go_wp2_with fail
          obtain ⟨wo, rfl⟩ : ∃ wo : World, wo = wr := ⟨_, rfl⟩
          clear hcB
          go_loopw [3, 41] (fun s3 s41 w' => ∃ (j : Nat), j ≤ args.length ∧ s41 = .int .i64 j ∧ Hid (OwnB w.heap.size w' s3 (insBL (l.take i) ++ [UInt8.ofNat mo] ++ (args.take j).flatMap argBytes)) ∧ Hid (Ext w w')) (fun _ s41 _ => args.length - (intOf s41).toNat)
          case atStart => exact ⟨0, Nat.zero_le _, rfl, by show Own _ _ _ _ _ _; simpa using H2.out.1, H2.out.2⟩
          case round =>
            obtain ⟨j, hj, rfl, hV, hY⟩ := hrel
            by_cases hjl : j < args.length
            · obtain ⟨b3, o3, rfl, hA3, g0, g1, -, -⟩ := arg_at (HBx.out wr hY.out).1 j hjl
              have htj := Lib.hid (argB_take hjl)
              obtain ⟨arest, hasp⟩ := argB_split hjl
              have hbd := Lib.hid (show (insBL (l.take i)).length + 1 + ((args.take j).flatMap argBytes).length + (argBytes args[j]).length + 20 ≤ 70368744177664 from by
                have := hcap.out
                rw [insB1_false, hasp] at this
                simp only [List.length_append, List.length_cons] at this ⊢
                omega)
              clear hasp hA3
              generalize args[j] = aq at *
              obtain ⟨ak, ab⟩ := aq
              simp only [] at g0 g1
              go_wp2_with fail
              have hxv := ext_alloc wr (.cells #[.int .i64 ak, .int .u64 ab.toNat] 142)
              refine (argBytes_calls ak ab _).mono ?_
              rintro e w5 ⟨v5, rfl, o5, x5⟩
              obtain ⟨g1', g2', g3', rfl⟩ := o5.shape
              have H5 := Lib.hid (And.intro o5 (Ext.trans hxv x5))
              clear o5 x5 hxv
              go_wp2_with (at_builtin; refine Hid.out ?_)
              refine own_appends Lay.u8 w.heap.size rfl (.tmp 45) (.tmp 47) _ _ (.int .u8 0) 1 rfl Tryz.underlying43 infoB rfl (by omega) (by decide) u3 _ (argBytes (ak, ab)) g1' g2' g3' rfl rfl (hV.out.ext H5.out.2) H5.out.1.slice (fun _ h => Lay.all_flat Lay.flat_u8 h) (Ext.trans hY.out H5.out.2).size (by have := hbd.out; simp only [List.length_append, List.length_cons, List.length_nil]; omega) ?_
              intro v6 w6 k1 k2 k3
              have hV1 : Hid (OwnB w.heap.size w6 v6 (insBL (l.take i) ++ [UInt8.ofNat mo] ++ (args.take (j + 1)).flatMap argBytes)) := by
                show Own _ _ _ _ _ _
                rw [htj.out, ← List.append_assoc]
                exact k1
              have hY1 : Hid (Ext w w6) := Fr.new (Ext.fr (Ext.trans hY.out H5.out.2) k2) (fun k e => (hV.out.lt k e.symm).1)
              clear k1 k2 k3
              go_wp2
              go_roundw
              case rel => exact ⟨j + 1, by omega, by go_num, hV1, hY1⟩
              case measure => simp [intOf]; omega
            · obtain rfl : j = args.length := by omega
              have hO1 := Lib.hid (show OwnB w.heap.size wr u3 (insBL (l.take (i + 1))) from by
                rw [htk.out, insB1_false, hmo2.out]
                have := hV.out
                rw [List.take_length] at this
                simpa using this)
              go_wp2
              go_roundw
              case rel => exact ⟨i + 1, by omega, by go_num, hO1, hY⟩
              case measure => simp [intOf]; omega
      · obtain rfl : i = l.length := by omega
        go_wp2_with (at_builtin; refine Hid.out ?_)
        refine appB1 w.heap.size wr.heap.size rfl rfl (.tmp 51) (.tmp 52) rfl u3 (insBL (l.take l.length)) 11 (by decide) rfl rfl hO.out hX.out.size (by have := H.out.2.2.1; rw [List.take_length]; omega) ?_
        intro v1 w1 h1 h2 h3
        have hX1 : Hid (Ext w w1) := Fr.new (Ext.fr hX.out h2) (fun k e => (hO.out.lt k e.symm).1)
        have hO1 := Lib.hid h1
        obtain ⟨d1, d2, d3, rfl⟩ := h1.shape
        clear h1 h2 h3
        go_wp2
        go_ret
        refine ⟨_, rfl, ?_, hX1.out⟩
        have := hO1.out
        rw [List.take_length] at this
        exact this
theorem codeBytes_loc (x : UInt32 × Int) (h : 0 ≤ x.2 ∧ x.2 ≤ 3) : ∃ tb : Nat, (127 - x.2) % 256 = (tb : Int) ∧ tb < 256 ∧ locBytes x = uleb x.1.toNat ++ [UInt8.ofNat tb] :=
  ⟨(127 - x.2).toNat, by omega, by omega, rfl⟩
/-- What the reference makes of a code entry. -/
def codeSp (ls : List (UInt32 × Int)) (l : List Ins) : List UInt8 := uleb ls.length ++ (ls.flatMap locBytes ++ (insBL l ++ [11]))
set_option maxRecDepth 100000 in
set_option maxHeartbeats 4000000 in
theorem CodeBytes_calls (n : Nat) (ls : List (UInt32 × Int)) (l : List Ins) (a1 a2 : Option Addr) (n1 n2 c1 c2 : Nat) (A : Nat → Prop) (w : World) (h1 : Lay.loc.slice.rd A w [.slice a1 n1 c1] ls) (h2 : (Lay.ins n).slice.rd A w [.slice a2 n2 c2] l) (hA : ∀ k, A k → k < w.heap.size)
    (hty : ∀ x ∈ ls, 0 ≤ x.2 ∧ x.2 ≤ 3) (hl : (codeSp ls l).length + 20 ≤ 70368744177664) :
    Calls Tryz.prog 6 #[.agg #[.slice a1 n1 c1, .slice a2 n2 c2]] w fun e w' => ∃ v, e = .returned v ∧ OwnB w.heap.size w' v (codeSp ls l) ∧ Ext w w' := by
  obtain ⟨a', c', e, hlc, hcm⟩ := Lay.slice_form h1
  obtain ⟨rfl, rfl, rfl⟩ : a1 = a' ∧ n1 = ls.length ∧ c1 = c' := by simpa using e
  have hlen : (ls.length : Int) ≤ 9223372036854775807 := by simp only [maxLen] at hcm; omega
  have hw1 : IntKind.u64.wrap (ls.length : Int) = (ls.length : Int) := by rw [IntKind.wrap_u64]; omega
  have hl1 := Lib.hid (show ls.length < 18446744073709551616 by omega)
  have hcap := Lib.hid (show (uleb ls.length).length + ((ls.flatMap locBytes).length + ((insBL l).length + 1)) + 20 ≤ 70368744177664 from by simpa [codeSp] using hl)
  have H := Lib.hid (And.intro h1 (And.intro h2 (And.intro hA hty)))
  clear h1 h2 hA hcm hlc e hl hty
  go_enter Tryz.func6, Tryz.ntmps6
  go_wp2_with fail
  have hB := blk_new w #[.slice a1 ls.length c1, .slice a2 n2 c2] 40
  have hx0 := ext_alloc w (.cells #[.slice a1 ls.length c1, .slice a2 n2 c2] 40)
  refine (specAppendUnsigned_calls ls.length hl1.out (w.heap.size + 1) (.slice none 0 0) [] _ (own_nil _ _ _ _) (by simp) (by simp)).mono ?_
  rintro e w1 ⟨v1, rfl, k1, k2, -⟩
  rw [List.nil_append] at k1
  have hx1 : Ext _ w1 := k2.mono (fun _ _ h => by simp [Value.ownBlock] at h)
  obtain ⟨d1, d2, d3, rfl⟩ := k1.shape
  have hcB := (hB.ext hx1).cell
  have HB := Lib.hid (And.intro hx0 (And.intro (hB.ext hx1) (And.intro hx1 k1)))
  clear hB hx0 hx1 k1 k2
  go_wp2_with fail
  go_loopw [3, 14] (fun s3 s14 w' => ∃ (i : Nat), i ≤ ls.length ∧ s14 = .int .i64 i ∧ Hid (OwnB (w.heap.size + 1) w' s3 (uleb ls.length ++ (ls.take i).flatMap locBytes)) ∧ Hid (Blk w' w.heap.size #[.slice a1 ls.length c1, .slice a2 n2 c2] 40) ∧ Hid (Ext w w')) (fun _ s14 _ => ls.length - (intOf s14).toNat)
  case atStart =>
    refine ⟨0, Nat.zero_le _, rfl, ?_, HB.out.2.1, Ext.trans HB.out.1 HB.out.2.2.1⟩
    show Own _ _ _ _ _ _; simpa using HB.out.2.2.2
  case round =>
    obtain ⟨i, hi, rfl, hV, hB, hX⟩ := hrel
    clear hcB
    by_cases hlt : i < ls.length
    · obtain ⟨b, o, rfl, hA1, e0, e1, -, -⟩ := loc_at (Lay.fr H.out.1 hX.out (fun k hk => ⟨H.out.2.2.1 k hk, fun h => h⟩)) i hlt
      have htk := Lib.hid (locB_take hlt)
      obtain ⟨rest, hsp⟩ := locB_split hlt
      have hcq := Lib.hid (show (uleb ls.length).length + (((ls.take i).flatMap locBytes).length + (locBytes ls[i]).length) + 20 ≤ 70368744177664 from by
        have := hcap.out
        rw [hsp] at this
        simp only [List.length_append] at this
        omega)
      obtain ⟨tb, htb, htb2, hka⟩ := codeBytes_loc ls[i] (H.out.2.2.2 ls[i] (List.getElem_mem _))
      have htyb : 0 ≤ ls[i].2 ∧ ls[i].2 ≤ 3 := H.out.2.2.2 ls[i] (List.getElem_mem _)
      generalize ls[i] = x at *
      obtain ⟨cn, ty⟩ := x
      simp only [] at e0 e1 htb hka htyb
      have hcn := cn.toNat_lt
      have hka := Lib.hid hka
      have htb2 := Lib.hid htb2
      generalize locBytes (cn, ty) = kab at *
      generalize cn.toNat = mc at *
      have hmc : IntKind.u64.wrap (mc : Int) = (mc : Int) := by rw [IntKind.wrap_u64]; omega
      have hsub : IntKind.i64.wrap (127 - ty) = 127 - ty := by rw [IntKind.wrap_i64]; omega
      have hsub2 : IntKind.u8.wrap (127 - ty) = (tb : Int) := by rw [IntKind.wrap_u8]; exact htb
      have hmc2 := Lib.hid (show mc < 18446744073709551616 by omega)
      clear hsp hA1 hcn htb htyb
      go_wp2_with fail
      refine region_plan (frFrm (fun k => some k = u3.ownBlock)) (.fork [(0, .take), (1, .take), (2, .take), (3, .take), (5, .take), (6, .take), (7, .take), (8, .take)] 4 9 (.seq [(9, .run), (10, .last), (11, .take)]) (.seq [(4, .run), (10, .last), (11, .take)])) (by kernel_rfl) (by kernel_rfl) ?_
      simp only [wpPlan, itemsOf, List.getD_cons_zero, List.getD_cons_succ]
      have hBv := blk_new wr #[.int .u32 mc, .int .i64 ty] 73
      have hxv := Lib.hid (Ext.trans (ext_alloc wr (.cells #[.int .u32 mc, .int .i64 ty] 73)) (ext_drew _))
      have hvb := Lib.hid (show ¬ some wr.heap.size = u3.ownBlock from fun e => by have := (hV.out.lt _ e.symm).2; omega)
      have HC := Lib.hid (fun W' (h : Fr (fun k => some k = u3.ownBlock) (wr.alloc (.cells #[.int .u32 mc, .int .i64 ty] 73)).drew W') => (hBv.fr ((ext_drew _).fr h) (fun e => hvb.out e)).cell)
      clear hBv
      generalize (wr.alloc (.cells #[.int .u32 mc, .int .i64 ty] 73)).drew = W3 at *
      repeat (apply item_take; rfl; rfl; rfl; rfl; exact fun _ _ _ _ h => h; (intro W hE K hK; have q := HC.out W hE; go_simp; exact hK))
      have hO3 := Lib.hid (hV.out.ext hxv.out)
      have hlow := Lib.hid (show w.heap.size + 1 ≤ W3.heap.size from by have := hB.out.lt; have := hxv.out.size; omega)
      clear HC
      refine plan_fork rfl rfl ?_ ?_
      · intro K hK; go_simp
        refine (specAppendUnsigned_calls mc hmc2.out (w.heap.size + 1) u3 _ _ hO3.out hlow.out (by have := hcq.out; simp only [List.length_append]; omega)).mono ?_
        rintro e w4 ⟨v4, rfl, k1, k2, k3⟩
        refine hK _ _ k2 ?_
        obtain ⟨f1, f2, f3, rfl⟩ := k1.shape
        have H4 := Lib.hid (And.intro k1 (And.intro k2 k3))
        clear hK K k1 k2 k3
        apply item_run; rfl; intro K hK; go_simp
        refine hK _ _ (ext_alloc _ _).to ?_
        clear hK K
        apply item_last; rfl; intro K hK
        refine own_append1_wp Lay.u8 (w.heap.size + 1) (.tmp 22) (.tmp 27) _ _ (.int .u8 0) 1 rfl Tryz.underlying43 infoB rfl (by omega) (by decide) (.slice f1 f2 f3) _ (UInt8.ofNat tb) _ rfl rfl H4.out.1 (congrArg (fun v => [v]) (ofNat_cell tb htb2.out).symm) (Nat.le_trans hlow.out H4.out.2.1.size) (by have := hcq.out; rw [hka.out] at this; simp only [List.length_append, List.length_cons, List.length_nil] at this ⊢; omega) ?_
        intro v6 w6 q1 q2 q3
        refine hK _ _ ?_
        have hV1 := Lib.hid (show OwnB (w.heap.size + 1) w6 v6 (uleb ls.length ++ (ls.take (i + 1)).flatMap locBytes) from by
          rw [htk.out, hka.out]
          simpa using q1)
        have hF6 := Lib.hid (show Fr (fun k => some k = u3.ownBlock ∨ wr.heap.size ≤ k) wr w6 from by
          refine Fr.trans (Ext.fr hxv.out H4.out.2.1) q2 (fun k _ h => .inl h) (fun k hk h => ?_)
          rcases H4.out.2.2 k h.symm with h' | h'
          · exact .inl h'.symm
          · have := hxv.out.size; exact .inr (by omega))
        clear hK K q1 q2 q3
        repeat (apply item_take; rfl; rfl; rfl; rfl; exact fun _ _ _ _ h => h; (intro W hE K hK; go_simp; exact hK))
        apply items_done
        have hB1 := Lib.hid (hB.out.fr hF6.out (fun e => by
          rcases e with e | e
          · have := (hV.out.lt _ e.symm).1; omega
          · have := hB.out.lt; omega))
        have hX1 := Lib.hid (show Ext w w6 from Fr.new (Ext.fr hX.out hF6.out) (fun k e => by
          rcases e with e | e
          · have := (hV.out.lt _ e.symm).1; omega
          · have := hX.out.size; omega))
        go_wp2
        go_roundw
        case rel => exact ⟨i + 1, by omega, by go_num, hV1, hB1, hX1⟩
        case measure => simp [intOf]; omega
      · intro K hK; go_simp
        refine hK _ _ (ext_alloc _ _).to ?_
        clear hK K
        apply item_run; rfl; intro K hK; go_simp
        refine (specAppendUnsigned_calls mc hmc2.out (w.heap.size + 1) u3 _ _ (hO3.out.ext (ext_alloc _ _)) (Nat.le_trans hlow.out (ext_alloc _ _).size) (by have := hcq.out; simp only [List.length_append]; omega)).mono ?_
        rintro e w4 ⟨v4, rfl, k1, k2, k3⟩
        refine hK _ _ k2 ?_
        obtain ⟨f1, f2, f3, rfl⟩ := k1.shape
        have hL := (blk_new W3 #[.int .u8 tb] 5).fr k2 (fun e => by have := (hO3.out.lt _ e.symm).2; omega)
        have H4 := Lib.hid (And.intro k1 (And.intro ((ext_alloc W3 _).fr k2) (And.intro k3 hL)))
        clear hK K k1 k2 k3 hL
        apply item_last; rfl; intro K hK
        refine own_append_wp Lay.u8 (w.heap.size + 1) (.tmp 22) (.tmp 27) _ _ (.int .u8 0) 1 rfl Tryz.underlying43 infoB rfl (by omega) (by decide) (.slice f1 f2 f3) _ [UInt8.ofNat tb] [.int .u8 tb] ⟨W3.heap.size, 0, none⟩ 1 1 rfl rfl rfl H4.out.1 (Lay.all_single (congrArg (fun v => [v]) (ofNat_cell tb htb2.out).symm)) (fun j u hj => by rw [addr_add, Nat.zero_add, H4.out.2.2.2.cell]; simpa using hj) (Nat.le_trans hlow.out H4.out.2.1.size) (by have := hcq.out; rw [hka.out] at this; simp only [List.length_append, List.length_cons, List.length_nil] at this ⊢; omega) ?_
        intro v6 w6 q1 q2 q3
        refine hK _ _ ?_
        have hV1 := Lib.hid (show OwnB (w.heap.size + 1) w6 v6 (uleb ls.length ++ (ls.take (i + 1)).flatMap locBytes) from by
          rw [htk.out, hka.out]
          simpa using q1)
        have hF6 := Lib.hid (show Fr (fun k => some k = u3.ownBlock ∨ wr.heap.size ≤ k) wr w6 from by
          refine Fr.trans (Ext.fr hxv.out H4.out.2.1) q2 (fun k _ h => .inl h) (fun k hk h => ?_)
          rcases H4.out.2.2.1 k h.symm with h' | h'
          · exact .inl h'.symm
          · have := hxv.out.size; have := (ext_alloc W3 (.cells #[.int .u8 tb] 5)).size; exact .inr (by omega))
        clear hK K q1 q2 q3
        repeat (apply item_take; rfl; rfl; rfl; rfl; exact fun _ _ _ _ h => h; (intro W hE K hK; go_simp; exact hK))
        apply items_done
        have hB1 := Lib.hid (hB.out.fr hF6.out (fun e => by
          rcases e with e | e
          · have := (hV.out.lt _ e.symm).1; omega
          · have := hB.out.lt; omega))
        have hX1 := Lib.hid (show Ext w w6 from Fr.new (Ext.fr hX.out hF6.out) (fun k e => by
          rcases e with e | e
          · have := (hV.out.lt _ e.symm).1; omega
          · have := hX.out.size; omega))
        go_wp2
        go_roundw
        case rel => exact ⟨i + 1, by omega, by go_num, hV1, hB1, hX1⟩
        case measure => simp [intOf]; omega
    · obtain rfl : i = ls.length := by omega
      have hcB := hB.out.cell
      go_wp2_with fail
      refine (instrsBytes_calls n l a2 n2 c2 A wr (Lay.fr H.out.2.1 hX.out (fun k hk => ⟨H.out.2.2.1 k hk, fun h => h⟩)) (fun k hk => Nat.lt_of_lt_of_le (H.out.2.2.1 k hk) hX.out.size) (by have := hcap.out; omega)).mono ?_
      rintro e w5 ⟨v5, rfl, o5, x5⟩
      obtain ⟨g1', g2', g3', rfl⟩ := o5.shape
      have H5 := Lib.hid (And.intro o5 x5)
      clear o5 x5 hcB
      go_wp2_with (at_builtin; refine Hid.out ?_)
      refine own_appends Lay.u8 (w.heap.size + 1) rfl (.tmp 30) (.tmp 33) _ _ (.int .u8 0) 1 rfl Tryz.underlying43 infoB rfl (by omega) (by decide) u3 _ _ g1' g2' g3' rfl rfl (hV.out.ext H5.out.2) H5.out.1.slice (fun _ h => Lay.all_flat Lay.flat_u8 h) (by have := hB.out.lt; have := H5.out.2.size; omega) (by have := hcap.out; rw [List.take_length]; simp only [List.length_append, List.length_cons, List.length_nil]; omega) ?_
      intro v6 w6 k1 k2 k3
      have hfin := Lib.hid (show OwnB w.heap.size w6 v6 (codeSp ls l) ∧ Ext w w6 from ⟨by
        rw [List.take_length] at k1
        have := k1.lower (lo' := w.heap.size) (by omega)
        simpa [codeSp] using this, Fr.new (Ext.fr (Ext.trans hX.out H5.out.2) k2) (fun k e => by have := (hV.out.lt k e.symm).1; omega)⟩)
      obtain ⟨r1, r2, r3, rfl⟩ := k1.shape
      clear k1 k2 k3
      go_wp2
      go_ret
      exact ⟨_, rfl, hfin.out.1, hfin.out.2⟩
end Go.Proofs.YtbdahjpdjamgiaaGreatDoor
