/- What bytes are written to: an object behind an io.Writer that holds bytes; LEB128 written to it. -/
import Derived.Test.YtkbadfljmbeciaaGreatDoorLibC
import Derived.Test.YtkbadfljmbeciaaGreatDoorLeb
namespace Go.Proofs.YtkbadfljmbeciaaGreatDoor
open Go.RowKit
/-- One that an io.Writer leads to. -/
structure Sink extends Hold where
  T : TypeId
  f : FuncId
  nil : ∀ (g : Nat) (W : World), (nilAhead 496 T (.pointer (some ⟨g, 0, none⟩)) "Write").run Tryz.prog W = .ok (some false) W
  meth : ∀ (g : Nat) (W : World), (method 496 T (.pointer (some ⟨g, 0, none⟩)) "Write").run Tryz.prog W = .ok (f, .pointer (some ⟨g, 0, none⟩)) W
  call : ∀ (args : Array Value) (W : World), (callFunc f args).run Tryz.prog W = .ok (.enter f args) W
  write : ∀ (lo g : Nat) (bs ys : List UInt8) (w : World) (A : Nat → Prop) (aa : Option Addr) (m c : Nat), is lo g bs w → Lay.u8.slice.rd A w [.slice aa m c] ys → lo ≤ w.heap.size → bs.length + ys.length ≤ 70368744177664 →
    Calls Tryz.prog f #[.pointer (some ⟨g, 0, none⟩), .slice aa m c] w fun e w' => e = .returned (.tuple #[.int .i64 m, .nilIface]) ∧ is lo g (bs ++ ys) w' ∧ Fr (foot w g) w w' ∧ ∀ k, foot w' g k → foot w g k ∨ w.heap.size ≤ k

set_option maxRecDepth 100000 in
set_option maxHeartbeats 400000 in
theorem WriteVarUint32_calls (S : Sink) (lo g n : Nat) (hn : n < 4294967296) (bs : List UInt8) (w : World) (hS : S.is lo g bs w) (hlo : lo ≤ w.heap.size) (hl : bs.length + 10 ≤ 70368744177664) :
    Calls Tryz.prog 61 #[.iface S.T (.pointer (some ⟨g, 0, none⟩)), .int .u32 n] w fun e w' => e = .returned .nilIface ∧ Wrote S.toHold lo g w (bs ++ uleb n) w' := by
  have hna := S.nil g
  have hme := S.meth g
  have hcf := S.call
  have e1 : IntKind.u64.wrap (n : Int) = n := by rw [IntKind.wrap_u64]; omega
  have hS := Lib.hid hS
  have hlo := Lib.hid hlo
  have hl := Lib.hid hl
  go_enter Tryz.func61, Tryz.ntmps61
  go_wp2_with fail
  refine region_items (frFrm (S.foot w g)) [(0, .take), (1, .take), (2, .take), (3, .take), (5, .take), (6, .take), (7, .take), (4, .run), (8, .run), (9, .take), (10, .take), (11, .take), (12, .take), (13, .take)] (by kernel_rfl) (by kernel_rfl) ?_
  simp only [itemsOf, List.getD_cons_zero, List.getD_cons_succ]
  repeat (apply item_take; rfl; rfl; rfl; rfl; exact fun _ _ _ _ h => h; (intro W hE K hK; go_simp; exact hK))
  apply item_run; rfl; intro K hK; go_simp
  refine (appendUleb_calls n (by omega) w.heap.size (.slice none 0 0) [] w.drew (own_nil _ _ _ _) (Nat.le_refl _) (by simp)).mono ?_
  rintro e w1 ⟨v1, rfl, h1, h2, h3⟩
  have hxE : Ext w.drew w1 := h2.mono (fun k _ h => by simp [Value.ownBlock] at h)
  have hx := Lib.hid ((ext_drew w).trans hxE)
  refine hK _ _ hxE.to ?_
  clear hK K hxE
  rw [List.nil_append] at h1
  obtain ⟨aa, cap, rfl, -, -⟩ := h1.form
  have H := Lib.hid h1.slice
  clear h1 h2 h3
  have hS1 := Lib.hid (S.frame hS.out hx.out (fun _ _ h => h))
  apply item_run; rfl; intro K hK; go_simp
  refine (S.write lo g bs (uleb n) w1 _ aa _ cap hS1.out.1 H.out (Nat.le_trans hlo.out hx.out.size) (by have := uleb_len64 n (by omega); have := hl.out; omega)).mono ?_
  rintro e w2 ⟨rfl, h1, h2, h3⟩
  have hW : Hid (Wrote S.toHold lo g w (bs ++ uleb n) w2) := Wrote.after hS.out hx.out ⟨h1, h2, h3⟩
  refine hK _ _ (h2.mono fun k _ hk => (hS1.out.2 k).1 hk) ?_
  clear hK K h1 h2 h3
  repeat (apply item_take; rfl; rfl; rfl; rfl; exact fun _ _ _ _ h => h; (intro W hE K hK; go_simp; exact hK))
  apply items_done
  go_wp2
  go_ret
  exact ⟨rfl, hW.out⟩
set_option maxRecDepth 100000 in
set_option maxHeartbeats 400000 in
theorem WriteVarUint64_calls (S : Sink) (lo g n : Nat) (hn : n < 18446744073709551616) (bs : List UInt8) (w : World) (hS : S.is lo g bs w) (hlo : lo ≤ w.heap.size) (hl : bs.length + 10 ≤ 70368744177664) :
    Calls Tryz.prog 75 #[.iface S.T (.pointer (some ⟨g, 0, none⟩)), .int .u64 n] w fun e w' => e = .returned .nilIface ∧ Wrote S.toHold lo g w (bs ++ uleb n) w' := by
  have hna := S.nil g
  have hme := S.meth g
  have hcf := S.call
  have hS := Lib.hid hS
  have hlo := Lib.hid hlo
  have hl := Lib.hid hl
  go_enter Tryz.func75, Tryz.ntmps75
  go_wp2_with fail
  refine region_items (frFrm (S.foot w g)) [(0, .take), (1, .take), (2, .take), (4, .take), (5, .take), (6, .take), (3, .run), (7, .run), (8, .take), (9, .take), (10, .take), (11, .take), (12, .take)] (by kernel_rfl) (by kernel_rfl) ?_
  simp only [itemsOf, List.getD_cons_zero, List.getD_cons_succ]
  repeat (apply item_take; rfl; rfl; rfl; rfl; exact fun _ _ _ _ h => h; (intro W hE K hK; go_simp; exact hK))
  apply item_run; rfl; intro K hK; go_simp
  refine (appendUleb_calls n hn w.heap.size (.slice none 0 0) [] w.drew (own_nil _ _ _ _) (Nat.le_refl _) (by simp)).mono ?_
  rintro e w1 ⟨v1, rfl, h1, h2, h3⟩
  have hxE : Ext w.drew w1 := h2.mono (fun k _ h => by simp [Value.ownBlock] at h)
  have hx := Lib.hid ((ext_drew w).trans hxE)
  refine hK _ _ hxE.to ?_
  clear hK K hxE
  rw [List.nil_append] at h1
  obtain ⟨aa, cap, rfl, -, -⟩ := h1.form
  have H := Lib.hid h1.slice
  clear h1 h2 h3
  have hS1 := Lib.hid (S.frame hS.out hx.out (fun _ _ h => h))
  apply item_run; rfl; intro K hK; go_simp
  refine (S.write lo g bs (uleb n) w1 _ aa _ cap hS1.out.1 H.out (Nat.le_trans hlo.out hx.out.size) (by have := uleb_len64 n hn; have := hl.out; omega)).mono ?_
  rintro e w2 ⟨rfl, h1, h2, h3⟩
  have hW : Hid (Wrote S.toHold lo g w (bs ++ uleb n) w2) := Wrote.after hS.out hx.out ⟨h1, h2, h3⟩
  refine hK _ _ (h2.mono fun k _ hk => (hS1.out.2 k).1 hk) ?_
  clear hK K h1 h2 h3
  repeat (apply item_take; rfl; rfl; rfl; rfl; exact fun _ _ _ _ h => h; (intro W hE K hK; go_simp; exact hK))
  apply items_done
  go_wp2
  go_ret
  exact ⟨rfl, hW.out⟩
set_option maxRecDepth 100000 in
set_option maxHeartbeats 400000 in
theorem WriteVarInt32_calls (S : Sink) (lo g : Nat) (n : Int) (hn : -2147483648 ≤ n ∧ n ≤ 2147483647) (bs : List UInt8) (w : World) (hS : S.is lo g bs w) (hlo : lo ≤ w.heap.size) (hl : bs.length + 10 ≤ 70368744177664) :
    Calls Tryz.prog 73 #[.iface S.T (.pointer (some ⟨g, 0, none⟩)), .int .i32 n] w fun e w' => e = .returned .nilIface ∧ Wrote S.toHold lo g w (bs ++ sleb n) w' := by
  have hna := S.nil g
  have hme := S.meth g
  have hcf := S.call
  have e1 : IntKind.i64.wrap n = n := by rw [IntKind.wrap_i64]; omega
  have hS := Lib.hid hS
  have hlo := Lib.hid hlo
  have hl := Lib.hid hl
  go_enter Tryz.func73, Tryz.ntmps73
  go_wp2_with fail
  refine region_items (frFrm (S.foot w g)) [(0, .take), (1, .take), (2, .take), (3, .take), (5, .take), (6, .take), (7, .take), (4, .run), (8, .run), (9, .take), (10, .take), (11, .take), (12, .take), (13, .take)] (by kernel_rfl) (by kernel_rfl) ?_
  simp only [itemsOf, List.getD_cons_zero, List.getD_cons_succ]
  repeat (apply item_take; rfl; rfl; rfl; rfl; exact fun _ _ _ _ h => h; (intro W hE K hK; go_simp; exact hK))
  apply item_run; rfl; intro K hK; go_simp
  refine (appendSleb_calls n (by omega) w.heap.size (.slice none 0 0) [] w.drew (own_nil _ _ _ _) (Nat.le_refl _) (by simp)).mono ?_
  rintro e w1 ⟨v1, rfl, h1, h2, h3⟩
  have hxE : Ext w.drew w1 := h2.mono (fun k _ h => by simp [Value.ownBlock] at h)
  have hx := Lib.hid ((ext_drew w).trans hxE)
  refine hK _ _ hxE.to ?_
  clear hK K hxE
  rw [List.nil_append] at h1
  obtain ⟨aa, cap, rfl, -, -⟩ := h1.form
  have H := Lib.hid h1.slice
  clear h1 h2 h3
  have hS1 := Lib.hid (S.frame hS.out hx.out (fun _ _ h => h))
  apply item_run; rfl; intro K hK; go_simp
  refine (S.write lo g bs (sleb n) w1 _ aa _ cap hS1.out.1 H.out (Nat.le_trans hlo.out hx.out.size) (by have := sleb_len64 n (by omega) (by omega); have := hl.out; omega)).mono ?_
  rintro e w2 ⟨rfl, h1, h2, h3⟩
  have hW : Hid (Wrote S.toHold lo g w (bs ++ sleb n) w2) := Wrote.after hS.out hx.out ⟨h1, h2, h3⟩
  refine hK _ _ (h2.mono fun k _ hk => (hS1.out.2 k).1 hk) ?_
  clear hK K h1 h2 h3
  repeat (apply item_take; rfl; rfl; rfl; rfl; exact fun _ _ _ _ h => h; (intro W hE K hK; go_simp; exact hK))
  apply items_done
  go_wp2
  go_ret
  exact ⟨rfl, hW.out⟩
set_option maxRecDepth 100000 in
set_option maxHeartbeats 400000 in
theorem WriteVarInt64_calls (S : Sink) (lo g : Nat) (n : Int) (hn : -9223372036854775808 ≤ n ∧ n ≤ 9223372036854775807) (bs : List UInt8) (w : World) (hS : S.is lo g bs w) (hlo : lo ≤ w.heap.size) (hl : bs.length + 10 ≤ 70368744177664) :
    Calls Tryz.prog 74 #[.iface S.T (.pointer (some ⟨g, 0, none⟩)), .int .i64 n] w fun e w' => e = .returned .nilIface ∧ Wrote S.toHold lo g w (bs ++ sleb n) w' := by
  have hna := S.nil g
  have hme := S.meth g
  have hcf := S.call
  have hS := Lib.hid hS
  have hlo := Lib.hid hlo
  have hl := Lib.hid hl
  go_enter Tryz.func74, Tryz.ntmps74
  go_wp2_with fail
  refine region_items (frFrm (S.foot w g)) [(0, .take), (1, .take), (2, .take), (4, .take), (5, .take), (6, .take), (3, .run), (7, .run), (8, .take), (9, .take), (10, .take), (11, .take), (12, .take)] (by kernel_rfl) (by kernel_rfl) ?_
  simp only [itemsOf, List.getD_cons_zero, List.getD_cons_succ]
  repeat (apply item_take; rfl; rfl; rfl; rfl; exact fun _ _ _ _ h => h; (intro W hE K hK; go_simp; exact hK))
  apply item_run; rfl; intro K hK; go_simp
  refine (appendSleb_calls n hn w.heap.size (.slice none 0 0) [] w.drew (own_nil _ _ _ _) (Nat.le_refl _) (by simp)).mono ?_
  rintro e w1 ⟨v1, rfl, h1, h2, h3⟩
  have hxE : Ext w.drew w1 := h2.mono (fun k _ h => by simp [Value.ownBlock] at h)
  have hx := Lib.hid ((ext_drew w).trans hxE)
  refine hK _ _ hxE.to ?_
  clear hK K hxE
  rw [List.nil_append] at h1
  obtain ⟨aa, cap, rfl, -, -⟩ := h1.form
  have H := Lib.hid h1.slice
  clear h1 h2 h3
  have hS1 := Lib.hid (S.frame hS.out hx.out (fun _ _ h => h))
  apply item_run; rfl; intro K hK; go_simp
  refine (S.write lo g bs (sleb n) w1 _ aa _ cap hS1.out.1 H.out (Nat.le_trans hlo.out hx.out.size) (by have := sleb_len64 n hn.1 hn.2; have := hl.out; omega)).mono ?_
  rintro e w2 ⟨rfl, h1, h2, h3⟩
  have hW : Hid (Wrote S.toHold lo g w (bs ++ sleb n) w2) := Wrote.after hS.out hx.out ⟨h1, h2, h3⟩
  refine hK _ _ (h2.mono fun k _ hk => (hS1.out.2 k).1 hk) ?_
  clear hK K h1 h2 h3
  repeat (apply item_take; rfl; rfl; rfl; rfl; exact fun _ _ _ _ h => h; (intro W hE K hK; go_simp; exact hK))
  apply items_done
  go_wp2
  go_ret
  exact ⟨rfl, hW.out⟩

/-! ### The thin package's writer -/
abbrev IsW := IsB 143
set_option maxRecDepth 100000 in
set_option maxHeartbeats 400000 in
theorem writer_Write_calls (lo g : Nat) (bs ys : List UInt8) (w : World) (A : Nat → Prop) (aa : Option Addr) (m c : Nat) (hS : IsW lo g bs w) (hR : Lay.u8.slice.rd A w [.slice aa m c] ys) (hlo : lo ≤ w.heap.size) (hl : bs.length + ys.length ≤ 70368744177664) :
    Calls Tryz.prog 121 #[.pointer (some ⟨g, 0, none⟩), .slice aa m c] w fun e w' => e = .returned (.tuple #[.int .i64 m, .nilIface]) ∧ IsW lo g (bs ++ ys) w' ∧ Fr (foot1 w g) w w' ∧ ∀ k, foot1 w' g k → foot1 w g k ∨ w.heap.size ≤ k := by
  have hS0 := Lib.hid hS
  obtain ⟨hg, v, hb, ho, hne⟩ := hS
  have hc := hb.cell 0
  have hf := hb.frz 0
  simp only [List.getElem?_toArray, List.getElem?_cons_zero] at hc
  have H := Lib.hid (And.intro hg (And.intro hb (And.intro ho (And.intro hne (And.intro hR (And.intro hlo hl))))))
  clear hg hb ho hne hR hlo hl
  go_enter Tryz.func121, Tryz.ntmps121
  go_wp2_with (at_builtin; refine Hid.out ?_)
  obtain ⟨hg, hb, ho, hne, hR, hlo, hl⟩ := H.out
  refine own_appends Lay.u8 lo rfl (.tmp 10) (.tmp 11) _ _ (.int .u8 0) 1 rfl Tryz.underlying43 infoB rfl (by omega) (by decide) v bs ys aa m c rfl rfl ho hR (fun _ h => Lay.all_flat Lay.flat_u8 h) hlo (by omega) ?_
  intro v1 w1 h1 h2 h3
  clear hc hf
  have hb1 := hb.fr h2 (fun e => hne e.symm)
  have hc1 := hb1.cell 0
  have hf1 := hb1.frz 0
  simp only [List.getElem?_toArray, List.getElem?_cons_zero] at hc1
  obtain ⟨aa1, n1, cap1, e1⟩ := h1.shape
  subst e1
  have H1 := Lib.hid (And.intro h1 (And.intro h2 h3))
  clear hg hb ho hne hR hlo hl h1 h2 h3 hb1
  go_wp2
  go_ret2
  obtain ⟨hg, hb, ho, hne, hR, hlo, hl⟩ := H.out
  obtain ⟨h1, h2, h3⟩ := H1.out
  exact ⟨rfl, (isB_step hg hb hne h1 h2 h3).is, (isB_step hg hb hne h1 h2 h3).fr, (isB_step hg hb hne h1 h2 h3).foot⟩
set_option maxRecDepth 100000 in
def sinkW : Sink where
  toHold := holdB 143
  T := 141
  f := 121
  nil _ _ := by kernel_rfl
  meth _ _ := by kernel_rfl
  call _ _ := by kernel_rfl
  write := writer_Write_calls
end Go.Proofs.YtkbadfljmbeciaaGreatDoor
