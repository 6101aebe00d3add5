/- What bytes are written to: an object behind an io.Writer that holds bytes; LEB128 written to it. -/
import Derived.Test.YtgfnbdfmigcmbaaLeb
namespace Go.Proofs.Ytgfnbdfmigcmbaa
open Go.RowKit

/-- The block g and the array that its first cell leads to. -/
def foot1 (w : World) (g : Nat) : Nat → Prop := fun k => k = g ∨ ∃ v, w.cell? ⟨g, 0, none⟩ = some v ∧ v.ownBlock = some k

/-- An object that holds bytes, and the blocks that are its own. -/
structure Hold where
  is : Nat → Nat → List UInt8 → World → Prop
  foot : World → Nat → Nat → Prop
  lt : ∀ {lo g bs w}, is lo g bs w → ∀ k, foot w g k → lo ≤ k ∧ k < w.heap.size
  frame : ∀ {lo g bs w w' S}, is lo g bs w → Fr S w w' → (∀ k, foot w g k → ¬ S k) → is lo g bs w' ∧ ∀ k, foot w' g k ↔ foot w g k
/-- One that an io.Writer leads to. -/
structure Sink extends Hold where
  T : TypeId
  f : FuncId
  nil : ∀ (g : Nat) (W : World), (nilAhead 245 T (.pointer (some ⟨g, 0, none⟩)) "Write").run Try.prog W = .ok (some false) W
  meth : ∀ (g : Nat) (W : World), (method 245 T (.pointer (some ⟨g, 0, none⟩)) "Write").run Try.prog W = .ok (f, .pointer (some ⟨g, 0, none⟩)) W
  call : ∀ (args : Array Value) (W : World), (callFunc f args).run Try.prog W = .ok (.enter f args) W
  write : ∀ (lo g : Nat) (bs ys : List UInt8) (w : World) (A : Nat → Prop) (aa : Option Addr) (m c : Nat), is lo g bs w → Lay.u8.slice.rd A w [.slice aa m c] ys → lo ≤ w.heap.size → bs.length + ys.length ≤ 70368744177664 →
    Calls Try.prog f #[.pointer (some ⟨g, 0, none⟩), .slice aa m c] w fun e w' => e = .returned (.tuple #[.int .i64 m, .nilIface]) ∧ is lo g (bs ++ ys) w' ∧ Fr (foot w g) w w' ∧ ∀ k, foot w' g k → foot w g k ∨ w.heap.size ≤ k

/-- What a write leaves. -/
structure Wrote (S : Hold) (lo g : Nat) (w : World) (bs : List UInt8) (w' : World) : Prop where
  is : S.is lo g bs w'
  fr : Fr (S.foot w g) w w'
  foot : ∀ k, S.foot w' g k → S.foot w g k ∨ w.heap.size ≤ k
theorem Wrote.trans {S : Hold} {lo g : Nat} {w w1 w2 : World} {bs bs' : List UInt8} (h : Wrote S lo g w bs w1) (k : Wrote S lo g w1 bs' w2) : Wrote S lo g w bs' w2 :=
  ⟨k.is, h.fr.trans k.fr (fun _ _ h => h) (fun i hi hs => by
    rcases h.foot i hs with h' | h'
    · exact h'
    · omega), fun i hi => by
    rcases k.foot i hi with h' | h'
    · exact h.foot i h'
    · have := h.fr.size
      exact .inr (by omega)⟩
theorem Wrote.refl {S : Hold} {lo g : Nat} {w : World} {bs : List UInt8} (h : S.is lo g bs w) : Wrote S lo g w bs w := ⟨h, Fr.refl _ _, fun _ h => .inl h⟩
/-- Something new is made first. -/
theorem Wrote.after {S : Hold} {lo g : Nat} {w w1 w2 : World} {bs bs' : List UInt8} (h : S.is lo g bs w) (hx : Ext w w1) (k : Wrote S lo g w1 bs' w2) : Wrote S lo g w bs' w2 :=
  Wrote.trans ⟨(S.frame h hx (fun _ _ h => h)).1, hx.to, fun i hi => .inl (((S.frame h hx (fun _ _ h => h)).2 i).1 hi)⟩ k
theorem Wrote.ext {S : Hold} {lo g : Nat} {w w1 w2 : World} {bs : List UInt8} (h : Wrote S lo g w bs w1) (hx : Ext w1 w2) : Wrote S lo g w bs w2 :=
  h.trans ⟨(S.frame h.is hx (fun _ _ h => h)).1, hx.to, fun i hi => .inl (((S.frame h.is hx (fun _ _ h => h)).2 i).1 hi)⟩
/-- All that lies below lo stands. -/
theorem Wrote.below {S : Hold} {lo g : Nat} {w w' : World} {bs0 bs : List UInt8} (h : S.is lo g bs0 w) (hw : Wrote S lo g w bs w') : Fr (fun k => lo ≤ k) w w' := hw.fr.mono fun k _ hk => (S.lt h k hk).1

set_option maxRecDepth 100000 in
set_option maxHeartbeats 400000 in
theorem WriteVarUint32_calls (S : Sink) (lo g n : Nat) (hn : n < 4294967296) (bs : List UInt8) (w : World) (hS : S.is lo g bs w) (hlo : lo ≤ w.heap.size) (hl : bs.length + 10 ≤ 70368744177664) :
    Calls Try.prog 23 #[.iface S.T (.pointer (some ⟨g, 0, none⟩)), .int .u32 n] w fun e w' => e = .returned .nilIface ∧ Wrote S.toHold lo g w (bs ++ uleb n) w' := by
  have hna := S.nil g
  have hme := S.meth g
  have hcf := S.call
  have e1 : IntKind.u64.wrap (n : Int) = n := by rw [IntKind.wrap_u64]; omega
  have hS := Lib.hid hS
  have hlo := Lib.hid hlo
  have hl := Lib.hid hl
  go_enter Try.func23, Try.ntmps23
  go_wp2_with fail
  refine region_items (frFrm (S.foot w g)) [(0, .take), (1, .take), (2, .take), (3, .take), (5, .take), (6, .take), (7, .take), (4, .run), (8, .run), (9, .take), (10, .take), (11, .take), (12, .take), (13, .take)] (by kernel_rfl) (by kernel_rfl) ?_
  simp only [itemsOf, List.getD_cons_zero, List.getD_cons_succ]
  repeat (apply item_take; rfl; rfl; rfl; rfl; exact fun _ _ _ _ h => h; (intro W hE K hK; go_simp; exact hK))
  apply item_run; rfl; intro K hK; go_simp
  refine (appendUleb_calls n (by omega) w.heap.size (.slice none 0 0) [] w.drew (own_nil _ _ _ _) (Nat.le_refl _) (by simp)).mono ?_
  rintro e w1 ⟨v1, rfl, h1, h2, h3⟩
  have hxE : Ext w.drew w1 := h2.mono (fun k _ h => by simp [Value.ownBlock] at h)
  have hx := Lib.hid ((ext_drew w).trans hxE)
  refine hK _ _ hxE.to ?_
  clear hK K hxE
  rw [List.nil_append] at h1
  obtain ⟨aa, cap, rfl, -, -⟩ := h1.form
  have H := Lib.hid h1.slice
  clear h1 h2 h3
  have hS1 := Lib.hid (S.frame hS.out hx.out (fun _ _ h => h))
  apply item_run; rfl; intro K hK; go_simp
  refine (S.write lo g bs (uleb n) w1 _ aa _ cap hS1.out.1 H.out (Nat.le_trans hlo.out hx.out.size) (by have := uleb_len64 n (by omega); have := hl.out; omega)).mono ?_
  rintro e w2 ⟨rfl, h1, h2, h3⟩
  have hW : Hid (Wrote S.toHold lo g w (bs ++ uleb n) w2) := Wrote.after hS.out hx.out ⟨h1, h2, h3⟩
  refine hK _ _ (h2.mono fun k _ hk => (hS1.out.2 k).1 hk) ?_
  clear hK K h1 h2 h3
  repeat (apply item_take; rfl; rfl; rfl; rfl; exact fun _ _ _ _ h => h; (intro W hE K hK; go_simp; exact hK))
  apply items_done
  go_wp2
  go_ret
  exact ⟨rfl, hW.out⟩
set_option maxRecDepth 100000 in
set_option maxHeartbeats 400000 in
theorem WriteVarUint64_calls (S : Sink) (lo g n : Nat) (hn : n < 18446744073709551616) (bs : List UInt8) (w : World) (hS : S.is lo g bs w) (hlo : lo ≤ w.heap.size) (hl : bs.length + 10 ≤ 70368744177664) :
    Calls Try.prog 32 #[.iface S.T (.pointer (some ⟨g, 0, none⟩)), .int .u64 n] w fun e w' => e = .returned .nilIface ∧ Wrote S.toHold lo g w (bs ++ uleb n) w' := by
  have hna := S.nil g
  have hme := S.meth g
  have hcf := S.call
  have hS := Lib.hid hS
  have hlo := Lib.hid hlo
  have hl := Lib.hid hl
  go_enter Try.func32, Try.ntmps32
  go_wp2_with fail
  refine region_items (frFrm (S.foot w g)) [(0, .take), (1, .take), (2, .take), (4, .take), (5, .take), (6, .take), (3, .run), (7, .run), (8, .take), (9, .take), (10, .take), (11, .take), (12, .take)] (by kernel_rfl) (by kernel_rfl) ?_
  simp only [itemsOf, List.getD_cons_zero, List.getD_cons_succ]
  repeat (apply item_take; rfl; rfl; rfl; rfl; exact fun _ _ _ _ h => h; (intro W hE K hK; go_simp; exact hK))
  apply item_run; rfl; intro K hK; go_simp
  refine (appendUleb_calls n hn w.heap.size (.slice none 0 0) [] w.drew (own_nil _ _ _ _) (Nat.le_refl _) (by simp)).mono ?_
  rintro e w1 ⟨v1, rfl, h1, h2, h3⟩
  have hxE : Ext w.drew w1 := h2.mono (fun k _ h => by simp [Value.ownBlock] at h)
  have hx := Lib.hid ((ext_drew w).trans hxE)
  refine hK _ _ hxE.to ?_
  clear hK K hxE
  rw [List.nil_append] at h1
  obtain ⟨aa, cap, rfl, -, -⟩ := h1.form
  have H := Lib.hid h1.slice
  clear h1 h2 h3
  have hS1 := Lib.hid (S.frame hS.out hx.out (fun _ _ h => h))
  apply item_run; rfl; intro K hK; go_simp
  refine (S.write lo g bs (uleb n) w1 _ aa _ cap hS1.out.1 H.out (Nat.le_trans hlo.out hx.out.size) (by have := uleb_len64 n hn; have := hl.out; omega)).mono ?_
  rintro e w2 ⟨rfl, h1, h2, h3⟩
  have hW : Hid (Wrote S.toHold lo g w (bs ++ uleb n) w2) := Wrote.after hS.out hx.out ⟨h1, h2, h3⟩
  refine hK _ _ (h2.mono fun k _ hk => (hS1.out.2 k).1 hk) ?_
  clear hK K h1 h2 h3
  repeat (apply item_take; rfl; rfl; rfl; rfl; exact fun _ _ _ _ h => h; (intro W hE K hK; go_simp; exact hK))
  apply items_done
  go_wp2
  go_ret
  exact ⟨rfl, hW.out⟩
set_option maxRecDepth 100000 in
set_option maxHeartbeats 400000 in
theorem WriteVarInt32_calls (S : Sink) (lo g : Nat) (n : Int) (hn : -2147483648 ≤ n ∧ n ≤ 2147483647) (bs : List UInt8) (w : World) (hS : S.is lo g bs w) (hlo : lo ≤ w.heap.size) (hl : bs.length + 10 ≤ 70368744177664) :
    Calls Try.prog 30 #[.iface S.T (.pointer (some ⟨g, 0, none⟩)), .int .i32 n] w fun e w' => e = .returned .nilIface ∧ Wrote S.toHold lo g w (bs ++ sleb n) w' := by
  have hna := S.nil g
  have hme := S.meth g
  have hcf := S.call
  have e1 : IntKind.i64.wrap n = n := by rw [IntKind.wrap_i64]; omega
  have hS := Lib.hid hS
  have hlo := Lib.hid hlo
  have hl := Lib.hid hl
  go_enter Try.func30, Try.ntmps30
  go_wp2_with fail
  refine region_items (frFrm (S.foot w g)) [(0, .take), (1, .take), (2, .take), (3, .take), (5, .take), (6, .take), (7, .take), (4, .run), (8, .run), (9, .take), (10, .take), (11, .take), (12, .take), (13, .take)] (by kernel_rfl) (by kernel_rfl) ?_
  simp only [itemsOf, List.getD_cons_zero, List.getD_cons_succ]
  repeat (apply item_take; rfl; rfl; rfl; rfl; exact fun _ _ _ _ h => h; (intro W hE K hK; go_simp; exact hK))
  apply item_run; rfl; intro K hK; go_simp
  refine (appendSleb_calls n (by omega) w.heap.size (.slice none 0 0) [] w.drew (own_nil _ _ _ _) (Nat.le_refl _) (by simp)).mono ?_
  rintro e w1 ⟨v1, rfl, h1, h2, h3⟩
  have hxE : Ext w.drew w1 := h2.mono (fun k _ h => by simp [Value.ownBlock] at h)
  have hx := Lib.hid ((ext_drew w).trans hxE)
  refine hK _ _ hxE.to ?_
  clear hK K hxE
  rw [List.nil_append] at h1
  obtain ⟨aa, cap, rfl, -, -⟩ := h1.form
  have H := Lib.hid h1.slice
  clear h1 h2 h3
  have hS1 := Lib.hid (S.frame hS.out hx.out (fun _ _ h => h))
  apply item_run; rfl; intro K hK; go_simp
  refine (S.write lo g bs (sleb n) w1 _ aa _ cap hS1.out.1 H.out (Nat.le_trans hlo.out hx.out.size) (by have := sleb_len64 n (by omega) (by omega); have := hl.out; omega)).mono ?_
  rintro e w2 ⟨rfl, h1, h2, h3⟩
  have hW : Hid (Wrote S.toHold lo g w (bs ++ sleb n) w2) := Wrote.after hS.out hx.out ⟨h1, h2, h3⟩
  refine hK _ _ (h2.mono fun k _ hk => (hS1.out.2 k).1 hk) ?_
  clear hK K h1 h2 h3
  repeat (apply item_take; rfl; rfl; rfl; rfl; exact fun _ _ _ _ h => h; (intro W hE K hK; go_simp; exact hK))
  apply items_done
  go_wp2
  go_ret
  exact ⟨rfl, hW.out⟩
set_option maxRecDepth 100000 in
set_option maxHeartbeats 400000 in
theorem WriteVarInt64_calls (S : Sink) (lo g : Nat) (n : Int) (hn : -9223372036854775808 ≤ n ∧ n ≤ 9223372036854775807) (bs : List UInt8) (w : World) (hS : S.is lo g bs w) (hlo : lo ≤ w.heap.size) (hl : bs.length + 10 ≤ 70368744177664) :
    Calls Try.prog 31 #[.iface S.T (.pointer (some ⟨g, 0, none⟩)), .int .i64 n] w fun e w' => e = .returned .nilIface ∧ Wrote S.toHold lo g w (bs ++ sleb n) w' := by
  have hna := S.nil g
  have hme := S.meth g
  have hcf := S.call
  have hS := Lib.hid hS
  have hlo := Lib.hid hlo
  have hl := Lib.hid hl
  go_enter Try.func31, Try.ntmps31
  go_wp2_with fail
  refine region_items (frFrm (S.foot w g)) [(0, .take), (1, .take), (2, .take), (4, .take), (5, .take), (6, .take), (3, .run), (7, .run), (8, .take), (9, .take), (10, .take), (11, .take), (12, .take)] (by kernel_rfl) (by kernel_rfl) ?_
  simp only [itemsOf, List.getD_cons_zero, List.getD_cons_succ]
  repeat (apply item_take; rfl; rfl; rfl; rfl; exact fun _ _ _ _ h => h; (intro W hE K hK; go_simp; exact hK))
  apply item_run; rfl; intro K hK; go_simp
  refine (appendSleb_calls n hn w.heap.size (.slice none 0 0) [] w.drew (own_nil _ _ _ _) (Nat.le_refl _) (by simp)).mono ?_
  rintro e w1 ⟨v1, rfl, h1, h2, h3⟩
  have hxE : Ext w.drew w1 := h2.mono (fun k _ h => by simp [Value.ownBlock] at h)
  have hx := Lib.hid ((ext_drew w).trans hxE)
  refine hK _ _ hxE.to ?_
  clear hK K hxE
  rw [List.nil_append] at h1
  obtain ⟨aa, cap, rfl, -, -⟩ := h1.form
  have H := Lib.hid h1.slice
  clear h1 h2 h3
  have hS1 := Lib.hid (S.frame hS.out hx.out (fun _ _ h => h))
  apply item_run; rfl; intro K hK; go_simp
  refine (S.write lo g bs (sleb n) w1 _ aa _ cap hS1.out.1 H.out (Nat.le_trans hlo.out hx.out.size) (by have := sleb_len64 n hn.1 hn.2; have := hl.out; omega)).mono ?_
  rintro e w2 ⟨rfl, h1, h2, h3⟩
  have hW : Hid (Wrote S.toHold lo g w (bs ++ sleb n) w2) := Wrote.after hS.out hx.out ⟨h1, h2, h3⟩
  refine hK _ _ (h2.mono fun k _ hk => (hS1.out.2 k).1 hk) ?_
  clear hK K h1 h2 h3
  repeat (apply item_take; rfl; rfl; rfl; rfl; exact fun _ _ _ _ h => h; (intro W hE K hK; go_simp; exact hK))
  apply items_done
  go_wp2
  go_ret
  exact ⟨rfl, hW.out⟩

/-! ### A block of one cell that leads to bytes -/
def IsB (T : TypeId) (lo g : Nat) (bs : List UInt8) (w : World) : Prop := lo ≤ g ∧ ∃ v, Blk w g #[v] T ∧ OwnB lo w v bs ∧ v.ownBlock ≠ some g
theorem IsB.lt {T : TypeId} {lo g : Nat} {bs : List UInt8} {w : World} (h : IsB T lo g bs w) : ∀ k, foot1 w g k → lo ≤ k ∧ k < w.heap.size := by
  obtain ⟨hg, v, hb, ho, hne⟩ := h
  rintro k (rfl | ⟨v', hc, hk⟩)
  · exact ⟨hg, hb.lt⟩
  · rw [hb.cell 0] at hc
    simp only [List.getElem?_toArray, List.getElem?_cons_zero, Option.some.injEq] at hc
    subst hc
    exact ho.lt k hk
theorem IsB.frame {T : TypeId} {lo g : Nat} {bs : List UInt8} {w w' : World} {S : Nat → Prop} (h : IsB T lo g bs w) (hf : Fr S w w') (hs : ∀ k, foot1 w g k → ¬ S k) : IsB T lo g bs w' ∧ ∀ k, foot1 w' g k ↔ foot1 w g k := by
  have hlt := h.lt
  obtain ⟨hg, v, hb, ho, hne⟩ := h
  have hc0 : w.cell? ⟨g, 0, none⟩ = some v := hb.cell 0
  have hb' := hb.fr hf (hs g (.inl rfl))
  have hc1 : w'.cell? ⟨g, 0, none⟩ = some v := hb'.cell 0
  refine ⟨⟨hg, v, hb', ?_, hne⟩, fun k => ?_⟩
  · exact Own.only Lay.flat_u8 ho hf (fun k hk => hs k (.inr ⟨v, hc0, hk⟩))
  · unfold foot1
    rw [hc0, hc1]
def holdB (T : TypeId) : Hold := ⟨IsB T, foot1, IsB.lt, IsB.frame⟩
theorem isB_new (T : TypeId) (w : World) : IsB T w.heap.size w.heap.size [] (w.alloc (.cells #[.slice none 0 0] T)) :=
  ⟨Nat.le_refl _, .slice none 0 0, blk_new w _ _, own_nil _ _ _ _, by simp [Value.ownBlock]⟩
/-- What was written to one of the call's own, read back off its one field. -/
theorem wrote_new {T : TypeId} {w w1 : World} {bs : List UInt8} (h : Wrote (holdB T) w.heap.size w.heap.size (w.alloc (.cells #[.slice none 0 0] T)) bs w1) :
    ∃ v, w1.cell? ⟨w.heap.size, 0, none⟩ = some v ∧ OwnB w.heap.size w1 v bs ∧ Ext w w1 := by
  obtain ⟨⟨hg, v, hb, ho, hne⟩, hf, -⟩ := h
  refine ⟨v, hb.cell 0, ho, Ext.fr (ext_alloc w _) hf |>.mono fun k hk hs => ?_⟩
  rcases hs with rfl | ⟨v', hc, hk'⟩
  · omega
  · rw [(blk_new w _ _).cell 0] at hc
    simp at hc
    subst hc
    simp [Value.ownBlock] at hk'
theorem isB_at (T : TypeId) (w : World) (n : Nat) (hn : w.heap.size = n) : (holdB T).is n n [] (w.alloc (.cells #[.slice none 0 0] T)) := by subst hn; exact isB_new T w
theorem wrote_at {T : TypeId} {w w1 : World} {bs : List UInt8} {n : Nat} (hn : w.heap.size = n) (h : Wrote (holdB T) n n (w.alloc (.cells #[.slice none 0 0] T)) bs w1) :
    ∃ v, w1.cell? ⟨n, 0, none⟩ = some v ∧ OwnB n w1 v bs ∧ Ext w w1 := by subst hn; exact wrote_new h
/-- The cell is read, a slice with more bytes in the same row or a new one is stored. -/
theorem isB_step {T : TypeId} {lo g : Nat} {bs' : List UInt8} {w w1 : World} {v v1 : Value} (hg : lo ≤ g) (hb : Blk w g #[v] T) (hne : v.ownBlock ≠ some g)
    (h1 : OwnB lo w1 v1 bs') (h2 : Fr (fun k => some k = v.ownBlock) w w1) (h3 : ∀ k, v1.ownBlock = some k → v.ownBlock = some k ∨ w.heap.size ≤ k) : Wrote (holdB T) lo g w bs' (w1.setCell ⟨g, 0, none⟩ v1) := by
  have hb1 := hb.fr h2 (fun e => hne e.symm)
  have hne1 : v1.ownBlock ≠ some g := fun e => by
    rcases h3 g e with h | h
    · exact hne h
    · have := hb.lt
      omega
  have hc0 : w.cell? ⟨g, 0, none⟩ = some v := hb.cell 0
  have hb2 : Blk (w1.setCell ⟨g, 0, none⟩ v1) g #[v1] _ := hb1.set 0 _
  refine ⟨⟨hg, _, hb2, Own.only Lay.flat_u8 h1 (fr_setCell w1 _ _) (fun k hk e => hne1 (by rw [hk, e])), hne1⟩, ?_, ?_⟩
  · exact h2.trans (fr_setCell w1 _ _) (fun k _ e => .inr ⟨v, hc0, e.symm⟩) (fun k _ e => .inl e)
  · rintro k (rfl | ⟨v', hc, hk⟩)
    · exact .inl (.inl rfl)
    · rw [hb2.cell 0] at hc
      simp at hc
      subst hc
      rcases h3 k hk with h | h
      · exact .inl (.inr ⟨v, hc0, h⟩)
      · exact .inr h

/-! ### The thin package's writer -/
abbrev IsW := IsB 50
set_option maxRecDepth 100000 in
set_option maxHeartbeats 400000 in
theorem writer_Write_calls (lo g : Nat) (bs ys : List UInt8) (w : World) (A : Nat → Prop) (aa : Option Addr) (m c : Nat) (hS : IsW lo g bs w) (hR : Lay.u8.slice.rd A w [.slice aa m c] ys) (hlo : lo ≤ w.heap.size) (hl : bs.length + ys.length ≤ 70368744177664) :
    Calls Try.prog 59 #[.pointer (some ⟨g, 0, none⟩), .slice aa m c] w fun e w' => e = .returned (.tuple #[.int .i64 m, .nilIface]) ∧ IsW lo g (bs ++ ys) w' ∧ Fr (foot1 w g) w w' ∧ ∀ k, foot1 w' g k → foot1 w g k ∨ w.heap.size ≤ k := by
  have hS0 := Lib.hid hS
  obtain ⟨hg, v, hb, ho, hne⟩ := hS
  have hc := hb.cell 0
  have hf := hb.frz 0
  simp only [List.getElem?_toArray, List.getElem?_cons_zero] at hc
  have H := Lib.hid (And.intro hg (And.intro hb (And.intro ho (And.intro hne (And.intro hR (And.intro hlo hl))))))
  clear hg hb ho hne hR hlo hl
  go_enter Try.func59, Try.ntmps59
  go_wp2_with (at_builtin; refine Hid.out ?_)
  obtain ⟨hg, hb, ho, hne, hR, hlo, hl⟩ := H.out
  refine own_appends Lay.u8 lo rfl (.tmp 10) (.tmp 11) _ _ (.int .u8 0) 1 rfl Try.underlying29 infoB rfl (by omega) (by decide) v bs ys aa m c rfl rfl ho hR (fun _ h => Lay.all_flat Lay.flat_u8 h) hlo (by omega) ?_
  intro v1 w1 h1 h2 h3
  clear hc hf
  have hb1 := hb.fr h2 (fun e => hne e.symm)
  have hc1 := hb1.cell 0
  have hf1 := hb1.frz 0
  simp only [List.getElem?_toArray, List.getElem?_cons_zero] at hc1
  obtain ⟨aa1, n1, cap1, e1⟩ := h1.shape
  subst e1
  have H1 := Lib.hid (And.intro h1 (And.intro h2 h3))
  clear hg hb ho hne hR hlo hl h1 h2 h3 hb1
  go_wp2
  go_ret2
  obtain ⟨hg, hb, ho, hne, hR, hlo, hl⟩ := H.out
  obtain ⟨h1, h2, h3⟩ := H1.out
  exact ⟨rfl, (isB_step hg hb hne h1 h2 h3).is, (isB_step hg hb hne h1 h2 h3).fr, (isB_step hg hb hne h1 h2 h3).foot⟩
set_option maxRecDepth 100000 in
def sinkW : Sink where
  toHold := holdB 50
  T := 48
  f := 59
  nil _ _ := by kernel_rfl
  meth _ _ := by kernel_rfl
  call _ _ := by kernel_rfl
  write := writer_Write_calls
end Go.Proofs.Ytgfnbdfmigcmbaa
