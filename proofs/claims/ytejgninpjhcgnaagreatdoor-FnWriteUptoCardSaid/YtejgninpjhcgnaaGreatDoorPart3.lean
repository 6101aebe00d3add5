/- Texts of this proof, one behind the other. -/
import Derived.Test.YtejgninpjhcgnaaGreatDoorPart2
import Derived.Shelf.Bytes.GrowSlice
import Derived.Lib.BufferMore
import Derived.Deep.QuietTactic
import Derived.BigQuiet
import Derived.Laws.CopyOwn
namespace Go.Proofs.YtejgninpjhcgnaaGreatDoor
open Go.RowKit Go.Shelf
open Go.RowKit
set_option linter.unusedSimpArgs false
set_option linter.unusedVariables false
set_option maxRecDepth 100000
set_option maxHeartbeats 4000000
def zjT : Ren := { f := fun n => if n = 290 then 179 else 186, t := fun n => if n = 0 then 0 else if n = 3 then 3 else if n = 4 then 4 else if n = 5 then 5 else if n = 9 then 9 else if n = 20 then 20 else if n = 37 then 22 else if n = 75 then 79 else 276, g := fun _ => 2 }
theorem zee : LaysM.n290 Tryz.prog zjT := by
 constructor
 case ton290 => constructor <;> first | kernel_rfl | (intro w; kernel_rfl)
 all_goals first | kernel_rfl | (intro w; kernel_rfl)
theorem zcy (h l c n : Nat) (bO : Array Value) (w : World) (hg : w.heap[h]? = some (.cells bO 5 (0, 0))) (oN : bO.size = c) (ce : l ≤ c) (hn : 1 ≤ n) (eF : l + n ≤ 140737488355328) (db : c ≤ 140737488355328) (h1 : ∀ v ∈ bO.toList.take l, v.oneCell' = true) :
 Calls Tryz.prog 179 #[.slice (some ⟨h, 0, none⟩) l c, .int .i64 n] w fun e w' => ∃ dE cells, e = .returned (.slice (some ⟨w.heap.size, 0, none⟩) l dE) ∧ w'.heap[w.heap.size]? = some (.cells cells 5 (0, 0)) ∧
  cells.size = dE ∧ cells.toList.take l = bO.toList.take l ∧ l + n ≤ dE ∧ dE ≤ maxLen ∧ Below w.heap.size w w' := Any.bytes_growSlice_row zee h l c n bO w hg oN ce hn eF db h1
theorem zcz (n : Nat) (w : World) (hn : 1 ≤ n) (eF : n ≤ 140737488355328) :
 Calls Tryz.prog 179 #[.slice none 0 0, .int .i64 n] w fun e w' => ∃ dE cells, e = .returned (.slice (some ⟨w.heap.size, 0, none⟩) 0 dE) ∧ w'.heap[w.heap.size]? = some (.cells cells 5 (0, 0)) ∧
  cells.size = dE ∧ n ≤ dE ∧ dE ≤ maxLen ∧ Below w.heap.size w w' := Any.bytes_growSlice_nil zee n w hn eF
variable {w w' : World}
theorem Fr.ofBelow (h : Below w.heap.size w w') : Ext w w' := ⟨h.os, h.tape, h.output, h.size, fun k hk _ => h.block k hk⟩
abbrev bufC (v : Value) (lr : Int) : Array Value := #[v, .int .i64 0, .int .i8 lr]
theorem JT (g : Nat) (aa : Option Addr) (n cap : Nat) (lr : Int) (w : World) (h : Blk w g (bufC (.slice aa n cap) lr) 314) (hn : n ≤ 140737488355328) :
 Calls Tryz.prog 148 #[.pointer (some ⟨g, 0, none⟩)] w fun e w' => e = .returned (.int .i64 n) ∧ Ext w w' := by
 have hc := h.cell
 have Ah : wrap64 (n : Int) = n := by unfold wrap64; omega
 go_enter Tryz.func148, Tryz.ntmps148
 go_wp2
 go_quiet (fail)
 go_wp2
 go_ret
 exact ⟨rfl, (Fr.refl _ w).drewN _⟩
theorem YE (g : Nat) (aa : Option Addr) (l cap n : Nat) (lr : Int) (w : World) (h : Blk w g (bufC (.slice aa l cap) lr) 314) (ce : l ≤ cap) (aj : cap ≤ maxLen) (hn : n ≤ cap - l) :
 Calls Tryz.prog 156 #[.pointer (some ⟨g, 0, none⟩), .int .i64 n] w fun e w' => e = .returned (.tuple #[.int .i64 l, .bool true]) ∧ w' = w.setCell ⟨g, 0, none⟩ (.slice aa (l + n) cap) := by
 have hc := h.cell
 have hf := h.frz
 unfold maxLen at aj
 go_enter Tryz.func156, Tryz.ntmps156
 go_wp2
 go_ret2
 exact ⟨rfl, rfl⟩
theorem Js (g : Nat) (aa : Option Addr) (l cap n : Nat) (lr : Int) (w : World) (h : Blk w g (bufC (.slice aa l cap) lr) 314) (ce : l ≤ cap) (aj : cap ≤ maxLen) (hn : cap - l < n) :
 Calls Tryz.prog 156 #[.pointer (some ⟨g, 0, none⟩), .int .i64 n] w fun e w' => e = .returned (.tuple #[.int .i64 0, .bool false]) ∧ w' = w := by
 have hc := h.cell
 unfold maxLen at aj
 go_enter Tryz.func156, Tryz.ntmps156
 go_wp2
 go_ret2
 exact ⟨rfl, rfl⟩
def zgm (g l n : Nat) (bs : List Value) (w w' : World) : Prop := ∃ h cap cells lr, w.heap.size ≤ h ∧ Blk w' g (bufC (.slice (some ⟨h, 0, none⟩) (l + n) cap) lr) 314 ∧ w'.heap[h]? = some (.cells cells 5 (0, 0)) ∧ cells.size = cap ∧ cells.toList.take l = bs ∧ l + n ≤ cap ∧ cap ≤ maxLen ∧ Fr (fun k => k = g) w w'
variable {g n c : Nat} {W : World} {v : Value} {lr : Int} {cells : Array Value} {cap m : Nat}
theorem zcA {l : Nat} {bs : List Value} {W1 : World} (hx : Ext w W) (hb : Blk W g (bufC v lr) 314) (mw : g < w.heap.size) (hN : W1.heap[c]? = some (.cells cells 5 (0, 0))) (hc : w.heap.size ≤ c) (cN : Ext W W1)
 (oN : cells.size = cap) (aX : cells.toList.take l = bs) (hl : l + n ≤ cap) (hm : cap ≤ maxLen) : zgm g l n bs w (((W1.setCell ⟨g, 0, none⟩ (.slice (some ⟨c, 0, none⟩) m cap)).setCell ⟨g, 1, none⟩ (.int .i64 0)).setCell ⟨g, 0, none⟩ (.slice (some ⟨c, 0, none⟩) (l + n) cap)) := by
 have aO : c ≠ g := by omega
 have b1 : Blk (W1.setCell ⟨g, 0, none⟩ (.slice (some ⟨c, 0, none⟩) m cap)) g (bufC (.slice (some ⟨c, 0, none⟩) m cap) lr) 314 := (hb.ext cN).set 0 _
 have b2 : Blk ((W1.setCell ⟨g, 0, none⟩ (.slice (some ⟨c, 0, none⟩) m cap)).setCell ⟨g, 1, none⟩ (.int .i64 0)) g (bufC (.slice (some ⟨c, 0, none⟩) m cap) lr) 314 := b1.set 1 _
 refine ⟨c, cap, cells, lr, hc, b2.set 0 _, ?_, oN, aX, hl, hm, ?_⟩
 ·rw [Below.heap_setCell _ _ _ _ (by exact aO), Below.heap_setCell _ _ _ _ (by exact aO), Below.heap_setCell _ _ _ _ (by exact aO), hN]
 ·have h0 : Fr (fun k => k = g) w W1 := (Ext.trans hx cN).to
  exact ((h0.setCell (.inl rfl) _).setCell (.inl rfl) _).setCell (.inl rfl) _
theorem zba (g n : Nat) (lr : Int) (w : World) (h : Blk w g (bufC (.slice none 0 0) lr) 314) (hn : 1 ≤ n) (dO : n ≤ 64) :
 Calls Tryz.prog 157 #[.pointer (some ⟨g, 0, none⟩), .int .i64 n] w fun e w' => e = .returned (.int .i64 0) ∧ zgm g 0 n [] w w' := by
 obtain ⟨i0, hi, fh, iu, nz⟩ := info_parts zee.i5
 obtain ⟨M, hM⟩ : ∃ M, M = madeCells (Value.int .u8 0).cells ((64 : Int).toNat * i0.size) := ⟨_, rfl⟩
 have Bi : M.size = 64 := by rw [hM, size_madeCells, iu]; rfl
 have ry : ∀ W : World, (Instr.makeSlice 22 (.int .i64 (n : Int)) (.int .i64 64)).run Tryz.prog W = .ok (.slice (some ⟨W.heap.size, 0, none⟩) n 64) (W.alloc (.cells M 5)) := fun W => by
  have h := run_makeSlice (P := Tryz.prog) W 22 5 i0 (.int .u8 0) Tryz.underlying22 hi fh .i64 .i64 (n : Int) 64 (by omega) (by omega) (by rw [iu]; decide) (by rw [nz]; decide) (by decide)
  rw [← hM] at h
  simpa using h
 clear hM
 have uw : ∀ W, (binOp .eql 22 (.slice none 0 0) (.slice none 0 0)).run Tryz.prog W = .ok (.bool true) W := fun W => Lib.run_eql_slice_nil_nil W _ _ Tryz.underlying22
 have H := qh (anQ h Bi)
 have mw := h.lt
 clear h Bi
 go_enter Tryz.func157, Tryz.ntmps157
 go_wp2_with fail
 refine (JT g none 0 0 lr w H.o.1 (by decide)).mono ?_
 rintro e W0 ⟨rfl, cU⟩
 have ct := H.o.1.ext cU
 have hc := ct.cell
 have hf := ct.frz
 have H0 := qh (anQ cU ct)
 clear cU ct
 go_wp2_with fail
 refine (Js g none 0 0 n lr W0 H0.o.2 (Nat.le_refl _) (by decide) (by omega)).mono ?_
 rintro e w' ⟨rfl, rfl⟩
 have ca : ∀ o, (w'.alloc o).cell? ⟨g, 0, none⟩ = some (.slice none 0 0) := fun o => ((H0.o.2.ext (za w' o)).cell 0)
 have fa : ∀ o, (w'.alloc o).frozen? ⟨g, 0, none⟩ = false := fun o => ((H0.o.2.ext (za w' o)).frz 0)
 go_wp2
 go_ret
 refine ⟨rfl, w'.heap.size, 64, M, lr, H0.o.1.size, ?_, ?_, H.o.2, rfl, by omega, by decide, ?_⟩
 ·rw [Nat.zero_add]; exact (H0.o.2.ext (za w' _)).set 0 _
 ·rw [Below.heap_setCell _ _ _ _ (show w'.heap.size ≠ g by have := H0.o.1.size; omega)]; exact heap_alloc_new w' _
 ·have h0 : Fr (fun k => k = g) w (w'.alloc (.cells M 5)) := (Ext.trans H0.o.1 (za w' _)).to
  exact h0.setCell (.inl rfl) _
theorem zcB (g n : Nat) (lr : Int) (w : World) (h : Blk w g (bufC (.slice none 0 0) lr) 314) (dO : 64 < n) (eF : n ≤ 140737488355328) :
 Calls Tryz.prog 157 #[.pointer (some ⟨g, 0, none⟩), .int .i64 n] w fun e w' => e = .returned (.int .i64 0) ∧ zgm g 0 n [] w w' := by
 have uw : ∀ W, (binOp .eql 22 (.slice none 0 0) (.slice none 0 0)).run Tryz.prog W = .ok (.bool true) W := fun W => Lib.run_eql_slice_nil_nil W _ _ Tryz.underlying22
 have Ah : IntKind.i64.wrap (n : Int) = n := by rw [IntKind.wrap_i64]; omega
 have xg : wrap64 (n : Int) = n := by unfold wrap64; omega
 have H := qh (anQ h eF)
 have mw := h.lt
 clear h
 go_enter Tryz.func157, Tryz.ntmps157
 go_wp2_with fail
 refine (JT g none 0 0 lr w H.o.1 (by decide)).mono ?_
 rintro e W0 ⟨rfl, cU⟩
 have ct := H.o.1.ext cU
 have hc := ct.cell
 have hf := ct.frz
 have H0 := qh (anQ cU ct)
 clear cU ct
 go_wp2_with fail
 refine (Js g none 0 0 n lr W0 H0.o.2 (Nat.le_refl _) (by decide) (by omega)).mono ?_
 rintro e w' ⟨rfl, rfl⟩
 go_wp2_with fail
 refine zi JS [kT 0, kT 1, kT 2, kT 3, kT 4, kT 5, kT 6, kT 7, kT 8, kT 9, kT 10, kT 11, kT 12, kT 13, kT 14, kT 15, kR 16, kT 17, kT 18, kL 19] (by kernel_rfl) (by kernel_rfl) ?_
 simp only [zy, gzQ, gsQ]
 have HC := qh (fun W' (h : Ext w'.drew W') => (H0.o.2.ext (Ext.trans (zb w') h)).cell)
 have HX := qh (anQ (Ext.trans H0.o.1 (zb w')) (H0.o.2.ext (zb w')))
 clear hc hf
 generalize w'.drew = W5 at *
 repeat (apply item_take; rfl; rfl; rfl; rfl; exact fun _ _ _ _ h => h; (intro W e _ k; have q := HC.o W e; go_simp; exact k))
 apply ze; rfl; intro K hK; go_simp
 refine (zcz n W5 (by omega) H.o.2).mono ?_
 rintro e w2 ⟨dE, cells, rfl, hN, mj, mh, ev, mW⟩
 have bY := Fr.ofBelow mW
 refine hK _ _ bY ?_
 clear hK K
 have cV := HX.o.2.ext bY
 have H2 := qh (anQ hN (anQ mj (anQ mh (anQ ev bY))))
 clear hN mj mW bY
 repeat (apply item_take; rfl; rfl; rfl; rfl; exact fun _ _ _ _ h => h; (intro _ _ _ k; go_simp; exact k))
 have hc := cV.cell
 have hf := cV.frz
 apply zu; rfl; intro K hK; go_simp
 refine hK _ _ ?_
 clear hK K hc hf
 apply zl
 have f9 : Blk (w2.setCell ⟨g, 0, none⟩ (.slice (some ⟨W5.heap.size, 0, none⟩) 0 dE)) g (bufC (.slice (some ⟨W5.heap.size, 0, none⟩) 0 dE) lr) 314 := cV.set 0 _
 have hc := f9.cell
 have hf := f9.frz
 unfold maxLen at ev
 go_wp2
 go_ret
 have := zcA (l := 0) (n := n) (m := 0) HX.o.1 HX.o.2 mw H2.o.1 HX.o.1.size H2.o.2.2.2.2 H2.o.2.1 rfl (by rw [Nat.zero_add]; exact H2.o.2.2.1) H2.o.2.2.2.1
 rw [Nat.zero_add] at this
 exact ⟨rfl, this⟩
theorem zbL (g h l cap n : Nat) (bO : Array Value) (lr : Int) (w : World) (hb : Blk w g (bufC (.slice (some ⟨h, 0, none⟩) l cap) lr) 314) (hh : w.heap[h]? = some (.cells bO 5 (0, 0))) (oN : bO.size = cap) (ce : l ≤ cap) (bh : cap ≤ maxLen) (fv : cap - l < n) (eF : l + n ≤ 140737488355328) (h1 : ∀ v ∈ bO.toList.take l, v.oneCell' = true) :
 Calls Tryz.prog 157 #[.pointer (some ⟨g, 0, none⟩), .int .i64 n] w fun e w' => e = .returned (.int .i64 l) ∧ zgm g l n (bO.toList.take l) w w' := by
 have uw : ∀ W, (binOp .eql 22 (.slice (some ⟨h, 0, none⟩) l cap) (.slice none 0 0)).run Tryz.prog W = .ok (.bool false) W := fun W => Lib.run_eql_slice_some_nil W _ _ _ Tryz.underlying22
 have Ah : IntKind.i64.wrap (n : Int) = n := by rw [IntKind.wrap_i64]; omega
 have xg : wrap64 (n : Int) = n := by unfold wrap64; omega
 have E8 : wrap64 ((l : Int) + n) = l + n := by unfold wrap64; omega
 have H := qh (anQ hb (anQ hh (anQ oN h1)))
 have mw := hb.lt
 have fA := bh
 unfold maxLen at fA
 have db : cap ≤ 140737488355328 := by omega
 clear hb hh h1
 by_cases dr : l = 0
 case' pos => subst dr
 all_goals
  go_enter Tryz.func157, Tryz.ntmps157
  go_wp2_with fail
  refine (JT g _ _ cap lr w H.o.1 (by omega)).mono ?_
  rintro e W0 ⟨rfl, cU⟩
  have ct := H.o.1.ext cU
  have hc := ct.cell
  have hf := ct.frz
  have H0 := qh (anQ cU ct)
  clear cU ct
  go_wp2_with fail
  refine (Js g _ _ cap n lr W0 H0.o.2 ce bh fv).mono ?_
  rintro e w' ⟨rfl, rfl⟩
  go_wp2_with fail
  refine zi JS [kT 0, kT 1, kT 2, kT 3, kT 4, kT 5, kT 6, kT 7, kT 8, kT 9, kT 10, kT 11, kT 12, kT 13, kT 14, kT 15, kR 16, kT 17, kT 18, kL 19] (by kernel_rfl) (by kernel_rfl) ?_
  simp only [zy, gzQ, gsQ]
  have HC := qh (fun W' (h : Ext w'.drew W') => (H0.o.2.ext (Ext.trans (zb w') h)).cell)
  have HX := qh (anQ (Ext.trans H0.o.1 (zb w')) (H0.o.2.ext (zb w')))
  clear hc hf
  generalize w'.drew = W5 at *
  repeat (apply item_take; rfl; rfl; rfl; rfl; exact fun _ _ _ _ h => h; (intro W e _ k; have q := HC.o W e; go_simp; exact k))
  apply ze; rfl; intro K hK; go_simp
  refine (zcy h _ cap n bO W5 (Blk.ext (show Blk w h bO 5 from H.o.2.1) HX.o.1) H.o.2.2.1 ce (by omega) eF db H.o.2.2.2).mono ?_
  rintro e w2 ⟨dE, cells, rfl, hN, mj, aX, mh, ev, mW⟩
  have bY := Fr.ofBelow mW
  refine hK _ _ bY ?_
  clear hK K
  have cV := HX.o.2.ext bY
  have H2 := qh (anQ hN (anQ mj (anQ aX (anQ mh (anQ ev bY)))))
  clear hN mj aX mW bY
  repeat (apply item_take; rfl; rfl; rfl; rfl; exact fun _ _ _ _ h => h; (intro _ _ _ k; go_simp; exact k))
  have hc := cV.cell
  have hf := cV.frz
  apply zu; rfl; intro K hK; go_simp
  refine hK _ _ ?_
  clear hK K hc hf
  apply zl
 ·have f9 : Blk (w2.setCell ⟨g, 0, none⟩ (.slice (some ⟨W5.heap.size, 0, none⟩) 0 dE)) g (bufC (.slice (some ⟨W5.heap.size, 0, none⟩) 0 dE) lr) 314 := cV.set 0 _
  have hc := f9.cell
  have hf := f9.frz
  unfold maxLen at ev
  go_wp2
  go_ret
  have := zcA (l := 0) (n := n) (m := 0) HX.o.1 HX.o.2 mw H2.o.1 HX.o.1.size H2.o.2.2.2.2.2 H2.o.2.1 H2.o.2.2.1 H2.o.2.2.2.1 H2.o.2.2.2.2.1
  rw [Nat.zero_add] at this
  exact ⟨rfl, this⟩
 ·have f9 : Blk (w2.setCell ⟨g, 0, none⟩ (.slice (some ⟨W5.heap.size, 0, none⟩) l dE)) g (bufC (.slice (some ⟨W5.heap.size, 0, none⟩) l dE) lr) 314 := cV.set 0 _
  have hc := f9.cell
  have hf := f9.frz
  unfold maxLen at ev
  go_wp2
  go_ret
  exact ⟨rfl, zcA (l := l) (n := n) (m := l) HX.o.1 HX.o.2 mw H2.o.1 HX.o.1.size H2.o.2.2.2.2.2 H2.o.2.1 H2.o.2.2.1 H2.o.2.2.2.1 H2.o.2.2.2.2.1⟩
def IsBf (lo g : Nat) (bs : List UInt8) (w : World) : Prop := lo ≤ g ∧ ∃ v lr, Blk w g (bufC v lr) 314 ∧ OwnB lo w v bs ∧ v.ownBlock ≠ some g
variable {bs : List UInt8}
theorem IsBf.lt {lo : Nat} (h : IsBf lo g bs w) : ∀ k, jA w g k → lo ≤ k ∧ k < w.heap.size := by
 obtain ⟨hg, v, lr, hb, ho, aO⟩ := h
 rintro k (rfl | ⟨v', hc, hk⟩)
 ·exact ⟨hg, hb.lt⟩
 ·rw [hb.cell 0] at hc
  simp only [List.getElem?_toArray, List.getElem?_cons_zero, Option.some.injEq] at hc
  subst hc
  exact ho.lt k hk
variable {S : Nat → Prop}
theorem IsBf.frame {lo : Nat} (h : IsBf lo g bs w) (hf : Fr S w w') (hs : ∀ k, jA w g k → ¬ S k) : IsBf lo g bs w' ∧ ∀ k, jA w' g k ↔ jA w g k := by
 obtain ⟨hg, v, lr, hb, ho, aO⟩ := h
 have en : w.cell? ⟨g, 0, none⟩ = some v := hb.cell 0
 have kW := hb.fr hf (hs g (.inl rfl))
 have ek : w'.cell? ⟨g, 0, none⟩ = some v := kW.cell 0
 refine ⟨⟨hg, v, lr, kW, Own.only Lay.flat_u8 ho hf (fun k hk => hs k (.inr ⟨v, en, hk⟩)), aO⟩, fun k => ?_⟩
 unfold jA
 rw [en, ek]
theorem Lay.u8_size : Lay.u8.size = 1 := rfl
def ziJ : Hold := ⟨IsBf, jA, IsBf.lt, IsBf.frame⟩
theorem zhY (w : World) : IsBf w.heap.size w.heap.size [] (w.alloc (.cells (bufC (.slice none 0 0) 0) 314)) :=
 ⟨Nat.le_refl _, .slice none 0 0, 0, zk w _ _, jz _ _ _ _, by simp [Value.ownBlock]⟩
theorem zgn (w : World) (n : Nat) (hn : w.heap.size = n) : ziJ.is n n [] (w.alloc (.cells (bufC (.slice none 0 0) 0) 314)) := by subst hn; exact zhY w
theorem zef (l : List UInt8) : ∀ v ∈ (l.map fun b => Value.int .u8 (b.toNat : Int)), v.oneCell' = true := fun v hv => by
 obtain ⟨b, -, rfl⟩ := List.mem_map.1 hv
 rfl
variable {h : Nat} {ys : List UInt8}
theorem zgo {lo : Nat} {By : Int} (hg : lo ≤ g) (ap : lo ≤ w.heap.size) (ct : Blk w g (bufC v By) 314) (hv : ∀ k, v.ownBlock = some k → lo ≤ k)
 (hb : Blk W g (bufC (.slice (some ⟨h, 0, none⟩) (bs.length + m) cap) lr) 314) (hN : W.heap[h]? = some (.cells cells 5 (0, 0))) (oN : cells.size = cap) (aX : cells.toList.take bs.length = bs.map fun b => Value.int .u8 (b.toNat : Int)) (hl : bs.length + m ≤ cap) (hm : cap ≤ maxLen)
 (hf : Fr (fun k => k = g) w W) (aO : h ≠ g) (hh : v.ownBlock = some h ∨ w.heap.size ≤ h) (hy : ys.length = m) :
 let Y := (cells.toList.take bs.length ++ ((ys.map fun b => Value.int .u8 (b.toNat : Int)) ++ cells.toList.drop (bs.length + m))).toArray
 IsBf lo g (bs ++ ys) (W.setRow h Y) ∧ Fr (jA w g) w (W.setRow h Y) ∧ ∀ k, jA (W.setRow h Y) g k → jA w g k ∨ w.heap.size ≤ k := by
 intro Y
 have en : w.cell? ⟨g, 0, none⟩ = some v := ct.cell 0
 have BM : Blk (W.setRow h Y) g (bufC (.slice (some ⟨h, 0, none⟩) (bs.length + m) cap) lr) 314 := hb.fr (yE W h Y) (fun e => aO (Eq.symm (show g = h from e)))
 have CR : (W.setRow h Y).heap[h]? = some (.cells Y 5 (0, 0)) := setRow_heap W h cells Y _ (0, 0) hN
 have fp : (cells.toList.take bs.length).length = bs.length := by rw [ltQ, show cells.toList.length = cap from Array.length_toList.trans oN]; exact Nat.min_eq_left (by omega)
 have Dz : Y.size = cap := by
  show (_ : List Value).toArray.size = _
  simp only [List.size_toArray, laQ, fp, List.length_map, ldQ, Array.length_toList]; omega
 have D7 : Y.toList.take (bs.length + m) = (bs ++ ys).map fun b => Value.int .u8 (b.toNat : Int) := by
  show ((_ : List Value).toArray).toList.take _ = _
  rw [List.toList_toArray, ← List.append_assoc, List.take_append_of_le_length (by rw [laQ, fp, List.length_map]; omega), List.take_of_length_le (by rw [laQ, fp, List.length_map]; omega), aX, ← List.map_append]
 refine ⟨⟨hg, _, lr, BM, ⟨(bs ++ ys).map fun b => Value.int .u8 (b.toNat : Int), ⟨by rw [List.length_map, Lay.u8_size, Nat.mul_one], .inr ⟨h, cap, Y, by rw [laQ, hy], ?_, CR, by rw [laQ, hy]; exact hl, hm, by rw [Dz, Lay.u8_size, Nat.mul_one], by rw [laQ, hy, Lay.u8_size, Nat.mul_one]; exact D7⟩⟩, zar _⟩, ?_⟩, ?_, ?_⟩
 ·rcases hh with hh | hh
  ·exact hv h hh
  ·omega
 ·simp only [Value.ownBlock]
  intro e
  exact aO (by injection e)
 ·exact hf.trans (yE W h Y) (fun k _ e => .inl e) (fun k hk e => by
   have e' : k = h := e
   subst e'
   rcases hh with hh | hh
   ·exact .inr ⟨v, en, hh⟩
   ·omega)
 ·rintro k (rfl | ⟨v', hc, hk⟩)
  ·exact .inl (.inl rfl)
  ·rw [BM.cell 0] at hc
   simp only [List.getElem?_toArray, List.getElem?_cons_zero, Option.some.injEq] at hc
   subst hc
   obtain rfl : h = k := by simpa [Value.ownBlock] using hk
   rcases hh with hh | hh
   ·exact .inl (.inr ⟨v, en, hh⟩)
   ·exact .inr hh
variable {A : Nat → Prop} {aa : Option Addr}
theorem zbb (h : Lay.u8.slice.rd A w [.slice aa m c] ys) (hm : 0 < m) (hb : Blk w g (bufC v lr) 314) (hv : ∃ a n c, v = .slice a n c) (hf : Fr (fun k => k = g) w W) :
 ∃ ad, aa = some ad ∧ ys.length = m ∧ ∀ j u, (ys.map fun b => Value.int .u8 (b.toNat : Int))[j]? = some u → W.cell? (ad.add j) = some u := by
 obtain ⟨a', eV, e', _, _, h3⟩ := h
 simp only [List.cons.injEq, Value.slice.injEq, and_true] at e'
 obtain ⟨rfl, rfl, rfl⟩ := e'
 obtain ⟨b, o, bO, T, fz, flat, rfl, hA, hh, cr, hc⟩ := h3 hm
 have dT := Yy cr
 have Ci : b ≠ g := fun e => by
  subst e
  have h0 := hc 0 (by rw [dT, List.length_map]; exact hm)
  have kW : w.heap[b]? = some (.cells (bufC v lr) 314 (0, 0)) := hb
  rw [hh] at kW
  injection kW with kW
  injection kW with e1 e2 e3
  subst e1
  obtain ⟨y, vg, rfl⟩ : ∃ y vg, ys = y :: vg := by
   cases ys with
   | nil => simp at hm
   | cons y vg => exact ⟨y, vg, rfl⟩
  rw [dT] at h0
  rcases o with _ | _ | _ | o
  ·obtain ⟨_, _, _, rfl⟩ := hv
   simp at h0
  ·simp at h0
  ·simp at h0
  ·simp at h0
 refine ⟨_, rfl, rfl, fun j u hj => ?_⟩
 rw [jL, Lib.cell_of_heap ((hf.block b (Zw hh) Ci).trans hh)]
 have rL : j < flat.length := by
  rw [dT]
  rcases Nat.lt_or_ge j (ys.map fun b => Value.int .u8 (b.toNat : Int)).length with q | q
  ·exact q
  ·rw [List.getElem?_eq_none q] at hj; cases hj
 rw [hc j rL, dT]
 exact hj
theorem za0 {lo : Nat} (h : OwnB lo w v bs) : (v = .slice none 0 0 ∧ bs = []) ∨ ∃ g cap bO, v = .slice (some ⟨g, 0, none⟩) bs.length cap ∧ lo ≤ g ∧ Blk w g bO 5 ∧ bs.length ≤ cap ∧ cap ≤ maxLen ∧ bO.size = cap ∧ bO.toList.take bs.length = bs.map fun b => Value.int .u8 (b.toNat : Int) := by
 obtain ⟨flat, ⟨h1, h2⟩, k⟩ := h
 have dT := Yy k
 rcases h2 with ⟨rfl, h0⟩ | ⟨g, cap, bO, rfl, hg, hh, hn, hm, hs, ht⟩
 ·exact .inl ⟨rfl, List.eq_nil_of_length_eq_zero h0⟩
 ·rw [Lay.u8_size, Nat.mul_one] at hs ht
  exact .inr ⟨g, cap, bO, rfl, hg, hh, hn, hm, hs, ht.trans dT⟩
theorem zcC (lo g m : Nat) (aa : Option Addr) (cap : Nat) (lr : Int) (bs : List UInt8) (w : World) (hb : Blk w g (bufC (.slice aa bs.length cap) lr) 314) (ho : OwnB lo w (.slice aa bs.length cap) bs) (hm : 0 < m) (fv : cap - bs.length < m) (eF : bs.length + m ≤ 140737488355328) :
 Calls Tryz.prog 157 #[.pointer (some ⟨g, 0, none⟩), .int .i64 m] w fun e w' => e = .returned (.int .i64 bs.length) ∧ zgm g bs.length m (bs.map fun b => Value.int .u8 (b.toNat : Int)) w w' := by
 rcases za0 ho with ⟨e, rfl⟩ | ⟨h, eV, bO, e, -, hh, h1, h2, h3, h4⟩
 ·cases e
  by_cases dO : m ≤ 64
  ·exact zba g m lr w hb hm dO
  ·exact zcB g m lr w hb (by omega) (by simpa using eF)
 ·cases e
  have := zbL g h bs.length cap m bO lr w hb hh h3 h1 h2 fv eF (by rw [h4]; exact zef bs)
  rw [h4] at this
  exact this
def zi6 (lo g m : Nat) (bs ys : List UInt8) (w : World) (e : Ending) (w' : World) : Prop := e = .returned (.tuple #[.int .i64 m, .nilIface]) ∧ IsBf lo g (bs ++ ys) w' ∧ Fr (jA w g) w w' ∧ ∀ k, jA w' g k → jA w g k ∨ w.heap.size ≤ k
theorem Yj (lo g : Nat) (bs ys : List UInt8) (w : World) (A : Nat → Prop) (aa : Option Addr) (m c : Nat) (hS : IsBf lo g bs w) (hR : Lay.u8.slice.rd A w [.slice aa m c] ys) (ap : lo ≤ w.heap.size) (hl : bs.length + ys.length ≤ 70368744177664) :
 Calls Tryz.prog 119 #[.pointer (some ⟨g, 0, none⟩), .slice aa m c] w (zi6 lo g m bs ys w) := by
 have mi : ys.length = m := by
  obtain ⟨_, _, e, _⟩ := hR
  simp only [List.cons.injEq, Value.slice.injEq, and_true] at e
  exact e.2.1.symm
 obtain ⟨hg, v, By, hb, ho, aO⟩ := hS
 have bj : (Tryz.prog.info? 5).map (·.size) = some 1 := by kernel_rfl
 have dw : Blk (w.setCell ⟨g, 2, none⟩ (.int .i8 0)) g (bufC v 0) 314 := hb.set 2 _
 have iw : Fr (fun k => k = g) w (w.setCell ⟨g, 2, none⟩ (.int .i8 0)) := zh w ⟨g, 2, none⟩ _
 have iG := za0 ho
 have Ax := ho.shape
 have BU := qh (fun k hk => (ho.lt k hk).1)
 by_cases hm : m = 0
 ·subst hm
  obtain rfl := List.eq_nil_of_length_eq_zero mi
  have Ff : ∀ d qT qC W, (Builtin.copy_ #[22, 22] 3 #[.slice d qT qC, .slice aa 0 c]).run Tryz.prog W = .ok (goInt 0) W := fun d qT qC W => run_copy_none W 22 22 3 5 d aa qT qC 0 c Tryz.underlying22 bj (by simp)
  obtain ⟨kF, l1, cR, rfl⟩ := Ax
  have ce : l1 = bs.length ∧ bs.length ≤ cR ∧ cR ≤ maxLen := by
   rcases iG with ⟨e, rfl⟩ | ⟨_, _, _, e, _, _, h1, h2, _⟩
   ·cases e; exact ⟨rfl, Nat.le_refl _, nzQ _⟩
   ·cases e; exact ⟨rfl, h1, h2⟩
  obtain ⟨rfl, ce, bh⟩ := ce
  have H := qh (anQ hg (anQ hb (anQ ho (anQ aO (anQ dw iw)))))
  have hc := hb.cell
  have hf := hb.frz
  have fA := bh
  unfold maxLen at fA
  clear hb dw iw ho hg aO hR iG
  go_enter Tryz.func119, Tryz.ntmps119
  go_wp2_with fail
  refine (YE g kF bs.length cR 0 0 _ H.o.2.2.2.2.1 ce bh (nzQ _)).mono ?_
  rintro e W1 ⟨rfl, rfl⟩
  rw [Nat.add_zero]
  have cV : Blk ((w.setCell ⟨g, 2, none⟩ (.int .i8 0)).setCell ⟨g, 0, none⟩ (.slice kF bs.length cR)) g (bufC (.slice kF bs.length cR) 0) 314 := H.o.2.2.2.2.1.set 0 _
  have ei : Fr (fun k => k = g) w ((w.setCell ⟨g, 2, none⟩ (.int .i8 0)).setCell ⟨g, 0, none⟩ (.slice kF bs.length cR)) := H.o.2.2.2.2.2.setCell (.inl rfl) _
  have ai := qh (show IsBf lo g (bs ++ []) ((w.setCell ⟨g, 2, none⟩ (.int .i8 0)).setCell ⟨g, 0, none⟩ (.slice kF bs.length cR)) ∧ Fr (jA w g) w ((w.setCell ⟨g, 2, none⟩ (.int .i8 0)).setCell ⟨g, 0, none⟩ (.slice kF bs.length cR)) ∧ ∀ k, jA ((w.setCell ⟨g, 2, none⟩ (.int .i8 0)).setCell ⟨g, 0, none⟩ (.slice kF bs.length cR)) g k → jA w g k ∨ w.heap.size ≤ k from ⟨by
   rw [List.append_nil]
   exact ⟨H.o.1, _, 0, cV, Own.only Lay.flat_u8 H.o.2.2.1 ei (fun k hk e => H.o.2.2.2.1 (by rw [hk, show k = g from e])), H.o.2.2.2.1⟩, ei.mono (U := jA w g) (fun k _ e => Or.inl e), fun k hk => Or.inl (by
    rcases hk with e | ⟨v', fM, hk⟩
    ·exact Or.inl e
    ·rw [cV.cell 0] at fM
     exact Or.inr ⟨_, H.o.2.1.cell 0, by cases fM; exact hk⟩)⟩)
  clear hc hf
  have hc := cV.cell
  have hf := cV.frz
  clear cV ei
  go_wp2
  all_goals
   go_ret2
   first
    | exact ⟨by simp, ai.o.1, ai.o.2.1, ai.o.2.2⟩
    | (have hq : cR = bs.length := (by assumption); have kV := ai.o; rw [hq] at kV; exact ⟨by simp, kV.1, kV.2.1, kV.2.2⟩)
 ·obtain ⟨ad, rfl, -, nM⟩ := zbb hR (by omega) hb Ax iw
  obtain ⟨kF, l1, cR, rfl⟩ := Ax
  have ce : l1 = bs.length ∧ bs.length ≤ cR ∧ cR ≤ maxLen := by
   rcases iG with ⟨e, rfl⟩ | ⟨_, _, _, e, _, _, h1, h2, _⟩
   ·cases e; exact ⟨rfl, Nat.le_refl _, nzQ _⟩
   ·cases e; exact ⟨rfl, h1, h2⟩
  obtain ⟨rfl, ce, bh⟩ := ce
  have Bp : OwnB lo (w.setCell ⟨g, 2, none⟩ (.int .i8 0)) (.slice kF bs.length cR) bs := Own.only Lay.flat_u8 ho iw (fun k hk e => aO (by rw [hk, show k = g from e]))
  have H := qh (anQ hg (anQ hb (anQ dw (anQ iw (anQ ap (anQ mi (anQ Bp (anQ hR iG))))))))
  have hc := hb.cell
  have hf := hb.frz
  have Ce : bs.length + m ≤ 70368744177664 := by omega
  clear hb dw iw ho Bp hg hR iG ap mi
  have aO := qh aO
  have nM := qh nM
  by_cases fv : m ≤ cR - bs.length
  ·have iX : ∃ h bO, kF = some ⟨h, 0, none⟩ ∧ Blk w h bO 5 ∧ bO.size = cR ∧ bO.toList.take bs.length = bs.map fun b => Value.int .u8 (b.toNat : Int) := by
    rcases H.o.2.2.2.2.2.2.2.2 with ⟨e, rfl⟩ | ⟨h, _, bO, e, _, q1, _, _, q2, q3⟩
    ·cases e; simp at fv; omega
    ·cases e; exact ⟨h, bO, rfl, q1, q2, q3⟩
   obtain ⟨h, bO, rfl, q1, q2, q3⟩ := iX
   have uL : h ≠ g := fun e => aO.o (by rw [e]; rfl)
   have H3 := qh (anQ q1 (anQ q2 (anQ q3 uL)))
   have fA := bh
   unfold maxLen at fA
   clear q1 q2 q3 uL
   go_enter Tryz.func119, Tryz.ntmps119
   go_wp2_with fail
   refine (YE g _ bs.length cR m 0 _ H.o.2.2.1 ce bh fv).mono ?_
   rintro e W1 ⟨rfl, rfl⟩
   have cV : Blk ((w.setCell ⟨g, 2, none⟩ (.int .i8 0)).setCell ⟨g, 0, none⟩ (.slice (some ⟨h, 0, none⟩) (bs.length + m) cR)) g (bufC (.slice (some ⟨h, 0, none⟩) (bs.length + m) cR) 0) 314 := H.o.2.2.1.set 0 _
   have ei : Fr (fun k => k = g) w ((w.setCell ⟨g, 2, none⟩ (.int .i8 0)).setCell ⟨g, 0, none⟩ (.slice (some ⟨h, 0, none⟩) (bs.length + m) cR)) := H.o.2.2.2.1.setCell (.inl rfl) _
   have hN := H3.o.1.fr ei H3.o.2.2.2
   generalize ((w.setCell ⟨g, 2, none⟩ (.int .i8 0)).setCell ⟨g, 0, none⟩ (.slice (some ⟨h, 0, none⟩) (bs.length + m) cR)) = W1 at *
   obtain ⟨Eg, pP, -, iB⟩ := zbb H.o.2.2.2.2.2.2.2.1 (by omega) H.o.2.1 ⟨_, _, _, rfl⟩ ei
   cases pP
   have lf := run_copy_row (P := Tryz.prog) W1 22 22 3 5 h bs.length m (cR - bs.length) ad m c bO 5 (ys.map fun b => Value.int .u8 (b.toNat : Int)) Tryz.underlying22 bj hN (by rw [List.length_map, H.o.2.2.2.2.2.1]; exact (Nat.min_self m).symm) iB (by rw [List.length_map, H.o.2.2.2.2.2.1, H3.o.2.1]; omega) (zef ys)
   rw [List.length_map, H.o.2.2.2.2.2.1] at lf
   have ai := qh (zgo (ys := ys) H.o.1 H.o.2.2.2.2.1 H.o.2.1 BU.o cV hN H3.o.2.1 H3.o.2.2.1 (by omega) bh ei H3.o.2.2.2 (.inl rfl) H.o.2.2.2.2.2.1)
   have iO : ¬ cR = bs.length := by omega
   clear hc hf
   have hc := cV.cell
   have hf := cV.frz
   clear cV ei hN iB
   go_wp2
   go_ret2
   exact ⟨rfl, ai.o⟩
  ·go_enter Tryz.func119, Tryz.ntmps119
   have fA := bh
   unfold maxLen at fA
   go_wp2_with fail
   refine (Js g _ bs.length cR m 0 _ H.o.2.2.1 ce bh (by omega)).mono ?_
   rintro e W0 ⟨rfl, rfl⟩
   go_wp2_with fail
   refine (zcC lo g m _ cR 0 bs _ H.o.2.2.1 H.o.2.2.2.2.2.2.1 (by omega) (by omega) (by omega)).mono ?_
   rintro e W1 ⟨rfl, h, dE, cells, EH, g1, cV, hN, g4, g5, g6, g7, tw⟩
   have ei := H.o.2.2.2.1.trans tw (fun _ _ e => e) (fun _ _ e => e)
   have iy : w.heap.size ≤ h := nlQ H.o.2.2.2.1.size g1
   have uL : h ≠ g := fun e => by have := H.o.2.1.lt; omega
   obtain ⟨Eg, pP, -, iB⟩ := zbb H.o.2.2.2.2.2.2.2.1 (by omega) H.o.2.1 ⟨_, _, _, rfl⟩ ei
   cases pP
   have lf := run_copy_row (P := Tryz.prog) W1 22 22 3 5 h bs.length m (dE - bs.length) ad m c cells 5 (ys.map fun b => Value.int .u8 (b.toNat : Int)) Tryz.underlying22 bj hN (by rw [List.length_map, H.o.2.2.2.2.2.1]; exact (Nat.min_self m).symm) iB (by rw [List.length_map, H.o.2.2.2.2.2.1, g4]; omega) (zef ys)
   rw [List.length_map, H.o.2.2.2.2.2.1] at lf
   have ai := qh (zgo (ys := ys) H.o.1 H.o.2.2.2.2.1 H.o.2.1 BU.o cV hN g4 g5 g6 g7 ei uL (.inr iy) H.o.2.2.2.2.2.1)
   have iO : ¬ dE = bs.length := by omega
   have D1 := g7
   unfold maxLen at D1
   clear hc hf
   have hc := cV.cell
   have hf := cV.frz
   clear cV ei tw hN iB g1 iy g5
   go_wp2
   go_ret2
   exact ⟨rfl, ai.o⟩
def z7 : Sink where
 toHold := ziJ
 T := 315
 f := 119
 nil _ _ := by kernel_rfl
 meth _ _ := by kernel_rfl
 call _ _ := by kernel_rfl
 write := Yj
inductive Ins where
 | mk (op : Int) (args : List (Int × UInt64)) (st : Bool) (ty : Int) (body : List Ins)
namespace Ins
def op : Ins → Int | mk o _ _ _ _ => o
def args : Ins → List (Int × UInt64) | mk _ a _ _ _ => a
def st : Ins → Bool | mk _ _ s _ _ => s
def ty : Ins → Int | mk _ _ _ t _ => t
def body : Ins → List Ins | mk _ _ _ _ b => b
end Ins
namespace Lay
def never (α : Type) (n : Nat) : Lay α where
 size := n
 rd _ _ _ _ := False
 len h := h.elim
 one h := h.elim
 frame h := h.elim
 mono h := h.elim
def arg : Lay (Int × UInt64) := int.pair u64
theorem flat_arg : arg.flat := flat_pair flat_int flat_u64
def ins : Nat → Lay Ins
 | 0 => never Ins 5
 | n + 1 => (int.pair (arg.slice.pair (bool.pair (int.pair (ins n).slice)))).via (fun i => (i.op, i.args, i.st, i.ty, i.body))
theorem ins_size : ∀ n, (ins n).size = 5
 | 0 => rfl
 | _ + 1 => rfl
theorem ins_cells {n : Nat} {A : Nat → Prop} {w : World} {cs : List Value} {x : Ins} (h : (ins n).rd A w cs x) :
 ∃ m aa an ac ba bn bc, n = m + 1 ∧ cs = [.int .i64 x.op, .slice aa an ac, .bool x.st, .int .i64 x.ty, .slice ba bn bc] ∧
  (-9223372036854775808 ≤ x.op ∧ x.op ≤ 9223372036854775807) ∧ (-9223372036854775808 ≤ x.ty ∧ x.ty ≤ 9223372036854775807) ∧
  arg.slice.rd A w [.slice aa an ac] x.args ∧ (ins m).slice.rd A w [.slice ba bn bc] x.body := by
 cases n with
 | zero => exact h.elim
 | succ m =>
  obtain ⟨c1, r1, rfl, ⟨rfl, o1, o2⟩, c2, r2, rfl, h2, c3, r3, rfl, h3, c4, r4, rfl, ⟨rfl, t1, t2⟩, h5⟩ := h
  obtain ⟨a2, k2, rfl, e1, e2, e3⟩ := id h2
  obtain ⟨a5, k5, rfl, f1, f2, f3⟩ := id h5
  obtain rfl : c3 = [.bool x.st] := h3
  exact ⟨m, a2, _, k2, a5, _, k5, rfl, rfl, ⟨o1, o2⟩, ⟨t1, t2⟩, h2, h5⟩
theorem ins_at {n : Nat} {A : Nat → Prop} {w : World} {aa : Option Addr} {m c : Nat} {l : List Ins} (h : (ins n).slice.rd A w [.slice aa m c] l) (i : Nat) (hi : i < l.length) :
 ∃ k b o a1 n1 c1 a2 n2 c2, n = k + 1 ∧ aa = some ⟨b, o, none⟩ ∧ A b ∧ w.cell? ⟨b, o + i * 5, none⟩ = some (.int .i64 l[i].op) ∧ w.cell? ⟨b, o + i * 5 + 1, none⟩ = some (.slice a1 n1 c1) ∧
  w.cell? ⟨b, o + i * 5 + 2, none⟩ = some (.bool l[i].st) ∧ w.cell? ⟨b, o + i * 5 + 3, none⟩ = some (.int .i64 l[i].ty) ∧ w.cell? ⟨b, o + i * 5 + 4, none⟩ = some (.slice a2 n2 c2) ∧
  (-9223372036854775808 ≤ l[i].op ∧ l[i].op ≤ 9223372036854775807) ∧ (-9223372036854775808 ≤ l[i].ty ∧ l[i].ty ≤ 9223372036854775807) ∧
  arg.slice.rd A w [.slice a1 n1 c1] l[i].args ∧ (ins k).slice.rd A w [.slice a2 n2 c2] l[i].body := by
 have hm : m = l.length := by obtain ⟨_, _, e, _⟩ := h; simp only [List.cons.injEq, Value.slice.injEq, and_true] at e; exact e.2.1
 obtain ⟨b, o, es, er, e, hA, _, hr, hc⟩ := slice_at h i (by omega)
 obtain ⟨k, a1, n1, c1, a2, n2, c2, hn, he, h1, h2, h3, h4⟩ := ins_cells hr
 rw [ins_size] at hc
 subst he
 exact ⟨k, b, o, a1, n1, c1, a2, n2, c2, hn, e, hA, hc 0 (by omega), hc 1 (by omega), hc 2 (by omega), hc 3 (by omega), hc 4 (by omega), h1, h2, h3, h4⟩
end Lay
mutual
def ziK : Ins → Nat
 | .mk _ _ _ _ b => 1 + z5 b
def z5 : List Ins → Nat
 | [] => 0
 | x :: xs => ziK x + z5 xs
end
def z4 (op : Int) : Option (List Int) :=
 if op = 0 ∨ op = 1 ∨ op = 15 ∨ op = 26 ∨ op = 27 then some []
 else if op = 12 ∨ op = 13 ∨ op = 16 ∨ op = 32 ∨ op = 33 ∨ op = 34 ∨ op = 35 ∨ op = 36 then some [2]
 else if op = 17 then some [2, 5]
 else if op = 40 ∨ op = 54 then some [0, 0]
 else if op = 65 then some [0]
 else if op = 66 then some [1]
 else if op = 67 then some [3]
 else if op = 68 then some [4]
 else if 69 ≤ op ∧ op ≤ 191 then some [] else none
def yU (op : Int) : Bool := decide (op = 2) || decide (op = 3) || decide (op = 4)
def zaU (k : Int) (a : Int × UInt64) : Bool := decide (a.1 = k) && !(decide (k = 5) && decide (255 < a.2.toNat)) && !((decide (k = 0) || decide (k = 2) || decide (k = 3)) && decide (4294967295 < a.2.toNat))
def Jn : List Int → List (Int × UInt64) → Bool
 | [], [] => true
 | k :: ks, a :: al => zaU k a && Jn ks al
 | _, _ => false
mutual
def Jb : Int → Ins → Bool
 | d, .mk op args st ty body => decide (st = yU op) && decide (d ≤ 100) &&
  (if yU op then decide (args.length = 0) && decide (-1 ≤ ty) && decide (ty ≤ 3) && yi (d + 1) body
   else match z4 op with
    | some ks => Jn ks args && decide (ty = 0) && decide (body.length = 0)
    | none => false)
def yi : Int → List Ins → Bool
 | _, [] => true
 | d, x :: xs => Jb d x && yi d xs
end
def zG : Nat → Nat → List UInt8
 | 0, _ => []
 | n + 1, v => UInt8.ofNat (v % 256) :: zG n (v / 256)
def zt (a : Int × UInt64) : List UInt8 :=
 if a.1 = 0 then sleb ((((a.2.toNat : Int) + 2147483648) % 4294967296) - 2147483648)
 else if a.1 = 1 then sleb ((((a.2.toNat : Int) + 9223372036854775808) % 18446744073709551616) - 9223372036854775808)
 else if a.1 = 2 then uleb (a.2.toNat % 4294967296)
 else if a.1 = 3 then zG 4 a.2.toNat
 else if a.1 = 4 then zG 8 a.2.toNat
 else if a.1 = 5 then [UInt8.ofNat (a.2.toNat % 256)]
 else uleb a.2.toNat
def YF (t : Int) : UInt8 := if 0 ≤ t then UInt8.ofNat ((127 - t) % 256).toNat else 64
variable {cs : Array Value} {T : TypeId}
theorem zbc {l : List UInt8} (hb : Blk W h cs T) (hc : cs.toList = l.map fun b => Value.int .u8 (b.toNat : Int)) (h1 : l.length ≤ c) (h2 : c ≤ maxLen) :
 Lay.u8.slice.rd (fun k => k = h) W [.slice (some ⟨h, 0, none⟩) l.length c] l :=
 ⟨_, c, rfl, h1, h2, fun _ => ⟨h, 0, cs, T, (0, 0), _, rfl, rfl, hb, zar l, fun j _ => by rw [← hc]; simp⟩⟩
theorem mk1 : ∀ w : World, (Instr.makeSlice 22 (.int .i64 1) (.int .i64 1)).run Tryz.prog w = .ok (.slice (some ⟨w.heap.size, 0, none⟩) 1 1) (w.alloc (.cells #[.int .u8 0] 5)) := fun w => by kernel_rfl
theorem mk8 : ∀ w : World, (Instr.makeSlice 22 (.int .i64 8) (.int .i64 8)).run Tryz.prog w = .ok (.slice (some ⟨w.heap.size, 0, none⟩) 8 8) (w.alloc (.cells #[.int .u8 0, .int .u8 0, .int .u8 0, .int .u8 0, .int .u8 0, .int .u8 0, .int .u8 0, .int .u8 0] 5)) := fun w => by kernel_rfl
theorem Sink.put {S : Sink} {lo : Nat} (hS : S.is lo g bs w) (hx : Ext w W) (ap : lo ≤ w.heap.size) (ys : List UInt8) (hm : ys.length = m) (hb : Blk W h cs T) (hc : cs.toList = ys.map fun b => Value.int .u8 (b.toNat : Int)) (h1 : m ≤ c) (h2 : c ≤ maxLen) (hl : bs.length + m ≤ 70368744177664) :
 Calls Tryz.prog S.f #[.pointer (some ⟨g, 0, none⟩), .slice (some ⟨h, 0, none⟩) m c] W fun e w' => e = .returned (.tuple #[.int .i64 (m : Nat), .nilIface]) ∧ Wrote S.toHold lo g w (bs ++ ys) w' := by
 subst hm
 exact (S.write lo g bs ys W _ _ _ c (S.frame hS hx (fun _ _ h => h)).1 (zbc hb hc h1 h2) (nlQ ap hx.size) hl).mono fun _ _ ⟨he, k1, k2, k3⟩ => ⟨he, Wrote.after hS hx ⟨k1, k2, k3⟩⟩
theorem zm (S : Sink) (lo g b : Nat) (hb : b < 256) (bs : List UInt8) (w : World) (hS : S.is lo g bs w) (ap : lo ≤ w.heap.size) (hl : bs.length + 10 ≤ 70368744177664) :
 Calls Tryz.prog 108 #[.iface S.T (.pointer (some ⟨g, 0, none⟩)), .int .u8 b] w fun e w' => e = .returned .nilIface ∧ Wrote S.toHold lo g w (bs ++ [UInt8.ofNat b]) w' := by
 have oc := S.nil g
 have nK := S.meth g
 have oe := S.call
 have ry := mk1
 have hS := qh hS
 have ap := qh ap
 have hl := qh hl
 have hb := qh hb
 go_enter Tryz.func108, Tryz.ntmps108
 go_wp2_with fail
 refine (Sink.put (m := 1) (ys := [UInt8.ofNat b]) hS.o (za w _) ap.o rfl (zk w _ _) (congrArg (fun v => [v]) (Zb b hb.o).symm) (by decide) (by decide) (by have := hl.o; omega)).mono ?_
 rintro e w2 ⟨rfl, hW⟩
 have hW := qh hW
 go_wp2
 go_ret
 exact ⟨rfl, hW.o⟩
theorem jo (S : Sink) (lo g : Nat) (t : Int) (ht : 0 ≤ t ∧ t ≤ 3) (bs : List UInt8) (w : World) (hS : S.is lo g bs w) (ap : lo ≤ w.heap.size) (hl : bs.length + 10 ≤ 70368744177664) :
 Calls Tryz.prog 150 #[.iface S.T (.pointer (some ⟨g, 0, none⟩)), .int .i64 t] w fun e w' => e = .returned .nilIface ∧ Wrote S.toHold lo g w (bs ++ [UInt8.ofNat (127 - t).toNat]) w' := by
 have hS := qh hS
 have ap := qh ap
 have hl := qh hl
 have h : t = 0 ∨ t = 1 ∨ t = 2 ∨ t = 3 := by omega
 clear ht
 rcases h with rfl | rfl | rfl | rfl
 ·go_enter Tryz.func150, Tryz.ntmps150
  go_wp2_with fail
  refine (zm S lo g 127 (by decide) bs w hS.o ap.o hl.o).mono ?_
  rintro e w2 ⟨rfl, hW⟩
  have hW := qh hW
  go_wp2
  go_ret
  exact ⟨rfl, hW.o⟩
 ·go_enter Tryz.func150, Tryz.ntmps150
  go_wp2_with fail
  refine (zm S lo g 126 (by decide) bs w hS.o ap.o hl.o).mono ?_
  rintro e w2 ⟨rfl, hW⟩
  have hW := qh hW
  go_wp2
  go_ret
  exact ⟨rfl, hW.o⟩
 ·go_enter Tryz.func150, Tryz.ntmps150
  go_wp2_with fail
  refine (zm S lo g 125 (by decide) bs w hS.o ap.o hl.o).mono ?_
  rintro e w2 ⟨rfl, hW⟩
  have hW := qh hW
  go_wp2
  go_ret
  exact ⟨rfl, hW.o⟩
 ·go_enter Tryz.func150, Tryz.ntmps150
  go_wp2_with fail
  refine (zm S lo g 124 (by decide) bs w hS.o ap.o hl.o).mono ?_
  rintro e w2 ⟨rfl, hW⟩
  have hW := qh hW
  go_wp2
  go_ret
  exact ⟨rfl, hW.o⟩
theorem J0 (S : Sink) (lo g : Nat) (t : Int) (ht : t ≤ 3) (kp : Option Addr) (bs : List UInt8) (w : World) (hk : if 0 ≤ t then ∃ kb ko, kp = some ⟨kb, ko, none⟩ ∧ w.cell? ⟨kb, ko, none⟩ = some (.int .i64 t) else kp = none) (hS : S.is lo g bs w) (ap : lo ≤ w.heap.size) (hl : bs.length + 10 ≤ 70368744177664) :
 Calls Tryz.prog 155 #[.iface S.T (.pointer (some ⟨g, 0, none⟩)), .pointer kp] w fun e w' => e = .returned .nilIface ∧ Wrote S.toHold lo g w (bs ++ [YF t]) w' := by
 have hS := qh hS
 have ap := qh ap
 have hl := qh hl
 by_cases h0 : 0 ≤ t
 ·rw [if_pos h0] at hk
  obtain ⟨kb, ko, rfl, hc⟩ := hk
  have h : t = 0 ∨ t = 1 ∨ t = 2 ∨ t = 3 := by omega
  clear ht h0
  rcases h with rfl | rfl | rfl | rfl
  ·go_enter Tryz.func155, Tryz.ntmps155
   go_wp2_with fail
   refine (zm S lo g 127 (by decide) bs w hS.o ap.o hl.o).mono ?_
   rintro e w2 ⟨rfl, hW⟩
   have hW := qh hW
   clear hc
   go_wp2
   go_ret
   exact ⟨rfl, hW.o⟩
  ·go_enter Tryz.func155, Tryz.ntmps155
   go_wp2_with fail
   refine (zm S lo g 126 (by decide) bs w hS.o ap.o hl.o).mono ?_
   rintro e w2 ⟨rfl, hW⟩
   have hW := qh hW
   clear hc
   go_wp2
   go_ret
   exact ⟨rfl, hW.o⟩
  ·go_enter Tryz.func155, Tryz.ntmps155
   go_wp2_with fail
   refine (zm S lo g 125 (by decide) bs w hS.o ap.o hl.o).mono ?_
   rintro e w2 ⟨rfl, hW⟩
   have hW := qh hW
   clear hc
   go_wp2
   go_ret
   exact ⟨rfl, hW.o⟩
  ·go_enter Tryz.func155, Tryz.ntmps155
   go_wp2_with fail
   refine (zm S lo g 124 (by decide) bs w hS.o ap.o hl.o).mono ?_
   rintro e w2 ⟨rfl, hW⟩
   have hW := qh hW
   clear hc
   go_wp2
   go_ret
   exact ⟨rfl, hW.o⟩
 ·rw [if_neg h0] at hk
  subst hk
  have AI := qh (show YF t = 64 from by unfold YF; rw [if_neg h0])
  clear h0 ht
  go_enter Tryz.func155, Tryz.ntmps155
  go_wp2_with fail
  refine (zm S lo g 64 (by decide) bs w hS.o ap.o hl.o).mono ?_
  rintro e w2 ⟨rfl, hW⟩
  have hW := qh hW
  go_wp2
  go_ret
  exact ⟨rfl, by rw [AI.o]; exact hW.o⟩
theorem low4 (n : Nat) (hn : n < 4294967296) : (#[Value.int .u8 ((n : Int) % 256), .int .u8 ((n : Int) / 256 % 256), .int .u8 ((n : Int) / 65536 % 256), .int .u8 ((n : Int) / 16777216)] : Array Value).toList = (zG 4 n).map fun b => Value.int .u8 (b.toNat : Int) := by
 simp only [zG, List.map_cons, List.map_nil, UInt8.toNat_ofNat']
 congr 1
 ·congr 1; omega
 congr 1
 ·congr 1; omega
 congr 1
 ·congr 1; omega
 congr 1
 ·congr 1; omega
def low8 (n : Nat) : List Value := (zG 8 n).map fun b => Value.int .u8 (b.toNat : Int)
theorem zdg {i : Nat} (hs : cs.size = 8) (h : ∀ j, j < i → cs[j]? = (low8 n)[j]?) (hi : i < 8) (hv : some v = (low8 n)[i]?) : ∀ j, j < i + 1 → (cs.setIfInBounds i v)[j]? = (low8 n)[j]? := by
 intro j hj
 rw [Array.getElem?_setIfInBounds]
 by_cases e : i = j
 ·subst e
  rw [if_pos rfl, if_pos (by omega)]
  exact hv
 ·rw [if_neg e]
  exact h j (by omega)
theorem all8 (hs : cs.size = 8) (h : ∀ j, j < 8 → cs[j]? = (low8 n)[j]?) : cs.toList = (zG 8 n).map fun b => Value.int .u8 (b.toNat : Int) := by
 apply List.ext_getElem?
 intro j
 rw [Array.getElem?_toList]
 rcases Nat.lt_or_ge j 8 with hj | hj
 ·exact h j hj
 ·rw [Array.getElem?_eq_none (by omega), List.getElem?_eq_none (by simpa [zG] using hj)]
theorem jN (S : Sink) (lo g n : Nat) (hn : n < 4294967296) (bs : List UInt8) (w : World) (hS : S.is lo g bs w) (ap : lo ≤ w.heap.size) (hl : bs.length + 10 ≤ 70368744177664) :
 Calls Tryz.prog 107 #[.iface S.T (.pointer (some ⟨g, 0, none⟩)), .int .u32 n] w fun e w' => e = .returned .nilIface ∧ Wrote S.toHold lo g w (bs ++ zG 4 n) w' := by
 have oc := S.nil g
 have nK := S.meth g
 have oe := S.call
 have hS := qh hS
 have ap := qh ap
 have hl := qh hl
 have Bg := qh hn
 go_enter Tryz.func107, Tryz.ntmps107
 go_wp2_with fail
 refine (Sink.put (m := 4) (ys := zG 4 n) hS.o (za w _) ap.o rfl (zk w _ _) (low4 n Bg.o) (by decide) (by decide) (by have := hl.o; omega)).mono ?_
 rintro e w2 ⟨rfl, hW⟩
 have hW := qh hW
 go_wp2
 go_ret
 exact ⟨rfl, hW.o⟩
theorem ZX (S : Sink) (lo g n : Nat) (hn : n < 18446744073709551616) (bs : List UInt8) (w : World) (hS : S.is lo g bs w) (ap : lo ≤ w.heap.size) (hl : bs.length + 10 ≤ 70368744177664) :
 Calls Tryz.prog 154 #[.iface S.T (.pointer (some ⟨g, 0, none⟩)), .int .u64 n] w fun e w' => e = .returned .nilIface ∧ Wrote S.toHold lo g w (bs ++ zG 8 n) w' := by
 have oc := S.nil g
 have nK := S.meth g
 have oe := S.call
 have ry := mk8
 have hS := qh hS
 have ap := qh ap
 have hl := qh hl
 have Bg := qh hn
 go_enter Tryz.func154, Tryz.ntmps154
 go_wp2_with fail
 go_loopw [12] (fun u9 w' => ∃ (i : Nat) (cs : Array Value), i ≤ 8 ∧ u9 = .int .i64 i ∧ Hd (Blk w' w.heap.size cs 5 ∧ cs.size = 8 ∧ Ext w w' ∧ ∀ j, j < i → cs[j]? = (low8 n)[j]?)) (fun u9 _ => 8 - (intOf u9).toNat)
 case atStart => exact ⟨0, _, by omega, rfl, zk _ _ _, rfl, za _ _, fun j h => absurd h (Nat.not_lt_zero _)⟩
 case round =>
  obtain ⟨i, cs, hi, rfl, hV⟩ := hrel
  by_cases ah : i < 8
  ·have BH := hV.o.1.frz
   have CY : ∃ v, wr.cell? ⟨w.heap.size, i, none⟩ = some v := ⟨_, by rw [hV.o.1.cell]; exact Array.getElem?_eq_getElem (by rw [hV.o.2.1]; omega)⟩
   obtain ⟨cv, eN⟩ := CY
   have h8 : i = 0 ∨ i = 1 ∨ i = 2 ∨ i = 3 ∨ i = 4 ∨ i = 5 ∨ i = 6 ∨ i = 7 := by omega
   rcases h8 with rfl | rfl | rfl | rfl | rfl | rfl | rfl | rfl
   ·go_wp2
    refine ⟨⟨1, cs.setIfInBounds 0 (.int .u8 ((n : Int) % 256)), by decide, rfl, hV.o.1.set _ _, by simp [hV.o.2.1], Fr.setCell hV.o.2.2.1 (.inr (Nat.le_refl _)) _, zdg hV.o.2.1 hV.o.2.2.2 (by decide) ?_⟩, by simp [intOf]⟩
    show some (Value.int .u8 (_ : Int)) = _
    congr 2
    simp only [UInt8.toNat_ofNat']
    omega
   ·go_wp2
    refine ⟨⟨2, cs.setIfInBounds 1 (.int .u8 ((n : Int) / 256 % 256)), by decide, rfl, hV.o.1.set _ _, by simp [hV.o.2.1], Fr.setCell hV.o.2.2.1 (.inr (Nat.le_refl _)) _, zdg hV.o.2.1 hV.o.2.2.2 (by decide) ?_⟩, by simp [intOf]⟩
    show some (Value.int .u8 (_ : Int)) = _
    congr 2
    simp only [UInt8.toNat_ofNat']
    omega
   ·go_wp2
    refine ⟨⟨3, cs.setIfInBounds 2 (.int .u8 ((n : Int) / 65536 % 256)), by decide, rfl, hV.o.1.set _ _, by simp [hV.o.2.1], Fr.setCell hV.o.2.2.1 (.inr (Nat.le_refl _)) _, zdg hV.o.2.1 hV.o.2.2.2 (by decide) ?_⟩, by simp [intOf]⟩
    show some (Value.int .u8 (_ : Int)) = _
    congr 2
    simp only [UInt8.toNat_ofNat']
    omega
   ·go_wp2
    refine ⟨⟨4, cs.setIfInBounds 3 (.int .u8 ((n : Int) / 16777216 % 256)), by decide, rfl, hV.o.1.set _ _, by simp [hV.o.2.1], Fr.setCell hV.o.2.2.1 (.inr (Nat.le_refl _)) _, zdg hV.o.2.1 hV.o.2.2.2 (by decide) ?_⟩, by simp [intOf]⟩
    show some (Value.int .u8 (_ : Int)) = _
    congr 2
    simp only [UInt8.toNat_ofNat']
    omega
   ·go_wp2
    refine ⟨⟨5, cs.setIfInBounds 4 (.int .u8 ((n : Int) / 4294967296 % 256)), by decide, rfl, hV.o.1.set _ _, by simp [hV.o.2.1], Fr.setCell hV.o.2.2.1 (.inr (Nat.le_refl _)) _, zdg hV.o.2.1 hV.o.2.2.2 (by decide) ?_⟩, by simp [intOf]⟩
    show some (Value.int .u8 (_ : Int)) = _
    congr 2
    simp only [UInt8.toNat_ofNat']
    omega
   ·go_wp2
    refine ⟨⟨6, cs.setIfInBounds 5 (.int .u8 ((n : Int) / 1099511627776 % 256)), by decide, rfl, hV.o.1.set _ _, by simp [hV.o.2.1], Fr.setCell hV.o.2.2.1 (.inr (Nat.le_refl _)) _, zdg hV.o.2.1 hV.o.2.2.2 (by decide) ?_⟩, by simp [intOf]⟩
    show some (Value.int .u8 (_ : Int)) = _
    congr 2
    simp only [UInt8.toNat_ofNat']
    omega
   ·go_wp2
    refine ⟨⟨7, cs.setIfInBounds 6 (.int .u8 ((n : Int) / 281474976710656 % 256)), by decide, rfl, hV.o.1.set _ _, by simp [hV.o.2.1], Fr.setCell hV.o.2.2.1 (.inr (Nat.le_refl _)) _, zdg hV.o.2.1 hV.o.2.2.2 (by decide) ?_⟩, by simp [intOf]⟩
    show some (Value.int .u8 (_ : Int)) = _
    congr 2
    simp only [UInt8.toNat_ofNat']
    omega
   ·go_wp2
    refine ⟨⟨8, cs.setIfInBounds 7 (.int .u8 ((n : Int) / 72057594037927936)), by decide, rfl, hV.o.1.set _ _, by simp [hV.o.2.1], Fr.setCell hV.o.2.2.1 (.inr (Nat.le_refl _)) _, zdg hV.o.2.1 hV.o.2.2.2 (by decide) ?_⟩, by simp [intOf]⟩
    show some (Value.int .u8 (_ : Int)) = _
    congr 2
    simp only [UInt8.toNat_ofNat']
    omega
  ·obtain rfl : i = 8 := by omega
   go_wp2_with fail
   refine (Sink.put (m := 8) (ys := zG 8 n) hS.o hV.o.2.2.1 ap.o rfl hV.o.1 (all8 hV.o.2.1 hV.o.2.2.2) (by decide) (by decide) (by have := hl.o; omega)).mono ?_
   rintro e w2 ⟨rfl, hW⟩
   have hW := qh hW
   go_wp2
   go_ret
   exact ⟨rfl, hW.o⟩
structure St where
 b : List UInt8
 v : Nat
def St.fail (s : St) (n : Nat) : St := ⟨[], if s.v = 0 then n else s.v⟩
def zn (s : St) : Nat × St :=
 match s.b with
 | [] => (0, s.fail 3)
 | c :: r => (c.toNat, ⟨r, s.v⟩)
def unsG (bits : Nat) : Nat → Nat → Nat → List UInt8 → Nat × Nat
 | _, _, _, [] => (0, 0)
 | sh, bz, n, c :: r =>
  if bits ≤ sh then (0, 0)
  else if bits - sh < 7 ∧ c.toNat % 128 / 2 ^ (bits - sh) ≠ 0 then (0, 0)
  else if c.toNat < 128 then (bz ||| (c.toNat % 128 * 2 ^ sh % 2 ^ 64), n + 1)
  else unsG bits (sh + 7) (bz ||| (c.toNat % 128 * 2 ^ sh % 2 ^ 64)) (n + 1) r
def uns (bits : Nat) (b : List UInt8) : Nat × Nat := unsG bits 0 0 0 b
def jO (bits : Nat) (b : List UInt8) : Bool := b.all (fun c => decide (128 ≤ c.toNat)) && decide (7 * b.length < bits)
def Yk (left c : Nat) : Bool :=
 let t : Int := (((c * 2 % 256 : Nat) : Int) + 128) % 256 - 128
 (decide (t / 2 ^ left ≠ 0) && decide (t / 2 ^ left ≠ -1)) || decide (128 ≤ c)
def sigG (bits : Nat) : Nat → Nat → Nat → List UInt8 → Nat × Nat
 | _, _, _, [] => (0, 0)
 | sh, bz, n, c :: r =>
  if bits ≤ sh then (0, 0)
  else if bits - sh < 7 ∧ Yk (bits - sh) c.toNat = true then (0, 0)
  else if c.toNat < 128 then
   (if 64 ≤ c.toNat ∧ sh + 7 < 64 then (bz ||| (c.toNat % 128 * 2 ^ sh % 2 ^ 64)) ||| (2 ^ 64 - 2 ^ (sh + 7)) else bz ||| (c.toNat % 128 * 2 ^ sh % 2 ^ 64), n + 1)
  else sigG bits (sh + 7) (bz ||| (c.toNat % 128 * 2 ^ sh % 2 ^ 64)) (n + 1) r
def sig (bits : Nat) (b : List UInt8) : Nat × Nat := sigG bits 0 0 0 b
def zd (s : St) : Nat × St :=
 if (uns 32 s.b).2 = 0 then (0, s.fail (if jO 32 s.b then 3 else 2)) else ((uns 32 s.b).1 % 4294967296, ⟨s.b.drop (uns 32 s.b).2, s.v⟩)
def zC (bits : Nat) (s : St) : Nat × St :=
 if (sig bits s.b).2 = 0 then (0, s.fail (if jO bits s.b then 3 else 2)) else ((if bits = 32 then (sig bits s.b).1 % 4294967296 else (sig bits s.b).1), ⟨s.b.drop (sig bits s.b).2, s.v⟩)
def zv (s : St) : Nat × St :=
 if (zd s).2.b.length < (zd s).1 then (0, if 10000 < (zd s).1 then ⟨[], 2⟩ else (zd s).2.fail 3) else zd s
def zj (s : St) : Int × St :=
 (127 - ((zn s).1 : Int), if (zn s).2.v = 0 ∧ ((zn s).1 < 124 ∨ 127 < (zn s).1) then (zn s).2.fail 1 else (zn s).2)
def zW (n : Nat) (s : St) : List UInt8 × St :=
 if s.b.length < n then ([], if 1048576 < n then ⟨[], 2⟩ else s.fail 3) else (s.b.take n, ⟨s.b.drop n, s.v⟩)
def ZQ : List UInt8 → Nat
 | [] => 0
 | c :: r => c.toNat + 256 * ZQ r
def yV (k : Int) (s : St) : Nat × St :=
 if k = 0 then zC 32 s
 else if k = 1 then ((zC 64 s).1, if 9223372036854775808 ≤ (zC 64 s).1 ∧ 4 + (zC 64 s).2.b.length < s.b.length then (zC 64 s).2.fail 2 else (zC 64 s).2)
 else if k = 2 then zd s
 else if k = 5 then zn s
 else (ZQ (zW (if k = 3 then 4 else if k = 4 then 8 else 0) s).1, (zW (if k = 3 then 4 else if k = 4 then 8 else 0) s).2)
def jB : List Int → St → List (Int × UInt64) × St
 | [], s => ([], s)
 | k :: ks, s => ((k, UInt64.ofNat (yV k s).1) :: (jB ks (yV k s).2).1, (jB ks (yV k s).2).2)
def zhZ (l : List UInt8) : List Value := l.map fun b => Value.int .u8 (b.toNat : Int)
section
variable {P : Program} {ar : Array Oper} {Q : Exit → Act → World → Prop} {o : Oper} {a : Act} {K : Act → World → Prop}
end
abbrev eofAt : Addr := ⟨0, 0, none⟩
structure Src where
 is : (Nat → Prop) → Nat → List UInt8 → World → Prop
 lt : ∀ {D g bs w}, is D g bs w → g < w.heap.size ∧ ∀ k, D k → k < w.heap.size ∧ k ≠ g
 frame : ∀ {D g bs w w' S}, is D g bs w → Fr S w w' → ¬ S g → (∀ k, D k → ¬ S k) → is D g bs w'
 T : TypeId
 f : FuncId
 nil : ∀ (g : Nat) (W : World), (nilAhead 559 T (.pointer (some ⟨g, 0, none⟩)) "Read").run Tryz.prog W = .ok (some false) W
 meth : ∀ (g : Nat) (W : World), (method 559 T (.pointer (some ⟨g, 0, none⟩)) "Read").run Tryz.prog W = .ok (f, .pointer (some ⟨g, 0, none⟩)) W
 call : ∀ (args : Array Value) (W : World), (callFunc f args).run Tryz.prog W = .ok (.enter f args) W
 read : ∀ (D : Nat → Prop) (g b o m c : Nat) (bs : List UInt8) (cs : Array Value) (Tb : TypeId) (w : World), is D g bs w → Blk w b cs Tb → o + m ≤ cs.size → m ≤ c → c ≤ maxLen → b ≠ g → ¬ D b → 0 < m → 0 < bs.length →
  Calls Tryz.prog f #[.pointer (some ⟨g, 0, none⟩), .slice (some ⟨b, o, none⟩) m c] w fun e w' => ∃ n : Nat, 0 < n ∧ n ≤ m ∧ n ≤ bs.length ∧ e = .returned (.tuple #[.int .i64 n, .nilIface]) ∧ is D g (bs.drop n) w' ∧
   Fr (fun k => k = g ∨ k = b) w w' ∧ Blk w' b (splice cs.toList o (zhZ (bs.take n))).toArray Tb
 eof : ∀ (D : Nat → Prop) (g : Nat) (p v : Value) (w : World), is D g [] w → w.cell? eofAt = some v →
  Calls Tryz.prog f #[.pointer (some ⟨g, 0, none⟩), p] w fun e w' => e = .returned (.tuple #[.int .i64 0, v]) ∧ is D g [] w' ∧ Fr (fun k => k = g) w w'
variable {D : Nat → Prop}
theorem zgp (h : Lay.u8.slice.rd D w [.slice aa bs.length cap] bs) (hn : n ≤ bs.length) :
 Lay.u8.slice.rd D w [.slice (aa.map (·.add n)) (bs.drop n).length (cap - n)] (bs.drop n) := by
 obtain ⟨a', eV, e, h1, h2, h3⟩ := h
 simp only [List.cons.injEq, Value.slice.injEq, and_true] at e
 obtain ⟨rfl, -, rfl⟩ := e
 refine ⟨_, _, rfl, by rw [ldQ]; omega, by omega, fun hp => ?_⟩
 rw [ldQ] at hp
 obtain ⟨b, o, bO, T, fz, flat, rfl, hA, hh, cr, hc⟩ := h3 (by omega)
 obtain rfl := Yy cr
 refine ⟨b, o + n, bO, T, fz, _, by rw [Option.map_some, jL], hA, hh, zar _, fun j hj => ?_⟩
 rw [List.length_map, ldQ] at hj
 rw [Nat.add_assoc, hc (n + j) (by rw [List.length_map]; omega), List.getElem?_map, List.getElem?_map, List.getElem?_drop]
def SpR (D : Nat → Prop) (g : Nat) (lo : Bool) (s : St) (w : World) : Prop :=
 ∃ aa cap, Blk w g #[.slice aa s.b.length cap, .int .i64 (s.v : Int), .bool lo] 142 ∧ Lay.u8.slice.rd D w [.slice aa s.b.length cap] s.b ∧ (∀ k, D k → k < w.heap.size ∧ k ≠ g)
variable {lo : Bool} {s : St}
theorem SpR.lt (h : SpR D g lo s w) : g < w.heap.size ∧ ∀ k, D k → k < w.heap.size ∧ k ≠ g := by
 obtain ⟨aa, cap, hb, h1, h2⟩ := h
 exact ⟨hb.lt, h2⟩
theorem SpR.fr (h : SpR D g lo s w) (hf : Fr S w w') (hg : ¬ S g) (hD : ∀ k, D k → ¬ S k) : SpR D g lo s w' := by
 obtain ⟨aa, cap, hb, h1, h2⟩ := h
 exact ⟨aa, cap, hb.fr hf hg, Lay.fr h1 hf (fun k hk => ⟨(h2 k hk).1, hD k hk⟩), fun k hk => ⟨nqQ (h2 k hk).1 hf.size, (h2 k hk).2⟩⟩
theorem SpR.ext (h : SpR D g lo s w) (hf : Ext w w') : SpR D g lo s w' := h.fr hf (fun h => h) (fun _ _ h => h)
variable {a : Option Addr}
theorem zbY (hc : c ≤ maxLen) : Lay.u8.slice.rd D w [.slice a 0 c] [] := ⟨a, c, rfl, nzQ _, hc, fun h => absurd h (by simp)⟩
theorem SpR.mk (hb : Blk w' g #[.slice aa s.b.length cap, .int .i64 (s.v : Int), .bool lo] 142) (hr : Lay.u8.slice.rd D w [.slice aa s.b.length cap] s.b)
 (hD : ∀ k, D k → k < w.heap.size ∧ k ≠ g) (hf : Fr (fun k => k = g) w w') : SpR D g lo s w' :=
 ⟨aa, cap, hb, Lay.fr hr hf (fun k hk => hD k hk), fun k hk => ⟨nqQ (hD k hk).1 hf.size, (hD k hk).2⟩⟩
theorem zr (D : Nat → Prop) (g : Nat) (lo : Bool) (s : St) (n : Nat) (w : World) (h : SpR D g lo s w) :
 Calls Tryz.prog 50 #[.pointer (some ⟨g, 0, none⟩), .int .i64 (n : Int)] w fun e w' => e = .returned (.tuple #[]) ∧ SpR D g lo (s.fail n) w' ∧ Fr (fun k => k = g) w w' := by
 obtain ⟨aa, cap, hb, h1, h2⟩ := h
 have hc := hb.cell
 have hf := hb.frz
 have H := qh (anQ hb (anQ h1 h2))
 by_cases hv : s.v = 0
 ·have hs := qh (show s.fail n = ⟨[], n⟩ from by simp [St.fail, hv])
  rw [hv] at hc
  clear hb h1 h2 hv
  go_enter Tryz.func50, Tryz.ntmps50
  go_wp2
  go_end0
  have hF : Fr (fun k => k = g) w ((w.setCell ⟨g, 1, none⟩ (.int .i64 (n : Int))).setCell ⟨g, 0, none⟩ (.slice none 0 0)) := Fr.setCell (Fr.setCell (Fr.refl (fun k => k = g) w) (p := ⟨g, 1, none⟩) (.inl rfl) _) (p := ⟨g, 0, none⟩) (.inl rfl) _
  refine ⟨rfl, ?_, hF⟩
  rw [hs.o]
  refine SpR.mk (aa := none) (cap := 0) ?_ (zbY (by decide)) H.o.2.2 hF
  have := (H.o.1.set 1 (.int .i64 (n : Int))).set 0 (.slice none 0 0)
  simpa using this
 ·have hs := qh (show s.fail n = ⟨[], s.v⟩ from by simp [St.fail, hv])
  have Ag := bfQ (a := (s.v : Int)) (b := 0) (by omega)
  clear hb h1 h2 hv
  go_enter Tryz.func50, Tryz.ntmps50
  go_wp2
  go_end0
  have hF : Fr (fun k => k = g) w (w.setCell ⟨g, 0, none⟩ (.slice none 0 0)) := Fr.setCell (Fr.refl (fun k => k = g) w) (p := ⟨g, 0, none⟩) (.inl rfl) _
  refine ⟨rfl, ?_, hF⟩
  rw [hs.o]
  refine SpR.mk (aa := none) (cap := 0) ?_ (zbY (by decide)) H.o.2.2 hF
  have := H.o.1.set 0 (.slice none 0 0)
  simpa using this
theorem yh (h : SpR D g lo s w) :
 Calls Tryz.prog 48 #[.pointer (some ⟨g, 0, none⟩)] w fun e w' => e = .returned (.bool (decide (s.v = 0))) ∧ w' = w := by
 obtain ⟨aa, cap, hb, h1, h2⟩ := h
 have hc := hb.cell
 clear hb h1 h2
 by_cases hv : s.v = 0
 ·have hs := qh (show decide (s.v = 0) = true from decide_eq_true hv)
  rw [hv] at hc
  clear hv
  go_enter Tryz.func48, Tryz.ntmps48
  go_wp2
  go_ret
  exact ⟨by rw [hs.o]; rfl, rfl⟩
 ·have hs := qh (show decide (s.v = 0) = false from decide_eq_false hv)
  have Ag := bfQ (a := (s.v : Int)) (b := 0) (by omega)
  clear hv
  go_enter Tryz.func48, Tryz.ntmps48
  go_wp2
  go_ret
  exact ⟨by rw [hs.o]; rfl, rfl⟩
theorem zfv {xs : List UInt8} (h : Lay.u8.slice.rd A w [.slice a n cap] xs) (i : Nat) (hi : i < xs.length) :
 ∃ (b o : Nat), a = some ⟨b, o, none⟩ ∧ A b ∧ w.cell? ⟨b, o + i, none⟩ = some (.int .u8 (xs[i].toNat : Int)) := by
 have hn : xs.length = n := by
  obtain ⟨_, _, e, _⟩ := h
  simp only [List.cons.injEq, Value.slice.injEq, and_true] at e
  exact e.2.1.symm
 obtain ⟨b, o, es, er, e, hA, _, hr, hc⟩ := Lay.slice_at h i (by omega)
 obtain rfl : es = _ := hr
 have := hc 0 (by decide)
 rw [show o + i * Lay.u8.size + 0 = o + i from by show o + i * 1 + 0 = o + i; omega] at this
 exact ⟨b, o, e, hA, this⟩
theorem SpR.drop {b : List UInt8} {v : Nat} (hb : Blk w g #[.slice aa b.length cap, .int .i64 (v : Int), .bool lo] 142) (h1 : Lay.u8.slice.rd D w [.slice aa b.length cap] b)
 (h2 : ∀ k, D k → k < w.heap.size ∧ k ≠ g) (n : Nat) (hn : n ≤ b.length) :
 SpR D g lo ⟨b.drop n, v⟩ (w.setCell ⟨g, 0, none⟩ (.slice (aa.map (·.add n)) (b.length - n) (cap - n))) ∧ (cap = n → SpR D g lo ⟨b.drop n, v⟩ (w.setCell ⟨g, 0, none⟩ (.slice aa (b.length - n) 0))) := by
 have hF : ∀ u, Fr (fun k => k = g) w (w.setCell ⟨g, 0, none⟩ u) := fun u => zh w ⟨g, 0, none⟩ u
 have hl := List.length_drop (l := b) (i := n)
 refine ⟨SpR.mk (aa := aa.map (·.add n)) (cap := cap - n) ?_ (zgp h1 hn) h2 (hF _), fun hc => SpR.mk (aa := aa) (cap := 0) ?_ ?_ h2 (hF _)⟩
 ·have := hb.set 0 (.slice (aa.map (·.add n)) (b.length - n) (cap - n))
  rw [hl]; simpa using this
 ·have := hb.set 0 (.slice aa (b.length - n) 0)
  rw [hl]; simpa using this
 ·obtain ⟨_, _, e, h5, _⟩ := h1
  simp only [List.cons.injEq, Value.slice.injEq, and_true] at e
  obtain ⟨-, -, rfl⟩ := e
  have h0 : (b.drop n).length = 0 := by omega
  rw [h0, List.eq_nil_of_length_eq_zero h0]
  exact zbY (by decide)
theorem yo (h : SpR D g lo s w) :
 Calls Tryz.prog 49 #[.pointer (some ⟨g, 0, none⟩)] w fun e w' => e = .returned (.int .i64 ((zn s).1 : Int)) ∧ SpR D g lo (zn s).2 w' ∧ Fr (fun k => k = g) w w' := by
 have hS := qh h
 obtain ⟨aa, cap, hb, h1, h2⟩ := h
 have hc := hb.cell
 have hf := hb.frz
 obtain ⟨b, v⟩ := s
 cases b with
 | nil =>
  clear hb h1 h2 hf
  go_enter Tryz.func49, Tryz.ntmps49
  go_wp2_with fail
  refine (zr D g lo _ 3 w hS.o).mono ?_
  rintro e w1 ⟨rfl, k1, k2⟩
  have HK := qh (anQ k1 k2)
  clear k1 k2 hc
  go_wp2
  go_ret
  exact ⟨rfl, HK.o.1, HK.o.2⟩
 | cons c r =>
  obtain ⟨bb, o, rfl, hA, e0⟩ := zfv h1 0 (by simp)
  simp only [Nat.add_zero, List.getElem_cons_zero] at e0
  obtain ⟨a', c', ee, dh, bh⟩ := Lay.slice_form h1
  simp only [Value.slice.injEq] at ee
  obtain ⟨-, -, rfl⟩ := ee
  simp only [List.length_cons] at dh
  have fA : (cap : Int) ≤ 9223372036854775807 := by simp only [maxLen] at bh; omega
  have ht := c.toNat_lt
  have H := qh (SpR.drop hb h1 h2 1 (by simp))
  rw [show zn ⟨c :: r, v⟩ = (c.toNat, ⟨r, v⟩) from rfl]
  simp only [List.length_cons, List.drop_succ_cons, List.drop_zero, Nat.add_sub_cancel, Option.map_some, jL] at H
  generalize c.toNat = t at *
  clear hb h1 h2 hA hS bh
  go_enter Tryz.func49, Tryz.ntmps49
  go_wp2
  ·go_ret
   exact ⟨by simp only [Ending.returned.injEq]; go_num, H.o.2 (by omega), zh w ⟨g, 0, none⟩ _⟩
  ·go_ret
   exact ⟨by simp only [Ending.returned.injEq]; go_num, H.o.1, zh w ⟨g, 0, none⟩ _⟩
def zi7 : Nat → Nat → List UInt8 → Option (Nat × List UInt8)
 | _, _, [] => none
 | s, a, b :: bs => if b.toNat < 128 then some (a ||| (b.toNat % 128 * 2 ^ s % 2 ^ 64), bs) else zi7 (s + 7) (a ||| (b.toNat % 128 * 2 ^ s % 2 ^ 64)) bs
def toS (a : Nat) : Int := ((a : Int) + 9223372036854775808) % 18446744073709551616 - 9223372036854775808
theorem ziL {a b : Nat} {x y : Int} (hx : x % 18446744073709551616 = a) (hy : y % 18446744073709551616 = b) : bits .or .i64 x y = toS (a ||| b) := by
 show IntKind.i64.wrap ((BitVec.ofInt 64 x ||| BitVec.ofInt 64 y).toNat : Int) = _
 have h1 := Jr x
 have h2 := Jr y
 rw [BitVec.toNat_or, show (BitVec.ofInt 64 x).toNat = a from by omega, show (BitVec.ofInt 64 y).toNat = b from by omega, IntKind.wrap_i64]
 rfl
theorem zcD {a : Nat} (ha : a < 18446744073709551616) : toS a % 18446744073709551616 = a := by unfold toS; omega
def Ze : Nat → Nat → List UInt8 → Option (Int × List UInt8)
 | _, _, [] => none
 | s, a, b :: bs => if b.toNat < 128 then some (toS (if s + 7 < 32 ∧ 64 ≤ b.toNat then (a ||| (b.toNat % 128 * 2 ^ s % 2 ^ 64)) ||| (2 ^ 64 - 2 ^ (s + 7)) else a ||| (b.toNat % 128 * 2 ^ s % 2 ^ 64)), bs) else Ze (s + 7) (a ||| (b.toNat % 128 * 2 ^ s % 2 ^ 64)) bs
end Go.Proofs.YtejgninpjhcgnaaGreatDoor
