/- Texts of this proof, one behind the other. -/
import Derived.Test.YtejgninpjhcgnaaGreatDoorPart11
namespace Go.Proofs.YtejgninpjhcgnaaGreatDoor
open Go.RowKit
set_option linter.unusedSimpArgs false
set_option linter.unusedVariables false
set_option maxRecDepth 100000
set_option maxHeartbeats 4000000
def ziC (P : Program) (T t : TypeId) : Bool :=
 match P.underlying t, P.info? T with
 | some (.interface me), some i => !(me.toList.filter fun x => !i.methods.any fun m => m.name == x.1 && m.sig == x.2).isEmpty
 | _, _ => false
variable {l : List String}
theorem zbE (h : l ≠ []) : ∃ m, Instr.least l = some m := by
 cases l with
 | nil => exact absurd rfl h
 | cons a l => exact ⟨_, rfl⟩
theorem zf6 (p : String → Bool) (f : String → String) (h : l ≠ []) : ∃ m, (Instr.least (l.partition p).2 <|> Instr.least ((l.partition p).1.map f)) = some m := by
 rw [List.partition_eq_filter_filter]
 by_cases h1 : l.filter (not ∘ p) = []
 ·rw [h1]
  have h2 : l.filter p ≠ [] := by
   intro h2
   apply h
   rw [List.filter_eq_nil_iff] at h1 h2
   cases l with
   | nil => rfl
   | cons a l =>
    have a1 := h1 a (by simp)
    have a2 := h2 a (by simp)
    simp at a1 a2
    simp [a1] at a2
  exact zbE (by simpa using h2)
 ·obtain ⟨m, hm⟩ := zbE h1
  exact ⟨m, by show (Instr.least (l.filter (not ∘ p)) <|> _) = _; rw [hm]; rfl⟩
theorem zcX {me : Array (String × TypeId)} {AD : Array Method} (h : (me.toList.filter fun x => !AD.any fun m => m.name == x.1 && m.sig == x.2) ≠ []) : ∃ m, Instr.missingMethod me AD = some m := by
 unfold Instr.missingMethod
 exact zf6 _ _ (by simpa using h)
variable {T : TypeId}
theorem zhc {P : Program} {x t : TypeId} {z : Value} (h : ziC P T t = true) (hz : ∀ W, (zeroValue t).run P W = .ok z W) (v : Value) (W : World) : (Instr.typeAssert (.iface T v) x t true).run P W = .ok (.tuple #[z, .bool false]) W := by
 unfold ziC at h
 split at h
 ·rename_i me i hu hi
  obtain ⟨m, hm⟩ := zcX (by simpa using h)
  unfold Instr.typeAssert
  simp [run_underlying hu, typeInfo, hi, hm, hz]
 ·cases h
def zf7 (T : TypeId) (p : Value) (m : String) (R : World → Value → World → Prop) : Prop :=
 ∃ fo po, (∀ W, (nilAhead 559 T p m).run Tryz.prog W = .ok (some false) W) ∧ (∀ W, (method 559 T p m).run Tryz.prog W = .ok (fo, po) W) ∧ (∀ args W, (callFunc fo args).run Tryz.prog W = .ok (.enter fo args) W) ∧
  ∀ w, Calls Tryz.prog fo #[po] w fun e w' => ∃ v, e = .returned v ∧ R w v w' ∧ Ext w w'
def RiOp (T : TypeId) (p : Value) (op : Nat) : Prop := zf7 T p "Op" (fun _ v _ => v = .int .u8 (op : Int))
def zf8 (T : TypeId) (p : Value) (xs : List (Int × UInt64)) : Prop := zf7 T p "ImmediateArgs" (fun w v w' => Lay.argI.slice.rd (fun k => w.heap.size ≤ k ∧ k < w'.heap.size) w' [v] xs)
variable {w : World}
theorem zek {W : World} {x : Int × UInt64} (hw : w.heap.size ≤ W.heap.size) (h : okI x) : Lay.argI.slice.rd (fun k => w.heap.size ≤ k ∧ k < (W.alloc (.cells #[Ym x] T)).heap.size) (W.alloc (.cells #[Ym x] T)) [.slice (some ⟨W.heap.size, 0, none⟩) 1 1] [x] :=
 ⟨_, 1, rfl, Nat.le_refl _, by decide, fun _ => ⟨W.heap.size, 0, _, _, _, [Ym x], rfl, ⟨hw, by simp⟩, zl W _ _, Lay.all_single ⟨rfl, h⟩, fun j hj => by simp⟩⟩
theorem zjw (v : Int) : RiOp 437 (.agg #[.int .i32 v]) 65 := by
 refine ⟨225, .agg #[.int .i32 v], fun W => by kernel_rfl, fun W => by kernel_rfl, fun args W => by kernel_rfl, fun w => ?_⟩
 go_enter Tryz.func225, Tryz.ntmps225
 go_wp2
 go_ret
 exact ⟨_, rfl, rfl, za _ _⟩
variable {v : Int}
theorem zhd (h : -2147483648 ≤ v ∧ v < 2147483648) : zf8 437 (.agg #[.int .i32 v]) [(0, yK (v % 4294967296))] := by
 refine ⟨224, .agg #[.int .i32 v], fun W => by kernel_rfl, fun W => by kernel_rfl, fun args W => by kernel_rfl, fun w => ?_⟩
 go_enter Tryz.func224, Tryz.ntmps224
 go_wp2
 go_ret
 rw [← zfI h]
 refine ⟨_, rfl, ?_, Ext.trans (za _ _) (za _ _)⟩
 have := zek (w := w) (W := w.alloc (.cells #[.int .i32 v] 437)) (x := (0, yK (v % 4294967296))) (T := 20) (by simp) (.inl ⟨rfl, by have := Ju (v % 4294967296); show (yK _).toNat < _; omega⟩)
 simpa using this
theorem zjx (v : Int) : RiOp 441 (.agg #[.int .i64 v]) 66 := by
 refine ⟨227, .agg #[.int .i64 v], fun W => by kernel_rfl, fun W => by kernel_rfl, fun args W => by kernel_rfl, fun w => ?_⟩
 go_enter Tryz.func227, Tryz.ntmps227
 go_wp2
 go_ret
 exact ⟨_, rfl, rfl, za _ _⟩
theorem zhe (h : -9223372036854775808 ≤ v ∧ v < 9223372036854775808) : zf8 441 (.agg #[.int .i64 v]) [(1, yK v)] := by
 refine ⟨226, .agg #[.int .i64 v], fun W => by kernel_rfl, fun W => by kernel_rfl, fun args W => by kernel_rfl, fun w => ?_⟩
 go_enter Tryz.func226, Tryz.ntmps226
 go_wp2
 go_ret
 rw [← zfJ h]
 refine ⟨_, rfl, ?_, Ext.trans (za _ _) (za _ _)⟩
 have := zek (w := w) (W := w.alloc (.cells #[.int .i64 v] 441)) (x := (1, yK v)) (T := 20) (by simp) (.inr (.inl rfl))
 simpa using this
theorem zeN (v : Value) (W : World) : (Instr.typeAssert (.iface 21 v) 20 21 true).run Tryz.prog W = .ok (.tuple #[v, .bool true]) W := by kernel_rfl
theorem zeO (v : Value) (W : World) : (Instr.typeAssert (.iface 2 v) 20 21 true).run Tryz.prog W = .ok (.tuple #[.int .i32 0, .bool false]) W := by kernel_rfl
theorem zeP (v : Value) (W : World) : (Instr.typeAssert (.iface 2 v) 20 2 true).run Tryz.prog W = .ok (.tuple #[v, .bool true]) W := by kernel_rfl
theorem zbq (a : Int × UInt64) (ha : (a.1 = 0 ∧ a.2.toNat < 4294967296) ∨ a.1 = 1) (w : World) : Calls Tryz.prog 105 #[Ym a] w fun e w' => e = .returned (.agg #[.int .i64 a.1, .int .u64 (a.2.toNat : Int)]) ∧ Ext w w' := by
 obtain ⟨k, b⟩ := a
 have hb := b.toNat_lt
 have Dm := zeN
 have pD := zeO
 have mJ := zeP
 rcases ha with ⟨rfl, h⟩ | h
 ·dsimp only at h
  rw [show Ym (0, b) = .iface 21 (.int .i32 (wrap32 (b.toNat : Int))) from rfl]
  have hw : IntKind.u32.wrap (wrap32 (b.toNat : Int)) = (b.toNat : Int) := by rw [IntKind.wrap_u32]; unfold wrap32; omega
  generalize b.toNat = n at *
  go_enter Tryz.func105, Tryz.ntmps105
  go_wp2
  exact bodyPost_ret (v := .agg #[.int .i64 0, .int .u64 (n : Int)]) (by simp [results, Tryz.results105, go_sem]) rfl ⟨rfl, za _ _⟩
 ·obtain rfl : k = 1 := h
  rw [show Ym (1, b) = .iface 2 (.int .i64 (wrap64 (b.toNat : Int))) from rfl]
  have hw : IntKind.u64.wrap (wrap64 (b.toNat : Int)) = (b.toNat : Int) := by rw [IntKind.wrap_u64]; unfold wrap64; omega
  generalize b.toNat = n at *
  go_enter Tryz.func105, Tryz.ntmps105
  go_wp2
  exact bodyPost_ret (v := .agg #[.int .i64 1, .int .u64 (n : Int)]) (by simp [results, Tryz.results105, go_sem]) rfl ⟨rfl, za _ _⟩
theorem zjy (T : TypeId) (h : ziC Tryz.prog T 301 = true) (v : Value) (W : World) : (Instr.typeAssert (.iface T v) 294 301 true).run Tryz.prog W = .ok (.tuple #[.nilIface, .bool false]) W :=
 zhc h (fun W => by kernel_rfl) v W
variable {A : Nat → Prop} {a : Option Addr} {m cap : Nat}
theorem ziD {xs : List (Int × UInt64)} (h : Lay.argI.slice.rd A w [.slice a m cap] xs) (i : Nat) (hi : i < xs.length) :
 ∃ (b o : Nat), a = some ⟨b, o, none⟩ ∧ w.cell? ⟨b, o + i, none⟩ = some (Ym xs[i]) ∧ okI xs[i] := by
 have hn : xs.length = m := by
  obtain ⟨_, _, e, _⟩ := h
  simp only [List.cons.injEq, Value.slice.injEq, and_true] at e
  exact e.2.1.symm
 obtain ⟨b, o, es, eY, e, hA, _, hr, hc⟩ := Lay.slice_at h i (by omega)
 obtain ⟨rfl, fS⟩ := hr
 have := hc 0 (by decide)
 rw [show o + i * Lay.argI.size + 0 = o + i from by show o + i * 1 + 0 = o + i; omega] at this
 exact ⟨b, o, e, this, fS⟩
theorem zhf : (Tryz.prog.info? 243).map (fun i => (i.zero, i.size, i.bytes)) = some (some (.agg #[.int .i64 0, .int .u64 0]), Lay.arg.size, 16) := by kernel_rfl
theorem zeQ (n : Nat) : (Tryz.prog.info? 242).map (fun i => (i.zero, i.size, i.bytes)) = some (some (.agg #[.int .i64 0, .slice none 0 0, .bool false, .int .i64 0, .slice none 0 0]), (Lay.ins n).size, 72) := by rw [Lay.ins_size]; kernel_rfl
theorem ziE {n : Nat} {op ty : Int} {args : List (Int × UInt64)} {st : Bool} {body : List Ins} {v1 v2 : Value} (h1 : -9223372036854775808 ≤ op ∧ op ≤ 9223372036854775807) (h2 : -9223372036854775808 ≤ ty ∧ ty ≤ 9223372036854775807)
 (ha : Lay.arg.slice.rd A w [v1] args) (hb : (Lay.ins n).slice.rd A w [v2] body) : (Lay.ins (n + 1)).rd A w [.int .i64 op, v1, .bool st, .int .i64 ty, v2] (.mk op args st ty body) :=
 ⟨[_], _, rfl, ⟨rfl, h1⟩, [_], _, rfl, ha, [_], _, rfl, rfl, [_], _, rfl, ⟨rfl, h2⟩, hb⟩
theorem zeR {α : Type} (l : Lay α) : l.slice.rd A w [.slice none 0 0] [] := ⟨none, 0, rfl, Nat.le_refl _, by decide, fun h => absurd h (by simp)⟩
def Ins.opN : Ins → Int
 | .mk o _ _ _ _ => o
def Ins.argL : Ins → List (Int × UInt64)
 | .mk _ a _ _ _ => a
def zhT (T : TypeId) (p : Value) (x : Ins) : Prop :=
 ∃ op : Nat, op < 256 ∧ x = .mk (op : Int) x.argL false (-1) [] ∧ x.argL.length ≤ 2 ∧ (∀ a ∈ x.argL, (a.1 = 0 ∧ a.2.toNat < 4294967296) ∨ a.1 = 1) ∧ RiOp T p op ∧ zf8 T p x.argL ∧ (∀ W, (Instr.typeAssert (.iface T p) 294 301 true).run Tryz.prog W = .ok (.tuple #[.nilIface, .bool false]) W)
theorem ziF {cs : List Value} {x : Ins} (h : Lay.kon.rd A w cs x) : ∃ T p, cs = [.iface T p] ∧ zhT T p x := by
 rcases h with ⟨v, rfl, h1, h2, rfl⟩ | ⟨v, rfl, h1, h2, rfl⟩
 ·refine ⟨_, _, rfl, 65, by decide, rfl, (by show 1 ≤ 2; omega), ?_, zjw v, zhd ⟨h1, h2⟩, fun W => zjy _ (by kernel_rfl) _ W⟩
  intro a ha
  obtain rfl := List.mem_singleton.1 ha
  exact .inl ⟨rfl, by have := Ju (v % 4294967296); show (yK _).toNat < _; omega⟩
 ·refine ⟨_, _, rfl, 66, by decide, rfl, (by show 1 ≤ 2; omega), ?_, zjx v, zhe ⟨h1, h2⟩, fun W => zjy _ (by kernel_rfl) _ W⟩
  intro a ha
  obtain rfl := List.mem_singleton.1 ha
  exact .inr rfl
theorem zjz {xs : List Ins} (h : Lay.kon.slice.rd A w [.slice a m cap] xs) (i : Nat) (hi : i < xs.length) :
 ∃ (b o : Nat) (T : TypeId) (p : Value), a = some ⟨b, o, none⟩ ∧ w.cell? ⟨b, o + i, none⟩ = some (.iface T p) ∧ zhT T p xs[i] := by
 have hn : xs.length = m := by
  obtain ⟨_, _, e, _⟩ := h
  simp only [List.cons.injEq, Value.slice.injEq, and_true] at e
  exact e.2.1.symm
 obtain ⟨b, o, es, eY, e, hA, _, hr, hc⟩ := Lay.slice_at h i (by omega)
 obtain ⟨T, p, rfl, cO⟩ := ziF hr
 have := hc 0 (by decide)
 rw [show o + i * Lay.kon.size + 0 = o + i from by show o + i * 1 + 0 = o + i; omega] at this
 exact ⟨b, o, T, p, e, this, cO⟩
theorem JJ (n : Nat) (l : List Ins) (aa : Option Addr) (m c : Nat) (A : Nat → Prop) (w : World) (hR : Lay.kon.slice.rd A w [.slice aa m c] l) (hA : ∀ k, A k → k < w.heap.size) (iJ : l.length ≤ 1048576) :
 Calls Tryz.prog 59 #[.slice aa m c] w fun e w' => ∃ v, e = .returned v ∧ Own (Lay.ins (n + 1)) 242 w.heap.size w' v l ∧ Ext w w' := by
 obtain ⟨a', c', e, dw, cn⟩ := Lay.slice_form hR
 obtain ⟨rfl, rfl, rfl⟩ : aa = a' ∧ m = l.length ∧ c = c' := by simpa using e
 have aT : (l.length : Int) ≤ 9223372036854775807 := by simp only [maxLen] at cn; omega
 have H := qh (anQ hR (anQ hA iJ))
 clear hR hA iJ dw cn e
 go_enter Tryz.func59, Tryz.ntmps59
 go_wp2_with fail
 go_loopw [3, 14] (fun s3 wV w' => ∃ (i : Nat), i ≤ l.length ∧ wV = .int .i64 i ∧ Hq (Own (Lay.ins (n + 1)) 242 w.heap.size w' s3 (l.take i)) ∧ Hq (Ext w w')) (fun _ wV _ => l.length - (intOf wV).toNat)
 case atStart => exact ⟨0, nzQ _, rfl, by show Own _ _ _ _ _ _; rw [List.take_zero]; exact J3 _ _ _ _, Fr.refl _ _⟩
 case round =>
  obtain ⟨i, hi, rfl, hO, hX⟩ := hrel
  by_cases aj : i < l.length
  ·obtain ⟨hR, hA, iJ⟩ := H.o
   have kH := Lay.fr hR hX.o (fun k hk => ⟨hA k hk, fun h => h⟩)
   obtain ⟨b, o, T, p, rfl, e0, cO⟩ := zjz kH i aj
   have bU := qh (show l.take (i + 1) = l.take i ++ [l[i]] from tsQ aj)
   generalize l[i] = x at *
   obtain ⟨op, xe, kA, kI, fS, ⟨fo, po, mN, mR, mV, oy⟩, ck, pE⟩ := cO
   have HA := qh (anQ ck (anQ pE (anQ kA (anQ kI fS))))
   have pE := qh pE
   have tF := qh oy
   clear hR hA iJ kH ck kA fS oy kI pE
   go_wp2_with fail
   refine (tF.o _).mono ?_
   rintro e wa ⟨v, rfl, rfl, bP⟩
   have bP := qh bP
   clear mN mR mV tF
   obtain ⟨⟨fa, pa, mN, mR, mV, Ah⟩, pE, kA, kI, fS⟩ := HA.o
   have sS := qh Ah
   have eJ := za wa (.cells #[.int .i64 (op : Int), .slice none 0 0, .bool false, .int .i64 (-1), .slice none 0 0] 242)
   obtain ⟨W1, g, iQ, hg, H1⟩ : ∃ W1 g, Hq ((wa.alloc (.cells #[.int .i64 (op : Int), .slice none 0 0, .bool false, .int .i64 (-1), .slice none 0 0] 242)) = W1) ∧ Hq (wa.heap.size = g) ∧ Hq (Blk W1 g #[.int .i64 (op : Int), .slice none 0 0, .bool false, .int .i64 (-1), .slice none 0 0] 242 ∧ Ext wr W1 ∧ wr.heap.size ≤ g) :=
    ⟨_, _, rfl, rfl, zl _ _ _, Ext.trans bP.o eJ, bP.o.size⟩
   clear pE kA kI fS Ah eJ bP
   go_wp2_with fail
   rw [iQ.o]
   refine (sS.o W1).mono ?_
   rintro e wb ⟨v, rfl, xJ, sD⟩
   rw [hg.o]
   obtain ⟨va, vc, rfl, -, -⟩ := Lay.slice_form xJ
   have H2 := qh (anQ xJ sD)
   clear mN mR mV sS xJ sD iQ hg
   have kI := HA.o.2.2.2.1
   obtain ⟨wo, rfl⟩ : ∃ wo : World, wo = wr := ⟨_, rfl⟩
   go_wp2_with fail
   go_loopw [8, 25] (fun s8 sA w' => ∃ (j : Nat) (va : Value), j ≤ x.argL.length ∧ sA = .int .i64 j ∧ Hq (Blk w' g #[.int .i64 (op : Int), va, .bool false, .int .i64 (-1), .slice none 0 0] 242 ∧ Own Lay.arg 243 wb.heap.size w' va (x.argL.take j) ∧ Fr (fun k => k = g) wb w')) (fun _ sA _ => x.argL.length - (intOf sA).toNat)
   case atStart => exact ⟨0, _, nzQ _, rfl, H1.o.1.ext H2.o.2, J3 _ _ _ _, Fr.refl _ _⟩
   case round =>
    obtain ⟨j, vr, hj, rfl, hV⟩ := hrel
    obtain ⟨u6, u7, xr, rfl⟩ := hV.o.2.1.shape
    have fe := qh (anQ H1.o.1.lt H2.o.2.size)
    by_cases hjl : j < x.argL.length
    ·have ck := Lay.fr H2.o.1 hV.o.2.2 (fun k hk => ⟨hk.2, fun e => by have e' : k = g := e; have := fe.o; omega⟩)
     obtain ⟨b3, o3, rfl, g0, -⟩ := ziD ck j hjl
     have fS := HA.o.2.2.2.2 _ (List.getElem_mem hjl)
     have sZ := qh (show x.argL.take (j + 1) = x.argL.take j ++ [x.argL[j]] from tsQ hjl)
     generalize x.argL[j] = aq at *
     have fS := qh fS
     clear ck
     go_wp2_with fail
     refine zj jQ [kT 0, kT 1, kT 2, kR 3, kR 4, kL 5, kT 6, kL 7] (by kernel_rfl) (by kernel_rfl) ?_
     simp only [zx, gzQ, gsQ]
     have HC := qh (fun W' (h : Ext wr.drew W') => (hV.o.1.ext (Ext.trans (zb _) h)).cell)
     have bq := qh (zb wr)
     generalize wr.drew = W3 at *
     repeat (apply item_take; rfl; rfl; rfl; rfl; exact fun _ _ _ _ h => h; (intro W e _ k; have q := HC.o W e; go_simp; exact k))
     apply zg; rfl; intro K hK; go_simp
     refine (zbq aq fS.o W3).mono ?_
     rintro e w4 ⟨rfl, gv⟩
     refine hK _ _ gv ?_
     clear hK K
     have gv := qh (Ext.trans bq.o gv)
     apply zg; rfl; intro K hK; go_simp
     refine hK _ _ (za _ _) ?_
     clear hK K HC
     have wk := qh (show -9223372036854775808 ≤ aq.1 ∧ aq.1 ≤ 9223372036854775807 from by rcases fS.o with h | h <;> omega)
     apply zn; rfl; intro K hK
     refine JC Lay.arg wb.heap.size (.tmp 30) (.tmp 33) _ _ _ 16 rfl Tryz.underlying240 zhf rfl (by omega) (by decide) (.slice u6 u7 xr) (x.argL.take j) aq _ rfl rfl (hV.o.2.1.ext gv.o) ⟨[_], [_], rfl, ⟨rfl, wk.o⟩, rfl⟩ (nlQ hV.o.2.2.size gv.o.size) (by rw [ltQ]; omega) ?_
     intro v1 w5 h1 h2 h3
     refine hK _ _ ?_
     clear hK K
     have ag : ∀ k', k' = g → ¬ some k' = (Value.slice u6 u7 xr).ownBlock := fun k' e h => by have := (hV.o.2.1.lt k' h.symm).1; have := fe.o; omega
     have nd := (hV.o.1.ext gv.o).fr h2 (ag g rfl)
     have iT := nd.cell
     have ly := nd.frz
     have mP : Own Lay.arg 243 wb.heap.size w5 v1 (x.argL.take (j + 1)) := by rw [sZ.o]; exact h1
     have tw : Fr (fun k => k = g) wb w5 := Fr.trans (hV.o.2.2.ext gv.o) h2 (fun _ _ h => h) (fun k hk e => absurd hk (by have := (hV.o.2.1.lt k e.symm).1; omega))
     obtain ⟨az, aR, aO, rfl⟩ := h1.shape
     have H5 := qh (anQ nd (anQ mP tw))
     clear h1 h2 h3 nd mP tw ag
     repeat (apply item_take; rfl; rfl; rfl; rfl; exact fun _ _ _ _ h => h; (intro _ _ _ k; go_simp; exact k))
     apply zn; rfl; intro K hK; go_simp
     refine hK _ _ ?_
     clear hK K iT ly
     apply zm
     have bO : Hq (Blk (w5.setCell ⟨g, 1, none⟩ (.slice az aR aO)) g #[.int .i64 (op : Int), .slice az aR aO, .bool false, .int .i64 (-1), .slice none 0 0] 242 ∧ Own Lay.arg 243 wb.heap.size (w5.setCell ⟨g, 1, none⟩ (.slice az aR aO)) (.slice az aR aO) (x.argL.take (j + 1)) ∧ Fr (fun k => k = g) wb (w5.setCell ⟨g, 1, none⟩ (.slice az aR aO))) := by
      refine ⟨?_, Own.only Lay.flat_arg H5.o.2.1 (zf _ _ _) (fun k' h e => by have := (H5.o.2.1.lt k' h).1; have e' : k' = g := e; have := fe.o; omega), H5.o.2.2.setCell (.inl rfl) _⟩
      have := H5.o.1.set 1 (.slice az aR aO)
      simpa using this
     go_wp2
     go_roundw
     case rel => exact ⟨j + 1, _, by omega, by go_num, bO⟩
     case measure => simp [intOf]; omega
    ·obtain rfl : j = x.argL.length := by omega
     have bh := hV.o
     rw [tlQ] at bh
     have ky := qh bh
     have eq := bh.1.cell
     have eO := bh.1.frz
     clear hV bh
     have pE := HA.o.2.1
     have C3 := qh HA.o.2.2.1
     have mE := qh (show Ext wo wr from Fr.new (Ext.fr (Ext.trans H1.o.2.1 H2.o.2) ky.o.2.2) (fun k e => by have e' : k = g := e; have := H1.o.2.2; omega))
     have oO := qh (show (Lay.ins (n + 1)).rd (fun k' => w.heap.size ≤ k' ∧ k' < wr.heap.size ∧ some k' ≠ u3.ownBlock) wr (#[Value.int .i64 (op : Int), .slice u6 u7 xr, .bool false, .int .i64 (-1), .slice none 0 0] : Array Value).toList x from by
      have hu := hO.o.lt
      have ed := hX.o.size
      have cT := H1.o.2.1.size
      have i5 := H2.o.2.size
      rw [C3.o]
      exact ziE (by omega) (by omega) (Lay.mono _ ky.o.2.1.slice (fun k' hk => ⟨by omega, hk.2, fun e => by have := (hu k' e.symm).2; omega⟩)) (zeR _))
     go_wp2_with (at_builtin; refine Hq.o ?_)
     clear eq eO
     refine jk (Lay.ins (n + 1)) w.heap.size wr.heap.size rfl rfl (.tmp 56) (.tmp 58) _ _ _ 72 rfl Tryz.underlying108 (zeQ (n + 1)) (by rw [Lay.ins_size]; rfl) (by omega) (by rw [Lay.ins_size]; decide) u3 (l.take i) _ _ rfl rfl (hO.o.ext mE.o) oO.o (nlQ hX.o.size mE.o.size) (by have := H.o.2.2; rw [ltQ]; omega) ?_
     intro v1 w1 h1 h2 h3
     have mT : Hq (Own (Lay.ins (n + 1)) 242 w.heap.size w1 v1 (l.take (i + 1))) := by show Own _ _ _ _ _ _; rw [bU.o]; exact h1
     have kP : Hq (Ext w w1) := Fr.new (Ext.fr (Ext.trans hX.o mE.o) h2) (fun k' e => (hO.o.lt k' e.symm).1)
     clear h1 h2 h3 mE oO
     go_wp2
     go_roundw
     case rel => exact ⟨i + 1, by omega, by go_num, mT, kP⟩
     case measure => simp [intOf]; omega
  ·obtain rfl : i = l.length := by omega
   rw [tlQ] at hO
   go_wp2
   go_ret
   exact ⟨_, rfl, hO.o, hX.o⟩
theorem zhg : (Tryz.prog.info? 3).map (fun i => (i.zero, i.size, i.bytes)) = some (some (.int .i64 0), Lay.int.size, 8) := by kernel_rfl
theorem Zo (l : List Int) (v : Value) (A : Nat → Prop) (w : World) (hR : Lay.int.slice.rd A w [v] l) (hA : ∀ k, A k → k < w.heap.size) (hl : l.length ≤ 8796093022208) :
 Calls Tryz.prog 56 #[v] w fun e w' => ∃ v1, e = .returned v1 ∧ Own Lay.int 3 w.heap.size w' v1 l ∧ Ext w w' := by
 obtain ⟨aa, cap, rfl, dw, cn⟩ := Lay.slice_form hR
 have aT : (l.length : Int) ≤ 9223372036854775807 := by omega
 have H := qh (anQ hR (anQ hA hl))
 clear hR hA hl dw cn
 go_enter Tryz.func56, Tryz.ntmps56
 go_wp2_with fail
 go_loopw [3, 8] (fun s3 s8 w' => ∃ (i : Nat), i ≤ l.length ∧ s8 = .int .i64 i ∧ Hq (Own Lay.int 3 w.heap.size w' s3 (l.take i)) ∧ Hq (Ext w w')) (fun _ s8 _ => l.length - (intOf s8).toNat)
 case atStart => exact ⟨0, nzQ _, rfl, J3 _ _ _ _, Fr.refl _ _⟩
 case round =>
  obtain ⟨i, hi, rfl, hO, hX⟩ := hrel
  by_cases aj : i < l.length
  ·obtain ⟨hR, hA, hl⟩ := H.o
   have kH := Lay.fr hR hX.o (fun k hk => ⟨hA k hk, fun h => h⟩)
   obtain ⟨b, o, rfl, li, rU, eJ, eQ⟩ := zd4 kH i aj
   have bU : Hq (l.take (i + 1) = l.take i ++ [l[i]]) := by rw [tsQ aj]; rfl
   generalize l[i] = x at *
   have HB := qh (anQ eJ eQ)
   clear hR hA hl kH li eJ eQ
   go_wp2_with (at_builtin; refine Hq.o ?_)
   refine Z7 Lay.int w.heap.size rfl (.tmp 12) (.tmp 14) _ _ (.int .i64 0) 8 rfl Tryz.underlying23 zhg rfl (by omega) (by decide) u3 (l.take i) x _ rfl rfl hO.o ⟨rfl, HB.o⟩ hX.o.size (by have := H.o.2.2; rw [ltQ]; omega) ?_
   intro v1 w1 h1 h2 h3
   have mT : Hq (Own Lay.int 3 w.heap.size w1 v1 (l.take (i + 1))) := by show Own _ _ _ _ _ _; rw [bU.o]; exact h1
   have kP : Hq (Ext w w1) := Fr.trans hX.o h2 (fun _ _ h => h) (fun k hk e => by have := hO.o.lt k e.symm; omega)
   clear h1 h2 h3
   go_wp2
   go_roundw
   case rel => exact ⟨i + 1, by omega, by go_num, mT, kP⟩
   case measure => simp [intOf]; omega
  ·obtain rfl : i = l.length := by omega
   go_wp2
   go_ret
   have := hO.o
   rw [tlQ] at this
   exact ⟨_, rfl, this, hX.o⟩
theorem y8 (x : Lim) (u v : Value) (A : Nat → Prop) (w : World) (h : Lay.elim.rd A w [u, v] x) (hA : ∀ k, A k → k < w.heap.size) :
 Calls Tryz.prog 58 #[.agg #[u, v]] w fun e w' => e = .returned (.agg #[.int .u32 (x.min.toNat : Int), .bool x.bounded, .int .u32 (x.max.toNat : Int)]) ∧ Ext w w' := by
 obtain ⟨q, e, h⟩ := h
 simp only [List.cons.injEq, and_true] at e
 obtain ⟨rfl, rfl⟩ := e
 have hm := x.min.toNat_lt
 rcases h with ⟨h1, h2, rfl⟩ | ⟨h1, b, T, rfl, li, hb⟩
 ·have aV := qh (anQ h1 h2)
  clear h1 h2
  go_enter Tryz.func58, Tryz.ntmps58
  go_wp2
  have hX := Ext.trans (za w (.cells #[.int .u32 (x.min.toNat : Int), .pointer none] 206)) (za _ (.cells #[.int .u32 (x.min.toNat : Int), .bool false, .int .u32 0] 104))
  exact bodyPost_ret (v := .agg #[.int .u32 (x.min.toNat : Int), .bool false, .int .u32 0]) (by simp [results, Tryz.results58, go_sem]) rfl ⟨by rw [aV.o.1, aV.o.2]; rfl, hX⟩
 ·have hb : Blk w b #[.int .u32 (x.max.toNat : Int)] T := hb
  have c8 := hA b li
  have AR := x.max.toNat_lt
  have aV := qh h1
  clear h1
  go_enter Tryz.func58, Tryz.ntmps58
  go_wp2
  obtain ⟨W2, gx, gr, lY, AM, fD, HB⟩ : ∃ W2 gx gr, ((w.alloc (.cells #[.int .u32 (x.min.toNat : Int), .pointer (some ⟨b, 0, none⟩)] 206)).alloc (.cells #[.int .u32 0, .bool false, .int .u32 0] 104)) = W2 ∧ w.heap.size = gx ∧ w.heap.size + 1 = gr ∧
   Hq (Blk W2 gx #[.int .u32 (x.min.toNat : Int), .pointer (some ⟨b, 0, none⟩)] 206 ∧ Blk W2 gr #[.int .u32 0, .bool false, .int .u32 0] 104 ∧ Blk W2 b #[.int .u32 (x.max.toNat : Int)] T ∧ Ext w W2 ∧ w.heap.size ≤ gr) := by
   have h1 := zl w #[.int .u32 (x.min.toNat : Int), .pointer (some ⟨b, 0, none⟩)] 206
   have h2 := zl (w.alloc (.cells #[.int .u32 (x.min.toNat : Int), .pointer (some ⟨b, 0, none⟩)] 206)) #[.int .u32 0, .bool false, .int .u32 0] 104
   rw [show (w.alloc (.cells #[.int .u32 (x.min.toNat : Int), .pointer (some ⟨b, 0, none⟩)] 206)).heap.size = w.heap.size + 1 by simp] at h2
   exact ⟨_, _, _, rfl, rfl, rfl, h1.ext (za _ _), h2, hb.ext (Ext.trans (za _ _) (za _ _)), Ext.trans (za _ _) (za _ _), by omega⟩
  rw [lY, fD, AM]
  clear lY AM fD hb c8 li
  refine zj (yX (fun k => False)) [kT 0, kT 1, kT 2, kT 3, kT 4, kT 5, kT 6, kL 7] (by kernel_rfl) (by kernel_rfl) ?_
  simp only [zx, gzQ, gsQ]
  have bq := zb W2
  have HD := qh (anQ (HB.o.1.ext bq) (anQ (HB.o.2.1.ext bq) (anQ (HB.o.2.2.1.ext bq) (Ext.trans HB.o.2.2.2.1 bq))))
  clear bq
  generalize W2.drew = Wd at *
  have HC := qh (fun W' (h : Fr (fun k => False) Wd W') => anQ (HD.o.1.ext h).cell (HD.o.2.2.1.ext h).cell)
  repeat (apply item_take; rfl; rfl; rfl; rfl; exact fun _ _ _ _ h => h; (intro W e _ k; obtain ⟨q, q2⟩ := HC.o W e; go_simp; exact k))
  have xf := HD.o.2.1.cell
  have dA := HD.o.2.1.frz
  apply zn; rfl; intro K hK; go_simp
  have HF : Hq (Blk (((Wd.setCell ⟨gr, 0, none⟩ (.int .u32 (x.min.toNat : Int))).setCell ⟨gr, 1, none⟩ (.bool true)).setCell ⟨gr, 2, none⟩ (.int .u32 (x.max.toNat : Int))) gr #[.int .u32 (x.min.toNat : Int), .bool true, .int .u32 (x.max.toNat : Int)] 104 ∧ Ext w (((Wd.setCell ⟨gr, 0, none⟩ (.int .u32 (x.min.toNat : Int))).setCell ⟨gr, 1, none⟩ (.bool true)).setCell ⟨gr, 2, none⟩ (.int .u32 (x.max.toNat : Int)))) := by
   refine ⟨?_, ?_⟩
   ·have := ((HD.o.2.1.set 0 (.int .u32 (x.min.toNat : Int))).set 1 (.bool true)).set 2 (.int .u32 (x.max.toNat : Int))
    simpa using this
   ·exact Fr.setCell (Fr.setCell (Fr.setCell HD.o.2.2.2 (p := ⟨gr, 0, none⟩) (.inr HB.o.2.2.2.2) _) (p := ⟨gr, 1, none⟩) (.inr HB.o.2.2.2.2) _) (p := ⟨gr, 2, none⟩) (.inr HB.o.2.2.2.2) _
  refine hK _ _ ?_
  clear hK K xf dA
  apply zm
  go_wp2
  exact bodyPost_ret (v := .agg #[.int .u32 (x.min.toNat : Int), .bool true, .int .u32 (x.max.toNat : Int)]) (yq Tryz.results58 _ rfl HF.o.1 _ Tryz.underlying104 rfl (by kernel_rfl)) rfl ⟨by rw [aV.o], HF.o.2⟩
theorem pi_f0 (v : Value) (W : World) : (Instr.typeAssert (.iface 286 v) 200 286 true).run Tryz.prog W = .ok (.tuple #[v, .bool true]) W := by kernel_rfl
theorem pi_t0 (v : Value) (W : World) : (Instr.typeAssert (.iface 287 v) 200 286 true).run Tryz.prog W = .ok (.tuple #[.agg #[.int .u32 0], .bool false]) W := by kernel_rfl
theorem pi_t1 (v : Value) (W : World) : (Instr.typeAssert (.iface 287 v) 200 287 true).run Tryz.prog W = .ok (.tuple #[v, .bool true]) W := by kernel_rfl
theorem pi_m0 (v : Value) (W : World) : (Instr.typeAssert (.iface 290 v) 200 286 true).run Tryz.prog W = .ok (.tuple #[.agg #[.int .u32 0], .bool false]) W := by kernel_rfl
theorem pi_m1 (v : Value) (W : World) : (Instr.typeAssert (.iface 290 v) 200 287 true).run Tryz.prog W = .ok (.tuple #[.agg #[.int .i64 0, .int .u32 0, .pointer none], .bool false]) W := by kernel_rfl
theorem pi_m2 (v : Value) (W : World) : (Instr.typeAssert (.iface 290 v) 200 290 true).run Tryz.prog W = .ok (.tuple #[v, .bool true]) W := by kernel_rfl
abbrev impC (x : Imp) : Array Value := #[.string (zd x.mdl), .string (zd x.name), .int .i64 x.kind, .int .u32 (x.index.toNat : Int), .int .u32 (x.lim.min.toNat : Int), .bool x.lim.bounded, .int .u32 (x.lim.max.toNat : Int), .int .i64 x.ty, .bool x.mtb]
theorem Yp (x : Imp) (d : Value) (A : Nat → Prop) (w : World) (h : Lay.edesc.rd A w [d] x) (hA : ∀ k, A k → k < w.heap.size) :
 Calls Tryz.prog 57 #[.agg #[.string (zd x.mdl), .string (zd x.name), d]] w fun e w' => e = .returned (.agg (impC x)) ∧ Ext w w' := by
 have eV := pi_f0
 have iB := pi_t0
 have kC := pi_t1
 have fJ := pi_m0
 have gu := pi_m1
 have pf := pi_m2
 have Ak := x.index.toNat_lt
 obtain ⟨s1, ed⟩ := exQ (zd x.mdl)
 obtain ⟨s2, cT⟩ := exQ (zd x.name)
 rcases h with ⟨h1, h2, h3, h4, e⟩ | ⟨h1, h2, h3, h4, u, v, e, hl⟩ | ⟨h1, h2, h3, h4, u, v, e, hl⟩
 ·simp only [List.cons.injEq, and_true] at e
  subst e
  have HI := qh (show impC x = #[.string s1, .string s2, .int .i64 0, .int .u32 (x.index.toNat : Int), .int .u32 0, .bool false, .int .u32 0, .int .i64 0, .bool false] from by unfold impC; rw [h1, h2, h3, h4, ed, cT]; rfl)
  rw [ed, cT]
  clear h1 h2 h3 h4 iB kC fJ gu pf ed cT
  go_enter Tryz.func57, Tryz.ntmps57
  go_wp2
  exact bodyPost_ret (v := .agg #[.string s1, .string s2, .int .i64 0, .int .u32 (x.index.toNat : Int), .int .u32 0, .bool false, .int .u32 0, .int .i64 0, .bool false]) (by simp [results, Tryz.results57, go_sem]) rfl ⟨by rw [HI.o], Ext.trans (za _ _) (Ext.trans (za _ _) (Ext.trans (za _ _) (za _ _)))⟩
 ·simp only [List.cons.injEq, and_true] at e
  subst e
  obtain ⟨q, sy, hq⟩ := id hl
  simp only [List.cons.injEq, and_true] at sy
  obtain ⟨rfl, rfl⟩ := sy
  have HI := qh (show impC x = #[.string s1, .string s2, .int .i64 1, .int .u32 0, .int .u32 (x.lim.min.toNat : Int), .bool x.lim.bounded, .int .u32 (x.lim.max.toNat : Int), .int .i64 0, .bool false] from by unfold impC; rw [h1, h2, h3, h4, ed, cT]; rfl)
  rw [ed, cT]
  have hL := qh hl
  have Cm := x.lim.min.toNat_lt
  have AR := x.lim.max.toNat_lt
  clear h1 h2 h3 h4 ed cT hl Ak hq
  go_enter Tryz.func57, Tryz.ntmps57
  go_wp2_with fail
  obtain ⟨W4, gr, g, da, fD, hg, HB⟩ : ∃ W4 gr g, ((((w.alloc (.cells #[.string s1, .string s2, .iface 287 (.agg #[.int .i64 0, .int .u32 (x.lim.min.toNat : Int), .pointer q])] 202)).alloc (.cells #[.string ⟨#[]⟩, .string ⟨#[]⟩, .int .i64 0, .int .u32 0, .int .u32 0, .bool false, .int .u32 0, .int .i64 0, .bool false] 106)).alloc (.cells #[.string s1, .string s2, .int .i64 0, .int .u32 0, .int .u32 0, .bool false, .int .u32 0, .int .i64 0, .bool false] 106)).alloc (.cells #[.int .i64 0, .int .u32 (x.lim.min.toNat : Int), .pointer q] 287)) = W4 ∧ w.heap.size + 1 = gr ∧ w.heap.size + 1 + 1 = g ∧
   Hq (Blk W4 gr #[.string ⟨#[]⟩, .string ⟨#[]⟩, .int .i64 0, .int .u32 0, .int .u32 0, .bool false, .int .u32 0, .int .i64 0, .bool false] 106 ∧ Blk W4 g #[.string s1, .string s2, .int .i64 0, .int .u32 0, .int .u32 0, .bool false, .int .u32 0, .int .i64 0, .bool false] 106 ∧ Ext w W4 ∧ w.heap.size ≤ gr ∧ w.heap.size ≤ g ∧ ¬ gr = g) := by
   have b1 := zl (w.alloc (.cells #[.string s1, .string s2, .iface 287 (.agg #[.int .i64 0, .int .u32 (x.lim.min.toNat : Int), .pointer q])] 202)) #[.string ⟨#[]⟩, .string ⟨#[]⟩, .int .i64 0, .int .u32 0, .int .u32 0, .bool false, .int .u32 0, .int .i64 0, .bool false] 106
   have b2 := zl ((w.alloc (.cells #[.string s1, .string s2, .iface 287 (.agg #[.int .i64 0, .int .u32 (x.lim.min.toNat : Int), .pointer q])] 202)).alloc (.cells #[.string ⟨#[]⟩, .string ⟨#[]⟩, .int .i64 0, .int .u32 0, .int .u32 0, .bool false, .int .u32 0, .int .i64 0, .bool false] 106)) #[.string s1, .string s2, .int .i64 0, .int .u32 0, .int .u32 0, .bool false, .int .u32 0, .int .i64 0, .bool false] 106
   rw [show (w.alloc (.cells #[.string s1, .string s2, .iface 287 (.agg #[.int .i64 0, .int .u32 (x.lim.min.toNat : Int), .pointer q])] 202)).heap.size = w.heap.size + 1 by simp] at b1
   rw [show ((w.alloc (.cells #[.string s1, .string s2, .iface 287 (.agg #[.int .i64 0, .int .u32 (x.lim.min.toNat : Int), .pointer q])] 202)).alloc (.cells #[.string ⟨#[]⟩, .string ⟨#[]⟩, .int .i64 0, .int .u32 0, .int .u32 0, .bool false, .int .u32 0, .int .i64 0, .bool false] 106)).heap.size = w.heap.size + 1 + 1 by simp] at b2
   exact ⟨_, _, _, rfl, rfl, rfl, (b1.ext (za _ _)).ext (za _ _), b2.ext (za _ _), Ext.trans (za _ _) (Ext.trans (za _ _) (Ext.trans (za _ _) (za _ _))), by omega, by omega, by omega⟩
  rw [da, hg, fD]
  clear da fD hg
  refine (y8 x.lim _ _ A W4 (Lay.fr hL.o HB.o.2.2.1 (fun k hk => ⟨hA k hk, fun h => h⟩)) (fun k hk => nqQ (hA k hk) HB.o.2.2.1.size)).mono ?_
  rintro e w5 ⟨rfl, kF⟩
  have H5 := qh (anQ (HB.o.1.ext kF) (anQ (HB.o.2.1.ext kF) (Ext.trans HB.o.2.2.1 kF)))
  have eq := H5.o.2.1.cell
  have eO := H5.o.2.1.frz
  clear kF
  go_wp2_with (with_reducible refine JO 106 ?_)
  refine qh ?_
  have H6 : Hq (Blk ((((w5.setCell ⟨g, 2, none⟩ (.int .i64 1)).setCell ⟨g, 4, none⟩ (.int .u32 (x.lim.min.toNat : Int))).setCell ⟨g, 5, none⟩ (.bool x.lim.bounded)).setCell ⟨g, 6, none⟩ (.int .u32 (x.lim.max.toNat : Int))) gr #[.string ⟨#[]⟩, .string ⟨#[]⟩, .int .i64 0, .int .u32 0, .int .u32 0, .bool false, .int .u32 0, .int .i64 0, .bool false] 106 ∧ Blk ((((w5.setCell ⟨g, 2, none⟩ (.int .i64 1)).setCell ⟨g, 4, none⟩ (.int .u32 (x.lim.min.toNat : Int))).setCell ⟨g, 5, none⟩ (.bool x.lim.bounded)).setCell ⟨g, 6, none⟩ (.int .u32 (x.lim.max.toNat : Int))) g #[.string s1, .string s2, .int .i64 1, .int .u32 0, .int .u32 (x.lim.min.toNat : Int), .bool x.lim.bounded, .int .u32 (x.lim.max.toNat : Int), .int .i64 0, .bool false] 106 ∧ Ext w ((((w5.setCell ⟨g, 2, none⟩ (.int .i64 1)).setCell ⟨g, 4, none⟩ (.int .u32 (x.lim.min.toNat : Int))).setCell ⟨g, 5, none⟩ (.bool x.lim.bounded)).setCell ⟨g, 6, none⟩ (.int .u32 (x.lim.max.toNat : Int)))) := by
   have hs : Fr (fun k => k = g) w5 ((((w5.setCell ⟨g, 2, none⟩ (.int .i64 1)).setCell ⟨g, 4, none⟩ (.int .u32 (x.lim.min.toNat : Int))).setCell ⟨g, 5, none⟩ (.bool x.lim.bounded)).setCell ⟨g, 6, none⟩ (.int .u32 (x.lim.max.toNat : Int))) := Fr.setCell (Fr.setCell (Fr.setCell (Fr.setCell (Fr.refl (fun k => k = g) w5) (p := ⟨g, 2, none⟩) (.inl rfl) _) (p := ⟨g, 4, none⟩) (.inl rfl) _) (p := ⟨g, 5, none⟩) (.inl rfl) _) (p := ⟨g, 6, none⟩) (.inl rfl) _
   refine ⟨H5.o.1.fr hs HB.o.2.2.2.2.2, ?_, Fr.new (Ext.fr H5.o.2.2 hs) (fun k e => by have e' : k = g := e; have := HB.o.2.2.2.2.1; omega)⟩
   have := (((H5.o.2.1.set 2 (.int .i64 1)).set 4 (.int .u32 (x.lim.min.toNat : Int))).set 5 (.bool x.lim.bounded)).set 6 (.int .u32 (x.lim.max.toNat : Int))
   simpa using this
  clear eq eO
  generalize ((((w5.setCell ⟨g, 2, none⟩ (.int .i64 1)).setCell ⟨g, 4, none⟩ (.int .u32 (x.lim.min.toNat : Int))).setCell ⟨g, 5, none⟩ (.bool x.lim.bounded)).setCell ⟨g, 6, none⟩ (.int .u32 (x.lim.max.toNat : Int))) = W6 at *
  refine H6.o.2.1.wpList_load rfl 106 (.tmp 3) rfl rfl _ Tryz.underlying106 rfl (by kernel_rfl) ?_
  refine H6.o.1.wpList_store rfl 106 (.tmp 2) (.tmp 48) rfl rfl rfl (by kernel_rfl) rfl rfl ?_
  refine wpList_nil ?_
  go_wp2
  have hs := z9 W6 gr #[.string s1, .string s2, .int .i64 1, .int .u32 0, .int .u32 (x.lim.min.toNat : Int), .bool x.lim.bounded, .int .u32 (x.lim.max.toNat : Int), .int .i64 0, .bool false]
  have c8 := H6.o.1.setRow #[.string s1, .string s2, .int .i64 1, .int .u32 0, .int .u32 (x.lim.min.toNat : Int), .bool x.lim.bounded, .int .u32 (x.lim.max.toNat : Int), .int .i64 0, .bool false]
  exact bodyPost_ret (v := .agg #[.string s1, .string s2, .int .i64 1, .int .u32 0, .int .u32 (x.lim.min.toNat : Int), .bool x.lim.bounded, .int .u32 (x.lim.max.toNat : Int), .int .i64 0, .bool false]) (yq Tryz.results57 _ rfl c8 _ Tryz.underlying106 rfl (by kernel_rfl)) rfl ⟨by rw [HI.o], Fr.new (Ext.fr H6.o.2.2 hs) (fun k e => by have e' : k = gr := e; have := HB.o.2.2.2.1; omega)⟩
 ·simp only [List.cons.injEq, and_true] at e
  subst e
  obtain ⟨q, sy, hq⟩ := id hl
  simp only [List.cons.injEq, and_true] at sy
  obtain ⟨rfl, rfl⟩ := sy
  have HI := qh (show impC x = #[.string s1, .string s2, .int .i64 2, .int .u32 0, .int .u32 (x.lim.min.toNat : Int), .bool x.lim.bounded, .int .u32 (x.lim.max.toNat : Int), .int .i64 0, .bool false] from by unfold impC; rw [h1, h2, h3, h4, ed, cT]; rfl)
  rw [ed, cT]
  have hL := qh hl
  have Cm := x.lim.min.toNat_lt
  have AR := x.lim.max.toNat_lt
  clear h1 h2 h3 h4 ed cT hl Ak hq
  go_enter Tryz.func57, Tryz.ntmps57
  go_wp2_with fail
  obtain ⟨W4, gr, g, da, fD, hg, HB⟩ : ∃ W4 gr g, ((((w.alloc (.cells #[.string s1, .string s2, .iface 290 (.agg #[.int .u32 (x.lim.min.toNat : Int), .pointer q])] 202)).alloc (.cells #[.string ⟨#[]⟩, .string ⟨#[]⟩, .int .i64 0, .int .u32 0, .int .u32 0, .bool false, .int .u32 0, .int .i64 0, .bool false] 106)).alloc (.cells #[.string s1, .string s2, .int .i64 0, .int .u32 0, .int .u32 0, .bool false, .int .u32 0, .int .i64 0, .bool false] 106)).alloc (.cells #[.int .u32 (x.lim.min.toNat : Int), .pointer q] 290)) = W4 ∧ w.heap.size + 1 = gr ∧ w.heap.size + 1 + 1 = g ∧
   Hq (Blk W4 gr #[.string ⟨#[]⟩, .string ⟨#[]⟩, .int .i64 0, .int .u32 0, .int .u32 0, .bool false, .int .u32 0, .int .i64 0, .bool false] 106 ∧ Blk W4 g #[.string s1, .string s2, .int .i64 0, .int .u32 0, .int .u32 0, .bool false, .int .u32 0, .int .i64 0, .bool false] 106 ∧ Ext w W4 ∧ w.heap.size ≤ gr ∧ w.heap.size ≤ g ∧ ¬ gr = g) := by
   have b1 := zl (w.alloc (.cells #[.string s1, .string s2, .iface 290 (.agg #[.int .u32 (x.lim.min.toNat : Int), .pointer q])] 202)) #[.string ⟨#[]⟩, .string ⟨#[]⟩, .int .i64 0, .int .u32 0, .int .u32 0, .bool false, .int .u32 0, .int .i64 0, .bool false] 106
   have b2 := zl ((w.alloc (.cells #[.string s1, .string s2, .iface 290 (.agg #[.int .u32 (x.lim.min.toNat : Int), .pointer q])] 202)).alloc (.cells #[.string ⟨#[]⟩, .string ⟨#[]⟩, .int .i64 0, .int .u32 0, .int .u32 0, .bool false, .int .u32 0, .int .i64 0, .bool false] 106)) #[.string s1, .string s2, .int .i64 0, .int .u32 0, .int .u32 0, .bool false, .int .u32 0, .int .i64 0, .bool false] 106
   rw [show (w.alloc (.cells #[.string s1, .string s2, .iface 290 (.agg #[.int .u32 (x.lim.min.toNat : Int), .pointer q])] 202)).heap.size = w.heap.size + 1 by simp] at b1
   rw [show ((w.alloc (.cells #[.string s1, .string s2, .iface 290 (.agg #[.int .u32 (x.lim.min.toNat : Int), .pointer q])] 202)).alloc (.cells #[.string ⟨#[]⟩, .string ⟨#[]⟩, .int .i64 0, .int .u32 0, .int .u32 0, .bool false, .int .u32 0, .int .i64 0, .bool false] 106)).heap.size = w.heap.size + 1 + 1 by simp] at b2
   exact ⟨_, _, _, rfl, rfl, rfl, (b1.ext (za _ _)).ext (za _ _), b2.ext (za _ _), Ext.trans (za _ _) (Ext.trans (za _ _) (Ext.trans (za _ _) (za _ _))), by omega, by omega, by omega⟩
  rw [da, hg, fD]
  clear da fD hg
  refine (y8 x.lim _ _ A W4 (Lay.fr hL.o HB.o.2.2.1 (fun k hk => ⟨hA k hk, fun h => h⟩)) (fun k hk => nqQ (hA k hk) HB.o.2.2.1.size)).mono ?_
  rintro e w5 ⟨rfl, kF⟩
  have H5 := qh (anQ (HB.o.1.ext kF) (anQ (HB.o.2.1.ext kF) (Ext.trans HB.o.2.2.1 kF)))
  have eq := H5.o.2.1.cell
  have eO := H5.o.2.1.frz
  clear kF
  go_wp2_with (with_reducible refine JO 106 ?_)
  refine qh ?_
  have H6 : Hq (Blk ((((w5.setCell ⟨g, 2, none⟩ (.int .i64 2)).setCell ⟨g, 4, none⟩ (.int .u32 (x.lim.min.toNat : Int))).setCell ⟨g, 5, none⟩ (.bool x.lim.bounded)).setCell ⟨g, 6, none⟩ (.int .u32 (x.lim.max.toNat : Int))) gr #[.string ⟨#[]⟩, .string ⟨#[]⟩, .int .i64 0, .int .u32 0, .int .u32 0, .bool false, .int .u32 0, .int .i64 0, .bool false] 106 ∧ Blk ((((w5.setCell ⟨g, 2, none⟩ (.int .i64 2)).setCell ⟨g, 4, none⟩ (.int .u32 (x.lim.min.toNat : Int))).setCell ⟨g, 5, none⟩ (.bool x.lim.bounded)).setCell ⟨g, 6, none⟩ (.int .u32 (x.lim.max.toNat : Int))) g #[.string s1, .string s2, .int .i64 2, .int .u32 0, .int .u32 (x.lim.min.toNat : Int), .bool x.lim.bounded, .int .u32 (x.lim.max.toNat : Int), .int .i64 0, .bool false] 106 ∧ Ext w ((((w5.setCell ⟨g, 2, none⟩ (.int .i64 2)).setCell ⟨g, 4, none⟩ (.int .u32 (x.lim.min.toNat : Int))).setCell ⟨g, 5, none⟩ (.bool x.lim.bounded)).setCell ⟨g, 6, none⟩ (.int .u32 (x.lim.max.toNat : Int)))) := by
   have hs : Fr (fun k => k = g) w5 ((((w5.setCell ⟨g, 2, none⟩ (.int .i64 2)).setCell ⟨g, 4, none⟩ (.int .u32 (x.lim.min.toNat : Int))).setCell ⟨g, 5, none⟩ (.bool x.lim.bounded)).setCell ⟨g, 6, none⟩ (.int .u32 (x.lim.max.toNat : Int))) := Fr.setCell (Fr.setCell (Fr.setCell (Fr.setCell (Fr.refl (fun k => k = g) w5) (p := ⟨g, 2, none⟩) (.inl rfl) _) (p := ⟨g, 4, none⟩) (.inl rfl) _) (p := ⟨g, 5, none⟩) (.inl rfl) _) (p := ⟨g, 6, none⟩) (.inl rfl) _
   refine ⟨H5.o.1.fr hs HB.o.2.2.2.2.2, ?_, Fr.new (Ext.fr H5.o.2.2 hs) (fun k e => by have e' : k = g := e; have := HB.o.2.2.2.2.1; omega)⟩
   have := (((H5.o.2.1.set 2 (.int .i64 2)).set 4 (.int .u32 (x.lim.min.toNat : Int))).set 5 (.bool x.lim.bounded)).set 6 (.int .u32 (x.lim.max.toNat : Int))
   simpa using this
  clear eq eO
  generalize ((((w5.setCell ⟨g, 2, none⟩ (.int .i64 2)).setCell ⟨g, 4, none⟩ (.int .u32 (x.lim.min.toNat : Int))).setCell ⟨g, 5, none⟩ (.bool x.lim.bounded)).setCell ⟨g, 6, none⟩ (.int .u32 (x.lim.max.toNat : Int))) = W6 at *
  refine H6.o.2.1.wpList_load rfl 106 (.tmp 3) rfl rfl _ Tryz.underlying106 rfl (by kernel_rfl) ?_
  refine H6.o.1.wpList_store rfl 106 (.tmp 2) (.tmp 48) rfl rfl rfl (by kernel_rfl) rfl rfl ?_
  refine wpList_nil ?_
  go_wp2
  have hs := z9 W6 gr #[.string s1, .string s2, .int .i64 2, .int .u32 0, .int .u32 (x.lim.min.toNat : Int), .bool x.lim.bounded, .int .u32 (x.lim.max.toNat : Int), .int .i64 0, .bool false]
  have c8 := H6.o.1.setRow #[.string s1, .string s2, .int .i64 2, .int .u32 0, .int .u32 (x.lim.min.toNat : Int), .bool x.lim.bounded, .int .u32 (x.lim.max.toNat : Int), .int .i64 0, .bool false]
  exact bodyPost_ret (v := .agg #[.string s1, .string s2, .int .i64 2, .int .u32 0, .int .u32 (x.lim.min.toNat : Int), .bool x.lim.bounded, .int .u32 (x.lim.max.toNat : Int), .int .i64 0, .bool false]) (yq Tryz.results57 _ rfl c8 _ Tryz.underlying106 rfl (by kernel_rfl)) rfl ⟨by rw [HI.o], Fr.new (Ext.fr H6.o.2.2 hs) (fun k e => by have e' : k = gr := e; have := HB.o.2.2.2.1; omega)⟩
namespace Lay
theorem eimp_at2 {A : Nat → Prop} {w : World} {a : Option Addr} {m cap : Nat} {xs : List Imp} (h : eimp.slice.rd A w [.slice a m cap] xs) (i : Nat) (hi : i < xs.length) :
 ∃ b o T p, a = some ⟨b, o, none⟩ ∧ w.cell? ⟨b, o + i * 3, none⟩ = some (.string (zd xs[i].mdl)) ∧ w.cell? ⟨b, o + i * 3 + 1, none⟩ = some (.string (zd xs[i].name)) ∧ w.cell? ⟨b, o + i * 3 + 2, none⟩ = some (.iface T p) ∧ (zd xs[i].mdl).size ≤ maxLen ∧ (zd xs[i].name).size ≤ maxLen ∧ edesc.rd A w [.iface T p] xs[i] := by
 have hm : xs.length = m := by obtain ⟨_, _, e, _⟩ := h; simp only [List.cons.injEq, Value.slice.injEq, and_true] at e; exact e.2.1.symm
 obtain ⟨b, o, es, eY, e, hA, _, hr, hc⟩ := slice_at h i (by omega)
 obtain ⟨_, _, rfl, ⟨rfl, q0⟩, ⟨_, cd, rfl, ⟨rfl, q1⟩, q2⟩⟩ := hr
 obtain ⟨T, p, rfl⟩ : ∃ T p, cd = [.iface T p] := by
  rcases q2 with ⟨_, _, _, _, h⟩ | ⟨_, _, _, _, u, v, h, _⟩ | ⟨_, _, _, _, u, v, h, _⟩ <;> exact ⟨_, _, h⟩
 exact ⟨b, o, T, p, e, hc 0 (by show 0 < 3; omega), hc 1 (by show 1 < 3; omega), hc 2 (by show 2 < 3; omega), q0, q1, q2⟩
theorem elim_form {A : Nat → Prop} {w : World} {cs : List Value} {x : Lim} (h : elim.rd A w cs x) : ∃ q, cs = [.int .u32 (x.min.toNat : Int), .pointer q] := by
 obtain ⟨q, e, _⟩ := h; exact ⟨q, e⟩
theorem elim_at2 {A : Nat → Prop} {w : World} {a : Option Addr} {m cap : Nat} {xs : List Lim} (h : elim.slice.rd A w [.slice a m cap] xs) (i : Nat) (hi : i < xs.length) :
 ∃ b o q, a = some ⟨b, o, none⟩ ∧ w.cell? ⟨b, o + i * 2, none⟩ = some (.int .u32 (xs[i].min.toNat : Int)) ∧ w.cell? ⟨b, o + i * 2 + 1, none⟩ = some (.pointer q) ∧ elim.rd A w [.int .u32 (xs[i].min.toNat : Int), .pointer q] xs[i] := by
 have hm : xs.length = m := by obtain ⟨_, _, e, _⟩ := h; simp only [List.cons.injEq, Value.slice.injEq, and_true] at e; exact e.2.1.symm
 obtain ⟨b, o, es, eY, e, hA, _, hr, hc⟩ := slice_at h i (by omega)
 obtain ⟨q, rfl⟩ := elim_form hr
 exact ⟨b, o, q, e, hc 0 (by show 0 < 2; omega), hc 1 (by show 1 < 2; omega), hr⟩
theorem etab_at2 {A : Nat → Prop} {w : World} {a : Option Addr} {m cap : Nat} {xs : List Lim} (h : etab.slice.rd A w [.slice a m cap] xs) (i : Nat) (hi : i < xs.length) :
 ∃ b o q, a = some ⟨b, o, none⟩ ∧ w.cell? ⟨b, o + i * 3, none⟩ = some (.int .i64 0) ∧ w.cell? ⟨b, o + i * 3 + 1, none⟩ = some (.int .u32 (xs[i].min.toNat : Int)) ∧ w.cell? ⟨b, o + i * 3 + 2, none⟩ = some (.pointer q) ∧ elim.rd A w [.int .u32 (xs[i].min.toNat : Int), .pointer q] xs[i] := by
 have hm : xs.length = m := by obtain ⟨_, _, e, _⟩ := h; simp only [List.cons.injEq, Value.slice.injEq, and_true] at e; exact e.2.1.symm
 obtain ⟨b, o, es, eY, e, hA, _, hr, hc⟩ := slice_at h i (by omega)
 obtain ⟨_, _, rfl, rfl, hr⟩ := hr
 obtain ⟨q, rfl⟩ := elim_form hr
 exact ⟨b, o, q, e, hc 0 (by show 0 < 3; omega), hc 1 (by show 1 < 3; omega), hc 2 (by show 2 < 3; omega), hr⟩
theorem eelem_at2 {A : Nat → Prop} {w : World} {a : Option Addr} {m cap : Nat} {xs : List Elem} (h : eelem.slice.rd A w [.slice a m cap] xs) (i : Nat) (hi : i < xs.length) :
 ∃ b o a1 c1 a2 c2, a = some ⟨b, o, none⟩ ∧ w.cell? ⟨b, o + i * 3, none⟩ = some (.int .u32 (xs[i].index.toNat : Int)) ∧ w.cell? ⟨b, o + i * 3 + 1, none⟩ = some (.slice a1 xs[i].off.length c1) ∧ w.cell? ⟨b, o + i * 3 + 2, none⟩ = some (.slice a2 xs[i].ids.length c2) ∧ kon.slice.rd A w [.slice a1 xs[i].off.length c1] xs[i].off ∧ u32.slice.rd A w [.slice a2 xs[i].ids.length c2] xs[i].ids := by
 have hm : xs.length = m := by obtain ⟨_, _, e, _⟩ := h; simp only [List.cons.injEq, Value.slice.injEq, and_true] at e; exact e.2.1.symm
 obtain ⟨b, o, es, eY, e, hA, _, hr, hc⟩ := slice_at h i (by omega)
 obtain ⟨_, _, rfl, rfl, ⟨_, _, rfl, h1, h2⟩⟩ := hr
 obtain ⟨a1, c1, rfl, -, -⟩ := slice_form2 h1
 obtain ⟨a2, c2, rfl, -, -⟩ := slice_form2 h2
 exact ⟨b, o, a1, c1, a2, c2, e, hc 0 (by show 0 < 3; omega), hc 1 (by show 1 < 3; omega), hc 2 (by show 2 < 3; omega), h1, h2⟩
theorem eglob_at2 {A : Nat → Prop} {w : World} {a : Option Addr} {m cap : Nat} {xs : List Glob} (h : eglob.slice.rd A w [.slice a m cap] xs) (i : Nat) (hi : i < xs.length) :
 ∃ b o a1 c1, a = some ⟨b, o, none⟩ ∧ w.cell? ⟨b, o + i * 3, none⟩ = some (.int .i64 xs[i].ty) ∧ w.cell? ⟨b, o + i * 3 + 1, none⟩ = some (.bool xs[i].mtb) ∧ w.cell? ⟨b, o + i * 3 + 2, none⟩ = some (.slice a1 xs[i].init.length c1) ∧ (-9223372036854775808 ≤ xs[i].ty ∧ xs[i].ty ≤ 9223372036854775807) ∧ kon.slice.rd A w [.slice a1 xs[i].init.length c1] xs[i].init := by
 have hm : xs.length = m := by obtain ⟨_, _, e, _⟩ := h; simp only [List.cons.injEq, Value.slice.injEq, and_true] at e; exact e.2.1.symm
 obtain ⟨b, o, es, eY, e, hA, _, hr, hc⟩ := slice_at h i (by omega)
 obtain ⟨_, _, rfl, ⟨rfl, q0⟩, ⟨_, _, rfl, rfl, h2⟩⟩ := hr
 obtain ⟨a1, c1, rfl, -, -⟩ := slice_form2 h2
 exact ⟨b, o, a1, c1, e, hc 0 (by show 0 < 3; omega), hc 1 (by show 1 < 3; omega), hc 2 (by show 2 < 3; omega), q0, h2⟩
theorem edat_at2 {A : Nat → Prop} {w : World} {a : Option Addr} {m cap : Nat} {xs : List Dat} (h : edat.slice.rd A w [.slice a m cap] xs) (i : Nat) (hi : i < xs.length) :
 ∃ b o a1 c1 a2 c2, a = some ⟨b, o, none⟩ ∧ w.cell? ⟨b, o + i * 3, none⟩ = some (.int .u32 (xs[i].index.toNat : Int)) ∧ w.cell? ⟨b, o + i * 3 + 1, none⟩ = some (.slice a1 xs[i].off.length c1) ∧ w.cell? ⟨b, o + i * 3 + 2, none⟩ = some (.slice a2 xs[i].init.length c2) ∧ kon.slice.rd A w [.slice a1 xs[i].off.length c1] xs[i].off ∧ u8.slice.rd A w [.slice a2 xs[i].init.length c2] xs[i].init := by
 have hm : xs.length = m := by obtain ⟨_, _, e, _⟩ := h; simp only [List.cons.injEq, Value.slice.injEq, and_true] at e; exact e.2.1.symm
 obtain ⟨b, o, es, eY, e, hA, _, hr, hc⟩ := slice_at h i (by omega)
 obtain ⟨_, _, rfl, rfl, ⟨_, _, rfl, h1, h2⟩⟩ := hr
 obtain ⟨a1, c1, rfl, -, -⟩ := slice_form2 h1
 obtain ⟨a2, c2, rfl, -, -⟩ := slice_form2 h2
 exact ⟨b, o, a1, c1, a2, c2, e, hc 0 (by show 0 < 3; omega), hc 1 (by show 1 < 3; omega), hc 2 (by show 2 < 3; omega), h1, h2⟩
theorem enam_at2 {A : Nat → Prop} {w : World} {a : Option Addr} {m cap : Nat} {xs : List Nam} (h : enam.slice.rd A w [.slice a m cap] xs) (i : Nat) (hi : i < xs.length) :
 ∃ b o, a = some ⟨b, o, none⟩ ∧ w.cell? ⟨b, o + i * 2, none⟩ = some (.int .u32 (xs[i].idx.toNat : Int)) ∧ w.cell? ⟨b, o + i * 2 + 1, none⟩ = some (.string (zd xs[i].name)) ∧ (zd xs[i].name).size ≤ maxLen := by
 have hm : xs.length = m := by obtain ⟨_, _, e, _⟩ := h; simp only [List.cons.injEq, Value.slice.injEq, and_true] at e; exact e.2.1.symm
 obtain ⟨b, o, es, eY, e, hA, _, hr, hc⟩ := slice_at h i (by omega)
 obtain ⟨_, _, rfl, rfl, ⟨rfl, q⟩⟩ := hr
 exact ⟨b, o, e, hc 0 (by show 0 < 2; omega), hc 1 (by show 1 < 2; omega), q⟩
theorem code_at2 {A : Nat → Prop} {w : World} {a : Option Addr} {m cap : Nat} {xs : List (List UInt8)} (h : u8.slice.slice.rd A w [.slice a m cap] xs) (i : Nat) (hi : i < xs.length) :
 ∃ b o a1 c1, a = some ⟨b, o, none⟩ ∧ w.cell? ⟨b, o + i, none⟩ = some (.slice a1 xs[i].length c1) ∧ u8.slice.rd A w [.slice a1 xs[i].length c1] xs[i] := by
 have hm : xs.length = m := by obtain ⟨_, _, e, _⟩ := h; simp only [List.cons.injEq, Value.slice.injEq, and_true] at e; exact e.2.1.symm
 obtain ⟨b, o, es, eY, e, hA, _, hr, hc⟩ := slice_at h i (by omega)
 obtain ⟨a1, c1, rfl, -, -⟩ := slice_form2 hr
 exact ⟨b, o, a1, c1, e, by rw [show o + i = o + i * 1 from by omega]; exact hc 0 (by show 0 < 1; omega), hr⟩
theorem imp_mk {A A' : Nat → Prop} {w w' : World} {x : Imp} {d : Value} (h1 : (zd x.mdl).size ≤ maxLen) (h2 : (zd x.name).size ≤ maxLen) (h : edesc.rd A w [d] x) :
 imp.rd A' w' [.string (zd x.mdl), .string (zd x.name), .int .i64 x.kind, .int .u32 (x.index.toNat : Int), .int .u32 (x.lim.min.toNat : Int), .bool x.lim.bounded, .int .u32 (x.lim.max.toNat : Int), .int .i64 x.ty, .bool x.mtb] x := by
 have hk : (-9223372036854775808 ≤ x.kind ∧ x.kind ≤ 9223372036854775807) ∧ (-9223372036854775808 ≤ x.ty ∧ x.ty ≤ 9223372036854775807) := by
  rcases h with ⟨e1, e2, e3, e4, e5⟩ | ⟨e1, e2, e3, e4, e5⟩ | ⟨e1, e2, e3, e4, e5⟩ <;> (rw [e1, e3]; exact ⟨⟨by decide, by decide⟩, by decide, by decide⟩)
 exact ⟨[_], _, rfl, ⟨rfl, h1⟩, [_], _, rfl, ⟨rfl, h2⟩, [_], _, rfl, ⟨rfl, hk.1⟩, [_], _, rfl, rfl, [_, _, _], _, rfl, ⟨[_], _, rfl, rfl, [_], _, rfl, rfl, rfl⟩, [_], _, rfl, ⟨rfl, hk.2⟩, rfl⟩
theorem lim_mk {A : Nat → Prop} {w : World} (x : Lim) : lim.rd A w [.int .u32 (x.min.toNat : Int), .bool x.bounded, .int .u32 (x.max.toNat : Int)] x := ⟨[_], _, rfl, rfl, [_], _, rfl, rfl, rfl⟩
theorem nam_mk {A : Nat → Prop} {w : World} {x : Nam} (h0 : x.fn = 0) (h : (zd x.name).size ≤ maxLen) : nam.rd A w [.int .u32 0, .int .u32 (x.idx.toNat : Int), .string (zd x.name)] x :=
 ⟨[_], _, rfl, (by show [Value.int .u32 0] = [Value.int .u32 (x.fn.toNat : Int)]; rw [h0]; rfl), [_], _, rfl, rfl, ⟨rfl, h⟩⟩
end Lay
theorem zbF (bits : Nat) : ∀ (b : List UInt8) (sh bf n : Nat) {v k : Nat}, unsG bits sh bf n b = (v, k) → k ≠ 0 → ∃ j, k = n + j ∧ jq sh bf b = some (v, b.drop j)
 | [], _, _, _, v, k, h, hk => by simp only [unsG, Prod.mk.injEq] at h; exact absurd h.2.symm hk
 | c :: r, sh, bf, n, v, k, h, hk => by
  unfold unsG at h
  split at h
  ·simp only [Prod.mk.injEq] at h; exact absurd h.2.symm hk
  ·split at h
   ·simp only [Prod.mk.injEq] at h; exact absurd h.2.symm hk
   ·split at h
    ·rename_i h128
     simp only [Prod.mk.injEq] at h
     refine ⟨1, h.2.symm, ?_⟩
     unfold jq
     rw [if_pos h128, h.1]
     rfl
    ·rename_i h128
     obtain ⟨j, hj, hr⟩ := zbF bits r _ _ _ h hk
     refine ⟨j + 1, by omega, ?_⟩
     unfold jq
     rw [if_neg h128, hr]
     rfl
theorem zaS : ∀ (b : List UInt8) (sh bf : Nat), (∀ c ∈ b, 128 ≤ c.toNat) → jq sh bf b = none
 | [], _, _, _ => rfl
 | c :: r, sh, bf, h => by
  have hc := h c (List.mem_cons_self ..)
  unfold jq
  rw [if_neg (by omega)]
  exact zaS r _ _ (fun c hc => h c (List.mem_cons_of_mem _ hc))
theorem Ya : ∀ (b : List UInt8) (sh bf : Nat), (∀ c ∈ b, 128 ≤ c.toNat) → yM sh bf b = none
 | [], _, _, _ => rfl
 | c :: r, sh, bf, h => by
  have hc := h c (List.mem_cons_self ..)
  unfold yM
  rw [if_neg (by omega)]
  exact Ya r _ _ (fun c hc => h c (List.mem_cons_of_mem _ hc))
theorem zaT {bits : Nat} {b : List UInt8} (h : jD bits b = true) : ∀ c ∈ b, 128 ≤ c.toNat := by
 unfold jD at h
 rw [Bool.and_eq_true, List.all_eq_true] at h
 exact fun c hc => of_decide_eq_true (h.1 c hc)
theorem zf9 (a : Nat) : toS a % 4294967296 = ((a % 4294967296 : Nat) : Int) := by unfold toS; omega
theorem zeS (x s : Nat) (h1 : 32 ≤ s) (h2 : s < 64) : (x ||| (2 ^ 64 - 2 ^ s)) % 2 ^ 32 = x % 2 ^ 32 := by
 have hz : (2 ^ 64 - 2 ^ s) % 2 ^ 32 = 0 := by
  have e : (2 : Nat) ^ s = 2 ^ (s - 32) * 2 ^ 32 := by rw [← Nat.pow_add]; congr 1; omega
  have e2 : (2 : Nat) ^ 64 = 2 ^ 32 * 2 ^ 32 := by rw [← Nat.pow_add]
  rw [e, e2, ← Nat.sub_mul, Nat.mul_mod_left]
 rw [Nat.or_mod_two_pow, hz, Nat.or_zero]
theorem zhh (x s : Nat) (h2 : s < 64) : 9223372036854775808 ≤ (x ||| (2 ^ 64 - 2 ^ s)) := by
 have h := Nat.right_le_or (n := x) (m := 2 ^ 64 - 2 ^ s)
 have : (2 : Nat) ^ s ≤ 2 ^ 63 := Nat.pow_le_pow_right (by decide) (by omega)
 omega
theorem zaa : ∀ (b : List UInt8) (sh bf n : Nat) {v k : Nat}, sigG 32 sh bf n b = (v, k) → k ≠ 0 → ∃ j m, k = n + j ∧ yM sh bf b = some (m, b.drop j) ∧ m % 4294967296 = ((v % 4294967296 : Nat) : Int)
 | [], _, _, _, v, k, h, hk => by simp only [sigG, Prod.mk.injEq] at h; exact absurd h.2.symm hk
 | c :: r, sh, bf, n, v, k, h, hk => by
  unfold sigG at h
  split at h
  ·simp only [Prod.mk.injEq] at h; exact absurd h.2.symm hk
  ·split at h
   ·simp only [Prod.mk.injEq] at h; exact absurd h.2.symm hk
   ·split at h
    ·rename_i h128
     simp only [Prod.mk.injEq] at h
     refine ⟨1, _, h.2.symm, by unfold yM; rw [if_pos h128]; rfl, ?_⟩
     rw [zf9, ← h.1]
     by_cases fk : 64 ≤ c.toNat
     ·by_cases h32 : sh + 7 < 32
      ·rw [if_pos ⟨h32, fk⟩, if_pos ⟨fk, by omega⟩]
      ·rw [if_neg (fun e => h32 e.1)]
       by_cases h7 : sh + 7 < 64
       ·rw [if_pos ⟨fk, h7⟩]
        have := zeS (bf ||| (c.toNat % 128 * 2 ^ sh % 2 ^ 64)) (sh + 7) (by omega) h7
        congr 1
        exact this.symm
       ·rw [if_neg (fun e => h7 e.2)]
     ·rw [if_neg (fun e => fk e.2), if_neg (fun e => fk e.1)]
    ·rename_i h128
     obtain ⟨j, m, hj, hr, hm⟩ := zaa r _ _ _ h hk
     refine ⟨j + 1, m, by omega, ?_, hm⟩
     unfold yM
     rw [if_neg h128, hr]
     rfl
theorem zab : ∀ (b : List UInt8) (sh bf n : Nat) {v k : Nat}, sh = 7 * n → sigG 64 sh bf n b = (v, k) → k ≠ 0 → ¬ (9223372036854775808 ≤ v ∧ 4 < k) → ∃ j, k = n + j ∧ yM sh bf b = some (toS v, b.drop j)
 | [], _, _, _, v, k, _, h, hk, _ => by simp only [sigG, Prod.mk.injEq] at h; exact absurd h.2.symm hk
 | c :: r, sh, bf, n, v, k, og, h, hk, hw => by
  unfold sigG at h
  split at h
  ·simp only [Prod.mk.injEq] at h; exact absurd h.2.symm hk
  ·split at h
   ·simp only [Prod.mk.injEq] at h; exact absurd h.2.symm hk
   ·split at h
    ·rename_i h128
     simp only [Prod.mk.injEq] at h
     refine ⟨1, h.2.symm, ?_⟩
     unfold yM
     rw [if_pos h128, ← h.1]
     by_cases fk : 64 ≤ c.toNat
     ·by_cases h7 : sh + 7 < 64
      ·rw [if_pos (c := 64 ≤ c.toNat ∧ sh + 7 < 64) ⟨fk, h7⟩]
       have hb := zhh (bf ||| (c.toNat % 128 * 2 ^ sh % 2 ^ 64)) (sh + 7) h7
       have hv : 9223372036854775808 ≤ v := by rw [← h.1, if_pos ⟨fk, h7⟩]; exact hb
       have h4 : ¬ 4 < k := fun e => hw ⟨hv, e⟩
       rw [if_pos ⟨by omega, fk⟩]
       rfl
      ·rw [if_neg (fun e => h7 (by omega)), if_neg (fun e => h7 e.2)]
       rfl
     ·rw [if_neg (fun e => fk e.2), if_neg (fun e => fk e.1)]
      rfl
    ·rename_i h128
     obtain ⟨j, hj, hr⟩ := zab r _ _ _ (by omega) h hk hw
     refine ⟨j + 1, by omega, ?_⟩
     unfold yM
     rw [if_neg h128, hr]
     rfl
variable {s : St}
theorem St.eta (h : s.v = 0) : s = ⟨s.b, 0⟩ := by
 obtain ⟨b, v⟩ := s
 obtain rfl : v = 0 := h
 rfl
theorem zel (h : s.v = 0) (n : Nat) : s.fail n = ⟨[], n⟩ := by simp [St.fail, h]
theorem Zd (hv : s.v = 0) : ((zc s).2.v = 0 → ∃ m, jq 0 0 s.b = some (m, (zc s).2.b) ∧ (zc s).1 = m % 4294967296) ∧ ((zc s).2.v ≠ 0 → (zc s).2.b = [] ∧ ((zc s).2.v = 2 ∨ ((zc s).2.v = 3 ∧ jq 0 0 s.b = none))) := by
 unfold zc
 by_cases hn : (uns 32 s.b).2 = 0
 ·rw [if_pos hn, zel hv]
  cases he : jD 32 s.b with
  | true => exact ⟨fun h => (by cases h), fun _ => ⟨rfl, .inr ⟨rfl, zaS _ _ _ (zaT he)⟩⟩⟩
  | false => exact ⟨fun h => (by cases h), fun _ => ⟨rfl, .inl rfl⟩⟩
 ·rw [if_neg hn]
  refine ⟨fun _ => ?_, fun h => absurd hv h⟩
  obtain ⟨j, hj, hr⟩ := zbF 32 s.b 0 0 0 (v := (uns 32 s.b).1) (k := (uns 32 s.b).2) rfl hn
  rw [Nat.zero_add] at hj
  exact ⟨_, by rw [hr, hj], rfl⟩
theorem zbG (n : Nat) (h : n < 18446744073709551616) : yK (n : Int) = UInt64.ofNat n := by
 unfold yK
 rw [show ((n : Int) % 18446744073709551616).toNat = n from by omega]
theorem Yq (hv : s.v = 0) : ((zJ 32 s).2.v = 0 → ∃ m, yM 0 0 s.b = some (m, (zJ 32 s).2.b) ∧ yK (wrap32 m % 4294967296) = UInt64.ofNat (zJ 32 s).1) ∧ ((zJ 32 s).2.v ≠ 0 → (zJ 32 s).2.v = 2 ∨ ((zJ 32 s).2.v = 3 ∧ yM 0 0 s.b = none)) := by
 unfold zJ
 by_cases hn : (sig 32 s.b).2 = 0
 ·rw [if_pos hn, zel hv]
  cases he : jD 32 s.b with
  | true => exact ⟨fun h => (by cases h), fun _ => .inr ⟨rfl, Ya _ _ _ (zaT he)⟩⟩
  | false => exact ⟨fun h => (by cases h), fun _ => .inl rfl⟩
 ·rw [if_neg hn]
  refine ⟨fun _ => ?_, fun h => absurd hv h⟩
  obtain ⟨j, m, hj, hr, hm⟩ := zaa s.b 0 0 0 (v := (sig 32 s.b).1) (k := (sig 32 s.b).2) rfl hn
  rw [Nat.zero_add] at hj
  refine ⟨m, by rw [hr, hj], ?_⟩
  rw [if_pos rfl, ← zbG _ (by omega)]
  congr 1
  rw [← hm]
  unfold wrap32
  omega
theorem Yr (hv : s.v = 0) : ((y0 1 s).2.v = 0 → ∃ m, yM 0 0 s.b = some (m, (y0 1 s).2.b) ∧ yK m = UInt64.ofNat (y0 1 s).1) ∧ ((y0 1 s).2.v ≠ 0 → (y0 1 s).2.v = 2 ∨ ((y0 1 s).2.v = 3 ∧ yM 0 0 s.b = none)) := by
 have pI : y0 1 s = ((zJ 64 s).1, if 9223372036854775808 ≤ (zJ 64 s).1 ∧ 4 + (zJ 64 s).2.b.length < s.b.length then (zJ 64 s).2.fail 2 else (zJ 64 s).2) := rfl
 by_cases hn : (sig 64 s.b).2 = 0
 ·have qZ : zJ 64 s = (0, s.fail (if jD 64 s.b then 3 else 2)) := by unfold zJ; rw [if_pos hn]
  have uP : y0 1 s = (0, s.fail (if jD 64 s.b then 3 else 2)) := by rw [pI, qZ]; simp
  rw [uP, zel hv]
  cases he : jD 64 s.b with
  | true => exact ⟨fun h => (by cases h), fun _ => .inr ⟨rfl, Ya _ _ _ (zaT he)⟩⟩
  | false => exact ⟨fun h => (by cases h), fun _ => .inl rfl⟩
 ·have qZ : zJ 64 s = ((sig 64 s.b).1, ⟨s.b.drop (sig 64 s.b).2, s.v⟩) := by unfold zJ; rw [if_neg hn, if_neg (by decide)]
  have aT := zfu 64 s.b
  rw [qZ] at pI
  rw [pI]
  dsimp only
  by_cases hw : 9223372036854775808 ≤ (sig 64 s.b).1 ∧ 4 + (s.b.drop (sig 64 s.b).2).length < s.b.length
  ·rw [if_pos hw, show (⟨s.b.drop (sig 64 s.b).2, s.v⟩ : St).fail 2 = ⟨[], 2⟩ from zel (s := ⟨_, s.v⟩) hv 2]
   exact ⟨fun h => (by cases h), fun _ => .inl rfl⟩
  ·rw [if_neg hw]
   refine ⟨fun _ => ?_, fun h => absurd hv h⟩
   rw [ldQ] at hw
   obtain ⟨j, hj, hr⟩ := zab s.b 0 0 0 (v := (sig 64 s.b).1) (k := (sig 64 s.b).2) rfl rfl hn (fun e => hw ⟨e.1, by omega⟩)
   rw [Nat.zero_add] at hj
   refine ⟨_, by rw [hr, hj], ?_⟩
   have aj := zfx 64 s.b
   rw [← zbG _ aj]
   unfold yK
   rw [YH aj, show (((sig 64 s.b).1 : Nat) : Int) % 18446744073709551616 = (((sig 64 s.b).1 : Nat) : Int) from by omega]
end Go.Proofs.YtejgninpjhcgnaaGreatDoor
