/- Texts of this proof, one behind the other. -/
import Derived.Test.YtbdahjpdjamgiaaGreatDoorPart12
import Derived.Defers
import Derived.Recover
import Derived.Test.YtbdahjpdjamgiaaGreatDoorPart11
import Derived.Test.YtbdahjpdjamgiaaGreatDoorProg
import Derived.KernelRfl
import Derived.Deep.QuietTactic
import Derived.BigQuiet
/- encoding.readExpr: what it defers recovers a panic. -/
namespace Go.Proofs.YtbdahjpdjamgiaaGreatDoor
open Go.RowKit
set_option maxRecDepth 100000 in
set_option maxHeartbeats 400000 in
theorem catch_panicking (p : Addr) (x : Value) (pe : Addr) (w : World) (hc : w.cell? p = some x) (hz : w.frozen? p = false) :
    CallsD Tryz.prog 73 #[.pointer (some p)] (.panicking [{ v := eofV pe, recovered := false }]) w fun e u' w' =>
      e = .returned (.tuple #[]) ∧ u' = .panicking [{ v := eofV pe, recovered := true }] ∧ w' = w.setCell p (eofV pe) := by
  refine callsD_of_wpS Tryz.func73 rfl fun c₀ cs hu => ?_
  apply wpS_seq
  apply wpS_region
  simp [wpOpsS, go_sem, recoverD, hu, Tryz.ntmps73, Exit.thenS]
  have hta : ∀ W : World, (Instr.typeAssert (eofV pe) 20 90 true).run Tryz.prog W = .ok (.tuple #[eofV pe, .bool true]) W := fun W => by kernel_rfl
  rw [show (#[Value.pointer (some p)] ++ ((Array.replicate 12 undef).setIfInBounds 3 (eofV pe)).setIfInBounds 0 (eofV pe)) = #[.pointer (some p), eofV pe, undef, undef, eofV pe, undef, undef, undef, undef, undef, undef, undef, undef] from rfl]
  refine wpS_of_wp ?_
  go_wp2
  simp [bodyPostS, results, Tryz.results73]
set_option maxRecDepth 100000 in
set_option maxHeartbeats 400000 in
theorem catch_idle (p : Addr) (w : World) :
    CallsD Tryz.prog 73 #[.pointer (some p)] .returning w fun e u' w' => e = .returned (.tuple #[]) ∧ u' = .returning ∧ w' = w := by
  refine callsD_of_wpS Tryz.func73 rfl fun c₀ cs hu => ?_
  apply wpS_seq
  apply wpS_region
  simp [wpOpsS, go_sem, recoverD, hu, Tryz.ntmps73, Exit.thenS]
  rw [show (#[Value.pointer (some p)] ++ ((Array.replicate 12 undef).setIfInBounds 3 .nilIface).setIfInBounds 0 .nilIface) = #[.pointer (some p), .nilIface, undef, undef, .nilIface, undef, undef, undef, undef, undef, undef, undef, undef] from rfl]
  refine wpS_of_wp ?_
  go_wp2
  cases c₀
  simp_all [bodyPostS, results, Tryz.results73]
set_option maxRecDepth 100000 in
set_option maxHeartbeats 1000000 in
theorem readExpr_rd (S : Rdr) (D F : Nat → Prop) (g : Nat) (pe : Addr) (f : Nat) (bs : List UInt8) (gt o : Nat) (cs : Array Value) (T : TypeId) (w : World) (hS : RdS S D F g pe bs w) (hB : Blk w gt cs T) (ho : o < cs.size) (hF : ¬ F gt) (hD : ¬ D gt) (hb : gt ≠ eofAt.block) (hl : bs.length ≤ 1048576) (hno : pIns f bs ≠ .odd) :
    Calls Tryz.prog 64 #[.iface S.T (.pointer (some ⟨g, 0, none⟩)), .pointer (some ⟨gt, o, none⟩)] w fun e w' =>
      (∃ l rest sl, pIns f bs = .ok l rest ∧ e = .returned .nilIface ∧ RdS S D F g pe rest w' ∧ Blk w' gt (cs.setIfInBounds o sl) T ∧ (Lay.ri f).slice.rd (fun k => w.heap.size ≤ k ∧ k < w'.heap.size) w' [sl] l ∧ Fr (fun k => F k ∨ k = gt) w w') ∨
      (pIns f bs = .bad ∧ (∃ te ve, e = .returned (.iface te ve)) ∧ Fr (fun k => F k ∨ k = gt) w w') := by
  have hmf : ∀ (fn : Fn) (first cap : Array Value) (w : World), (Instr.makeFunc fn first cap).run Tryz.prog w = .ok (.func fn first cap) w := fun _ _ _ _ => rfl
  have hx := ext_alloc w (.cells #[.nilIface] 90)
  have hlt := S.lt hS.is
  have hel := cell_lt hS.cell
  have hgw := hB.lt
  have HC := Lib.hid (readInstructions_rd S D F g pe f bs gt o cs T (w.alloc (.cells #[.nilIface] 90)) (hS.ext hx) (hB.ext hx) ho hF hD hb hl hno)
  have H := Lib.hid (And.intro hlt (And.intro hel (And.intro hgw hx)))
  have hB0 := Lib.hid (blk_new w #[.nilIface] 90)
  clear hS hB ho hF hD hb hl hno hx hlt hel hgw
  go_enter_defers Tryz.func64, Tryz.ntmps64
  go_wp2_with fail
  refine HC.out.mono ?_
  rintro e w2 (⟨l, rest, sl, hp, rfl, k1, k2, k3, k4⟩ | ⟨hp, ⟨te, ve, rfl⟩ | rfl, k4⟩)
  · have hne : ¬ (F w.heap.size ∨ w.heap.size = gt) := fun e => e.elim (fun e => by have := H.out.1.2.1 _ e; omega) (fun e => by have := H.out.2.2.1; omega)
    have hB2 := hB0.out.fr k4 hne
    have hc := hB2.cell
    have hf := hB2.frz
    have HB2 := Lib.hid hB2
    have hne := Lib.hid hne
    have HK := Lib.hid (And.intro hp (And.intro k1 (And.intro k2 (And.intro k3 k4))))
    clear hp k1 k2 k3 k4 hB2 HC
    go_wp2
    have hbl := (HB2.out.set 0 (.nilIface)).cell 0
    have hs := fr_setCell w2 ⟨w.heap.size, 0, none⟩ (.nilIface)
    refine leaves_cons (f := 73) (args := #[.pointer (some ⟨w.heap.size, 0, none⟩)]) (by simp) (by simp [go_sem]) ?_
    refine (catch_idle _ _).mono ?_
    rintro e u' w'' ⟨rfl, rfl, rfl⟩
    obtain ⟨hp, k1, k2, k3, k4⟩ := HK.out
    obtain ⟨hlt, hel, hgw, hx⟩ := H.out
    have hsz := hx.size
    refine ⟨.nilIface, by simp [results, Tryz.results64, go_sem, hbl], .inl ⟨l, rest, sl, hp, rfl, k1.fr hs (fun e => by have e' : 2 = w.heap.size := e; have : 2 < w.heap.size := hel; omega) (fun k hk e => by have e' : k = w.heap.size := e; have := hlt.2.1 k hk; omega) (fun k hk e => by have e' : k = w.heap.size := e; have := (hlt.2.2 k hk).1; omega), k2.fr hs (fun e => by have e' : gt = w.heap.size := e; omega), ?_, ?_⟩⟩
    · have hn1 : (w.alloc (.cells #[.nilIface] 90)).heap.size = w.heap.size + 1 := by simp
      exact Lay.mono _ (Lay.fr k3 hs (fun k hk => ⟨hk.2, fun e => by have e' : k = w.heap.size := e; omega⟩)) (fun k hk => ⟨by omega, Nat.lt_of_lt_of_le hk.2 hs.size⟩)
    · exact (Ext.fr hx (Fr.trans (U := fun k => (F k ∨ k = gt) ∨ k = w.heap.size) k4 hs (fun _ _ h => .inl h) (fun _ _ h => .inr h))).mono (fun k hk h => h.elim id (fun h => by omega))
  · have hne : ¬ (F w.heap.size ∨ w.heap.size = gt) := fun e => e.elim (fun e => by have := H.out.1.2.1 _ e; omega) (fun e => by have := H.out.2.2.1; omega)
    have hB2 := hB0.out.fr k4 hne
    have hc := hB2.cell
    have hf := hB2.frz
    have HB2 := Lib.hid hB2
    have hne := Lib.hid hne
    have HK := Lib.hid (And.intro hp k4)
    clear hp k4 hB2 HC
    go_wp2
    have hbl := (HB2.out.set 0 (.iface te ve)).cell 0
    have hs := fr_setCell w2 ⟨w.heap.size, 0, none⟩ (.iface te ve)
    refine leaves_cons (f := 73) (args := #[.pointer (some ⟨w.heap.size, 0, none⟩)]) (by simp) (by simp [go_sem]) ?_
    refine (catch_idle _ _).mono ?_
    rintro e u' w'' ⟨rfl, rfl, rfl⟩
    obtain ⟨hp, k4⟩ := HK.out
    obtain ⟨hlt, hel, hgw, hx⟩ := H.out
    refine ⟨.iface te ve, by simp [results, Tryz.results64, go_sem, hbl], .inr ⟨hp, ⟨_, _, rfl⟩, ?_⟩⟩
    exact (Ext.fr hx (Fr.trans (U := fun k => (F k ∨ k = gt) ∨ k = w.heap.size) k4 hs (fun _ _ h => .inl h) (fun _ _ h => .inr h))).mono (fun k hk h => h.elim id (fun h => by omega))
  · have hne : ¬ (F w.heap.size ∨ w.heap.size = gt) := fun e => e.elim (fun e => by have := H.out.1.2.1 _ e; omega) (fun e => by have := H.out.2.2.1; omega)
    have hB2 := hB0.out.fr k4 hne
    have hc := hB2.cell
    have hf := hB2.frz
    have HB2 := Lib.hid hB2
    have hne := Lib.hid hne
    have HK := Lib.hid (And.intro hp k4)
    clear hp k4 hB2 HC
    go_wp2
    have hbl := (HB2.out.set 0 (eofV pe)).cell 0
    have hs := fr_setCell w2 ⟨w.heap.size, 0, none⟩ (eofV pe)
    refine leaves_cons (f := 73) (args := #[.pointer (some ⟨w.heap.size, 0, none⟩)]) (by simp) (by simp [go_sem]) ?_
    refine (catch_panicking ⟨w.heap.size, 0, none⟩ .nilIface pe _ (by simpa using hc 0) (hf 0)).mono ?_
    rintro e u' w'' ⟨rfl, rfl, rfl⟩
    obtain ⟨hp, k4⟩ := HK.out
    obtain ⟨hlt, hel, hgw, hx⟩ := H.out
    refine ⟨eofV pe, by simp [results, Tryz.results64, go_sem, hbl], .inr ⟨hp, ⟨_, _, rfl⟩, ?_⟩⟩
    exact (Ext.fr hx (Fr.trans (U := fun k => (F k ∨ k = gt) ∨ k = w.heap.size) k4 hs (fun _ _ h => .inl h) (fun _ _ h => .inr h))).mono (fun k hk h => h.elim id (fun h => by omega))
end Go.Proofs.YtbdahjpdjamgiaaGreatDoor
/- What instructions that are read answer. Written by wip/tools/gen_ri.py. -/
namespace Go.Proofs.YtbdahjpdjamgiaaGreatDoor
open Go.RowKit
/-- The interface value of an immediate argument. -/
def argIv (a : Int × UInt64) : Value :=
  if a.1 = 0 then .iface 21 (.int .i32 (wrap32 (a.2.toNat : Int)))
  else if a.1 = 1 then .iface 2 (.int .i64 (wrap64 (a.2.toNat : Int)))
  else if a.1 = 2 then .iface 23 (.int .u32 (a.2.toNat : Int))
  else .iface 5 (.int .u8 (a.2.toNat : Int))
theorem argIv_one (a : Int × UInt64) : (argIv a).oneCell' = true := by unfold argIv; (repeat' split) <;> rfl
def okI (a : Int × UInt64) : Prop := (a.1 = 0 ∧ a.2.toNat < 4294967296) ∨ a.1 = 1 ∨ (a.1 = 2 ∧ a.2.toNat < 4294967296) ∨ (a.1 = 5 ∧ a.2.toNat < 256)
def Lay.argI : Lay (Int × UInt64) where
  size := 1
  rd _ _ cs x := cs = [argIv x] ∧ okI x
  len h := by rw [h.1]; rfl
  one h u hu := by rw [h.1] at hu; obtain rfl := List.mem_singleton.1 hu; exact argIv_one _
  frame h _ := h
  mono h _ := h
theorem Lay.flat_argI : Lay.argI.flat := fun h => h
/-- A number's 64 bits. -/
def bits64 (v : Int) : UInt64 := UInt64.ofNat (v % 18446744073709551616).toNat
namespace RI
def op : RI → Nat
  | i32 _ => 65 | i64 _ => 66 | eqz => 69 | idx o _ => o | ci _ _ => 17 | ret => 15 | blk lp _ => if lp then 3 else 2
def args : RI → List (Int × UInt64)
  | i32 v => [(0, bits64 (v % 4294967296))] | i64 v => [(1, bits64 v)] | eqz => [] | idx _ n => [(2, bits64 (n : Int))] | ci n r => [(2, bits64 (n : Int)), (5, bits64 (r : Int))] | ret => [] | blk _ _ => []
def isBlk : RI → Bool
  | blk _ _ => true | _ => false
end RI
mutual
/-- The plain data of an instruction that is read. -/
def toI1 : RI → Ins
  | .blk lp b => .mk (if lp then 3 else 2) [] true (-1) (toIL b)
  | .i32 v => .mk 65 [(0, bits64 (v % 4294967296))] false (-1) []
  | .i64 v => .mk 66 [(1, bits64 v)] false (-1) []
  | .eqz => .mk 69 [] false (-1) []
  | .idx o n => .mk o [(2, bits64 (n : Int))] false (-1) []
  | .ci n r => .mk 17 [(2, bits64 (n : Int)), (5, bits64 (r : Int))] false (-1) []
  | .ret => .mk 15 [] false (-1) []
def toIL : List RI → List Ins
  | [] => []
  | x :: xs => toI1 x :: toIL xs
end
theorem bits64_toNat (v : Int) : ((bits64 v).toNat : Int) = v % 18446744073709551616 := by
  have h : (v % 18446744073709551616).toNat < 18446744073709551616 := by omega
  show (((UInt64.ofNat (v % 18446744073709551616).toNat).toNat : Nat) : Int) = _
  rw [show (UInt64.ofNat (v % 18446744073709551616).toNat).toNat = (v % 18446744073709551616).toNat from Nat.mod_eq_of_lt h]
  omega
theorem argIv_i32 {v : Int} (h : -2147483648 ≤ v ∧ v < 2147483648) : argIv (0, bits64 (v % 4294967296)) = .iface 21 (.int .i32 v) := by
  have := bits64_toNat (v % 4294967296)
  unfold argIv
  simp only [if_true]
  congr 2
  rw [this]; unfold wrap32; omega
theorem argIv_i64 {v : Int} (h : -9223372036854775808 ≤ v ∧ v < 9223372036854775808) : argIv (1, bits64 v) = .iface 2 (.int .i64 v) := by
  have := bits64_toNat v
  unfold argIv
  rw [if_neg (show ¬ (1 : Int) = 0 by decide), if_pos rfl]
  congr 2
  rw [this]; unfold wrap64; omega
theorem argIv_u32 {n : Nat} (h : n < 4294967296) : argIv (2, bits64 (n : Int)) = .iface 23 (.int .u32 (n : Int)) := by
  have := bits64_toNat (n : Int)
  unfold argIv
  rw [if_neg (show ¬ (2 : Int) = 0 by decide), if_neg (show ¬ (2 : Int) = 1 by decide), if_pos rfl]
  congr 2
  rw [this]; omega
theorem argIv_u8 {n : Nat} (h : n < 256) : argIv (5, bits64 (n : Int)) = .iface 5 (.int .u8 (n : Int)) := by
  have := bits64_toNat (n : Int)
  unfold argIv
  rw [if_neg (show ¬ (5 : Int) = 0 by decide), if_neg (show ¬ (5 : Int) = 1 by decide), if_neg (show ¬ (5 : Int) = 2 by decide)]
  congr 2
  rw [this]; omega
/-- A method that answers. -/
def Answers (T : TypeId) (p : Value) (m : String) (R : World → Value → World → Prop) : Prop :=
  ∃ fo po, (∀ W, (nilAhead 469 T p m).run Tryz.prog W = .ok (some false) W) ∧ (∀ W, (method 469 T p m).run Tryz.prog W = .ok (fo, po) W) ∧ (∀ args W, (callFunc fo args).run Tryz.prog W = .ok (.enter fo args) W) ∧
    ∀ w, Calls Tryz.prog fo #[po] w fun e w' => ∃ v, e = .returned v ∧ R w v w' ∧ Ext w w'
def RiOp (T : TypeId) (p : Value) (op : Nat) : Prop := Answers T p "Op" (fun _ v _ => v = .int .u8 (op : Int))
def RiArgs (T : TypeId) (p : Value) (xs : List (Int × UInt64)) : Prop := Answers T p "ImmediateArgs" (fun w v w' => Lay.argI.slice.rd (fun k => w.heap.size ≤ k ∧ k < w'.heap.size) w' [v] xs)
theorem argI_nil {A : Nat → Prop} {w : World} : Lay.argI.slice.rd A w [.slice none 0 0] [] := ⟨none, 0, rfl, Nat.le_refl _, by decide, fun h => absurd h (by simp)⟩
theorem argI_one {w W : World} {x : Int × UInt64} {T : TypeId} (hw : w.heap.size ≤ W.heap.size) (h : okI x) : Lay.argI.slice.rd (fun k => w.heap.size ≤ k ∧ k < (W.alloc (.cells #[argIv x] T)).heap.size) (W.alloc (.cells #[argIv x] T)) [.slice (some ⟨W.heap.size, 0, none⟩) 1 1] [x] :=
  ⟨_, 1, rfl, Nat.le_refl _, by decide, fun _ => ⟨W.heap.size, 0, _, _, _, [argIv x], rfl, ⟨hw, by simp⟩, blk_new W _ _, Lay.all_single ⟨rfl, h⟩, fun j hj => by simp⟩⟩
theorem argI_two {w W : World} {x y : Int × UInt64} {T : TypeId} (hw : w.heap.size ≤ W.heap.size) (h : okI x) (h' : okI y) : Lay.argI.slice.rd (fun k => w.heap.size ≤ k ∧ k < (W.alloc (.cells #[argIv x, argIv y] T)).heap.size) (W.alloc (.cells #[argIv x, argIv y] T)) [.slice (some ⟨W.heap.size, 0, none⟩) 2 2] [x, y] :=
  ⟨_, 2, rfl, Nat.le_refl _, by decide, fun _ => ⟨W.heap.size, 0, _, _, _, [argIv x, argIv y], rfl, ⟨hw, by simp⟩, blk_new W _ _, ⟨[argIv x], [argIv y], rfl, ⟨rfl, h⟩, Lay.all_single ⟨rfl, h'⟩⟩, fun j hj => by simp⟩⟩
set_option maxRecDepth 100000 in
theorem noArgs_calls (w : World) : Calls Tryz.prog 122 #[.agg #[]] w fun e w' => ∃ v, e = .returned v ∧ Lay.argI.slice.rd (fun k => w.heap.size ≤ k ∧ k < w'.heap.size) w' [v] [] ∧ Ext w w' := by
  go_enter Tryz.func122, Tryz.ntmps122
  go_wp2
  go_ret
  exact ⟨_, rfl, argI_nil, ext_alloc _ _⟩
set_option maxRecDepth 100000 in
theorem i32_op (v : Int) : RiOp 322 (.agg #[.int .i32 v]) 65 := by
  refine ⟨119, .agg #[.int .i32 v], fun W => by kernel_rfl, fun W => by kernel_rfl, fun args W => by kernel_rfl, fun w => ?_⟩
  go_enter Tryz.func119, Tryz.ntmps119
  go_wp2
  go_ret
  exact ⟨_, rfl, rfl, ext_alloc _ _⟩
set_option maxRecDepth 100000 in
theorem i32_args {v : Int} (h : -2147483648 ≤ v ∧ v < 2147483648) : RiArgs 322 (.agg #[.int .i32 v]) [(0, bits64 (v % 4294967296))] := by
  refine ⟨118, .agg #[.int .i32 v], fun W => by kernel_rfl, fun W => by kernel_rfl, fun args W => by kernel_rfl, fun w => ?_⟩
  go_enter Tryz.func118, Tryz.ntmps118
  go_wp2
  go_ret
  rw [← argIv_i32 h]
  refine ⟨_, rfl, ?_, Ext.trans (ext_alloc _ _) (ext_alloc _ _)⟩
  have := argI_one (w := w) (W := w.alloc (.cells #[.int .i32 v] 322)) (x := (0, bits64 (v % 4294967296))) (T := 20) (by simp) (.inl ⟨rfl, by have := bits64_toNat (v % 4294967296); show (bits64 _).toNat < _; omega⟩)
  simpa using this
set_option maxRecDepth 100000 in
theorem i64_op (v : Int) : RiOp 325 (.agg #[.int .i64 v]) 66 := by
  refine ⟨121, .agg #[.int .i64 v], fun W => by kernel_rfl, fun W => by kernel_rfl, fun args W => by kernel_rfl, fun w => ?_⟩
  go_enter Tryz.func121, Tryz.ntmps121
  go_wp2
  go_ret
  exact ⟨_, rfl, rfl, ext_alloc _ _⟩
set_option maxRecDepth 100000 in
theorem i64_args {v : Int} (h : -9223372036854775808 ≤ v ∧ v < 9223372036854775808) : RiArgs 325 (.agg #[.int .i64 v]) [(1, bits64 v)] := by
  refine ⟨120, .agg #[.int .i64 v], fun W => by kernel_rfl, fun W => by kernel_rfl, fun args W => by kernel_rfl, fun w => ?_⟩
  go_enter Tryz.func120, Tryz.ntmps120
  go_wp2
  go_ret
  rw [← argIv_i64 h]
  refine ⟨_, rfl, ?_, Ext.trans (ext_alloc _ _) (ext_alloc _ _)⟩
  have := argI_one (w := w) (W := w.alloc (.cells #[.int .i64 v] 325)) (x := (1, bits64 v)) (T := 20) (by simp) (.inr (.inl rfl))
  simpa using this
set_option maxRecDepth 100000 in
theorem eqz_op : RiOp 329 (.agg #[]) 69 := by
  refine ⟨123, .agg #[], fun W => by kernel_rfl, fun W => by kernel_rfl, fun args W => by kernel_rfl, fun w => ?_⟩
  go_enter Tryz.func123, Tryz.ntmps123
  go_wp2
  go_ret
  exact ⟨_, rfl, rfl, ext_alloc _ _⟩
theorem eqz_args : RiArgs 329 (.agg #[]) [] :=
  ⟨122, .agg #[], fun W => by kernel_rfl, fun W => by kernel_rfl, fun args W => by kernel_rfl, fun w => noArgs_calls w⟩
set_option maxRecDepth 100000 in
theorem ret_op : RiOp 339 (.agg #[]) 15 := by
  refine ⟨134, .agg #[], fun W => by kernel_rfl, fun W => by kernel_rfl, fun args W => by kernel_rfl, fun w => ?_⟩
  go_enter Tryz.func134, Tryz.ntmps134
  go_wp2
  go_ret
  exact ⟨_, rfl, rfl, ext_alloc _ _⟩
theorem ret_args : RiArgs 339 (.agg #[]) [] :=
  ⟨122, .agg #[], fun W => by kernel_rfl, fun W => by kernel_rfl, fun args W => by kernel_rfl, fun w => noArgs_calls w⟩
set_option maxRecDepth 100000 in
theorem gl_op (n : Nat) : RiOp 332 (.agg #[.int .u32 (n : Int)]) 32 := by
  refine ⟨125, .agg #[.int .u32 (n : Int)], fun W => by kernel_rfl, fun W => by kernel_rfl, fun args W => by kernel_rfl, fun w => ?_⟩
  go_enter Tryz.func125, Tryz.ntmps125
  go_wp2
  go_ret
  exact ⟨_, rfl, rfl, ext_alloc _ _⟩
set_option maxRecDepth 100000 in
theorem gl_args {n : Nat} (h : n < 4294967296) : RiArgs 332 (.agg #[.int .u32 (n : Int)]) [(2, bits64 (n : Int))] := by
  refine ⟨124, .agg #[.int .u32 (n : Int)], fun W => by kernel_rfl, fun W => by kernel_rfl, fun args W => by kernel_rfl, fun w => ?_⟩
  go_enter Tryz.func124, Tryz.ntmps124
  go_wp2
  go_ret
  rw [← argIv_u32 h]
  refine ⟨_, rfl, ?_, Ext.trans (ext_alloc _ _) (ext_alloc _ _)⟩
  have := argI_one (w := w) (W := w.alloc (.cells #[.int .u32 (n : Int)] 332)) (x := (2, bits64 (n : Int))) (T := 20) (by simp) (.inr (.inr (.inl ⟨rfl, by have := bits64_toNat (n : Int); show (bits64 _).toNat < _; omega⟩)))
  simpa using this
set_option maxRecDepth 100000 in
theorem sl_op (n : Nat) : RiOp 333 (.agg #[.int .u32 (n : Int)]) 33 := by
  refine ⟨127, .agg #[.int .u32 (n : Int)], fun W => by kernel_rfl, fun W => by kernel_rfl, fun args W => by kernel_rfl, fun w => ?_⟩
  go_enter Tryz.func127, Tryz.ntmps127
  go_wp2
  go_ret
  exact ⟨_, rfl, rfl, ext_alloc _ _⟩
set_option maxRecDepth 100000 in
theorem sl_args {n : Nat} (h : n < 4294967296) : RiArgs 333 (.agg #[.int .u32 (n : Int)]) [(2, bits64 (n : Int))] := by
  refine ⟨126, .agg #[.int .u32 (n : Int)], fun W => by kernel_rfl, fun W => by kernel_rfl, fun args W => by kernel_rfl, fun w => ?_⟩
  go_enter Tryz.func126, Tryz.ntmps126
  go_wp2
  go_ret
  rw [← argIv_u32 h]
  refine ⟨_, rfl, ?_, Ext.trans (ext_alloc _ _) (ext_alloc _ _)⟩
  have := argI_one (w := w) (W := w.alloc (.cells #[.int .u32 (n : Int)] 333)) (x := (2, bits64 (n : Int))) (T := 20) (by simp) (.inr (.inr (.inl ⟨rfl, by have := bits64_toNat (n : Int); show (bits64 _).toNat < _; omega⟩)))
  simpa using this
set_option maxRecDepth 100000 in
theorem call_op (n : Nat) : RiOp 334 (.agg #[.int .u32 (n : Int)]) 16 := by
  refine ⟨129, .agg #[.int .u32 (n : Int)], fun W => by kernel_rfl, fun W => by kernel_rfl, fun args W => by kernel_rfl, fun w => ?_⟩
  go_enter Tryz.func129, Tryz.ntmps129
  go_wp2
  go_ret
  exact ⟨_, rfl, rfl, ext_alloc _ _⟩
set_option maxRecDepth 100000 in
theorem call_args {n : Nat} (h : n < 4294967296) : RiArgs 334 (.agg #[.int .u32 (n : Int)]) [(2, bits64 (n : Int))] := by
  refine ⟨128, .agg #[.int .u32 (n : Int)], fun W => by kernel_rfl, fun W => by kernel_rfl, fun args W => by kernel_rfl, fun w => ?_⟩
  go_enter Tryz.func128, Tryz.ntmps128
  go_wp2
  go_ret
  rw [← argIv_u32 h]
  refine ⟨_, rfl, ?_, Ext.trans (ext_alloc _ _) (ext_alloc _ _)⟩
  have := argI_one (w := w) (W := w.alloc (.cells #[.int .u32 (n : Int)] 334)) (x := (2, bits64 (n : Int))) (T := 20) (by simp) (.inr (.inr (.inl ⟨rfl, by have := bits64_toNat (n : Int); show (bits64 _).toNat < _; omega⟩)))
  simpa using this
set_option maxRecDepth 100000 in
theorem brif_op (n : Nat) : RiOp 338 (.agg #[.int .u32 (n : Int)]) 13 := by
  refine ⟨133, .agg #[.int .u32 (n : Int)], fun W => by kernel_rfl, fun W => by kernel_rfl, fun args W => by kernel_rfl, fun w => ?_⟩
  go_enter Tryz.func133, Tryz.ntmps133
  go_wp2
  go_ret
  exact ⟨_, rfl, rfl, ext_alloc _ _⟩
set_option maxRecDepth 100000 in
theorem brif_args {n : Nat} (h : n < 4294967296) : RiArgs 338 (.agg #[.int .u32 (n : Int)]) [(2, bits64 (n : Int))] := by
  refine ⟨132, .agg #[.int .u32 (n : Int)], fun W => by kernel_rfl, fun W => by kernel_rfl, fun args W => by kernel_rfl, fun w => ?_⟩
  go_enter Tryz.func132, Tryz.ntmps132
  go_wp2
  go_ret
  rw [← argIv_u32 h]
  refine ⟨_, rfl, ?_, Ext.trans (ext_alloc _ _) (ext_alloc _ _)⟩
  have := argI_one (w := w) (W := w.alloc (.cells #[.int .u32 (n : Int)] 338)) (x := (2, bits64 (n : Int))) (T := 20) (by simp) (.inr (.inr (.inl ⟨rfl, by have := bits64_toNat (n : Int); show (bits64 _).toNat < _; omega⟩)))
  simpa using this
set_option maxRecDepth 100000 in
theorem ci_op (n r : Nat) : RiOp 337 (.agg #[.int .u32 (n : Int), .int .u8 (r : Int)]) 17 := by
  refine ⟨131, .agg #[.int .u32 (n : Int), .int .u8 (r : Int)], fun W => by kernel_rfl, fun W => by kernel_rfl, fun args W => by kernel_rfl, fun w => ?_⟩
  go_enter Tryz.func131, Tryz.ntmps131
  go_wp2
  go_ret
  exact ⟨_, rfl, rfl, ext_alloc _ _⟩
set_option maxRecDepth 100000 in
theorem ci_args {n r : Nat} (h : n < 4294967296) (h' : r < 256) : RiArgs 337 (.agg #[.int .u32 (n : Int), .int .u8 (r : Int)]) [(2, bits64 (n : Int)), (5, bits64 (r : Int))] := by
  refine ⟨130, .agg #[.int .u32 (n : Int), .int .u8 (r : Int)], fun W => by kernel_rfl, fun W => by kernel_rfl, fun args W => by kernel_rfl, fun w => ?_⟩
  go_enter Tryz.func130, Tryz.ntmps130
  go_wp2
  go_ret
  rw [← argIv_u32 h, ← argIv_u8 h']
  refine ⟨_, rfl, ?_, Ext.trans (ext_alloc _ _) (ext_alloc _ _)⟩
  have := argI_two (w := w) (W := w.alloc (.cells #[.int .u32 (n : Int), .int .u8 (r : Int)] 337)) (x := (2, bits64 (n : Int))) (y := (5, bits64 (r : Int))) (T := 20) (by simp) (.inr (.inr (.inl ⟨rfl, by have := bits64_toNat (n : Int); show (bits64 _).toNat < _; omega⟩))) (.inr (.inr (.inr ⟨rfl, by have := bits64_toNat (r : Int); show (bits64 _).toNat < _; omega⟩)))
  simpa using this
set_option maxRecDepth 100000 in
theorem block_op (s : Value) : RiOp 341 (.agg #[.pointer none, s]) 2 := by
  refine ⟨137, .agg #[.pointer none, s], fun W => by kernel_rfl, fun W => by kernel_rfl, fun args W => by kernel_rfl, fun w => ?_⟩
  go_enter Tryz.func137, Tryz.ntmps137
  go_wp2
  go_ret
  exact ⟨_, rfl, rfl, ext_alloc _ _⟩
theorem block_args (s : Value) : RiArgs 341 (.agg #[.pointer none, s]) [] :=
  ⟨122, .agg #[], fun W => by kernel_rfl, fun W => by kernel_rfl, fun args W => by kernel_rfl, fun w => noArgs_calls w⟩
set_option maxRecDepth 100000 in
theorem block_in (s : Value) : Answers 341 (.agg #[.pointer none, s]) "Instructions" (fun _ v _ => v = s) := by
  refine ⟨136, .agg #[.pointer none, s], fun W => by kernel_rfl, fun W => by kernel_rfl, fun args W => by kernel_rfl, fun w => ?_⟩
  go_enter Tryz.func136, Tryz.ntmps136
  go_wp2
  go_ret
  exact ⟨_, rfl, rfl, ext_alloc _ _⟩
set_option maxRecDepth 100000 in
theorem block_bt (s : Value) : Answers 341 (.agg #[.pointer none, s]) "BlockType" (fun _ v _ => v = .pointer none) := by
  refine ⟨135, .agg #[.pointer none, s], fun W => by kernel_rfl, fun W => by kernel_rfl, fun args W => by kernel_rfl, fun w => ?_⟩
  go_enter Tryz.func135, Tryz.ntmps135
  go_wp2
  go_ret
  exact ⟨_, rfl, rfl, ext_alloc _ _⟩
theorem block_si (v : Value) (W : World) : (Instr.typeAssert (.iface 341 v) 283 288 true).run Tryz.prog W = .ok (.tuple #[.iface 341 v, .bool true]) W := by kernel_rfl
set_option maxRecDepth 100000 in
theorem loop_op (s : Value) : RiOp 342 (.agg #[.pointer none, s]) 3 := by
  refine ⟨140, .agg #[.pointer none, s], fun W => by kernel_rfl, fun W => by kernel_rfl, fun args W => by kernel_rfl, fun w => ?_⟩
  go_enter Tryz.func140, Tryz.ntmps140
  go_wp2
  go_ret
  exact ⟨_, rfl, rfl, ext_alloc _ _⟩
theorem loop_args (s : Value) : RiArgs 342 (.agg #[.pointer none, s]) [] :=
  ⟨122, .agg #[], fun W => by kernel_rfl, fun W => by kernel_rfl, fun args W => by kernel_rfl, fun w => noArgs_calls w⟩
set_option maxRecDepth 100000 in
theorem loop_in (s : Value) : Answers 342 (.agg #[.pointer none, s]) "Instructions" (fun _ v _ => v = s) := by
  refine ⟨139, .agg #[.pointer none, s], fun W => by kernel_rfl, fun W => by kernel_rfl, fun args W => by kernel_rfl, fun w => ?_⟩
  go_enter Tryz.func139, Tryz.ntmps139
  go_wp2
  go_ret
  exact ⟨_, rfl, rfl, ext_alloc _ _⟩
set_option maxRecDepth 100000 in
theorem loop_bt (s : Value) : Answers 342 (.agg #[.pointer none, s]) "BlockType" (fun _ v _ => v = .pointer none) := by
  refine ⟨138, .agg #[.pointer none, s], fun W => by kernel_rfl, fun W => by kernel_rfl, fun args W => by kernel_rfl, fun w => ?_⟩
  go_enter Tryz.func138, Tryz.ntmps138
  go_wp2
  go_ret
  exact ⟨_, rfl, rfl, ext_alloc _ _⟩
theorem loop_si (v : Value) (W : World) : (Instr.typeAssert (.iface 342 v) 283 288 true).run Tryz.prog W = .ok (.tuple #[.iface 342 v, .bool true]) W := by kernel_rfl
end Go.Proofs.YtbdahjpdjamgiaaGreatDoor
