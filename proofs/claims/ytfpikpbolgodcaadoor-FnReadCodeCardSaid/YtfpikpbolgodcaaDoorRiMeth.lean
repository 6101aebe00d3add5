/- What instructions that are read answer. Written by wip/tools/gen_ri.py. -/
import Derived.Test.YtfpikpbolgodcaaDoorRdPlain
import Derived.Test.YtfpikpbolgodcaaDoorProg
import Derived.KernelRfl
import Derived.Deep.QuietTactic
import Derived.BigQuiet
namespace Go.Proofs.YtfpikpbolgodcaaDoor
open Go.RowKit
/-- The interface value of an immediate argument. -/
def argIv (a : Int × UInt64) : Value :=
  if a.1 = 0 then .iface 21 (.int .i32 (wrap32 (a.2.toNat : Int)))
  else if a.1 = 1 then .iface 2 (.int .i64 (wrap64 (a.2.toNat : Int)))
  else if a.1 = 2 then .iface 42 (.int .u32 (a.2.toNat : Int))
  else .iface 5 (.int .u8 (a.2.toNat : Int))
theorem argIv_one (a : Int × UInt64) : (argIv a).oneCell' = true := by unfold argIv; (repeat' split) <;> rfl
def okI (a : Int × UInt64) : Prop := (a.1 = 0 ∧ a.2.toNat < 4294967296) ∨ a.1 = 1 ∨ (a.1 = 2 ∧ a.2.toNat < 4294967296) ∨ (a.1 = 5 ∧ a.2.toNat < 256)
def Lay.argI : Lay (Int × UInt64) where
  size := 1
  rd _ _ cs x := cs = [argIv x] ∧ okI x
  len h := by rw [h.1]; rfl
  one h u hu := by rw [h.1] at hu; obtain rfl := List.mem_singleton.1 hu; exact argIv_one _
  frame h _ := h
  mono h _ := h
theorem Lay.flat_argI : Lay.argI.flat := fun h => h
/-- A number's 64 bits. -/
def bits64 (v : Int) : UInt64 := UInt64.ofNat (v % 18446744073709551616).toNat
namespace RI
def op : RI → Nat
  | i32 _ => 65 | i64 _ => 66 | eqz => 69 | idx o _ => o | ci _ _ => 17 | ret => 15 | blk lp _ => if lp then 3 else 2
def args : RI → List (Int × UInt64)
  | i32 v => [(0, bits64 (v % 4294967296))] | i64 v => [(1, bits64 v)] | eqz => [] | idx _ n => [(2, bits64 (n : Int))] | ci n r => [(2, bits64 (n : Int)), (5, bits64 (r : Int))] | ret => [] | blk _ _ => []
def isBlk : RI → Bool
  | blk _ _ => true | _ => false
end RI
mutual
/-- The plain data of an instruction that is read. -/
def toI1 : RI → Ins
  | .blk lp b => .mk (if lp then 3 else 2) [] true (-1) (toIL b)
  | .i32 v => .mk 65 [(0, bits64 (v % 4294967296))] false (-1) []
  | .i64 v => .mk 66 [(1, bits64 v)] false (-1) []
  | .eqz => .mk 69 [] false (-1) []
  | .idx o n => .mk o [(2, bits64 (n : Int))] false (-1) []
  | .ci n r => .mk 17 [(2, bits64 (n : Int)), (5, bits64 (r : Int))] false (-1) []
  | .ret => .mk 15 [] false (-1) []
def toIL : List RI → List Ins
  | [] => []
  | x :: xs => toI1 x :: toIL xs
end
theorem bits64_toNat (v : Int) : ((bits64 v).toNat : Int) = v % 18446744073709551616 := by
  have h : (v % 18446744073709551616).toNat < 18446744073709551616 := by omega
  show (((UInt64.ofNat (v % 18446744073709551616).toNat).toNat : Nat) : Int) = _
  rw [show (UInt64.ofNat (v % 18446744073709551616).toNat).toNat = (v % 18446744073709551616).toNat from Nat.mod_eq_of_lt h]
  omega
theorem argIv_i32 {v : Int} (h : -2147483648 ≤ v ∧ v < 2147483648) : argIv (0, bits64 (v % 4294967296)) = .iface 21 (.int .i32 v) := by
  have := bits64_toNat (v % 4294967296)
  unfold argIv
  simp only [if_true]
  congr 2
  rw [this]; unfold wrap32; omega
theorem argIv_i64 {v : Int} (h : -9223372036854775808 ≤ v ∧ v < 9223372036854775808) : argIv (1, bits64 v) = .iface 2 (.int .i64 v) := by
  have := bits64_toNat v
  unfold argIv
  rw [if_neg (show ¬ (1 : Int) = 0 by decide), if_pos rfl]
  congr 2
  rw [this]; unfold wrap64; omega
theorem argIv_u32 {n : Nat} (h : n < 4294967296) : argIv (2, bits64 (n : Int)) = .iface 42 (.int .u32 (n : Int)) := by
  have := bits64_toNat (n : Int)
  unfold argIv
  rw [if_neg (show ¬ (2 : Int) = 0 by decide), if_neg (show ¬ (2 : Int) = 1 by decide), if_pos rfl]
  congr 2
  rw [this]; omega
theorem argIv_u8 {n : Nat} (h : n < 256) : argIv (5, bits64 (n : Int)) = .iface 5 (.int .u8 (n : Int)) := by
  have := bits64_toNat (n : Int)
  unfold argIv
  rw [if_neg (show ¬ (5 : Int) = 0 by decide), if_neg (show ¬ (5 : Int) = 1 by decide), if_neg (show ¬ (5 : Int) = 2 by decide)]
  congr 2
  rw [this]; omega
/-- A method that answers. -/
def Answers (T : TypeId) (p : Value) (m : String) (R : World → Value → World → Prop) : Prop :=
  ∃ fo po, (∀ W, (nilAhead 290 T p m).run Tryd.prog W = .ok (some false) W) ∧ (∀ W, (method 290 T p m).run Tryd.prog W = .ok (fo, po) W) ∧ (∀ args W, (callFunc fo args).run Tryd.prog W = .ok (.enter fo args) W) ∧
    ∀ w, Calls Tryd.prog fo #[po] w fun e w' => ∃ v, e = .returned v ∧ R w v w' ∧ Ext w w'
def RiOp (T : TypeId) (p : Value) (op : Nat) : Prop := Answers T p "Op" (fun _ v _ => v = .int .u8 (op : Int))
def RiArgs (T : TypeId) (p : Value) (xs : List (Int × UInt64)) : Prop := Answers T p "ImmediateArgs" (fun w v w' => Lay.argI.slice.rd (fun k => w.heap.size ≤ k ∧ k < w'.heap.size) w' [v] xs)
theorem argI_nil {A : Nat → Prop} {w : World} : Lay.argI.slice.rd A w [.slice none 0 0] [] := ⟨none, 0, rfl, Nat.le_refl _, by decide, fun h => absurd h (by simp)⟩
theorem argI_one {w W : World} {x : Int × UInt64} {T : TypeId} (hw : w.heap.size ≤ W.heap.size) (h : okI x) : Lay.argI.slice.rd (fun k => w.heap.size ≤ k ∧ k < (W.alloc (.cells #[argIv x] T)).heap.size) (W.alloc (.cells #[argIv x] T)) [.slice (some ⟨W.heap.size, 0, none⟩) 1 1] [x] :=
  ⟨_, 1, rfl, Nat.le_refl _, by decide, fun _ => ⟨W.heap.size, 0, _, _, _, [argIv x], rfl, ⟨hw, by simp⟩, blk_new W _ _, Lay.all_single ⟨rfl, h⟩, fun j hj => by simp⟩⟩
theorem argI_two {w W : World} {x y : Int × UInt64} {T : TypeId} (hw : w.heap.size ≤ W.heap.size) (h : okI x) (h' : okI y) : Lay.argI.slice.rd (fun k => w.heap.size ≤ k ∧ k < (W.alloc (.cells #[argIv x, argIv y] T)).heap.size) (W.alloc (.cells #[argIv x, argIv y] T)) [.slice (some ⟨W.heap.size, 0, none⟩) 2 2] [x, y] :=
  ⟨_, 2, rfl, Nat.le_refl _, by decide, fun _ => ⟨W.heap.size, 0, _, _, _, [argIv x, argIv y], rfl, ⟨hw, by simp⟩, blk_new W _ _, ⟨[argIv x], [argIv y], rfl, ⟨rfl, h⟩, Lay.all_single ⟨rfl, h'⟩⟩, fun j hj => by simp⟩⟩
set_option maxRecDepth 100000 in
theorem noArgs_calls (w : World) : Calls Tryd.prog 78 #[.agg #[]] w fun e w' => ∃ v, e = .returned v ∧ Lay.argI.slice.rd (fun k => w.heap.size ≤ k ∧ k < w'.heap.size) w' [v] [] ∧ Ext w w' := by
  go_enter Tryd.func78, Tryd.ntmps78
  go_wp2
  go_ret
  exact ⟨_, rfl, argI_nil, ext_alloc _ _⟩
set_option maxRecDepth 100000 in
theorem i32_op (v : Int) : RiOp 145 (.agg #[.int .i32 v]) 65 := by
  refine ⟨75, .agg #[.int .i32 v], fun W => by kernel_rfl, fun W => by kernel_rfl, fun args W => by kernel_rfl, fun w => ?_⟩
  go_enter Tryd.func75, Tryd.ntmps75
  go_wp2
  go_ret
  exact ⟨_, rfl, rfl, ext_alloc _ _⟩
set_option maxRecDepth 100000 in
theorem i32_args {v : Int} (h : -2147483648 ≤ v ∧ v < 2147483648) : RiArgs 145 (.agg #[.int .i32 v]) [(0, bits64 (v % 4294967296))] := by
  refine ⟨74, .agg #[.int .i32 v], fun W => by kernel_rfl, fun W => by kernel_rfl, fun args W => by kernel_rfl, fun w => ?_⟩
  go_enter Tryd.func74, Tryd.ntmps74
  go_wp2
  go_ret
  rw [← argIv_i32 h]
  refine ⟨_, rfl, ?_, Ext.trans (ext_alloc _ _) (ext_alloc _ _)⟩
  have := argI_one (w := w) (W := w.alloc (.cells #[.int .i32 v] 145)) (x := (0, bits64 (v % 4294967296))) (T := 20) (by simp) (.inl ⟨rfl, by have := bits64_toNat (v % 4294967296); show (bits64 _).toNat < _; omega⟩)
  simpa using this
set_option maxRecDepth 100000 in
theorem i64_op (v : Int) : RiOp 148 (.agg #[.int .i64 v]) 66 := by
  refine ⟨77, .agg #[.int .i64 v], fun W => by kernel_rfl, fun W => by kernel_rfl, fun args W => by kernel_rfl, fun w => ?_⟩
  go_enter Tryd.func77, Tryd.ntmps77
  go_wp2
  go_ret
  exact ⟨_, rfl, rfl, ext_alloc _ _⟩
set_option maxRecDepth 100000 in
theorem i64_args {v : Int} (h : -9223372036854775808 ≤ v ∧ v < 9223372036854775808) : RiArgs 148 (.agg #[.int .i64 v]) [(1, bits64 v)] := by
  refine ⟨76, .agg #[.int .i64 v], fun W => by kernel_rfl, fun W => by kernel_rfl, fun args W => by kernel_rfl, fun w => ?_⟩
  go_enter Tryd.func76, Tryd.ntmps76
  go_wp2
  go_ret
  rw [← argIv_i64 h]
  refine ⟨_, rfl, ?_, Ext.trans (ext_alloc _ _) (ext_alloc _ _)⟩
  have := argI_one (w := w) (W := w.alloc (.cells #[.int .i64 v] 148)) (x := (1, bits64 v)) (T := 20) (by simp) (.inr (.inl rfl))
  simpa using this
set_option maxRecDepth 100000 in
theorem eqz_op : RiOp 152 (.agg #[]) 69 := by
  refine ⟨79, .agg #[], fun W => by kernel_rfl, fun W => by kernel_rfl, fun args W => by kernel_rfl, fun w => ?_⟩
  go_enter Tryd.func79, Tryd.ntmps79
  go_wp2
  go_ret
  exact ⟨_, rfl, rfl, ext_alloc _ _⟩
theorem eqz_args : RiArgs 152 (.agg #[]) [] :=
  ⟨78, .agg #[], fun W => by kernel_rfl, fun W => by kernel_rfl, fun args W => by kernel_rfl, fun w => noArgs_calls w⟩
set_option maxRecDepth 100000 in
theorem ret_op : RiOp 162 (.agg #[]) 15 := by
  refine ⟨90, .agg #[], fun W => by kernel_rfl, fun W => by kernel_rfl, fun args W => by kernel_rfl, fun w => ?_⟩
  go_enter Tryd.func90, Tryd.ntmps90
  go_wp2
  go_ret
  exact ⟨_, rfl, rfl, ext_alloc _ _⟩
theorem ret_args : RiArgs 162 (.agg #[]) [] :=
  ⟨78, .agg #[], fun W => by kernel_rfl, fun W => by kernel_rfl, fun args W => by kernel_rfl, fun w => noArgs_calls w⟩
set_option maxRecDepth 100000 in
theorem gl_op (n : Nat) : RiOp 155 (.agg #[.int .u32 (n : Int)]) 32 := by
  refine ⟨81, .agg #[.int .u32 (n : Int)], fun W => by kernel_rfl, fun W => by kernel_rfl, fun args W => by kernel_rfl, fun w => ?_⟩
  go_enter Tryd.func81, Tryd.ntmps81
  go_wp2
  go_ret
  exact ⟨_, rfl, rfl, ext_alloc _ _⟩
set_option maxRecDepth 100000 in
theorem gl_args {n : Nat} (h : n < 4294967296) : RiArgs 155 (.agg #[.int .u32 (n : Int)]) [(2, bits64 (n : Int))] := by
  refine ⟨80, .agg #[.int .u32 (n : Int)], fun W => by kernel_rfl, fun W => by kernel_rfl, fun args W => by kernel_rfl, fun w => ?_⟩
  go_enter Tryd.func80, Tryd.ntmps80
  go_wp2
  go_ret
  rw [← argIv_u32 h]
  refine ⟨_, rfl, ?_, Ext.trans (ext_alloc _ _) (ext_alloc _ _)⟩
  have := argI_one (w := w) (W := w.alloc (.cells #[.int .u32 (n : Int)] 155)) (x := (2, bits64 (n : Int))) (T := 20) (by simp) (.inr (.inr (.inl ⟨rfl, by have := bits64_toNat (n : Int); show (bits64 _).toNat < _; omega⟩)))
  simpa using this
set_option maxRecDepth 100000 in
theorem sl_op (n : Nat) : RiOp 156 (.agg #[.int .u32 (n : Int)]) 33 := by
  refine ⟨83, .agg #[.int .u32 (n : Int)], fun W => by kernel_rfl, fun W => by kernel_rfl, fun args W => by kernel_rfl, fun w => ?_⟩
  go_enter Tryd.func83, Tryd.ntmps83
  go_wp2
  go_ret
  exact ⟨_, rfl, rfl, ext_alloc _ _⟩
set_option maxRecDepth 100000 in
theorem sl_args {n : Nat} (h : n < 4294967296) : RiArgs 156 (.agg #[.int .u32 (n : Int)]) [(2, bits64 (n : Int))] := by
  refine ⟨82, .agg #[.int .u32 (n : Int)], fun W => by kernel_rfl, fun W => by kernel_rfl, fun args W => by kernel_rfl, fun w => ?_⟩
  go_enter Tryd.func82, Tryd.ntmps82
  go_wp2
  go_ret
  rw [← argIv_u32 h]
  refine ⟨_, rfl, ?_, Ext.trans (ext_alloc _ _) (ext_alloc _ _)⟩
  have := argI_one (w := w) (W := w.alloc (.cells #[.int .u32 (n : Int)] 156)) (x := (2, bits64 (n : Int))) (T := 20) (by simp) (.inr (.inr (.inl ⟨rfl, by have := bits64_toNat (n : Int); show (bits64 _).toNat < _; omega⟩)))
  simpa using this
set_option maxRecDepth 100000 in
theorem call_op (n : Nat) : RiOp 157 (.agg #[.int .u32 (n : Int)]) 16 := by
  refine ⟨85, .agg #[.int .u32 (n : Int)], fun W => by kernel_rfl, fun W => by kernel_rfl, fun args W => by kernel_rfl, fun w => ?_⟩
  go_enter Tryd.func85, Tryd.ntmps85
  go_wp2
  go_ret
  exact ⟨_, rfl, rfl, ext_alloc _ _⟩
set_option maxRecDepth 100000 in
theorem call_args {n : Nat} (h : n < 4294967296) : RiArgs 157 (.agg #[.int .u32 (n : Int)]) [(2, bits64 (n : Int))] := by
  refine ⟨84, .agg #[.int .u32 (n : Int)], fun W => by kernel_rfl, fun W => by kernel_rfl, fun args W => by kernel_rfl, fun w => ?_⟩
  go_enter Tryd.func84, Tryd.ntmps84
  go_wp2
  go_ret
  rw [← argIv_u32 h]
  refine ⟨_, rfl, ?_, Ext.trans (ext_alloc _ _) (ext_alloc _ _)⟩
  have := argI_one (w := w) (W := w.alloc (.cells #[.int .u32 (n : Int)] 157)) (x := (2, bits64 (n : Int))) (T := 20) (by simp) (.inr (.inr (.inl ⟨rfl, by have := bits64_toNat (n : Int); show (bits64 _).toNat < _; omega⟩)))
  simpa using this
set_option maxRecDepth 100000 in
theorem brif_op (n : Nat) : RiOp 161 (.agg #[.int .u32 (n : Int)]) 13 := by
  refine ⟨89, .agg #[.int .u32 (n : Int)], fun W => by kernel_rfl, fun W => by kernel_rfl, fun args W => by kernel_rfl, fun w => ?_⟩
  go_enter Tryd.func89, Tryd.ntmps89
  go_wp2
  go_ret
  exact ⟨_, rfl, rfl, ext_alloc _ _⟩
set_option maxRecDepth 100000 in
theorem brif_args {n : Nat} (h : n < 4294967296) : RiArgs 161 (.agg #[.int .u32 (n : Int)]) [(2, bits64 (n : Int))] := by
  refine ⟨88, .agg #[.int .u32 (n : Int)], fun W => by kernel_rfl, fun W => by kernel_rfl, fun args W => by kernel_rfl, fun w => ?_⟩
  go_enter Tryd.func88, Tryd.ntmps88
  go_wp2
  go_ret
  rw [← argIv_u32 h]
  refine ⟨_, rfl, ?_, Ext.trans (ext_alloc _ _) (ext_alloc _ _)⟩
  have := argI_one (w := w) (W := w.alloc (.cells #[.int .u32 (n : Int)] 161)) (x := (2, bits64 (n : Int))) (T := 20) (by simp) (.inr (.inr (.inl ⟨rfl, by have := bits64_toNat (n : Int); show (bits64 _).toNat < _; omega⟩)))
  simpa using this
set_option maxRecDepth 100000 in
theorem ci_op (n r : Nat) : RiOp 160 (.agg #[.int .u32 (n : Int), .int .u8 (r : Int)]) 17 := by
  refine ⟨87, .agg #[.int .u32 (n : Int), .int .u8 (r : Int)], fun W => by kernel_rfl, fun W => by kernel_rfl, fun args W => by kernel_rfl, fun w => ?_⟩
  go_enter Tryd.func87, Tryd.ntmps87
  go_wp2
  go_ret
  exact ⟨_, rfl, rfl, ext_alloc _ _⟩
set_option maxRecDepth 100000 in
theorem ci_args {n r : Nat} (h : n < 4294967296) (h' : r < 256) : RiArgs 160 (.agg #[.int .u32 (n : Int), .int .u8 (r : Int)]) [(2, bits64 (n : Int)), (5, bits64 (r : Int))] := by
  refine ⟨86, .agg #[.int .u32 (n : Int), .int .u8 (r : Int)], fun W => by kernel_rfl, fun W => by kernel_rfl, fun args W => by kernel_rfl, fun w => ?_⟩
  go_enter Tryd.func86, Tryd.ntmps86
  go_wp2
  go_ret
  rw [← argIv_u32 h, ← argIv_u8 h']
  refine ⟨_, rfl, ?_, Ext.trans (ext_alloc _ _) (ext_alloc _ _)⟩
  have := argI_two (w := w) (W := w.alloc (.cells #[.int .u32 (n : Int), .int .u8 (r : Int)] 160)) (x := (2, bits64 (n : Int))) (y := (5, bits64 (r : Int))) (T := 20) (by simp) (.inr (.inr (.inl ⟨rfl, by have := bits64_toNat (n : Int); show (bits64 _).toNat < _; omega⟩))) (.inr (.inr (.inr ⟨rfl, by have := bits64_toNat (r : Int); show (bits64 _).toNat < _; omega⟩)))
  simpa using this
set_option maxRecDepth 100000 in
theorem block_op (s : Value) : RiOp 164 (.agg #[.pointer none, s]) 2 := by
  refine ⟨93, .agg #[.pointer none, s], fun W => by kernel_rfl, fun W => by kernel_rfl, fun args W => by kernel_rfl, fun w => ?_⟩
  go_enter Tryd.func93, Tryd.ntmps93
  go_wp2
  go_ret
  exact ⟨_, rfl, rfl, ext_alloc _ _⟩
theorem block_args (s : Value) : RiArgs 164 (.agg #[.pointer none, s]) [] :=
  ⟨78, .agg #[], fun W => by kernel_rfl, fun W => by kernel_rfl, fun args W => by kernel_rfl, fun w => noArgs_calls w⟩
set_option maxRecDepth 100000 in
theorem block_in (s : Value) : Answers 164 (.agg #[.pointer none, s]) "Instructions" (fun _ v _ => v = s) := by
  refine ⟨92, .agg #[.pointer none, s], fun W => by kernel_rfl, fun W => by kernel_rfl, fun args W => by kernel_rfl, fun w => ?_⟩
  go_enter Tryd.func92, Tryd.ntmps92
  go_wp2
  go_ret
  exact ⟨_, rfl, rfl, ext_alloc _ _⟩
set_option maxRecDepth 100000 in
theorem block_bt (s : Value) : Answers 164 (.agg #[.pointer none, s]) "BlockType" (fun _ v _ => v = .pointer none) := by
  refine ⟨91, .agg #[.pointer none, s], fun W => by kernel_rfl, fun W => by kernel_rfl, fun args W => by kernel_rfl, fun w => ?_⟩
  go_enter Tryd.func91, Tryd.ntmps91
  go_wp2
  go_ret
  exact ⟨_, rfl, rfl, ext_alloc _ _⟩
theorem block_si (v : Value) (W : World) : (Instr.typeAssert (.iface 164 v) 107 114 true).run Tryd.prog W = .ok (.tuple #[.iface 164 v, .bool true]) W := by kernel_rfl
set_option maxRecDepth 100000 in
theorem loop_op (s : Value) : RiOp 165 (.agg #[.pointer none, s]) 3 := by
  refine ⟨96, .agg #[.pointer none, s], fun W => by kernel_rfl, fun W => by kernel_rfl, fun args W => by kernel_rfl, fun w => ?_⟩
  go_enter Tryd.func96, Tryd.ntmps96
  go_wp2
  go_ret
  exact ⟨_, rfl, rfl, ext_alloc _ _⟩
theorem loop_args (s : Value) : RiArgs 165 (.agg #[.pointer none, s]) [] :=
  ⟨78, .agg #[], fun W => by kernel_rfl, fun W => by kernel_rfl, fun args W => by kernel_rfl, fun w => noArgs_calls w⟩
set_option maxRecDepth 100000 in
theorem loop_in (s : Value) : Answers 165 (.agg #[.pointer none, s]) "Instructions" (fun _ v _ => v = s) := by
  refine ⟨95, .agg #[.pointer none, s], fun W => by kernel_rfl, fun W => by kernel_rfl, fun args W => by kernel_rfl, fun w => ?_⟩
  go_enter Tryd.func95, Tryd.ntmps95
  go_wp2
  go_ret
  exact ⟨_, rfl, rfl, ext_alloc _ _⟩
set_option maxRecDepth 100000 in
theorem loop_bt (s : Value) : Answers 165 (.agg #[.pointer none, s]) "BlockType" (fun _ v _ => v = .pointer none) := by
  refine ⟨94, .agg #[.pointer none, s], fun W => by kernel_rfl, fun W => by kernel_rfl, fun args W => by kernel_rfl, fun w => ?_⟩
  go_enter Tryd.func94, Tryd.ntmps94
  go_wp2
  go_ret
  exact ⟨_, rfl, rfl, ext_alloc _ _⟩
theorem loop_si (v : Value) (W : World) : (Instr.typeAssert (.iface 165 v) 107 114 true).run Tryd.prog W = .ok (.tuple #[.iface 165 v, .bool true]) W := by kernel_rfl
end Go.Proofs.YtfpikpbolgodcaaDoor
