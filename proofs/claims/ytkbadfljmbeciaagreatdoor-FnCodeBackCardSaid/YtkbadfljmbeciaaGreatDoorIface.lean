/- Interface values: type switches, methods of instructions of plain data. -/
import Derived.Test.YtkbadfljmbeciaaGreatDoorImplInstrs
import Derived.Test.YtkbadfljmbeciaaGreatDoorEncSmall
import Derived.Test.YtkbadfljmbeciaaGreatDoorLibE
namespace Go.Proofs.YtkbadfljmbeciaaGreatDoor
open Go.RowKit
theorem ta_int32_0 (v : Value) (W : World) : (Instr.typeAssert (.iface 21 v) 20 21 true).run Tryz.prog W = .ok (.tuple #[v, .bool true]) W := by kernel_rfl
theorem ta_int64_0 (v : Value) (W : World) : (Instr.typeAssert (.iface 2 v) 20 21 true).run Tryz.prog W = .ok (.tuple #[.int .i32 0, .bool false]) W := by kernel_rfl
theorem ta_int64_1 (v : Value) (W : World) : (Instr.typeAssert (.iface 2 v) 20 2 true).run Tryz.prog W = .ok (.tuple #[v, .bool true]) W := by kernel_rfl
theorem ta_uint32_0 (v : Value) (W : World) : (Instr.typeAssert (.iface 23 v) 20 21 true).run Tryz.prog W = .ok (.tuple #[.int .i32 0, .bool false]) W := by kernel_rfl
theorem ta_uint32_1 (v : Value) (W : World) : (Instr.typeAssert (.iface 23 v) 20 2 true).run Tryz.prog W = .ok (.tuple #[.int .i64 0, .bool false]) W := by kernel_rfl
theorem ta_uint32_2 (v : Value) (W : World) : (Instr.typeAssert (.iface 23 v) 20 23 true).run Tryz.prog W = .ok (.tuple #[v, .bool true]) W := by kernel_rfl
theorem ta_uint64_0 (v : Value) (W : World) : (Instr.typeAssert (.iface 81 v) 20 21 true).run Tryz.prog W = .ok (.tuple #[.int .i32 0, .bool false]) W := by kernel_rfl
theorem ta_uint64_1 (v : Value) (W : World) : (Instr.typeAssert (.iface 81 v) 20 2 true).run Tryz.prog W = .ok (.tuple #[.int .i64 0, .bool false]) W := by kernel_rfl
theorem ta_uint64_2 (v : Value) (W : World) : (Instr.typeAssert (.iface 81 v) 20 23 true).run Tryz.prog W = .ok (.tuple #[.int .u32 0, .bool false]) W := by kernel_rfl
theorem ta_uint64_3 (v : Value) (W : World) : (Instr.typeAssert (.iface 81 v) 20 81 true).run Tryz.prog W = .ok (.tuple #[v, .bool true]) W := by kernel_rfl
theorem ta_float32_0 (v : Value) (W : World) : (Instr.typeAssert (.iface 316 v) 20 21 true).run Tryz.prog W = .ok (.tuple #[.int .i32 0, .bool false]) W := by kernel_rfl
theorem ta_float32_1 (v : Value) (W : World) : (Instr.typeAssert (.iface 316 v) 20 2 true).run Tryz.prog W = .ok (.tuple #[.int .i64 0, .bool false]) W := by kernel_rfl
theorem ta_float32_2 (v : Value) (W : World) : (Instr.typeAssert (.iface 316 v) 20 23 true).run Tryz.prog W = .ok (.tuple #[.int .u32 0, .bool false]) W := by kernel_rfl
theorem ta_float32_3 (v : Value) (W : World) : (Instr.typeAssert (.iface 316 v) 20 81 true).run Tryz.prog W = .ok (.tuple #[.int .u64 0, .bool false]) W := by kernel_rfl
theorem ta_float32_4 (v : Value) (W : World) : (Instr.typeAssert (.iface 316 v) 20 316 true).run Tryz.prog W = .ok (.tuple #[v, .bool true]) W := by kernel_rfl
theorem ta_float64_0 (v : Value) (W : World) : (Instr.typeAssert (.iface 318 v) 20 21 true).run Tryz.prog W = .ok (.tuple #[.int .i32 0, .bool false]) W := by kernel_rfl
theorem ta_float64_1 (v : Value) (W : World) : (Instr.typeAssert (.iface 318 v) 20 2 true).run Tryz.prog W = .ok (.tuple #[.int .i64 0, .bool false]) W := by kernel_rfl
theorem ta_float64_2 (v : Value) (W : World) : (Instr.typeAssert (.iface 318 v) 20 23 true).run Tryz.prog W = .ok (.tuple #[.int .u32 0, .bool false]) W := by kernel_rfl
theorem ta_float64_3 (v : Value) (W : World) : (Instr.typeAssert (.iface 318 v) 20 81 true).run Tryz.prog W = .ok (.tuple #[.int .u64 0, .bool false]) W := by kernel_rfl
theorem ta_float64_4 (v : Value) (W : World) : (Instr.typeAssert (.iface 318 v) 20 316 true).run Tryz.prog W = .ok (.tuple #[.float .f32 0, .bool false]) W := by kernel_rfl
theorem ta_float64_5 (v : Value) (W : World) : (Instr.typeAssert (.iface 318 v) 20 318 true).run Tryz.prog W = .ok (.tuple #[v, .bool true]) W := by kernel_rfl
theorem ta_uint8_0 (v : Value) (W : World) : (Instr.typeAssert (.iface 5 v) 20 21 true).run Tryz.prog W = .ok (.tuple #[.int .i32 0, .bool false]) W := by kernel_rfl
theorem ta_uint8_1 (v : Value) (W : World) : (Instr.typeAssert (.iface 5 v) 20 2 true).run Tryz.prog W = .ok (.tuple #[.int .i64 0, .bool false]) W := by kernel_rfl
theorem ta_uint8_2 (v : Value) (W : World) : (Instr.typeAssert (.iface 5 v) 20 23 true).run Tryz.prog W = .ok (.tuple #[.int .u32 0, .bool false]) W := by kernel_rfl
theorem ta_uint8_3 (v : Value) (W : World) : (Instr.typeAssert (.iface 5 v) 20 81 true).run Tryz.prog W = .ok (.tuple #[.int .u64 0, .bool false]) W := by kernel_rfl
theorem ta_uint8_4 (v : Value) (W : World) : (Instr.typeAssert (.iface 5 v) 20 316 true).run Tryz.prog W = .ok (.tuple #[.float .f32 0, .bool false]) W := by kernel_rfl
theorem ta_uint8_5 (v : Value) (W : World) : (Instr.typeAssert (.iface 5 v) 20 318 true).run Tryz.prog W = .ok (.tuple #[.float .f64 0, .bool false]) W := by kernel_rfl
theorem ta_uint8_6 (v : Value) (W : World) : (Instr.typeAssert (.iface 5 v) 20 5 true).run Tryz.prog W = .ok (.tuple #[v, .bool true]) W := by kernel_rfl
theorem si_own (v : Value) (W : World) : (Instr.typeAssert (.iface 274 v) 301 306 true).run Tryz.prog W = .ok (.tuple #[.nilIface, .bool false]) W :=
  ta_fails (by kernel_rfl) (fun W => by kernel_rfl) v W
theorem si_block (v : Value) (W : World) : (Instr.typeAssert (.iface 278 v) 301 306 true).run Tryz.prog W = .ok (.tuple #[.iface 278 v, .bool true]) W := by kernel_rfl
theorem run_bits32 (n : Nat) (w : World) : (callFunc 76 #[.float .f32 n]).run Tryz.prog w = .ok (.value (.int .u32 n)) w := by
  kernel_rfl
theorem run_bits64 (n : Nat) (w : World) : (callFunc 78 #[.float .f64 n]).run Tryz.prog w = .ok (.value (.int .u64 n)) w := by
  kernel_rfl
theorem own_op_nil (v : Value) (W : World) : (nilAhead 496 274 v "Op").run Tryz.prog W = .ok (some false) W := by kernel_rfl
theorem own_op_meth (a b : Value) (W : World) : (method 496 274 (.agg #[a, b]) "Op").run Tryz.prog W = .ok (136, .agg #[a, b]) W := by kernel_rfl
theorem own_ia_nil (v : Value) (W : World) : (nilAhead 496 274 v "ImmediateArgs").run Tryz.prog W = .ok (some false) W := by kernel_rfl
theorem own_ia_meth (a b : Value) (W : World) : (method 496 274 (.agg #[a, b]) "ImmediateArgs").run Tryz.prog W = .ok (135, .agg #[a, b]) W := by kernel_rfl
theorem block_op_nil (a b c d : Value) (W : World) : (nilAhead 496 278 (.agg #[a, b, c, d]) "Op").run Tryz.prog W = .ok (some false) W := by kernel_rfl
theorem block_op_meth (a b c d : Value) (W : World) : (method 496 278 (.agg #[a, b, c, d]) "Op").run Tryz.prog W = .ok (136, .agg #[a, b]) W := by kernel_rfl
theorem block_ia_nil (a b c d : Value) (W : World) : (nilAhead 496 278 (.agg #[a, b, c, d]) "ImmediateArgs").run Tryz.prog W = .ok (some false) W := by kernel_rfl
theorem block_ia_meth (a b c d : Value) (W : World) : (method 496 278 (.agg #[a, b, c, d]) "ImmediateArgs").run Tryz.prog W = .ok (135, .agg #[a, b]) W := by kernel_rfl
theorem block_bt_nil (a b c d : Value) (W : World) : (nilAhead 496 278 (.agg #[a, b, c, d]) "BlockType").run Tryz.prog W = .ok (some false) W := by kernel_rfl
theorem block_bt_meth (a b c d : Value) (W : World) : (method 496 278 (.agg #[a, b, c, d]) "BlockType").run Tryz.prog W = .ok (137, .agg #[a, b, c, d]) W := by kernel_rfl
theorem block_in_nil (a b c d : Value) (W : World) : (nilAhead 496 278 (.agg #[a, b, c, d]) "Instructions").run Tryz.prog W = .ok (some false) W := by kernel_rfl
theorem block_in_meth (a b c d : Value) (W : World) : (method 496 278 (.agg #[a, b, c, d]) "Instructions").run Tryz.prog W = .ok (138, .agg #[a, b, c, d]) W := by kernel_rfl
set_option maxRecDepth 100000 in
theorem own_Op_calls (a b : Value) (w : World) : Calls Tryz.prog 136 #[.agg #[a, b]] w fun e w' => e = .returned a ∧ Ext w w' := by
  go_enter Tryz.func136, Tryz.ntmps136
  go_wp2
  go_ret
  exact ⟨rfl, ext_alloc _ _⟩
set_option maxRecDepth 100000 in
theorem own_ImmediateArgs_calls (a b : Value) (w : World) : Calls Tryz.prog 135 #[.agg #[a, b]] w fun e w' => e = .returned b ∧ Ext w w' := by
  go_enter Tryz.func135, Tryz.ntmps135
  go_wp2
  go_ret
  exact ⟨rfl, ext_alloc _ _⟩
set_option maxRecDepth 100000 in
theorem block_BlockType_calls (a b c d : Value) (w : World) : Calls Tryz.prog 137 #[.agg #[a, b, c, d]] w fun e w' => e = .returned c ∧ Ext w w' := by
  go_enter Tryz.func137, Tryz.ntmps137
  go_wp2
  go_ret
  exact ⟨rfl, ext_alloc _ _⟩
set_option maxRecDepth 100000 in
theorem block_Instructions_calls (a b c d : Value) (w : World) : Calls Tryz.prog 138 #[.agg #[a, b, c, d]] w fun e w' => e = .returned d ∧ Ext w w' := by
  go_enter Tryz.func138, Tryz.ntmps138
  go_wp2
  go_ret
  exact ⟨rfl, ext_alloc _ _⟩
end Go.Proofs.YtkbadfljmbeciaaGreatDoor
