/- Interface values: type switches, methods of instructions of plain data. -/
import Derived.Test.YtgfnbdfmigcmbaaImplInstrs
import Derived.Test.YtgfnbdfmigcmbaaEncSmall
namespace Go.Proofs.Ytgfnbdfmigcmbaa
open Go.RowKit
theorem ta_int32_0 (v : Value) (W : World) : (Instr.typeAssert (.iface 21 v) 20 21 true).run Try.prog W = .ok (.tuple #[v, .bool true]) W := by kernel_rfl
theorem ta_int64_0 (v : Value) (W : World) : (Instr.typeAssert (.iface 2 v) 20 21 true).run Try.prog W = .ok (.tuple #[.int .i32 0, .bool false]) W := by kernel_rfl
theorem ta_int64_1 (v : Value) (W : World) : (Instr.typeAssert (.iface 2 v) 20 2 true).run Try.prog W = .ok (.tuple #[v, .bool true]) W := by kernel_rfl
theorem ta_uint32_0 (v : Value) (W : World) : (Instr.typeAssert (.iface 40 v) 20 21 true).run Try.prog W = .ok (.tuple #[.int .i32 0, .bool false]) W := by kernel_rfl
theorem ta_uint32_1 (v : Value) (W : World) : (Instr.typeAssert (.iface 40 v) 20 2 true).run Try.prog W = .ok (.tuple #[.int .i64 0, .bool false]) W := by kernel_rfl
theorem ta_uint32_2 (v : Value) (W : World) : (Instr.typeAssert (.iface 40 v) 20 40 true).run Try.prog W = .ok (.tuple #[v, .bool true]) W := by kernel_rfl
theorem ta_uint64_0 (v : Value) (W : World) : (Instr.typeAssert (.iface 46 v) 20 21 true).run Try.prog W = .ok (.tuple #[.int .i32 0, .bool false]) W := by kernel_rfl
theorem ta_uint64_1 (v : Value) (W : World) : (Instr.typeAssert (.iface 46 v) 20 2 true).run Try.prog W = .ok (.tuple #[.int .i64 0, .bool false]) W := by kernel_rfl
theorem ta_uint64_2 (v : Value) (W : World) : (Instr.typeAssert (.iface 46 v) 20 40 true).run Try.prog W = .ok (.tuple #[.int .u32 0, .bool false]) W := by kernel_rfl
theorem ta_uint64_3 (v : Value) (W : World) : (Instr.typeAssert (.iface 46 v) 20 46 true).run Try.prog W = .ok (.tuple #[v, .bool true]) W := by kernel_rfl
theorem ta_float32_0 (v : Value) (W : World) : (Instr.typeAssert (.iface 111 v) 20 21 true).run Try.prog W = .ok (.tuple #[.int .i32 0, .bool false]) W := by kernel_rfl
theorem ta_float32_1 (v : Value) (W : World) : (Instr.typeAssert (.iface 111 v) 20 2 true).run Try.prog W = .ok (.tuple #[.int .i64 0, .bool false]) W := by kernel_rfl
theorem ta_float32_2 (v : Value) (W : World) : (Instr.typeAssert (.iface 111 v) 20 40 true).run Try.prog W = .ok (.tuple #[.int .u32 0, .bool false]) W := by kernel_rfl
theorem ta_float32_3 (v : Value) (W : World) : (Instr.typeAssert (.iface 111 v) 20 46 true).run Try.prog W = .ok (.tuple #[.int .u64 0, .bool false]) W := by kernel_rfl
theorem ta_float32_4 (v : Value) (W : World) : (Instr.typeAssert (.iface 111 v) 20 111 true).run Try.prog W = .ok (.tuple #[v, .bool true]) W := by kernel_rfl
theorem ta_float64_0 (v : Value) (W : World) : (Instr.typeAssert (.iface 113 v) 20 21 true).run Try.prog W = .ok (.tuple #[.int .i32 0, .bool false]) W := by kernel_rfl
theorem ta_float64_1 (v : Value) (W : World) : (Instr.typeAssert (.iface 113 v) 20 2 true).run Try.prog W = .ok (.tuple #[.int .i64 0, .bool false]) W := by kernel_rfl
theorem ta_float64_2 (v : Value) (W : World) : (Instr.typeAssert (.iface 113 v) 20 40 true).run Try.prog W = .ok (.tuple #[.int .u32 0, .bool false]) W := by kernel_rfl
theorem ta_float64_3 (v : Value) (W : World) : (Instr.typeAssert (.iface 113 v) 20 46 true).run Try.prog W = .ok (.tuple #[.int .u64 0, .bool false]) W := by kernel_rfl
theorem ta_float64_4 (v : Value) (W : World) : (Instr.typeAssert (.iface 113 v) 20 111 true).run Try.prog W = .ok (.tuple #[.float .f32 0, .bool false]) W := by kernel_rfl
theorem ta_float64_5 (v : Value) (W : World) : (Instr.typeAssert (.iface 113 v) 20 113 true).run Try.prog W = .ok (.tuple #[v, .bool true]) W := by kernel_rfl
theorem ta_uint8_0 (v : Value) (W : World) : (Instr.typeAssert (.iface 5 v) 20 21 true).run Try.prog W = .ok (.tuple #[.int .i32 0, .bool false]) W := by kernel_rfl
theorem ta_uint8_1 (v : Value) (W : World) : (Instr.typeAssert (.iface 5 v) 20 2 true).run Try.prog W = .ok (.tuple #[.int .i64 0, .bool false]) W := by kernel_rfl
theorem ta_uint8_2 (v : Value) (W : World) : (Instr.typeAssert (.iface 5 v) 20 40 true).run Try.prog W = .ok (.tuple #[.int .u32 0, .bool false]) W := by kernel_rfl
theorem ta_uint8_3 (v : Value) (W : World) : (Instr.typeAssert (.iface 5 v) 20 46 true).run Try.prog W = .ok (.tuple #[.int .u64 0, .bool false]) W := by kernel_rfl
theorem ta_uint8_4 (v : Value) (W : World) : (Instr.typeAssert (.iface 5 v) 20 111 true).run Try.prog W = .ok (.tuple #[.float .f32 0, .bool false]) W := by kernel_rfl
theorem ta_uint8_5 (v : Value) (W : World) : (Instr.typeAssert (.iface 5 v) 20 113 true).run Try.prog W = .ok (.tuple #[.float .f64 0, .bool false]) W := by kernel_rfl
theorem ta_uint8_6 (v : Value) (W : World) : (Instr.typeAssert (.iface 5 v) 20 5 true).run Try.prog W = .ok (.tuple #[v, .bool true]) W := by kernel_rfl
/-- The type T lacks a method of the interface type t. -/
def lacks (P : Program) (T t : TypeId) : Bool :=
  match P.underlying t, P.info? T with
  | some (.interface want), some i => !(want.toList.filter fun x => !i.methods.any fun m => m.name == x.1 && m.sig == x.2).isEmpty
  | _, _ => false
theorem least_some {l : List String} (h : l ≠ []) : ∃ m, Instr.least l = some m := by
  cases l with
  | nil => exact absurd rfl h
  | cons a l => exact ⟨_, rfl⟩
theorem part_some (p : String → Bool) (f : String → String) {l : List String} (h : l ≠ []) : ∃ m, (Instr.least (l.partition p).2 <|> Instr.least ((l.partition p).1.map f)) = some m := by
  rw [List.partition_eq_filter_filter]
  by_cases h1 : l.filter (not ∘ p) = []
  · rw [h1]
    have h2 : l.filter p ≠ [] := by
      intro h2
      apply h
      rw [List.filter_eq_nil_iff] at h1 h2
      cases l with
      | nil => rfl
      | cons a l =>
        have a1 := h1 a (by simp)
        have a2 := h2 a (by simp)
        simp at a1 a2
        simp [a1] at a2
    exact least_some (by simpa using h2)
  · obtain ⟨m, hm⟩ := least_some h1
    exact ⟨m, by show (Instr.least (l.filter (not ∘ p)) <|> _) = _; rw [hm]; rfl⟩
theorem missing_some {want : Array (String × TypeId)} {got : Array Method} (h : (want.toList.filter fun x => !got.any fun m => m.name == x.1 && m.sig == x.2) ≠ []) : ∃ m, Instr.missingMethod want got = some m := by
  unfold Instr.missingMethod
  exact part_some _ _ (by simpa using h)
theorem ta_fails {P : Program} {T x t : TypeId} {z : Value} (h : lacks P T t = true) (hz : ∀ W, (zeroValue t).run P W = .ok z W) (v : Value) (W : World) : (Instr.typeAssert (.iface T v) x t true).run P W = .ok (.tuple #[z, .bool false]) W := by
  unfold lacks at h
  split at h
  · rename_i want i hu hi
    obtain ⟨m, hm⟩ := missing_some (by simpa using h)
    unfold Instr.typeAssert
    simp [run_underlying hu, typeInfo, hi, hm, hz]
  · cases h
theorem si_own (v : Value) (W : World) : (Instr.typeAssert (.iface 93 v) 105 117 true).run Try.prog W = .ok (.tuple #[.nilIface, .bool false]) W :=
  ta_fails (by kernel_rfl) (fun W => by kernel_rfl) v W
theorem si_block (v : Value) (W : World) : (Instr.typeAssert (.iface 98 v) 105 117 true).run Try.prog W = .ok (.tuple #[.iface 98 v, .bool true]) W := by kernel_rfl
theorem run_bits32 (n : Nat) (w : World) : (callFunc 33 #[.float .f32 n]).run Try.prog w = .ok (.value (.int .u32 n)) w := by
  kernel_rfl
theorem run_bits64 (n : Nat) (w : World) : (callFunc 35 #[.float .f64 n]).run Try.prog w = .ok (.value (.int .u64 n)) w := by
  kernel_rfl
theorem own_op_nil (v : Value) (W : World) : (nilAhead 245 93 v "Op").run Try.prog W = .ok (some false) W := by kernel_rfl
theorem own_op_meth (a b : Value) (W : World) : (method 245 93 (.agg #[a, b]) "Op").run Try.prog W = .ok (62, .agg #[a, b]) W := by kernel_rfl
theorem own_ia_nil (v : Value) (W : World) : (nilAhead 245 93 v "ImmediateArgs").run Try.prog W = .ok (some false) W := by kernel_rfl
theorem own_ia_meth (a b : Value) (W : World) : (method 245 93 (.agg #[a, b]) "ImmediateArgs").run Try.prog W = .ok (61, .agg #[a, b]) W := by kernel_rfl
theorem block_op_nil (a b c d : Value) (W : World) : (nilAhead 245 98 (.agg #[a, b, c, d]) "Op").run Try.prog W = .ok (some false) W := by kernel_rfl
theorem block_op_meth (a b c d : Value) (W : World) : (method 245 98 (.agg #[a, b, c, d]) "Op").run Try.prog W = .ok (62, .agg #[a, b]) W := by kernel_rfl
theorem block_ia_nil (a b c d : Value) (W : World) : (nilAhead 245 98 (.agg #[a, b, c, d]) "ImmediateArgs").run Try.prog W = .ok (some false) W := by kernel_rfl
theorem block_ia_meth (a b c d : Value) (W : World) : (method 245 98 (.agg #[a, b, c, d]) "ImmediateArgs").run Try.prog W = .ok (61, .agg #[a, b]) W := by kernel_rfl
theorem block_bt_nil (a b c d : Value) (W : World) : (nilAhead 245 98 (.agg #[a, b, c, d]) "BlockType").run Try.prog W = .ok (some false) W := by kernel_rfl
theorem block_bt_meth (a b c d : Value) (W : World) : (method 245 98 (.agg #[a, b, c, d]) "BlockType").run Try.prog W = .ok (63, .agg #[a, b, c, d]) W := by kernel_rfl
theorem block_in_nil (a b c d : Value) (W : World) : (nilAhead 245 98 (.agg #[a, b, c, d]) "Instructions").run Try.prog W = .ok (some false) W := by kernel_rfl
theorem block_in_meth (a b c d : Value) (W : World) : (method 245 98 (.agg #[a, b, c, d]) "Instructions").run Try.prog W = .ok (64, .agg #[a, b, c, d]) W := by kernel_rfl
set_option maxRecDepth 100000 in
theorem own_Op_calls (a b : Value) (w : World) : Calls Try.prog 62 #[.agg #[a, b]] w fun e w' => e = .returned a ∧ Ext w w' := by
  go_enter Try.func62, Try.ntmps62
  go_wp2
  go_ret
  exact ⟨rfl, ext_alloc _ _⟩
set_option maxRecDepth 100000 in
theorem own_ImmediateArgs_calls (a b : Value) (w : World) : Calls Try.prog 61 #[.agg #[a, b]] w fun e w' => e = .returned b ∧ Ext w w' := by
  go_enter Try.func61, Try.ntmps61
  go_wp2
  go_ret
  exact ⟨rfl, ext_alloc _ _⟩
set_option maxRecDepth 100000 in
theorem block_BlockType_calls (a b c d : Value) (w : World) : Calls Try.prog 63 #[.agg #[a, b, c, d]] w fun e w' => e = .returned c ∧ Ext w w' := by
  go_enter Try.func63, Try.ntmps63
  go_wp2
  go_ret
  exact ⟨rfl, ext_alloc _ _⟩
set_option maxRecDepth 100000 in
theorem block_Instructions_calls (a b c d : Value) (w : World) : Calls Try.prog 64 #[.agg #[a, b, c, d]] w fun e w' => e = .returned d ∧ Ext w w' := by
  go_enter Try.func64, Try.ntmps64
  go_wp2
  go_ret
  exact ⟨rfl, ext_alloc _ _⟩
end Go.Proofs.Ytgfnbdfmigcmbaa
