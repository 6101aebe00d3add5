/- impl.plainArg. -/
import Derived.Test.YtfpikpbolgodcaaDoorRiMeth
import Derived.Test.YtfpikpbolgodcaaDoorCodeLay
import Derived.Test.YtfpikpbolgodcaaDoorMem2
import Derived.Test.YtfpikpbolgodcaaDoorFork
namespace Go.Proofs.YtfpikpbolgodcaaDoor
open Go.RowKit
theorem pa_int32_0 (v : Value) (W : World) : (Instr.typeAssert (.iface 21 v) 20 21 true).run Tryd.prog W = .ok (.tuple #[v, .bool true]) W := by kernel_rfl
theorem pa_int64_0 (v : Value) (W : World) : (Instr.typeAssert (.iface 2 v) 20 21 true).run Tryd.prog W = .ok (.tuple #[.int .i32 0, .bool false]) W := by kernel_rfl
theorem pa_int64_1 (v : Value) (W : World) : (Instr.typeAssert (.iface 2 v) 20 2 true).run Tryd.prog W = .ok (.tuple #[v, .bool true]) W := by kernel_rfl
theorem pa_uint32_0 (v : Value) (W : World) : (Instr.typeAssert (.iface 42 v) 20 21 true).run Tryd.prog W = .ok (.tuple #[.int .i32 0, .bool false]) W := by kernel_rfl
theorem pa_uint32_1 (v : Value) (W : World) : (Instr.typeAssert (.iface 42 v) 20 2 true).run Tryd.prog W = .ok (.tuple #[.int .i64 0, .bool false]) W := by kernel_rfl
theorem pa_uint32_2 (v : Value) (W : World) : (Instr.typeAssert (.iface 42 v) 20 42 true).run Tryd.prog W = .ok (.tuple #[v, .bool true]) W := by kernel_rfl
theorem pa_uint8_0 (v : Value) (W : World) : (Instr.typeAssert (.iface 5 v) 20 21 true).run Tryd.prog W = .ok (.tuple #[.int .i32 0, .bool false]) W := by kernel_rfl
theorem pa_uint8_1 (v : Value) (W : World) : (Instr.typeAssert (.iface 5 v) 20 2 true).run Tryd.prog W = .ok (.tuple #[.int .i64 0, .bool false]) W := by kernel_rfl
theorem pa_uint8_2 (v : Value) (W : World) : (Instr.typeAssert (.iface 5 v) 20 42 true).run Tryd.prog W = .ok (.tuple #[.int .u32 0, .bool false]) W := by kernel_rfl
theorem pa_uint8_4 (v : Value) (W : World) : (Instr.typeAssert (.iface 5 v) 20 130 true).run Tryd.prog W = .ok (.tuple #[.float .f32 0, .bool false]) W := by kernel_rfl
theorem pa_uint8_5 (v : Value) (W : World) : (Instr.typeAssert (.iface 5 v) 20 132 true).run Tryd.prog W = .ok (.tuple #[.float .f64 0, .bool false]) W := by kernel_rfl
theorem pa_uint8_6 (v : Value) (W : World) : (Instr.typeAssert (.iface 5 v) 20 5 true).run Tryd.prog W = .ok (.tuple #[v, .bool true]) W := by kernel_rfl
set_option maxRecDepth 100000 in
set_option maxHeartbeats 1000000 in
theorem plainArg_calls (a : Int × UInt64) (ha : okI a) (w : World) : Calls Tryd.prog 32 #[argIv a] w fun e w' => e = .returned (.agg #[.int .i64 a.1, .int .u64 (a.2.toNat : Int)]) ∧ Ext w w' := by
  obtain ⟨k, b⟩ := a
  have hb := b.toNat_lt
  have h00 := pa_int32_0
  have h10 := pa_int64_0
  have h11 := pa_int64_1
  have h20 := pa_uint32_0
  have h21 := pa_uint32_1
  have h22 := pa_uint32_2
  have h30 := pa_uint8_0
  have h31 := pa_uint8_1
  have h32 := pa_uint8_2
  have h34 := pa_uint8_4
  have h35 := pa_uint8_5
  have h36 := pa_uint8_6
  rcases ha with ⟨rfl, h⟩ | h | ⟨rfl, h⟩ | ⟨rfl, h⟩
  · dsimp only at h
    rw [show argIv (0, b) = .iface 21 (.int .i32 (wrap32 (b.toNat : Int))) from rfl]
    have hw : IntKind.u32.wrap (wrap32 (b.toNat : Int)) = (b.toNat : Int) := by rw [IntKind.wrap_u32]; unfold wrap32; omega
    generalize b.toNat = n at *
    go_enter Tryd.func32, Tryd.ntmps32
    go_wp2
    exact bodyPost_ret (v := .agg #[.int .i64 0, .int .u64 (n : Int)]) (by simp [results, Tryd.results32, go_sem]) rfl ⟨rfl, ext_alloc _ _⟩
  · obtain rfl : k = 1 := h
    rw [show argIv (1, b) = .iface 2 (.int .i64 (wrap64 (b.toNat : Int))) from rfl]
    have hw : IntKind.u64.wrap (wrap64 (b.toNat : Int)) = (b.toNat : Int) := by rw [IntKind.wrap_u64]; unfold wrap64; omega
    generalize b.toNat = n at *
    go_enter Tryd.func32, Tryd.ntmps32
    go_wp2
    exact bodyPost_ret (v := .agg #[.int .i64 1, .int .u64 (n : Int)]) (by simp [results, Tryd.results32, go_sem]) rfl ⟨rfl, ext_alloc _ _⟩
  · dsimp only at h
    rw [show argIv (2, b) = .iface 42 (.int .u32 (b.toNat : Int)) from rfl]
    generalize b.toNat = n at *
    go_enter Tryd.func32, Tryd.ntmps32
    go_wp2
    exact bodyPost_ret (v := .agg #[.int .i64 2, .int .u64 (n : Int)]) (by simp [results, Tryd.results32, go_sem]) rfl ⟨rfl, ext_alloc _ _⟩
  · dsimp only at h
    rw [show argIv (5, b) = .iface 5 (.int .u8 (b.toNat : Int)) from rfl]
    generalize b.toNat = n at *
    go_enter Tryd.func32, Tryd.ntmps32
    go_wp2
    exact bodyPost_ret (v := .agg #[.int .i64 5, .int .u64 (n : Int)]) (by simp [results, Tryd.results32, go_sem]) rfl ⟨rfl, ext_alloc _ _⟩
end Go.Proofs.YtfpikpbolgodcaaDoor
