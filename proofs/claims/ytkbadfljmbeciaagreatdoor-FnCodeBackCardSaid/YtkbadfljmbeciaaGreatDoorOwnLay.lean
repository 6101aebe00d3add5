/- Instructions of the package, as the thin package makes them: how they lie. -/
import Derived.Test.YtkbadfljmbeciaaGreatDoorGiven
namespace Go.Proofs.YtkbadfljmbeciaaGreatDoor
open Go.RowKit
/-- The interface value of an argument. -/
def argVal (a : Int × UInt64) : Value :=
  if a.1 = 0 then .iface 21 (.int .i32 (wrap32 (a.2.toNat : Int)))
  else if a.1 = 1 then .iface 2 (.int .i64 (wrap64 (a.2.toNat : Int)))
  else if a.1 = 2 then .iface 23 (.int .u32 ((a.2.toNat : Int) % 4294967296))
  else if a.1 = 3 then .iface 316 (.float .f32 (a.2.toNat % 4294967296))
  else if a.1 = 4 then .iface 318 (.float .f64 a.2.toNat)
  else if a.1 = 5 then .iface 5 (.int .u8 ((a.2.toNat : Int) % 256))
  else .iface 81 (.int .u64 (a.2.toNat : Int))
theorem argVal_one (a : Int × UInt64) : (argVal a).oneCell' = true := by unfold argVal; (repeat' split) <;> rfl
theorem argVal_iface (a : Int × UInt64) : ∃ T v, argVal a = .iface T v := by unfold argVal; (repeat' split) <;> exact ⟨_, _, rfl⟩
namespace Lay
def anyv : Lay (Int × UInt64) := cell1 argVal argVal_one
theorem flat_anyv : anyv.flat := flat_cell1 _ _
/-- The pointer to a block's type. -/
def KindAt (A : Nat → Prop) (w : World) (kp : Option Addr) (ty : Int) : Prop :=
  if 0 ≤ ty then ∃ kb ko cur T fz, kp = some ⟨kb, ko, none⟩ ∧ A kb ∧ w.heap[kb]? = some (.cells cur T fz) ∧ cur[ko]? = some (.int .i64 ty) else kp = none
/-- One instruction of plain data, its bodies of depth below n. -/
def own : Nat → Lay Ins
  | 0 => never Ins 1
  | n + 1 => {
    size := 1
    rd := fun A w cs x => ∃ a m c, anyv.slice.rd A w [.slice a m c] x.args ∧
      if x.st = true then ∃ kp ba bn bc, cs = [.iface 278 (.agg #[.int .u8 (x.op % 256), .slice a m c, .pointer kp, .slice ba bn bc])] ∧ KindAt A w kp x.ty ∧ (own n).slice.rd A w [.slice ba bn bc] x.body
      else cs = [.iface 274 (.agg #[.int .u8 (x.op % 256), .slice a m c])]
    len := by
      rintro A w cs x ⟨a, m, c, _, h⟩
      split at h
      · obtain ⟨_, _, _, _, rfl, _⟩ := h; rfl
      · subst h; rfl
    one := by
      rintro A w cs x ⟨a, m, c, _, h⟩ u hu
      split at h
      · obtain ⟨_, _, _, _, rfl, _⟩ := h; obtain rfl := List.mem_singleton.1 hu; rfl
      · subst h; obtain rfl := List.mem_singleton.1 hu; rfl
    frame := by
      rintro A w w' cs x ⟨a, m, c, h1, h⟩ hf
      refine ⟨a, m, c, anyv.slice.frame h1 hf, ?_⟩
      split at h
      · rename_i hs
        rw [if_pos hs]
        obtain ⟨kp, ba, bn, bc, e, hk, hb⟩ := h
        refine ⟨kp, ba, bn, bc, e, ?_, (own n).slice.frame hb hf⟩
        unfold KindAt at *
        split at hk
        · rename_i ht
          rw [if_pos ht]
          obtain ⟨kb, ko, cur, T, fz, e1, e2, e3, e4⟩ := hk
          exact ⟨kb, ko, cur, T, fz, e1, e2, (hf kb e2).trans e3, e4⟩
        · rename_i ht
          rw [if_neg ht]; exact hk
      · rename_i hs
        rw [if_neg hs]; exact h
    mono := by
      rintro A A' w cs x ⟨a, m, c, h1, h⟩ hf
      refine ⟨a, m, c, anyv.slice.mono h1 hf, ?_⟩
      split at h
      · rename_i hs
        rw [if_pos hs]
        obtain ⟨kp, ba, bn, bc, e, hk, hb⟩ := h
        refine ⟨kp, ba, bn, bc, e, ?_, (own n).slice.mono hb hf⟩
        unfold KindAt at *
        split at hk
        · rename_i ht
          rw [if_pos ht]
          obtain ⟨kb, ko, cur, T, fz, e1, e2, e3, e4⟩ := hk
          exact ⟨kb, ko, cur, T, fz, e1, hf kb e2, e3, e4⟩
        · rename_i ht
          rw [if_neg ht]; exact hk
      · rename_i hs
        rw [if_neg hs]; exact h }
theorem own_size : ∀ n, (own n).size = 1
  | 0 => rfl
  | _ + 1 => rfl
theorem own_mk_plain {n : Nat} {A : Nat → Prop} {w : World} {op ty : Int} {args : List (Int × UInt64)} {body : List Ins} {a : Option Addr} {m c : Nat} (h : anyv.slice.rd A w [.slice a m c] args) :
    (own (n + 1)).rd A w [.iface 274 (.agg #[.int .u8 (op % 256), .slice a m c])] (.mk op args false ty body) := ⟨a, m, c, h, by
  show if false = true then _ else _
  exact rfl⟩
theorem own_mk_block {n : Nat} {A : Nat → Prop} {w : World} {op ty : Int} {args : List (Int × UInt64)} {body : List Ins} {a ba kp : Option Addr} {m c bn bc : Nat} (h : anyv.slice.rd A w [.slice a m c] args) (hk : KindAt A w kp ty) (hb : (own n).slice.rd A w [.slice ba bn bc] body) :
    (own (n + 1)).rd A w [.iface 278 (.agg #[.int .u8 (op % 256), .slice a m c, .pointer kp, .slice ba bn bc])] (.mk op args true ty body) := ⟨a, m, c, h, by
  show if true = true then _ else _
  exact ⟨kp, ba, bn, bc, rfl, hk, hb⟩⟩
end Lay
theorem infoAny : (Tryz.prog.info? 20).map (fun i => (i.zero, i.size, i.bytes)) = some (some .nilIface, Lay.anyv.size, 16) := by kernel_rfl
theorem infoIns (n : Nat) : (Tryz.prog.info? 301).map (fun i => (i.zero, i.size, i.bytes)) = some (some .nilIface, (Lay.own n).size, 16) := by rw [Lay.own_size]; kernel_rfl
theorem infoLoc : (Tryz.prog.info? 259).map (fun i => (i.zero, i.size, i.bytes)) = some (some (.agg #[.int .u32 0, .int .i64 0]), Lay.loc.size, 16) := by kernel_rfl
theorem run_from32 (n : Int) (w : World) : (callFunc 82 #[.int .u32 n]).run Tryz.prog w = .ok (.value (.float .f32 n.toNat)) w := by
  kernel_rfl
theorem run_from64 (n : Int) (w : World) : (callFunc 83 #[.int .u64 n]).run Tryz.prog w = .ok (.value (.float .f64 n.toNat)) w := by
  kernel_rfl
set_option maxRecDepth 100000 in
set_option maxHeartbeats 1000000 in
theorem arg_calls (k : Int) (b : UInt64) (w : World) : Calls Tryz.prog 64 #[.agg #[.int .i64 k, .int .u64 (b.toNat : Int)]] w fun e w' => e = .returned (argVal (k, b)) ∧ Ext w w' := by
  have hb := b.toNat_lt
  have hf32 := run_from32
  have hf64 := run_from64
  by_cases h : k = 0 ∨ k = 1 ∨ k = 2 ∨ k = 3 ∨ k = 4 ∨ k = 5
  · have hv := Lib.hid (show argVal (k, b) = argVal (k, b) from rfl)
    rcases h with rfl | rfl | rfl | rfl | rfl | rfl
    all_goals
      generalize hn : b.toNat = n at *
      have hn := Lib.hid hn
      go_enter Tryz.func64, Tryz.ntmps64
      go_wp2
      go_ret
      exact ⟨by simp [argVal, hn.out], ext_alloc _ _⟩
  · simp only [not_or] at h
    obtain ⟨h0, h1, h2, h3, h4, h5⟩ := h
    have hv := Lib.hid (show argVal (k, b) = .iface 81 (.int .u64 (b.toNat : Int)) from by simp [argVal, h0, h1, h2, h3, h4, h5])
    simp only [← beq_eq_false_iff_ne] at h0 h1 h2 h3 h4 h5
    generalize b.toNat = n at *
    go_enter Tryz.func64, Tryz.ntmps64
    go_wp2
    go_ret
    exact ⟨by rw [hv.out]; rfl, ext_alloc _ _⟩
end Go.Proofs.YtkbadfljmbeciaaGreatDoor
