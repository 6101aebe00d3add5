/- spec.AppendUnsigned. -/
import Derived.Test.YtfpikpbolgodcaaDoorBytes
namespace Go.Proofs.YtfpikpbolgodcaaDoor
open Go.RowKit
set_option maxRecDepth 100000 in
set_option maxHeartbeats 400000 in
theorem specAppendUnsigned_calls (n : Nat) (hv : n < 18446744073709551616) (lo : Nat) (v : Value) (bs : List UInt8) (w : World) (hO : OwnB lo w v bs) (hlo : lo ≤ w.heap.size) (hl : bs.length + 10 ≤ 140737488355328) :
    Calls Tryd.prog 26 #[v, .int .u64 n] w fun e w' => ∃ v1, e = .returned v1 ∧ OwnB lo w' v1 (bs ++ uleb n) ∧ Fr (fun k => some k = v.ownBlock) w w' ∧ (∀ k, v1.ownBlock = some k → v.ownBlock = some k ∨ w.heap.size ≤ k) := by
  have hul := uleb_len64 n hv
  have hul := Lib.hid hul
  have hO := Lib.hid hO
  have hlo := Lib.hid hlo
  have hl := Lib.hid hl
  go_enter Tryd.func26, Tryd.ntmps26
  go_wp2_with fail
  go_loopw [0, 1] (fun s0 s1 w' => ∃ (x : Nat) (pre : List UInt8), s1 = .int .u64 x ∧ Hid (pre ++ uleb x = uleb n) ∧ Hid (x ≤ n) ∧ Hid (OwnB lo w' s0 (bs ++ pre)) ∧ Hid (Fr (fun k => some k = v.ownBlock) w w') ∧ Hid (∀ k, s0.ownBlock = some k → v.ownBlock = some k ∨ w.heap.size ≤ k)) (fun _ s1 _ => (intOf s1).toNat)
  case atStart => exact ⟨n, [], rfl, rfl, Nat.le_refl _, (by rw [List.append_nil]; exact hO.out), Fr.refl _ _, fun k h => .inl h⟩
  case round =>
    obtain ⟨x, pre, rfl, hp, hx, hown, hb, hk⟩ := hrel
    have hxn : x < 18446744073709551616 := Nat.lt_of_le_of_lt hx.out hv
    have hloW : Hid (lo ≤ wr.heap.size) := Nat.le_trans hlo.out hb.out.size
    have hlW : Hid ((bs ++ pre).length + 1 ≤ 140737488355328) := by
      have h1 := congrArg List.length hp.out
      rw [List.length_append] at h1
      have h2 : 0 < (uleb x).length := by rw [uleb]; split <;> simp
      have h3 := hul.out
      have h4 := hl.out
      show _ ≤ _
      rw [List.length_append]
      omega
    by_cases hc : x < 128
    · have hc1 : decide (128 ≤ (x : Int)) = false := by rw [decide_eq_false_iff_not]; omega
      have hlow : Hid ((x : Int) = ((UInt8.ofNat x).toNat : Int)) := by show _ = _; rw [UInt8.toNat_ofNat']; omega
      go_wp2_with (at_builtin; refine Hid.out ?_)
      refine appB lo rfl (.tmp 15) (.tmp 18) rfl _ (bs ++ pre) (UInt8.ofNat x) _ hlow.out rfl rfl hown.out hloW.out hlW.out ?_
      intro v1 w1 h1 h2 h3
      have H := Lib.hid (And.intro h1 (And.intro h2 h3))
      clear h1 h2 h3
      go_wp2
      go_ret
      obtain ⟨h1, h2, h3⟩ := H.out
      exact ⟨_, rfl, by rw [← hp.out, uleb_small hc, ← List.append_assoc]; exact h1, fr_row hb.out h2 hk.out, row_row hb.out hk.out h3⟩
    · have hc1 : decide (128 ≤ (x : Int)) = true := by rw [decide_eq_true_eq]; omega
      have e2 : bits .or .u8 ((x : Int) % 256) 128 = (x : Int) % 128 + 128 := by rw [u8_or128_low _ (by omega) (by omega)]; omega
      go_wp2_with (at_builtin; refine Hid.out ?_)
      refine appB lo rfl (.tmp 7) (.tmp 11) rfl _ (bs ++ pre) (UInt8.ofNat (x % 128 + 128)) _ (byte_high x) rfl rfl hown.out hloW.out hlW.out ?_
      intro v1 w1 h1 h2 h3
      have H := Lib.hid (And.intro h1 (And.intro h2 h3))
      clear h1 h2 h3
      go_wp2
      go_roundw
      case rel =>
        obtain ⟨h1, h2, h3⟩ := H.out
        refine ⟨x / 128, pre ++ [UInt8.ofNat (x % 128 + 128)], by go_num, ?_, ?_, ?_, fr_row hb.out h2 hk.out, row_row hb.out hk.out h3⟩
        · show _ = _
          rw [← hp.out, uleb_big (n := x) (by omega), List.append_assoc, List.singleton_append]
        · have := hx.out
          show _ ≤ _
          omega
        · rw [← List.append_assoc]; exact h1
      case measure => simp [intOf]; omega
end Go.Proofs.YtfpikpbolgodcaaDoor
