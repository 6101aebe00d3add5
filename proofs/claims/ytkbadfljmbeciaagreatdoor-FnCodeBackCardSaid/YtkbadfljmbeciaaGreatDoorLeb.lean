/- The appends of LEB128. -/
import Derived.Test.YtkbadfljmbeciaaGreatDoorLibC
namespace Go.Proofs.YtkbadfljmbeciaaGreatDoor
open Go.RowKit
set_option maxRecDepth 100000 in
set_option maxHeartbeats 400000 in
theorem appendUleb_calls (n : Nat) (hv : n < 18446744073709551616) (lo : Nat) (v : Value) (bs : List UInt8) (w : World) (hO : OwnB lo w v bs) (hlo : lo ≤ w.heap.size) (hl : bs.length + 10 ≤ 140737488355328) :
    Calls Tryz.prog 71 #[v, .int .u64 n] w fun e w' => ∃ v1, e = .returned v1 ∧ OwnB lo w' v1 (bs ++ uleb n) ∧ Fr (fun k => some k = v.ownBlock) w w' ∧ (∀ k, v1.ownBlock = some k → v.ownBlock = some k ∨ w.heap.size ≤ k) := by
  have hul := uleb_len64 n hv
  have hul := Lib.hid hul
  have hO := Lib.hid hO
  have hlo := Lib.hid hlo
  have hl := Lib.hid hl
  go_enter Tryz.func71, Tryz.ntmps71
  go_wp2_with fail
  go_loopw [0, 1] (fun s0 s1 w' => ∃ (x : Nat) (pre : List UInt8), s1 = .int .u64 x ∧ Hid (pre ++ uleb x = uleb n) ∧ Hid (x ≤ n) ∧ Hid (OwnB lo w' s0 (bs ++ pre)) ∧ Hid (Fr (fun k => some k = v.ownBlock) w w') ∧ Hid (∀ k, s0.ownBlock = some k → v.ownBlock = some k ∨ w.heap.size ≤ k)) (fun _ s1 _ => (intOf s1).toNat)
  case atStart => exact ⟨n, [], rfl, rfl, Nat.le_refl _, (by rw [List.append_nil]; exact hO.out), Fr.refl _ _, fun k h => .inl h⟩
  case round =>
    obtain ⟨x, pre, rfl, hp, hx, hown, hb, hk⟩ := hrel
    have hxn : x < 18446744073709551616 := Nat.lt_of_le_of_lt hx.out hv
    have e1 := u64_and127 (x : Int) (by omega) (by omega)
    have hlen : Hid (pre.length + 1 ≤ 10) := by
      have h1 := congrArg List.length hp.out
      rw [List.length_append] at h1
      have h2 : 0 < (uleb x).length := by rw [uleb]; split <;> simp
      have h3 := hul.out
      show _ ≤ _
      omega
    by_cases hc : x < 128
    · have hc1 : ((x : Int) / 128 != 0) = false := by rw [bne_eq_false_iff_eq]; omega
      have e3 : bits .and .u8 ((x : Int) % 128) 128 = 0 := by rw [u8_and128 _ (by omega) (by omega), if_pos (by omega)]
      go_wp2_with (at_builtin; refine Hid.out ?_)
      refine appB lo rfl (.tmp 15) (.tmp 17) rfl _ (bs ++ pre) (UInt8.ofNat (x % 128)) _ (byte_low x) rfl rfl hown.out (Nat.le_trans hlo.out hb.out.size) (by have := hlen.out; have := hl.out; rw [List.length_append]; omega) ?_
      intro v1 w1 h1 h2 h3
      have H := Lib.hid (And.intro h1 (And.intro h2 h3))
      clear h1 h2 h3
      go_wp2
      go_ret
      obtain ⟨h1, h2, h3⟩ := H.out
      refine ⟨_, rfl, ?_, hb.out.trans h2 (fun _ _ h => h) ?_, ?_⟩
      · rw [← hp.out, uleb_small hc, ← List.append_assoc]
        rw [Nat.mod_eq_of_lt hc] at h1
        exact h1
      · intro k hk' hs
        rcases hk.out k hs.symm with h | h
        · exact h.symm
        · omega
      · intro k hk'
        rcases h3 k hk' with h | h
        · exact hk.out k h
        · have := hb.out.size
          exact .inr (by omega)
    · have hc1 : ((x : Int) / 128 != 0) = true := by rw [bne_iff_ne]; omega
      have e2 : bits .or .u8 ((x : Int) % 128) 128 = (x : Int) % 128 + 128 := by rw [u8_or128_low _ (by omega) (by omega)]; omega
      have e3 : bits .and .u8 ((x : Int) % 128 + 128) 128 = 128 := by rw [u8_and128 _ (by omega) (by omega), if_neg (by omega)]
      go_wp2_with (at_builtin; refine Hid.out ?_)
      refine appB lo rfl (.tmp 15) (.tmp 17) rfl _ (bs ++ pre) (UInt8.ofNat (x % 128 + 128)) _ (byte_high x) rfl rfl hown.out (Nat.le_trans hlo.out hb.out.size) (by have := hlen.out; have := hl.out; rw [List.length_append]; omega) ?_
      intro v1 w1 h1 h2 h3
      have H := Lib.hid (And.intro h1 (And.intro h2 h3))
      clear h1 h2 h3
      go_wp2
      go_roundw
      case rel =>
        obtain ⟨h1, h2, h3⟩ := H.out
        refine ⟨x / 128, pre ++ [UInt8.ofNat (x % 128 + 128)], by go_num, ?_, ?_, ?_, hb.out.trans h2 (fun _ _ h => h) ?_, ?_⟩
        · show _ = _
          rw [← hp.out, uleb_big (n := x) (by omega), List.append_assoc, List.singleton_append]
        · have := hx.out
          show _ ≤ _
          omega
        · rw [← List.append_assoc]; exact h1
        · intro k hk' hs
          rcases hk.out k hs.symm with h | h
          · exact h.symm
          · omega
        · intro k hk'
          rcases h3 k hk' with h | h
          · exact hk.out k h
          · have := hb.out.size
            exact .inr (by omega)
      case measure => simp [intOf]; omega
set_option maxRecDepth 100000 in
set_option maxHeartbeats 400000 in
theorem appendSleb_calls (n : Int) (hv : -9223372036854775808 ≤ n ∧ n ≤ 9223372036854775807) (lo : Nat) (v : Value) (bs : List UInt8) (w : World) (hO : OwnB lo w v bs) (hlo : lo ≤ w.heap.size) (hl : bs.length + 10 ≤ 140737488355328) :
    Calls Tryz.prog 88 #[v, .int .i64 n] w fun e w' => ∃ v1, e = .returned v1 ∧ OwnB lo w' v1 (bs ++ sleb n) ∧ Fr (fun k => some k = v.ownBlock) w w' ∧ (∀ k, v1.ownBlock = some k → v.ownBlock = some k ∨ w.heap.size ≤ k) := by
  have hul := sleb_len64 n hv.1 hv.2
  have hul := Lib.hid hul
  have hO := Lib.hid hO
  have hlo := Lib.hid hlo
  have hl := Lib.hid hl
  go_enter Tryz.func88, Tryz.ntmps88
  go_wp2_with fail
  go_loopw [0, 1] (fun s0 s1 w' => ∃ (x : Int) (pre : List UInt8), s1 = .int .i64 x ∧ Hid (pre ++ sleb x = sleb n) ∧ (-9223372036854775808 ≤ x ∧ x ≤ 9223372036854775807) ∧ Hid (OwnB lo w' s0 (bs ++ pre)) ∧ Hid (Fr (fun k => some k = v.ownBlock) w w') ∧ Hid (∀ k, s0.ownBlock = some k → v.ownBlock = some k ∨ w.heap.size ≤ k)) (fun _ s1 _ => (intOf s1).natAbs)
  case atStart => exact ⟨n, [], rfl, rfl, hv, (by rw [List.append_nil]; exact hO.out), Fr.refl _ _, fun k h => .inl h⟩
  case round =>
    obtain ⟨x, pre, rfl, hp, hx, hown, hb, hk⟩ := hrel
    have e1 := i64_and127 x
    have e4 := i64_and64 x
    have hlen : Hid (pre.length + 1 ≤ 10) := by
      have h1 := congrArg List.length hp.out
      rw [List.length_append] at h1
      have h2 : 0 < (sleb x).length := by rw [sleb]; split <;> simp
      have h3 := hul.out
      show _ ≤ _
      omega
    have hloW : Hid (lo ≤ wr.heap.size) := Nat.le_trans hlo.out hb.out.size
    have hlW : Hid ((bs ++ pre).length + 1 ≤ 140737488355328) := by have := hlen.out; have := hl.out; show _ ≤ _; rw [List.length_append]; omega
    have hstop : -64 ≤ x ∧ x < 64 → Hid (sleb x = [UInt8.ofNat (x % 128).toNat]) := sleb_small
    have hgo : ¬ (-64 ≤ x ∧ x < 64) → Hid (sleb x = UInt8.ofNat ((x % 128).toNat + 128) :: sleb (x / 128)) := sleb_big
    have hlow : Hid (x % 128 = ((UInt8.ofNat (x % 128).toNat).toNat : Int)) := by show _ = _; rw [UInt8.toNat_ofNat']; omega
    have hhigh : Hid (x % 128 + 128 = ((UInt8.ofNat ((x % 128).toNat + 128)).toNat : Int)) := by show _ = _; rw [UInt8.toNat_ofNat']; omega
    have hx' : -9223372036854775808 ≤ x / 128 ∧ x / 128 ≤ 9223372036854775807 := by omega
    by_cases hst : -64 ≤ x ∧ x < 64
    · have e3 : bits .and .u8 (x % 128) 128 = 0 := by rw [u8_and128 _ (by omega) (by omega), if_pos (by omega)]
      have HS := hstop hst
      clear hstop hgo hhigh
      by_cases h64 : x % 128 < 64
      · have c1 : (x / 128 != -1) = true := by rw [bne_iff_ne]; omega
        have c3 : (x / 128 != 0) = false := by rw [bne_eq_false_iff_eq]; omega
        rw [if_pos h64] at e4
        clear h64 hst
        go_wp2_with (at_builtin; refine Hid.out ?_)
        refine appB lo rfl (.tmp 31) (.tmp 33) rfl _ (bs ++ pre) _ _ hlow.out rfl rfl hown.out hloW.out hlW.out ?_
        intro v1 w1 h1 h2 h3
        have H := Lib.hid (And.intro h1 (And.intro h2 h3))
        clear h1 h2 h3
        go_wp2
        go_ret
        obtain ⟨h1, h2, h3⟩ := H.out
        refine ⟨_, rfl, by rw [← hp.out, HS.out, ← List.append_assoc]; exact h1, fr_row hb.out h2 hk.out, row_row hb.out hk.out h3⟩
      · have c1 : (x / 128 != -1) = false := by rw [bne_eq_false_iff_eq]; omega
        have c3 : (x / 128 != 0) = true := by rw [bne_iff_ne]; omega
        rw [if_neg h64] at e4
        clear h64 hst
        go_wp2_with (at_builtin; refine Hid.out ?_)
        refine appB lo rfl (.tmp 31) (.tmp 33) rfl _ (bs ++ pre) _ _ hlow.out rfl rfl hown.out hloW.out hlW.out ?_
        intro v1 w1 h1 h2 h3
        have H := Lib.hid (And.intro h1 (And.intro h2 h3))
        clear h1 h2 h3
        go_wp2
        go_ret
        obtain ⟨h1, h2, h3⟩ := H.out
        refine ⟨_, rfl, by rw [← hp.out, HS.out, ← List.append_assoc]; exact h1, fr_row hb.out h2 hk.out, row_row hb.out hk.out h3⟩
    · have e2 : bits .or .u8 (x % 128) 128 = x % 128 + 128 := by rw [u8_or128_low _ (by omega) (by omega)]; omega
      have e3 : bits .and .u8 (x % 128 + 128) 128 = 128 := by rw [u8_and128 _ (by omega) (by omega), if_neg (by omega)]
      have HS := hgo hst
      have hM : Hid ((x / 128).natAbs < x.natAbs) := by show _ < _; omega
      clear hstop hgo hlow
      have hcase : ((x % 128 < 64 ∧ (x / 128 != 0) = true) ∧ (x / 128 != -1) = true) ∨ ((x % 128 < 64 ∧ (x / 128 != 0) = true) ∧ (x / 128 != -1) = false) ∨ ((¬ x % 128 < 64 ∧ (x / 128 != -1) = true) ∧ (x / 128 != 0) = true) ∨ ((¬ x % 128 < 64 ∧ (x / 128 != -1) = true) ∧ (x / 128 != 0) = false) := by
        simp only [bne_iff_ne, bne_eq_false_iff_eq]
        omega
      clear hst
      rcases hcase with ⟨⟨h64, c1⟩, c3⟩ | ⟨⟨h64, c1⟩, c3⟩ | ⟨⟨h64, c1⟩, c3⟩ | ⟨⟨h64, c1⟩, c3⟩
      all_goals
        first | rw [if_pos h64] at e4 | rw [if_neg h64] at e4
        clear h64
        go_wp2_with (at_builtin; refine Hid.out ?_)
        refine appB lo rfl (.tmp 31) (.tmp 33) rfl _ (bs ++ pre) _ _ hhigh.out rfl rfl hown.out hloW.out hlW.out ?_
        intro v1 w1 h1 h2 h3
        have H := Lib.hid (And.intro h1 (And.intro h2 h3))
        clear h1 h2 h3
        go_wp2
        go_roundw
        case rel =>
          obtain ⟨h1, h2, h3⟩ := H.out
          refine ⟨x / 128, pre ++ [UInt8.ofNat ((x % 128).toNat + 128)], rfl, ?_, hx', ?_, fr_row hb.out h2 hk.out, row_row hb.out hk.out h3⟩
          · show _ = _
            rw [← hp.out, HS.out, List.append_assoc, List.singleton_append]
          · rw [← List.append_assoc]; exact h1
        case measure => exact hM.out
set_option maxRecDepth 100000 in
set_option maxHeartbeats 400000 in
theorem specAppendSigned_calls (n : Int) (hv : -9223372036854775808 ≤ n ∧ n ≤ 9223372036854775807) (lo : Nat) (v : Value) (bs : List UInt8) (w : World) (hO : OwnB lo w v bs) (hlo : lo ≤ w.heap.size) (hl : bs.length + 10 ≤ 140737488355328) :
    Calls Tryz.prog 66 #[v, .int .i64 n] w fun e w' => ∃ v1, e = .returned v1 ∧ OwnB lo w' v1 (bs ++ sleb n) ∧ Fr (fun k => some k = v.ownBlock) w w' ∧ (∀ k, v1.ownBlock = some k → v.ownBlock = some k ∨ w.heap.size ≤ k) := by
  have hul := sleb_len64 n hv.1 hv.2
  have hul := Lib.hid hul
  have hO := Lib.hid hO
  have hlo := Lib.hid hlo
  have hl := Lib.hid hl
  go_enter Tryz.func66, Tryz.ntmps66
  go_wp2_with fail
  go_loopw [0, 1] (fun s0 s1 w' => ∃ (x : Int) (pre : List UInt8), s1 = .int .i64 x ∧ Hid (pre ++ sleb x = sleb n) ∧ (-9223372036854775808 ≤ x ∧ x ≤ 9223372036854775807) ∧ Hid (OwnB lo w' s0 (bs ++ pre)) ∧ Hid (Fr (fun k => some k = v.ownBlock) w w') ∧ Hid (∀ k, s0.ownBlock = some k → v.ownBlock = some k ∨ w.heap.size ≤ k)) (fun _ s1 _ => (intOf s1).natAbs)
  case atStart => exact ⟨n, [], rfl, rfl, hv, (by rw [List.append_nil]; exact hO.out), Fr.refl _ _, fun k h => .inl h⟩
  case round =>
    obtain ⟨x, pre, rfl, hp, hx, hown, hb, hk⟩ := hrel
    have hloW : Hid (lo ≤ wr.heap.size) := Nat.le_trans hlo.out hb.out.size
    have hlW : Hid ((bs ++ pre).length + 1 ≤ 140737488355328) := by
      have h1 := congrArg List.length hp.out
      rw [List.length_append] at h1
      have h2 : 0 < (sleb x).length := by rw [sleb]; split <;> simp
      have h3 := hul.out
      have h4 := hl.out
      show _ ≤ _
      rw [List.length_append]
      omega
    have hx' : -9223372036854775808 ≤ x / 128 ∧ x / 128 ≤ 9223372036854775807 := by omega
    by_cases hst : -64 ≤ x ∧ x < 64
    · have HS := Lib.hid (sleb_small hst)
      have c1 : decide (x < -64) = false := by rw [decide_eq_false_iff_not]; omega
      have c2 : decide (63 < x) = false := by rw [decide_eq_false_iff_not]; omega
      have hlow : Hid (x % 128 = ((UInt8.ofNat (x % 128).toNat).toNat : Int)) := by show _ = _; rw [UInt8.toNat_ofNat']; omega
      have e2 : bits .and .u8 (x % 256) 127 = x % 128 := by rw [u8_and127 _ (by omega) (by omega)]; omega
      clear hst
      go_wp2_with (at_builtin; refine Hid.out ?_)
      refine appB lo rfl (.tmp 19) (.tmp 23) rfl _ (bs ++ pre) _ _ hlow.out rfl rfl hown.out hloW.out hlW.out ?_
      intro v1 w1 h1 h2 h3
      have H := Lib.hid (And.intro h1 (And.intro h2 h3))
      clear h1 h2 h3
      go_wp2
      go_ret
      obtain ⟨h1, h2, h3⟩ := H.out
      exact ⟨_, rfl, by rw [← hp.out, HS.out, ← List.append_assoc]; exact h1, fr_row hb.out h2 hk.out, row_row hb.out hk.out h3⟩
    · have HS := Lib.hid (sleb_big hst)
      have hhigh : Hid (x % 128 + 128 = ((UInt8.ofNat ((x % 128).toNat + 128)).toNat : Int)) := by show _ = _; rw [UInt8.toNat_ofNat']; omega
      have e2 : bits .or .u8 (x % 256) 128 = x % 128 + 128 := by rw [u8_or128_low _ (by omega) (by omega)]; omega
      have hM : Hid ((x / 128).natAbs < x.natAbs) := by show _ < _; omega
      have hcase : (decide (x < -64) = true) ∨ (decide (x < -64) = false ∧ decide (63 < x) = true) := by
        simp only [decide_eq_true_eq, decide_eq_false_iff_not]
        omega
      clear hst
      rcases hcase with c1 | ⟨c1, c2⟩
      all_goals
        go_wp2_with (at_builtin; refine Hid.out ?_)
        refine appB lo rfl (.tmp 11) (.tmp 15) rfl _ (bs ++ pre) _ _ hhigh.out rfl rfl hown.out hloW.out hlW.out ?_
        intro v1 w1 h1 h2 h3
        have H := Lib.hid (And.intro h1 (And.intro h2 h3))
        clear h1 h2 h3
        go_wp2
        go_roundw
        case rel =>
          obtain ⟨h1, h2, h3⟩ := H.out
          refine ⟨x / 128, pre ++ [UInt8.ofNat ((x % 128).toNat + 128)], rfl, ?_, hx', ?_, fr_row hb.out h2 hk.out, row_row hb.out hk.out h3⟩
          · show _ = _
            rw [← hp.out, HS.out, List.append_assoc, List.singleton_append]
          · rw [← List.append_assoc]; exact h1
        case measure => exact hM.out
end Go.Proofs.YtkbadfljmbeciaaGreatDoor
