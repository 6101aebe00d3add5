/- Texts of this proof, one behind the other. -/
import Derived.Test.YtbdahjpdjamgiaaGreatDoorPart17
import Derived.Test.YtbdahjpdjamgiaaGreatDoorPart9
/- spec.Unsigned, Ended, Signed. -/
namespace Go.Proofs.YtbdahjpdjamgiaaGreatDoor
open Go.RowKit
theorem and127_u8 (t : Nat) (ht : t < 256) : bits .and .u8 (t : Int) 127 = ((t % 128 : Nat) : Int) := by
  rw [u8_and127 _ (by omega) (by omega)]; omega
theorem stepU8 (a s t : Nat) (ha : a < 18446744073709551616) :
    bits .or .u64 (a : Int) (IntKind.u64.wrap ((t : Int) % 128 * 2 ^ s)) = ((a ||| (t % 128 * 2 ^ s % 2 ^ 64) : Nat) : Int) ∧ a ||| (t % 128 * 2 ^ s % 2 ^ 64) < 18446744073709551616 := by
  have hb : t % 128 * 2 ^ s % 2 ^ 64 < 18446744073709551616 := Nat.mod_lt _ (by decide)
  have e1 : IntKind.u64.wrap ((t : Int) % 128 * 2 ^ s) = ((t % 128 * 2 ^ s % 2 ^ 64 : Nat) : Int) := by
    rw [IntKind.wrap_u64]
    simp
  rw [e1, u64_or_nat a _ ha hb]
  exact ⟨rfl, Nat.or_lt_two_pow (n := 64) ha hb⟩
set_option maxRecDepth 100000 in
set_option maxHeartbeats 1000000 in
theorem Unsigned_calls (D : Nat → Prop) (aa : Option Addr) (cap : Nat) (bs : List UInt8) (bb : Nat) (hbb : bb ≤ 64) (hbb0 : 0 < bb) (w : World) (h : Lay.u8.slice.rd D w [.slice aa bs.length cap] bs) :
    Calls Tryz.prog 35 #[.slice aa bs.length cap, .int .i64 (bb : Int)] w fun e w' => e = .returned (.tuple #[.int .u64 ((uns bb bs).1 : Int), .int .i64 ((uns bb bs).2 : Int)]) ∧ w' = w := by
  have H := Lib.hid h
  have hlen : bs.length ≤ 9223372036854775807 := by
    obtain ⟨a', c', ee, hcl, hcm⟩ := Lay.slice_form h
    simp only [maxLen] at hcm; omega
  clear h
  go_enter Tryz.func35, Tryz.ntmps35
  go_wp2_with fail
  go_loopw [4, 5, 6, 7, 8] (fun s4 s5 s6 s7 s8 w' => ∃ (acc n : Nat) (r : List UInt8), s4 = .int .u64 acc ∧ s5 = .int .i64 n ∧ s6 = .int .i64 (7 * n : Nat) ∧ acc < 18446744073709551616 ∧ n ≤ 10 ∧ n + r.length = bs.length ∧ Hid (bs.drop n = r) ∧ Hid (unsG bb (7 * n) acc n r = uns bb bs) ∧ w' = w) (fun _ s5 _ _ _ _ => 11 - (intOf s5).toNat)
  case atStart =>
    exact ⟨0, 0, bs, rfl, rfl, rfl, by omega, by omega, by omega, rfl, rfl, rfl⟩
  case round =>
    obtain ⟨acc, n, r, rfl, rfl, rfl, hacc, hn10, hn, hdr, hG, rfl⟩ := hrel
    cases r with
    | nil =>
      have hG1 := Lib.hid (show uns bb bs = (0, 0) from by rw [← hG.out]; simp [unsG])
      simp only [List.length_nil, Nat.add_zero] at hn
      clear hG hdr
      go_wp2
      go_ret2
      rw [hG1.out]
      exact ⟨rfl, rfl⟩
    | cons c r =>
      obtain ⟨ba, o, rfl, hA, e0⟩ := u8_at H.out n (by simp only [List.length_cons] at hn; omega)
      have ec : bs[n]'(by simp only [List.length_cons] at hn; omega) = c := by
        have h1 := hdr.out
        have h2 : (bs.drop n)[0]? = some c := by rw [h1]; rfl
        rw [List.getElem?_drop, Nat.add_zero] at h2
        exact List.getElem?_eq_some_iff.1 h2 |>.2
      rw [ec] at e0
      have hdr1 : Hid (bs.drop (n + 1) = r) := by
        show _ = _
        rw [← List.drop_drop, hdr.out]; rfl
      have hG' := hG.out
      simp only [unsG] at hG'
      have ht := c.toNat_lt
      simp only [List.length_cons] at hn
      generalize c.toNat = t at *
      have e7 := and127_u8 t ht
      clear hA hdr hG ec
      by_cases hs : bb ≤ 7 * n
      · rw [if_pos hs] at hG'
        have hG1 := Lib.hid hG'
        clear hG'
        go_wp2
        go_ret2
        rw [← hG1.out]
        exact ⟨rfl, rfl⟩
      · rw [if_neg hs] at hG'
        by_cases hl : bb - 7 * n < 7
        · have dl : decide ((bb : Int) - 7 * (n : Int) < 7) = true := by rw [decide_eq_true_eq]; omega
          by_cases hz : t % 128 / 2 ^ (bb - 7 * n) = 0
          · have dz : (((t : Int) % 128 / 2 ^ (bb - 7 * n)) != 0) = false := by
              rw [bne_eq_false_iff_eq]; have := congrArg (Nat.cast (R := Int)) hz; simpa using this
            rw [if_neg (fun h => h.2 hz)] at hG'
            have hst := stepU8 acc (7 * n) t hacc
            have hz64 := hst.2
            have hst1 := hst.1
            clear hst
            by_cases h128 : t < 128
            · rw [if_pos h128] at hG'
              have hG1 := Lib.hid hG'
              have d8 : decide ((t : Int) < 128) = true := by rw [decide_eq_true_eq]; omega
              clear hG' hdr1 hz64 h128
              go_wp2
              go_ret2
              rw [← hG1.out]
              exact ⟨rfl, rfl⟩
            · rw [if_neg h128] at hG'
              have hG1 := Lib.hid hG'
              have d8 : decide ((t : Int) < 128) = false := by rw [decide_eq_false_iff_not]; omega
              clear hG' h128
              go_wp2
              go_roundw
              case rel => exact ⟨_, n + 1, r, rfl, rfl, rfl, hz64, by omega, by omega, hdr1, by show _ = _; rw [← hG1.out, show 7 * (n + 1) = 7 * n + 7 from rfl], trivial⟩
              case measure => simp [intOf]; omega
          · have dz : (((t : Int) % 128 / 2 ^ (bb - 7 * n)) != 0) = true := by
              rw [bne_iff_ne]; intro h; exact hz (by have : ((t % 128 / 2 ^ (bb - 7 * n) : Nat) : Int) = 0 := by simpa using h
                                                     omega)
            rw [if_pos ⟨hl, hz⟩] at hG'
            have hG1 := Lib.hid hG'
            clear hG' hz
            go_wp2
            go_ret2
            rw [← hG1.out]
            exact ⟨rfl, rfl⟩
        · have dl : decide ((bb : Int) - 7 * (n : Int) < 7) = false := by rw [decide_eq_false_iff_not]; omega
          rw [if_neg (fun h => hl h.1)] at hG'
          have hst := stepU8 acc (7 * n) t hacc
          have hz64 := hst.2
          have hst1 := hst.1
          clear hst
          by_cases h128 : t < 128
          · rw [if_pos h128] at hG'
            have hG1 := Lib.hid hG'
            have d8 : decide ((t : Int) < 128) = true := by rw [decide_eq_true_eq]; omega
            clear hG' hdr1 hz64 h128
            go_wp2
            go_ret2
            rw [← hG1.out]
            exact ⟨rfl, rfl⟩
          · rw [if_neg h128] at hG'
            have hG1 := Lib.hid hG'
            have d8 : decide ((t : Int) < 128) = false := by rw [decide_eq_false_iff_not]; omega
            clear hG' h128
            go_wp2
            go_roundw
            case rel => exact ⟨_, n + 1, r, rfl, rfl, rfl, hz64, by omega, by omega, hdr1, by show _ = _; rw [← hG1.out, show 7 * (n + 1) = 7 * n + 7 from rfl], trivial⟩
            case measure => simp [intOf]; omega
set_option maxRecDepth 100000 in
set_option maxHeartbeats 1000000 in
theorem Ended_calls (D : Nat → Prop) (aa : Option Addr) (cap : Nat) (bs : List UInt8) (bb : Nat) (w : World) (h : Lay.u8.slice.rd D w [.slice aa bs.length cap] bs) (hlen : bs.length ≤ 140737488355328) :
    Calls Tryz.prog 36 #[.slice aa bs.length cap, .int .i64 (bb : Int)] w fun e w' => e = .returned (.bool (endedB bb bs)) ∧ w' = w := by
  have H := Lib.hid h
  clear h
  go_enter Tryz.func36, Tryz.ntmps36
  go_wp2_with fail
  go_loopw [6, 9] (fun s6 s9 w' => ∃ n : Nat, s9 = .int .i64 n ∧ n ≤ bs.length ∧ Hid ((bs.take n).all (fun c => decide (128 ≤ c.toNat)) = true) ∧ w' = w) (fun _ s9 _ => bs.length - (intOf s9).toNat)
  case atStart => exact ⟨0, rfl, by omega, rfl, rfl⟩
  case round =>
    obtain ⟨n, rfl, hn, hA, rfl⟩ := hrel
    by_cases hlt : n < bs.length
    · obtain ⟨ba, o, rfl, -, e0⟩ := u8_at H.out n hlt
      have ht := (bs[n]).toNat_lt
      have hT : bs.take (n + 1) = bs.take n ++ [bs[n]] := by simp
      have hget : bs = bs.take n ++ bs[n] :: bs.drop (n + 1) := by simp
      by_cases h128 : (bs[n]).toNat < 128
      · have hE := Lib.hid (show endedB bb bs = false from by
          unfold endedB
          rw [hget, List.all_append, List.all_cons, decide_eq_false (p := 128 ≤ (bs[n]).toNat) (by omega)]; simp)
        generalize (bs[n]).toNat = t at *
        clear hA hT hget
        go_wp2
        go_ret
        rw [hE.out]
        exact ⟨rfl, rfl⟩
      · have hE := Lib.hid (show (bs.take (n + 1)).all (fun c => decide (128 ≤ c.toNat)) = true from by
          rw [hT, List.all_append, hA.out]; simp; omega)
        generalize (bs[n]).toNat = t at *
        clear hA hT hget
        go_wp2
        go_roundw
        case rel => exact ⟨n + 1, rfl, by omega, hE, trivial⟩
        case measure => simp [intOf]; omega
    · obtain rfl : n = bs.length := by omega
      have hE := Lib.hid (show endedB bb bs = decide (7 * bs.length < bb) from by
        have := hA.out
        rw [List.take_length] at this
        unfold endedB; rw [this]; simp)
      clear hA
      go_wp2
      go_ret
      rw [hE.out]
      refine ⟨?_, rfl⟩
      show Ending.returned (.bool (decide (7 * (bs.length : Int) < (bb : Int)))) = _
      rw [show decide (7 * (bs.length : Int) < (bb : Int)) = decide (7 * bs.length < bb) from decide_eq_decide.2 (by omega)]
end Go.Proofs.YtbdahjpdjamgiaaGreatDoor
/- spec.Signed. -/
namespace Go.Proofs.YtbdahjpdjamgiaaGreatDoor
open Go.RowKit
theorem stepS8 (a s t : Nat) (ha : a < 18446744073709551616) :
    bits .or .i64 (toS a) (wrap64 ((t : Int) % 128 * 2 ^ s)) = toS (a ||| (t % 128 * 2 ^ s % 2 ^ 64)) ∧ a ||| (t % 128 * 2 ^ s % 2 ^ 64) < 18446744073709551616 := by
  have hb : t % 128 * 2 ^ s % 2 ^ 64 < 18446744073709551616 := Nat.mod_lt _ (by decide)
  refine ⟨or_toS (toS_mod ha) ?_, Nat.or_lt_two_pow (n := 64) ha hb⟩
  have e1 : (t : Int) % 128 * 2 ^ s = ((t % 128 * 2 ^ s : Nat) : Int) := by simp
  rw [e1]
  unfold wrap64
  generalize t % 128 * 2 ^ s = q
  omega
theorem u8_and64 (t : Nat) (ht : t < 256) : bits .and .u8 (t : Int) 64 = if t % 128 < 64 then 0 else 64 := by
  rw [show (64 : Int) = ((64 : Nat) : Int) from rfl, u8_and_nat t 64 (by omega) (by omega), show (64 : Nat) = 2 ^ 6 from rfl, nat_bit 6 t]
  split <;> omega
theorem fillS64 (a s : Nat) (ha : a < 18446744073709551616) (hs : s < 64) : bits .or .i64 (toS a) (wrap64 (-2 ^ s)) = toS (a ||| (2 ^ 64 - 2 ^ s)) := by
  have hp : 2 ^ s < 2 ^ 64 := Nat.pow_lt_pow_right (by decide) hs
  have hp0 : 0 < 2 ^ s := Nat.pow_pos (by decide)
  refine or_toS (toS_mod ha) ?_
  have e1 : (-2 ^ s : Int) = -((2 ^ s : Nat) : Int) := by simp
  rw [e1]
  unfold wrap64
  generalize 2 ^ s = q at *
  omega
theorem i8small (t : Nat) (ht : t < 64) : IntKind.i8.wrap ((t : Int) * 2) = (t : Int) * 2 := by
  unfold IntKind.wrap
  simp only [IntKind.bits, IntKind.signed]
  simp
  omega
theorem i8w (t l : Nat) : badTop l t = ((decide (IntKind.i8.wrap ((t : Int) * 2 % 256) / 2 ^ l ≠ 0) && decide (IntKind.i8.wrap ((t : Int) * 2 % 256) / 2 ^ l ≠ -1)) || decide (128 ≤ (t : Int))) := by
  have e : IntKind.i8.wrap ((t : Int) * 2 % 256) = (((t * 2 % 256 : Nat) : Int) + 128) % 256 - 128 := by
    unfold IntKind.wrap
    simp only [IntKind.bits, IntKind.signed]
    simp
    omega
  rw [e]
  unfold badTop
  rw [show decide (128 ≤ (t : Int)) = decide (128 ≤ t) from decide_eq_decide.2 (by omega)]
set_option maxRecDepth 100000 in
set_option maxHeartbeats 1000000 in
theorem Signed_calls (D : Nat → Prop) (aa : Option Addr) (cap : Nat) (bs : List UInt8) (bb : Nat) (hbb : bb ≤ 64) (hbb0 : 0 < bb) (w : World) (h : Lay.u8.slice.rd D w [.slice aa bs.length cap] bs) :
    Calls Tryz.prog 69 #[.slice aa bs.length cap, .int .i64 (bb : Int)] w fun e w' => e = .returned (.tuple #[.int .i64 (toS (sig bb bs).1), .int .i64 ((sig bb bs).2 : Int)]) ∧ w' = w := by
  have H := Lib.hid h
  have hlen : bs.length ≤ 9223372036854775807 := by
    obtain ⟨a', c', ee, hcl, hcm⟩ := Lay.slice_form h
    simp only [maxLen] at hcm; omega
  clear h
  go_enter Tryz.func69, Tryz.ntmps69
  go_wp2_with fail
  go_loopw [4, 5, 6, 7, 8, 9] (fun s4 s5 s6 s7 s8 s9 w' => ∃ (acc n : Nat) (r : List UInt8), s4 = .int .i64 (toS acc) ∧ s5 = .int .i64 n ∧ s6 = .int .i64 (7 * n : Nat) ∧ acc < 18446744073709551616 ∧ n ≤ 10 ∧ n + r.length = bs.length ∧ Hid (bs.drop n = r) ∧ Hid (sigG bb (7 * n) acc n r = sig bb bs) ∧ w' = w) (fun _ s5 _ _ _ _ _ => 11 - (intOf s5).toNat)
  case atStart =>
    exact ⟨0, 0, bs, rfl, rfl, rfl, by omega, by omega, by omega, rfl, rfl, rfl⟩
  case round =>
    obtain ⟨acc, n, r, rfl, rfl, rfl, hacc, hn10, hn, hdr, hG, rfl⟩ := hrel
    cases r with
    | nil =>
      have hG1 := Lib.hid (show sig bb bs = (0, 0) from by rw [← hG.out]; simp [sigG])
      simp only [List.length_nil, Nat.add_zero] at hn
      clear hG hdr
      go_wp2
      go_ret2
      rw [hG1.out]
      exact ⟨rfl, rfl⟩
    | cons c r =>
      obtain ⟨ba, o, rfl, hA, e0⟩ := u8_at H.out n (by simp only [List.length_cons] at hn; omega)
      have ec : bs[n]'(by simp only [List.length_cons] at hn; omega) = c := by
        have h1 := hdr.out
        have h2 : (bs.drop n)[0]? = some c := by rw [h1]; rfl
        rw [List.getElem?_drop, Nat.add_zero] at h2
        exact List.getElem?_eq_some_iff.1 h2 |>.2
      rw [ec] at e0
      have hdr1 : Hid (bs.drop (n + 1) = r) := by
        show _ = _
        rw [← List.drop_drop, hdr.out]; rfl
      have hG' := hG.out
      simp only [sigG] at hG'
      have ht := c.toNat_lt
      simp only [List.length_cons] at hn
      generalize c.toNat = t at *
      have e7 := and127_u8 t ht
      clear hA hdr hG ec
      by_cases hs : bb ≤ 7 * n
      · rw [if_pos hs] at hG'
        have hG1 := Lib.hid hG'
        clear hG'
        go_wp2
        go_ret2
        rw [← hG1.out]
        exact ⟨rfl, rfl⟩
      · rw [if_neg hs] at hG'
        have hst := stepS8 acc (7 * n) t hacc
        have hz64 := hst.2
        have hst1 := hst.1
        clear hst
        by_cases hl : bb - 7 * n < 7
        · have dl : decide ((bb : Int) - 7 * (n : Int) < 7) = true := by rw [decide_eq_true_eq]; omega
          have hqm := i8w t (bb - 7 * n)
          generalize hq : IntKind.i8.wrap ((t : Int) * 2 % 256) / 2 ^ (bb - 7 * n) = q at hqm
          cases hbad : badTop (bb - 7 * n) t with
          | true =>
            rw [hbad] at hqm hG'
            rw [if_pos ⟨hl, rfl⟩] at hG'
            have hG1 := Lib.hid hG'
            clear hG' hst1 hdr1
            by_cases q0 : q = 0
            · have d8 : decide (128 ≤ (t : Int)) = true := by subst q0; simpa using hqm.symm
              subst q0
              clear hqm
              go_wp2
              go_ret2
              rw [← hG1.out]
              exact ⟨rfl, rfl⟩
            · by_cases q1 : q = -1
              · have d8 : decide (128 ≤ (t : Int)) = true := by subst q1; simpa using hqm.symm
                subst q1
                clear hqm
                go_wp2
                go_ret2
                rw [← hG1.out]
                exact ⟨rfl, rfl⟩
              · have b0 : (q == 0) = false := by rw [beq_eq_false_iff_ne]; exact q0
                have b1 : (q == -1) = false := by rw [beq_eq_false_iff_ne]; exact q1
                clear hqm
                go_wp2
                go_ret2
                rw [← hG1.out]
                exact ⟨rfl, rfl⟩
          | false =>
            rw [hbad] at hqm hG'
            rw [if_neg (fun h => nomatch h.2)] at hG'
            have hqq : (q = 0 ∨ q = -1) ∧ t < 128 := by
              have := hqm.symm
              simp only [Bool.or_eq_false_iff, Bool.and_eq_false_iff, decide_eq_false_iff_not] at this
              omega
            obtain ⟨hq01, ht128⟩ := hqq
            have d8 : decide (128 ≤ (t : Int)) = false := by rw [decide_eq_false_iff_not]; omega
            have d9 : decide ((t : Int) < 128) = true := by rw [decide_eq_true_eq]; omega
            rw [if_pos ht128] at hG'
            clear hqm
            have hq' := hq
            rw [show (t : Int) * 2 % 256 = (t : Int) * 2 from by omega] at hq'
            rcases hq01 with rfl | rfl
            · have hfl := fillS64 (acc ||| (t % 128 * 2 ^ (7 * n) % 2 ^ 64)) (7 * n + 7) hz64
              by_cases h64 : 64 ≤ t
              · have e6 : bits .and .u8 (t : Int) 64 = 64 := by rw [u8_and64 t (by omega), if_neg (by omega)]
                by_cases h7 : 7 * n + 7 < 64
                · rw [if_pos ⟨h64, h7⟩] at hG'
                  have hf1 : bits .or .i64 (toS (acc ||| t % 128 * 2 ^ (7 * n) % 18446744073709551616)) (wrap64 (-2 ^ (7 * n + 7))) = toS ((acc ||| t % 128 * 2 ^ (7 * n) % 18446744073709551616) ||| (18446744073709551616 - 2 ^ (7 * n + 7))) := hfl h7
                  have hG1 := Lib.hid hG'
                  have d7 : decide (7 * (n : Int) + 7 < 64) = true := by rw [decide_eq_true_eq]; omega
                  clear hG' hdr1 hfl
                  go_wp2
                  go_ret2
                  rw [← hG1.out]
                  exact ⟨rfl, rfl⟩
                · rw [if_neg (fun h => h7 h.2)] at hG'
                  have hG1 := Lib.hid hG'
                  have d7 : decide (7 * (n : Int) + 7 < 64) = false := by rw [decide_eq_false_iff_not]; omega
                  clear hG' hdr1 hfl
                  go_wp2
                  go_ret2
                  rw [← hG1.out]
                  exact ⟨rfl, rfl⟩
              · have e6 : bits .and .u8 (t : Int) 64 = 0 := by rw [u8_and64 t (by omega), if_pos (by omega)]
                rw [i8small t (by omega)] at hq'
                rw [if_neg (fun h => h64 h.1)] at hG'
                have hG1 := Lib.hid hG'
                clear hG' hdr1 hfl
                go_wp2
                go_ret2
                rw [← hG1.out]
                exact ⟨rfl, rfl⟩
            · have hfl := fillS64 (acc ||| (t % 128 * 2 ^ (7 * n) % 2 ^ 64)) (7 * n + 7) hz64
              by_cases h64 : 64 ≤ t
              · have e6 : bits .and .u8 (t : Int) 64 = 64 := by rw [u8_and64 t (by omega), if_neg (by omega)]
                by_cases h7 : 7 * n + 7 < 64
                · rw [if_pos ⟨h64, h7⟩] at hG'
                  have hf1 : bits .or .i64 (toS (acc ||| t % 128 * 2 ^ (7 * n) % 18446744073709551616)) (wrap64 (-2 ^ (7 * n + 7))) = toS ((acc ||| t % 128 * 2 ^ (7 * n) % 18446744073709551616) ||| (18446744073709551616 - 2 ^ (7 * n + 7))) := hfl h7
                  have hG1 := Lib.hid hG'
                  have d7 : decide (7 * (n : Int) + 7 < 64) = true := by rw [decide_eq_true_eq]; omega
                  clear hG' hdr1 hfl
                  go_wp2
                  go_ret2
                  rw [← hG1.out]
                  exact ⟨rfl, rfl⟩
                · rw [if_neg (fun h => h7 h.2)] at hG'
                  have hG1 := Lib.hid hG'
                  have d7 : decide (7 * (n : Int) + 7 < 64) = false := by rw [decide_eq_false_iff_not]; omega
                  clear hG' hdr1 hfl
                  go_wp2
                  go_ret2
                  rw [← hG1.out]
                  exact ⟨rfl, rfl⟩
              · have e6 : bits .and .u8 (t : Int) 64 = 0 := by rw [u8_and64 t (by omega), if_pos (by omega)]
                rw [i8small t (by omega)] at hq'
                rw [if_neg (fun h => h64 h.1)] at hG'
                have hG1 := Lib.hid hG'
                clear hG' hdr1 hfl
                go_wp2
        · have dl : decide ((bb : Int) - 7 * (n : Int) < 7) = false := by rw [decide_eq_false_iff_not]; omega
          rw [if_neg (fun h => hl h.1)] at hG'
          by_cases h128 : t < 128
          · rw [if_pos h128] at hG'
            have d9 : decide ((t : Int) < 128) = true := by rw [decide_eq_true_eq]; omega
            have hfl := fillS64 (acc ||| (t % 128 * 2 ^ (7 * n) % 2 ^ 64)) (7 * n + 7) hz64
            by_cases h64 : 64 ≤ t
            · have e6 : bits .and .u8 (t : Int) 64 = 64 := by rw [u8_and64 t (by omega), if_neg (by omega)]
              by_cases h7 : 7 * n + 7 < 64
              · rw [if_pos ⟨h64, h7⟩] at hG'
                have hf1 : bits .or .i64 (toS (acc ||| t % 128 * 2 ^ (7 * n) % 18446744073709551616)) (wrap64 (-2 ^ (7 * n + 7))) = toS ((acc ||| t % 128 * 2 ^ (7 * n) % 18446744073709551616) ||| (18446744073709551616 - 2 ^ (7 * n + 7))) := hfl h7
                have hG1 := Lib.hid hG'
                have d7 : decide (7 * (n : Int) + 7 < 64) = true := by rw [decide_eq_true_eq]; omega
                clear hG' hdr1 hfl
                go_wp2
                go_ret2
                rw [← hG1.out]
                exact ⟨rfl, rfl⟩
              · rw [if_neg (fun h => h7 h.2)] at hG'
                have hG1 := Lib.hid hG'
                have d7 : decide (7 * (n : Int) + 7 < 64) = false := by rw [decide_eq_false_iff_not]; omega
                clear hG' hdr1 hfl
                go_wp2
            · have e6 : bits .and .u8 (t : Int) 64 = 0 := by rw [u8_and64 t (by omega), if_pos (by omega)]
              rw [if_neg (fun h => h64 h.1)] at hG'
              have hG1 := Lib.hid hG'
              clear hG' hdr1 hfl
              go_wp2
              go_ret2
              rw [← hG1.out]
              exact ⟨rfl, rfl⟩
          · rw [if_neg h128] at hG'
            have hG1 := Lib.hid hG'
            have d9 : decide ((t : Int) < 128) = false := by rw [decide_eq_false_iff_not]; omega
            clear hG' h128
            go_wp2
            go_roundw
            case rel => exact ⟨_, n + 1, r, rfl, rfl, rfl, hz64, by omega, by omega, hdr1, by show _ = _; rw [← hG1.out, show 7 * (n + 1) = 7 * n + 7 from rfl], trivial⟩
            case measure => simp [intOf]; omega
end Go.Proofs.YtbdahjpdjamgiaaGreatDoor
