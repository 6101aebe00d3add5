/- spec.Unsigned, Ended, Signed. -/
import Derived.Test.YtkbadfljmbeciaaGreatDoorSpecReader
import Derived.Test.YtkbadfljmbeciaaGreatDoorLibD
namespace Go.Proofs.YtkbadfljmbeciaaGreatDoor
open Go.RowKit
theorem and127_u8 (t : Nat) (ht : t < 256) : bits .and .u8 (t : Int) 127 = ((t % 128 : Nat) : Int) := by
  rw [u8_and127 _ (by omega) (by omega)]; omega
theorem stepU8 (a s t : Nat) (ha : a < 18446744073709551616) :
    bits .or .u64 (a : Int) (IntKind.u64.wrap ((t : Int) % 128 * 2 ^ s)) = ((a ||| (t % 128 * 2 ^ s % 2 ^ 64) : Nat) : Int) ∧ a ||| (t % 128 * 2 ^ s % 2 ^ 64) < 18446744073709551616 := by
  have hb : t % 128 * 2 ^ s % 2 ^ 64 < 18446744073709551616 := Nat.mod_lt _ (by decide)
  have e1 : IntKind.u64.wrap ((t : Int) % 128 * 2 ^ s) = ((t % 128 * 2 ^ s % 2 ^ 64 : Nat) : Int) := by
    rw [IntKind.wrap_u64]
    simp
  rw [e1, u64_or_nat a _ ha hb]
  exact ⟨rfl, Nat.or_lt_two_pow (n := 64) ha hb⟩
set_option maxRecDepth 100000 in
set_option maxHeartbeats 1000000 in
theorem Unsigned_calls (D : Nat → Prop) (aa : Option Addr) (cap : Nat) (bs : List UInt8) (bb : Nat) (hbb : bb ≤ 64) (hbb0 : 0 < bb) (w : World) (h : Lay.u8.slice.rd D w [.slice aa bs.length cap] bs) :
    Calls Tryz.prog 44 #[.slice aa bs.length cap, .int .i64 (bb : Int)] w fun e w' => e = .returned (.tuple #[.int .u64 ((uns bb bs).1 : Int), .int .i64 ((uns bb bs).2 : Int)]) ∧ w' = w := by
  have H := Lib.hid h
  have hlen : bs.length ≤ 9223372036854775807 := by
    obtain ⟨a', c', ee, hcl, hcm⟩ := Lay.slice_form h
    simp only [maxLen] at hcm; omega
  clear h
  go_enter Tryz.func44, Tryz.ntmps44
  go_wp2_with fail
  go_loopw [4, 5, 6, 7, 8] (fun s4 s5 s6 s7 s8 w' => ∃ (acc n : Nat) (r : List UInt8), s4 = .int .u64 acc ∧ s5 = .int .i64 n ∧ s6 = .int .i64 (7 * n : Nat) ∧ acc < 18446744073709551616 ∧ n ≤ 10 ∧ n + r.length = bs.length ∧ Hid (bs.drop n = r) ∧ Hid (unsG bb (7 * n) acc n r = uns bb bs) ∧ w' = w) (fun _ s5 _ _ _ _ => 11 - (intOf s5).toNat)
  case atStart =>
    exact ⟨0, 0, bs, rfl, rfl, rfl, by omega, by omega, by omega, rfl, rfl, rfl⟩
  case round =>
    obtain ⟨acc, n, r, rfl, rfl, rfl, hacc, hn10, hn, hdr, hG, rfl⟩ := hrel
    cases r with
    | nil =>
      have hG1 := Lib.hid (show uns bb bs = (0, 0) from by rw [← hG.out]; simp [unsG])
      simp only [List.length_nil, Nat.add_zero] at hn
      clear hG hdr
      go_wp2
      go_ret2
      rw [hG1.out]
      exact ⟨rfl, rfl⟩
    | cons c r =>
      obtain ⟨ba, o, rfl, hA, e0⟩ := u8_at H.out n (by simp only [List.length_cons] at hn; omega)
      have ec : bs[n]'(by simp only [List.length_cons] at hn; omega) = c := by
        have h1 := hdr.out
        have h2 : (bs.drop n)[0]? = some c := by rw [h1]; rfl
        rw [List.getElem?_drop, Nat.add_zero] at h2
        exact List.getElem?_eq_some_iff.1 h2 |>.2
      rw [ec] at e0
      have hdr1 : Hid (bs.drop (n + 1) = r) := by
        show _ = _
        rw [← List.drop_drop, hdr.out]; rfl
      have hG' := hG.out
      simp only [unsG] at hG'
      have ht := c.toNat_lt
      simp only [List.length_cons] at hn
      generalize c.toNat = t at *
      have e7 := and127_u8 t ht
      clear hA hdr hG ec
      by_cases hs : bb ≤ 7 * n
      · rw [if_pos hs] at hG'
        have hG1 := Lib.hid hG'
        clear hG'
        go_wp2
        go_ret2
        rw [← hG1.out]
        exact ⟨rfl, rfl⟩
      · rw [if_neg hs] at hG'
        by_cases hl : bb - 7 * n < 7
        · have dl : decide ((bb : Int) - 7 * (n : Int) < 7) = true := by rw [decide_eq_true_eq]; omega
          by_cases hz : t % 128 / 2 ^ (bb - 7 * n) = 0
          · have dz : (((t : Int) % 128 / 2 ^ (bb - 7 * n)) != 0) = false := by
              rw [bne_eq_false_iff_eq]; have := congrArg (Nat.cast (R := Int)) hz; simpa using this
            rw [if_neg (fun h => h.2 hz)] at hG'
            have hst := stepU8 acc (7 * n) t hacc
            have hz64 := hst.2
            have hst1 := hst.1
            clear hst
            by_cases h128 : t < 128
            · rw [if_pos h128] at hG'
              have hG1 := Lib.hid hG'
              have d8 : decide ((t : Int) < 128) = true := by rw [decide_eq_true_eq]; omega
              clear hG' hdr1 hz64 h128
              go_wp2
              go_ret2
              rw [← hG1.out]
              exact ⟨rfl, rfl⟩
            · rw [if_neg h128] at hG'
              have hG1 := Lib.hid hG'
              have d8 : decide ((t : Int) < 128) = false := by rw [decide_eq_false_iff_not]; omega
              clear hG' h128
              go_wp2
              go_roundw
              case rel => exact ⟨_, n + 1, r, rfl, rfl, rfl, hz64, by omega, by omega, hdr1, by show _ = _; rw [← hG1.out, show 7 * (n + 1) = 7 * n + 7 from rfl], trivial⟩
              case measure => simp [intOf]; omega
          · have dz : (((t : Int) % 128 / 2 ^ (bb - 7 * n)) != 0) = true := by
              rw [bne_iff_ne]; intro h; exact hz (by have : ((t % 128 / 2 ^ (bb - 7 * n) : Nat) : Int) = 0 := by simpa using h
                                                     omega)
            rw [if_pos ⟨hl, hz⟩] at hG'
            have hG1 := Lib.hid hG'
            clear hG' hz
            go_wp2
            go_ret2
            rw [← hG1.out]
            exact ⟨rfl, rfl⟩
        · have dl : decide ((bb : Int) - 7 * (n : Int) < 7) = false := by rw [decide_eq_false_iff_not]; omega
          rw [if_neg (fun h => hl h.1)] at hG'
          have hst := stepU8 acc (7 * n) t hacc
          have hz64 := hst.2
          have hst1 := hst.1
          clear hst
          by_cases h128 : t < 128
          · rw [if_pos h128] at hG'
            have hG1 := Lib.hid hG'
            have d8 : decide ((t : Int) < 128) = true := by rw [decide_eq_true_eq]; omega
            clear hG' hdr1 hz64 h128
            go_wp2
            go_ret2
            rw [← hG1.out]
            exact ⟨rfl, rfl⟩
          · rw [if_neg h128] at hG'
            have hG1 := Lib.hid hG'
            have d8 : decide ((t : Int) < 128) = false := by rw [decide_eq_false_iff_not]; omega
            clear hG' h128
            go_wp2
            go_roundw
            case rel => exact ⟨_, n + 1, r, rfl, rfl, rfl, hz64, by omega, by omega, hdr1, by show _ = _; rw [← hG1.out, show 7 * (n + 1) = 7 * n + 7 from rfl], trivial⟩
            case measure => simp [intOf]; omega
set_option maxRecDepth 100000 in
set_option maxHeartbeats 1000000 in
theorem Ended_calls (D : Nat → Prop) (aa : Option Addr) (cap : Nat) (bs : List UInt8) (bb : Nat) (w : World) (h : Lay.u8.slice.rd D w [.slice aa bs.length cap] bs) (hlen : bs.length ≤ 140737488355328) :
    Calls Tryz.prog 45 #[.slice aa bs.length cap, .int .i64 (bb : Int)] w fun e w' => e = .returned (.bool (endedB bb bs)) ∧ w' = w := by
  have H := Lib.hid h
  clear h
  go_enter Tryz.func45, Tryz.ntmps45
  go_wp2_with fail
  go_loopw [6, 9] (fun s6 s9 w' => ∃ n : Nat, s9 = .int .i64 n ∧ n ≤ bs.length ∧ Hid ((bs.take n).all (fun c => decide (128 ≤ c.toNat)) = true) ∧ w' = w) (fun _ s9 _ => bs.length - (intOf s9).toNat)
  case atStart => exact ⟨0, rfl, by omega, rfl, rfl⟩
  case round =>
    obtain ⟨n, rfl, hn, hA, rfl⟩ := hrel
    by_cases hlt : n < bs.length
    · obtain ⟨ba, o, rfl, -, e0⟩ := u8_at H.out n hlt
      have ht := (bs[n]).toNat_lt
      have hT : bs.take (n + 1) = bs.take n ++ [bs[n]] := by simp
      have hget : bs = bs.take n ++ bs[n] :: bs.drop (n + 1) := by simp
      by_cases h128 : (bs[n]).toNat < 128
      · have hE := Lib.hid (show endedB bb bs = false from by
          unfold endedB
          rw [hget, List.all_append, List.all_cons, decide_eq_false (p := 128 ≤ (bs[n]).toNat) (by omega)]; simp)
        generalize (bs[n]).toNat = t at *
        clear hA hT hget
        go_wp2
        go_ret
        rw [hE.out]
        exact ⟨rfl, rfl⟩
      · have hE := Lib.hid (show (bs.take (n + 1)).all (fun c => decide (128 ≤ c.toNat)) = true from by
          rw [hT, List.all_append, hA.out]; simp; omega)
        generalize (bs[n]).toNat = t at *
        clear hA hT hget
        go_wp2
        go_roundw
        case rel => exact ⟨n + 1, rfl, by omega, hE, trivial⟩
        case measure => simp [intOf]; omega
    · obtain rfl : n = bs.length := by omega
      have hE := Lib.hid (show endedB bb bs = decide (7 * bs.length < bb) from by
        have := hA.out
        rw [List.take_length] at this
        unfold endedB; rw [this]; simp)
      clear hA
      go_wp2
      go_ret
      rw [hE.out]
      refine ⟨?_, rfl⟩
      show Ending.returned (.bool (decide (7 * (bs.length : Int) < (bb : Int)))) = _
      rw [show decide (7 * (bs.length : Int) < (bb : Int)) = decide (7 * bs.length < bb) from decide_eq_decide.2 (by omega)]
end Go.Proofs.YtkbadfljmbeciaaGreatDoor
