/- Texts of this proof, one behind the other. -/
import Derived.Test.YtejgninpjhcgnaaGreatDoorPart3
import Derived.Deep.AppendSrc
import Derived.Laws.RangeAny
import Derived.Lib.OthersKept
import Derived.LoopTactic
namespace Go.Proofs.YtejgninpjhcgnaaGreatDoor
open Go.RowKit
set_option linter.unusedSimpArgs false
set_option linter.unusedVariables false
set_option maxRecDepth 100000
set_option maxHeartbeats 2000000
theorem zdh (t : Nat) (ht : t < 256) : bits .and .u8 (t : Int) 127 = ((t % 128 : Nat) : Int) := by
 rw [zgi _ (by omega) (by omega)]; omega
theorem ziM (a s t : Nat) (ha : a < 18446744073709551616) :
 bits .or .u64 (a : Int) (IntKind.u64.wrap ((t : Int) % 128 * 2 ^ s)) = ((a ||| (t % 128 * 2 ^ s % 2 ^ 64) : Nat) : Int) ∧ a ||| (t % 128 * 2 ^ s % 2 ^ 64) < 18446744073709551616 := by
 have hb : t % 128 * 2 ^ s % 2 ^ 64 < 18446744073709551616 := Nat.mod_lt _ (by decide)
 have e1 : IntKind.u64.wrap ((t : Int) % 128 * 2 ^ s) = ((t % 128 * 2 ^ s % 2 ^ 64 : Nat) : Int) := by
  rw [IntKind.wrap_u64]
  simp
 rw [e1, u64_or_nat a _ ha hb]
 exact ⟨rfl, Nat.or_lt_two_pow (n := 64) ha hb⟩
theorem zbM (D : Nat → Prop) (aa : Option Addr) (cap : Nat) (bs : List UInt8) (bb : Nat) (uI : bb ≤ 64) (xw : 0 < bb) (w : World) (h : Lay.u8.slice.rd D w [.slice aa bs.length cap] bs) :
 Calls Tryz.prog 89 #[.slice aa bs.length cap, .int .i64 (bb : Int)] w fun e w' => e = .returned (.tuple #[.int .u64 ((uns bb bs).1 : Int), .int .i64 ((uns bb bs).2 : Int)]) ∧ w' = w := by
 have H := qh h
 have ao : bs.length ≤ 9223372036854775807 := by
  obtain ⟨a', c', ee, dh, bh⟩ := Lay.slice_form h
  simp only [maxLen] at bh; omega
 clear h
 go_enter Tryz.func89, Tryz.ntmps89
 go_wp2_with fail
 go_loopw [4, 5, 6, 7, 8] (fun s4 s5 s6 s7 s8 w' => ∃ (bz n : Nat) (r : List UInt8), s4 = .int .u64 bz ∧ s5 = .int .i64 n ∧ s6 = .int .i64 (7 * n : Nat) ∧ bz < 18446744073709551616 ∧ n ≤ 10 ∧ n + r.length = bs.length ∧ Hd (bs.drop n = r) ∧ Hd (unsG bb (7 * n) bz n r = uns bb bs) ∧ w' = w) (fun _ s5 _ _ _ _ => 11 - (intOf s5).toNat)
 case atStart =>
  exact ⟨0, 0, bs, rfl, rfl, rfl, by omega, by omega, by omega, rfl, rfl, rfl⟩
 case round =>
  obtain ⟨bz, n, r, rfl, rfl, rfl, gA, vz, hn, gd, hG, rfl⟩ := hrel
  cases r with
  | nil =>
   have dM := qh (show uns bb bs = (0, 0) from by rw [← hG.o]; simp [unsG])
   simp only [List.length_nil, Nat.add_zero] at hn
   clear hG gd
   go_wp2
   go_ret2
   rw [dM.o]
   exact ⟨rfl, rfl⟩
  | cons c r =>
   obtain ⟨ba, o, rfl, hA, e0⟩ := zfv H.o n (by simp only [List.length_cons] at hn; omega)
   have ec : bs[n]'(by simp only [List.length_cons] at hn; omega) = c := by
    have h1 := gd.o
    have h2 : (bs.drop n)[0]? = some c := by rw [h1]; rfl
    rw [List.getElem?_drop, Nat.add_zero] at h2
    exact List.getElem?_eq_some_iff.1 h2 |>.2
   rw [ec] at e0
   have ej : Hd (bs.drop (n + 1) = r) := by
    show _ = _
    rw [← List.drop_drop, gd.o]; rfl
   have co := hG.o
   simp only [unsG] at co
   have ht := c.toNat_lt
   simp only [List.length_cons] at hn
   generalize c.toNat = t at *
   have e7 := zdh t ht
   clear hA gd hG ec
   by_cases hs : bb ≤ 7 * n
   ·rw [if_pos hs] at co
    have dM := qh co
    clear co
    go_wp2
    go_ret2
    rw [← dM.o]
    exact ⟨rfl, rfl⟩
   ·rw [if_neg hs] at co
    by_cases hl : bb - 7 * n < 7
    ·have dl : decide ((bb : Int) - 7 * (n : Int) < 7) = true := by rw [decide_eq_true_eq]; omega
     by_cases hz : t % 128 / 2 ^ (bb - 7 * n) = 0
     ·have dz : (((t : Int) % 128 / 2 ^ (bb - 7 * n)) != 0) = false := by
       rw [bne_eq_false_iff_eq]; have := congrArg (Nat.cast (R := Int)) hz; simpa using this
      rw [if_neg (fun h => h.2 hz)] at co
      have hst := ziM bz (7 * n) t gA
      have gH := hst.2
      have qc := hst.1
      clear hst
      by_cases h128 : t < 128
      ·rw [if_pos h128] at co
       have dM := qh co
       have d8 : decide ((t : Int) < 128) = true := by rw [decide_eq_true_eq]; omega
       clear co ej gH h128
       go_wp2
       go_ret2
       rw [← dM.o]
       exact ⟨rfl, rfl⟩
      ·rw [if_neg h128] at co
       have dM := qh co
       have d8 : decide ((t : Int) < 128) = false := by rw [decide_eq_false_iff_not]; omega
       clear co h128
       go_wp2
       go_roundw
       case rel => exact ⟨_, n + 1, r, rfl, rfl, rfl, gH, by omega, by omega, ej, by show _ = _; rw [← dM.o, show 7 * (n + 1) = 7 * n + 7 from rfl], trivial⟩
       case measure => simp [intOf]; omega
     ·have dz : (((t : Int) % 128 / 2 ^ (bb - 7 * n)) != 0) = true := by
       rw [bne_iff_ne]; intro h; exact hz (by have : ((t % 128 / 2 ^ (bb - 7 * n) : Nat) : Int) = 0 := (by simpa using h); omega)
      rw [if_pos ⟨hl, hz⟩] at co
      have dM := qh co
      clear co hz
      go_wp2
      go_ret2
      rw [← dM.o]
      exact ⟨rfl, rfl⟩
    ·have dl : decide ((bb : Int) - 7 * (n : Int) < 7) = false := by rw [decide_eq_false_iff_not]; omega
     rw [if_neg (fun h => hl h.1)] at co
     have hst := ziM bz (7 * n) t gA
     have gH := hst.2
     have qc := hst.1
     clear hst
     by_cases h128 : t < 128
     ·rw [if_pos h128] at co
      have dM := qh co
      have d8 : decide ((t : Int) < 128) = true := by rw [decide_eq_true_eq]; omega
      clear co ej gH h128
      go_wp2
      go_ret2
      rw [← dM.o]
      exact ⟨rfl, rfl⟩
     ·rw [if_neg h128] at co
      have dM := qh co
      have d8 : decide ((t : Int) < 128) = false := by rw [decide_eq_false_iff_not]; omega
      clear co h128
      go_wp2
      go_roundw
      case rel => exact ⟨_, n + 1, r, rfl, rfl, rfl, gH, by omega, by omega, ej, by show _ = _; rw [← dM.o, show 7 * (n + 1) = 7 * n + 7 from rfl], trivial⟩
      case measure => simp [intOf]; omega
theorem zbd (D : Nat → Prop) (aa : Option Addr) (cap : Nat) (bs : List UInt8) (bb : Nat) (w : World) (h : Lay.u8.slice.rd D w [.slice aa bs.length cap] bs) (ao : bs.length ≤ 140737488355328) :
 Calls Tryz.prog 90 #[.slice aa bs.length cap, .int .i64 (bb : Int)] w fun e w' => e = .returned (.bool (jO bb bs)) ∧ w' = w := by
 have H := qh h
 clear h
 go_enter Tryz.func90, Tryz.ntmps90
 go_wp2_with fail
 go_loopw [6, 9] (fun s6 s9 w' => ∃ n : Nat, s9 = .int .i64 n ∧ n ≤ bs.length ∧ Hd ((bs.take n).all (fun c => decide (128 ≤ c.toNat)) = true) ∧ w' = w) (fun _ s9 _ => bs.length - (intOf s9).toNat)
 case atStart => exact ⟨0, rfl, by omega, rfl, rfl⟩
 case round =>
  obtain ⟨n, rfl, hn, hA, rfl⟩ := hrel
  by_cases ah : n < bs.length
  ·obtain ⟨ba, o, rfl, -, e0⟩ := zfv H.o n ah
   have ht := (bs[n]).toNat_lt
   have hT : bs.take (n + 1) = bs.take n ++ [bs[n]] := by simp
   have rD : bs = bs.take n ++ bs[n] :: bs.drop (n + 1) := by simp
   by_cases h128 : (bs[n]).toNat < 128
   ·have hE := qh (show jO bb bs = false from by
     unfold jO
     rw [rD, List.all_append, List.all_cons, decide_eq_false (p := 128 ≤ (bs[n]).toNat) (by omega)]; simp)
    generalize (bs[n]).toNat = t at *
    clear hA hT rD
    go_wp2
    go_ret
    rw [hE.o]
    exact ⟨rfl, rfl⟩
   ·have hE := qh (show (bs.take (n + 1)).all (fun c => decide (128 ≤ c.toNat)) = true from by
     rw [hT, List.all_append, hA.o]; simp; omega)
    generalize (bs[n]).toNat = t at *
    clear hA hT rD
    go_wp2
    go_roundw
    case rel => exact ⟨n + 1, rfl, by omega, hE, trivial⟩
    case measure => simp [intOf]; omega
  ·obtain rfl : n = bs.length := by omega
   have hE := qh (show jO bb bs = decide (7 * bs.length < bb) from by
    have := hA.o
    rw [tlQ] at this
    unfold jO; rw [this]; simp)
   clear hA
   go_wp2
   go_ret
   rw [hE.o]
   refine ⟨?_, rfl⟩
   show Ending.returned (.bool (decide (7 * (bs.length : Int) < (bb : Int)))) = _
   rw [show decide (7 * (bs.length : Int) < (bb : Int)) = decide (7 * bs.length < bb) from decide_eq_decide.2 (by omega)]
theorem zjU (a s t : Nat) (ha : a < 18446744073709551616) :
 bits .or .i64 (toS a) (wrap64 ((t : Int) % 128 * 2 ^ s)) = toS (a ||| (t % 128 * 2 ^ s % 2 ^ 64)) ∧ a ||| (t % 128 * 2 ^ s % 2 ^ 64) < 18446744073709551616 := by
 have hb : t % 128 * 2 ^ s % 2 ^ 64 < 18446744073709551616 := Nat.mod_lt _ (by decide)
 refine ⟨ziL (zcD ha) ?_, Nat.or_lt_two_pow (n := 64) ha hb⟩
 have e1 : (t : Int) % 128 * 2 ^ s = ((t % 128 * 2 ^ s : Nat) : Int) := by simp
 rw [e1]
 unfold wrap64
 generalize t % 128 * 2 ^ s = q
 omega
theorem Z9 (t : Nat) (ht : t < 256) : bits .and .u8 (t : Int) 64 = if t % 128 < 64 then 0 else 64 := by
 rw [show (64 : Int) = ((64 : Nat) : Int) from rfl, u8_and_nat t 64 (by omega) (by omega), show (64 : Nat) = 2 ^ 6 from rfl, nat_bit 6 t]
 split <;> omega
theorem zeg (a s : Nat) (ha : a < 18446744073709551616) (hs : s < 64) : bits .or .i64 (toS a) (wrap64 (-2 ^ s)) = toS (a ||| (2 ^ 64 - 2 ^ s)) := by
 have hp : 2 ^ s < 2 ^ 64 := Nat.pow_lt_pow_right (by decide) hs
 have Fc : 0 < 2 ^ s := Nat.pow_pos (by decide)
 refine ziL (zcD ha) ?_
 have e1 : (-2 ^ s : Int) = -((2 ^ s : Nat) : Int) := by simp
 rw [e1]
 unfold wrap64
 generalize 2 ^ s = q at *
 omega
theorem zgq (t : Nat) (ht : t < 64) : IntKind.i8.wrap ((t : Int) * 2) = (t : Int) * 2 := by
 unfold IntKind.wrap
 simp only [IntKind.bits, IntKind.signed]
 simp
 omega
theorem i8w (t l : Nat) : Yk l t = ((decide (IntKind.i8.wrap ((t : Int) * 2 % 256) / 2 ^ l ≠ 0) && decide (IntKind.i8.wrap ((t : Int) * 2 % 256) / 2 ^ l ≠ -1)) || decide (128 ≤ (t : Int))) := by
 have e : IntKind.i8.wrap ((t : Int) * 2 % 256) = (((t * 2 % 256 : Nat) : Int) + 128) % 256 - 128 := by
  unfold IntKind.wrap
  simp only [IntKind.bits, IntKind.signed]
  simp
  omega
 rw [e]
 unfold Yk
 rw [show decide (128 ≤ (t : Int)) = decide (128 ≤ t) from decide_eq_decide.2 (by omega)]
theorem zdi (D : Nat → Prop) (aa : Option Addr) (cap : Nat) (bs : List UInt8) (bb : Nat) (uI : bb ≤ 64) (xw : 0 < bb) (w : World) (h : Lay.u8.slice.rd D w [.slice aa bs.length cap] bs) :
 Calls Tryz.prog 187 #[.slice aa bs.length cap, .int .i64 (bb : Int)] w fun e w' => e = .returned (.tuple #[.int .i64 (toS (sig bb bs).1), .int .i64 ((sig bb bs).2 : Int)]) ∧ w' = w := by
 have H := qh h
 have ao : bs.length ≤ 9223372036854775807 := by
  obtain ⟨a', c', ee, dh, bh⟩ := Lay.slice_form h
  simp only [maxLen] at bh; omega
 clear h
 go_enter Tryz.func187, Tryz.ntmps187
 go_wp2_with fail
 go_loopw [4, 5, 6, 7, 8, 9] (fun s4 s5 s6 s7 s8 s9 w' => ∃ (bz n : Nat) (r : List UInt8), s4 = .int .i64 (toS bz) ∧ s5 = .int .i64 n ∧ s6 = .int .i64 (7 * n : Nat) ∧ bz < 18446744073709551616 ∧ n ≤ 10 ∧ n + r.length = bs.length ∧ Hd (bs.drop n = r) ∧ Hd (sigG bb (7 * n) bz n r = sig bb bs) ∧ w' = w) (fun _ s5 _ _ _ _ _ => 11 - (intOf s5).toNat)
 case atStart =>
  exact ⟨0, 0, bs, rfl, rfl, rfl, by omega, by omega, by omega, rfl, rfl, rfl⟩
 case round =>
  obtain ⟨bz, n, r, rfl, rfl, rfl, gA, vz, hn, gd, hG, rfl⟩ := hrel
  cases r with
  | nil =>
   have dM := qh (show sig bb bs = (0, 0) from by rw [← hG.o]; simp [sigG])
   simp only [List.length_nil, Nat.add_zero] at hn
   clear hG gd
   go_wp2
   go_ret2
   rw [dM.o]
   exact ⟨rfl, rfl⟩
  | cons c r =>
   obtain ⟨ba, o, rfl, hA, e0⟩ := zfv H.o n (by simp only [List.length_cons] at hn; omega)
   have ec : bs[n]'(by simp only [List.length_cons] at hn; omega) = c := by
    have h1 := gd.o
    have h2 : (bs.drop n)[0]? = some c := by rw [h1]; rfl
    rw [List.getElem?_drop, Nat.add_zero] at h2
    exact List.getElem?_eq_some_iff.1 h2 |>.2
   rw [ec] at e0
   have ej : Hd (bs.drop (n + 1) = r) := by
    show _ = _
    rw [← List.drop_drop, gd.o]; rfl
   have co := hG.o
   simp only [sigG] at co
   have ht := c.toNat_lt
   simp only [List.length_cons] at hn
   generalize c.toNat = t at *
   have e7 := zdh t ht
   clear hA gd hG ec
   by_cases hs : bb ≤ 7 * n
   ·rw [if_pos hs] at co
    have dM := qh co
    clear co
    go_wp2
    go_ret2
    rw [← dM.o]
    exact ⟨rfl, rfl⟩
   ·rw [if_neg hs] at co
    have hst := zjU bz (7 * n) t gA
    have gH := hst.2
    have qc := hst.1
    clear hst
    by_cases hl : bb - 7 * n < 7
    ·have dl : decide ((bb : Int) - 7 * (n : Int) < 7) = true := by rw [decide_eq_true_eq]; omega
     have ng := i8w t (bb - 7 * n)
     generalize hq : IntKind.i8.wrap ((t : Int) * 2 % 256) / 2 ^ (bb - 7 * n) = q at ng
     cases fE : Yk (bb - 7 * n) t with
     | true =>
      rw [fE] at ng co
      rw [if_pos ⟨hl, rfl⟩] at co
      have dM := qh co
      clear co qc ej
      by_cases q0 : q = 0
      ·have d8 : decide (128 ≤ (t : Int)) = true := by subst q0; simpa using ng.symm
       subst q0
       clear ng
       go_wp2
       go_ret2
       rw [← dM.o]
       exact ⟨rfl, rfl⟩
      ·by_cases q1 : q = -1
       ·have d8 : decide (128 ≤ (t : Int)) = true := by subst q1; simpa using ng.symm
        subst q1
        clear ng
        go_wp2
        go_ret2
        rw [← dM.o]
        exact ⟨rfl, rfl⟩
       ·have b0 : (q == 0) = false := by rw [beq_eq_false_iff_ne]; exact q0
        have b1 : (q == -1) = false := by rw [beq_eq_false_iff_ne]; exact q1
        clear ng
        go_wp2
        go_ret2
        rw [← dM.o]
        exact ⟨rfl, rfl⟩
     | false =>
      rw [fE] at ng co
      rw [if_neg (fun h => nomatch h.2)] at co
      have pR : (q = 0 ∨ q = -1) ∧ t < 128 := by
       have := ng.symm
       simp only [Bool.or_eq_false_iff, Bool.and_eq_false_iff, decide_eq_false_iff_not] at this
       omega
      obtain ⟨wE, sV⟩ := pR
      have d8 : decide (128 ≤ (t : Int)) = false := by rw [decide_eq_false_iff_not]; omega
      have d9 : decide ((t : Int) < 128) = true := by rw [decide_eq_true_eq]; omega
      rw [if_pos sV] at co
      clear ng
      have Aw := hq
      rw [show (t : Int) * 2 % 256 = (t : Int) * 2 from by omega] at Aw
      rcases wE with rfl | rfl
      ·have dT := zeg (bz ||| (t % 128 * 2 ^ (7 * n) % 2 ^ 64)) (7 * n + 7) gH
       by_cases dO : 64 ≤ t
       ·have e6 : bits .and .u8 (t : Int) 64 = 64 := by rw [Z9 t (by omega), if_neg (by omega)]
        by_cases h7 : 7 * n + 7 < 64
        ·rw [if_pos ⟨dO, h7⟩] at co
         have iw : bits .or .i64 (toS (bz ||| t % 128 * 2 ^ (7 * n) % 18446744073709551616)) (wrap64 (-2 ^ (7 * n + 7))) = toS ((bz ||| t % 128 * 2 ^ (7 * n) % 18446744073709551616) ||| (18446744073709551616 - 2 ^ (7 * n + 7))) := dT h7
         have dM := qh co
         have d7 : decide (7 * (n : Int) + 7 < 64) = true := by rw [decide_eq_true_eq]; omega
         clear co ej dT
         go_wp2
         go_ret2
         rw [← dM.o]
         exact ⟨rfl, rfl⟩
        ·rw [if_neg (fun h => h7 h.2)] at co
         have dM := qh co
         have d7 : decide (7 * (n : Int) + 7 < 64) = false := by rw [decide_eq_false_iff_not]; omega
         clear co ej dT
         go_wp2
         go_ret2
         rw [← dM.o]
         exact ⟨rfl, rfl⟩
       ·have e6 : bits .and .u8 (t : Int) 64 = 0 := by rw [Z9 t (by omega), if_pos (by omega)]
        rw [zgq t (by omega)] at Aw
        rw [if_neg (fun h => dO h.1)] at co
        have dM := qh co
        clear co ej dT
        go_wp2
        go_ret2
        rw [← dM.o]
        exact ⟨rfl, rfl⟩
      ·have dT := zeg (bz ||| (t % 128 * 2 ^ (7 * n) % 2 ^ 64)) (7 * n + 7) gH
       by_cases dO : 64 ≤ t
       ·have e6 : bits .and .u8 (t : Int) 64 = 64 := by rw [Z9 t (by omega), if_neg (by omega)]
        by_cases h7 : 7 * n + 7 < 64
        ·rw [if_pos ⟨dO, h7⟩] at co
         have iw : bits .or .i64 (toS (bz ||| t % 128 * 2 ^ (7 * n) % 18446744073709551616)) (wrap64 (-2 ^ (7 * n + 7))) = toS ((bz ||| t % 128 * 2 ^ (7 * n) % 18446744073709551616) ||| (18446744073709551616 - 2 ^ (7 * n + 7))) := dT h7
         have dM := qh co
         have d7 : decide (7 * (n : Int) + 7 < 64) = true := by rw [decide_eq_true_eq]; omega
         clear co ej dT
         go_wp2
         go_ret2
         rw [← dM.o]
         exact ⟨rfl, rfl⟩
        ·rw [if_neg (fun h => h7 h.2)] at co
         have dM := qh co
         have d7 : decide (7 * (n : Int) + 7 < 64) = false := by rw [decide_eq_false_iff_not]; omega
         clear co ej dT
         go_wp2
         go_ret2
         rw [← dM.o]
         exact ⟨rfl, rfl⟩
       ·have e6 : bits .and .u8 (t : Int) 64 = 0 := by rw [Z9 t (by omega), if_pos (by omega)]
        rw [zgq t (by omega)] at Aw
        rw [if_neg (fun h => dO h.1)] at co
        have dM := qh co
        clear co ej dT
        go_wp2
    ·have dl : decide ((bb : Int) - 7 * (n : Int) < 7) = false := by rw [decide_eq_false_iff_not]; omega
     rw [if_neg (fun h => hl h.1)] at co
     by_cases h128 : t < 128
     ·rw [if_pos h128] at co
      have d9 : decide ((t : Int) < 128) = true := by rw [decide_eq_true_eq]; omega
      have dT := zeg (bz ||| (t % 128 * 2 ^ (7 * n) % 2 ^ 64)) (7 * n + 7) gH
      by_cases dO : 64 ≤ t
      ·have e6 : bits .and .u8 (t : Int) 64 = 64 := by rw [Z9 t (by omega), if_neg (by omega)]
       by_cases h7 : 7 * n + 7 < 64
       ·rw [if_pos ⟨dO, h7⟩] at co
        have iw : bits .or .i64 (toS (bz ||| t % 128 * 2 ^ (7 * n) % 18446744073709551616)) (wrap64 (-2 ^ (7 * n + 7))) = toS ((bz ||| t % 128 * 2 ^ (7 * n) % 18446744073709551616) ||| (18446744073709551616 - 2 ^ (7 * n + 7))) := dT h7
        have dM := qh co
        have d7 : decide (7 * (n : Int) + 7 < 64) = true := by rw [decide_eq_true_eq]; omega
        clear co ej dT
        go_wp2
        go_ret2
        rw [← dM.o]
        exact ⟨rfl, rfl⟩
       ·rw [if_neg (fun h => h7 h.2)] at co
        have dM := qh co
        have d7 : decide (7 * (n : Int) + 7 < 64) = false := by rw [decide_eq_false_iff_not]; omega
        clear co ej dT
        go_wp2
      ·have e6 : bits .and .u8 (t : Int) 64 = 0 := by rw [Z9 t (by omega), if_pos (by omega)]
       rw [if_neg (fun h => dO h.1)] at co
       have dM := qh co
       clear co ej dT
       go_wp2
       go_ret2
       rw [← dM.o]
       exact ⟨rfl, rfl⟩
     ·rw [if_neg h128] at co
      have dM := qh co
      have d9 : decide ((t : Int) < 128) = false := by rw [decide_eq_false_iff_not]; omega
      clear co h128
      go_wp2
      go_roundw
      case rel => exact ⟨_, n + 1, r, rfl, rfl, rfl, gH, by omega, by omega, ej, by show _ = _; rw [← dM.o, show 7 * (n + 1) = 7 * n + 7 from rfl], trivial⟩
      case measure => simp [intOf]; omega
theorem ze2 (bb : Nat) : ∀ (sh bz n : Nat) (b : List UInt8), (unsG bb sh bz n b).2 ≤ n + b.length
 | _, _, _, [] => nzQ _
 | sh, bz, n, c :: r => by
  have ih := ze2 bb (sh + 7) (bz ||| (c.toNat % 128 * 2 ^ sh % 2 ^ 64)) (n + 1) r
  simp only [unsG, List.length_cons]
  split
  ·exact nzQ _
  ·split
   ·exact nzQ _
   ·split
    ·show n + 1 ≤ _; omega
    ·omega
theorem zi8 (bb : Nat) (b : List UInt8) : (uns bb b).2 ≤ b.length := by have := ze2 bb 0 0 0 b; unfold uns; omega
theorem ze3 (bb : Nat) : ∀ (sh bz n : Nat) (b : List UInt8), (sigG bb sh bz n b).2 ≤ n + b.length
 | _, _, _, [] => nzQ _
 | sh, bz, n, c :: r => by
  have ih := ze3 bb (sh + 7) (bz ||| (c.toNat % 128 * 2 ^ sh % 2 ^ 64)) (n + 1) r
  simp only [sigG, List.length_cons]
  split
  ·exact nzQ _
  ·split
   ·exact nzQ _
   ·split
    ·show n + 1 ≤ _; omega
    ·omega
theorem zgr (bb : Nat) (b : List UInt8) : (sig bb b).2 ≤ b.length := by have := ze3 bb 0 0 0 b; unfold sig; omega
theorem zgs (bb : Nat) : ∀ (sh bz n : Nat) (b : List UInt8), bz < 2 ^ 64 → (unsG bb sh bz n b).1 < 2 ^ 64
 | _, _, _, [], _ => Nat.pow_pos (by decide)
 | sh, bz, n, c :: r, h => by
  have hz : bz ||| (c.toNat % 128 * 2 ^ sh % 2 ^ 64) < 2 ^ 64 := Nat.or_lt_two_pow h (Nat.mod_lt _ (by decide))
  have ih := zgs bb (sh + 7) (bz ||| (c.toNat % 128 * 2 ^ sh % 2 ^ 64)) (n + 1) r hz
  simp only [unsG]
  split
  ·decide
  ·split
   ·decide
   ·split
    ·exact hz
    ·exact ih
theorem zjV (bb : Nat) (b : List UInt8) : (uns bb b).1 < 18446744073709551616 := zgs bb 0 0 0 b (by decide)
theorem zgt (bb : Nat) : ∀ (sh bz n : Nat) (b : List UInt8), bz < 2 ^ 64 → (sigG bb sh bz n b).1 < 2 ^ 64
 | _, _, _, [], _ => Nat.pow_pos (by decide)
 | sh, bz, n, c :: r, h => by
  have hz : bz ||| (c.toNat % 128 * 2 ^ sh % 2 ^ 64) < 2 ^ 64 := Nat.or_lt_two_pow h (Nat.mod_lt _ (by decide))
  have ih := zgt bb (sh + 7) (bz ||| (c.toNat % 128 * 2 ^ sh % 2 ^ 64)) (n + 1) r hz
  have hp : 0 < 2 ^ (sh + 7) := Nat.pow_pos (by decide)
  simp only [sigG]
  split
  ·decide
  ·split
   ·decide
   ·split
    ·show (if _ then _ else _) < _
     split
     ·exact Nat.or_lt_two_pow hz (by omega)
     ·exact hz
    ·exact ih
theorem zgu (bb : Nat) (b : List UInt8) : (sig bb b).1 < 18446744073709551616 := zgt bb 0 0 0 b (by decide)
theorem zN (D : Nat → Prop) (g : Nat) (lo : Bool) (s : St) (w : World) (h : SpR D g lo s w) (hl : s.b.length ≤ 140737488355328) :
 Calls Tryz.prog 51 #[.pointer (some ⟨g, 0, none⟩)] w fun e w' => e = .returned (.int .u32 ((zd s).1 : Int)) ∧ SpR D g lo (zd s).2 w' ∧ Fr (fun k => k = g) w w' := by
 have hS := qh h
 obtain ⟨aa, cap, hb, h1, h2⟩ := h
 have hc := hb.cell
 have hf := hb.frz
 have hN := zi8 32 s.b
 have hV := zjV 32 s.b
 have HC := qh (zbM D aa cap s.b 32 (by decide) (by decide) w h1)
 have HE := qh (zbd D aa cap s.b 32 w h1 hl)
 have HD := qh (fun n hn => SpR.drop (v := s.v) hb h1 h2 n hn)
 obtain ⟨a', c', ee, dh, bh⟩ := Lay.slice_form h1
 simp only [Value.slice.injEq] at ee
 obtain ⟨-, -, rfl⟩ := ee
 have fA : (cap : Int) ≤ 9223372036854775807 := by simp only [maxLen] at bh; omega
 have hR := qh (show zd s = if (uns 32 s.b).2 = 0 then (0, s.fail (if jO 32 s.b then 3 else 2)) else ((uns 32 s.b).1 % 4294967296, ⟨s.b.drop (uns 32 s.b).2, s.v⟩) from rfl)
 generalize (uns 32 s.b).1 = q at *
 generalize (uns 32 s.b).2 = n at *
 generalize hE : jO 32 s.b = ee at *
 clear hb h1 h2 bh hl hE
 go_enter Tryz.func51, Tryz.ntmps51
 go_wp2_with fail
 refine HC.o.mono ?_
 rintro e w1 ⟨rfl, rfl⟩
 by_cases hn : n = 0
 ·subst hn
  have dZ := qh (show zd s = (0, s.fail (if ee then 3 else 2)) from hR.o)
  clear hR
  go_wp2_with fail
  refine HE.o.mono ?_
  rintro e w1 ⟨rfl, rfl⟩
  cases ee with
  | true =>
   go_wp2_with fail
   refine (zr D g lo s 3 _ hS.o).mono ?_
   rintro e w1 ⟨rfl, k1, k2⟩
   have HK := qh (anQ k1 k2)
   clear k1 k2 hc hf
   go_wp2
   go_ret
   rw [dZ.o]
   exact ⟨rfl, HK.o.1, HK.o.2⟩
  | false =>
   go_wp2_with fail
   refine (zr D g lo s 2 _ hS.o).mono ?_
   rintro e w1 ⟨rfl, k1, k2⟩
   have HK := qh (anQ k1 k2)
   clear k1 k2 hc hf
   go_wp2
   go_ret
   rw [dZ.o]
   exact ⟨rfl, HK.o.1, HK.o.2⟩
 ·have dZ := qh (show zd s = (q % 4294967296, ⟨s.b.drop n, s.v⟩) from hR.o.trans (if_neg hn))
  clear hR
  go_wp2
  ·go_ret
   rw [dZ.o]
   exact ⟨by simp, (HD.o n hN).2 (by omega), zh w1 ⟨g, 0, none⟩ _⟩
  ·go_ret
   rw [dZ.o]
   exact ⟨by simp, (HD.o n hN).1, zh w1 ⟨g, 0, none⟩ _⟩
theorem zJ (s : St) : (zd s).2.b.length ≤ s.b.length := by
 unfold zd St.fail
 split
 ·exact nzQ _
 ·simp
theorem zX (s : St) : (zd s).1 < 4294967296 := by
 unfold zd
 split
 ·show (0 : Nat) < 4294967296; omega
 ·exact Nat.mod_lt _ (by decide)
theorem zas (bb : Nat) (uI : bb = 32 ∨ bb = 64) (D : Nat → Prop) (g : Nat) (lo : Bool) (s : St) (w : World) (h : SpR D g lo s w) (hl : s.b.length ≤ 140737488355328) :
 Calls Tryz.prog 180 #[.pointer (some ⟨g, 0, none⟩), .int .i64 (bb : Int)] w fun e w' => e = .returned (.int .u64 ((zC bb s).1 : Int)) ∧ SpR D g lo (zC bb s).2 w' ∧ Fr (fun k => k = g) w w' := by
 have hS := qh h
 obtain ⟨aa, cap, hb, h1, h2⟩ := h
 have hc := hb.cell
 have hf := hb.frz
 have hN := zgr bb s.b
 have hV := zgu bb s.b
 have HC := qh (zdi D aa cap s.b bb (by omega) (by omega) w h1)
 have HE := qh (zbd D aa cap s.b bb w h1 hl)
 have HD := qh (fun n hn => SpR.drop (v := s.v) hb h1 h2 n hn)
 obtain ⟨a', c', ee, dh, bh⟩ := Lay.slice_form h1
 simp only [Value.slice.injEq] at ee
 obtain ⟨-, -, rfl⟩ := ee
 have fA : (cap : Int) ≤ 9223372036854775807 := by simp only [maxLen] at bh; omega
 have hR := qh (show zC bb s = if (sig bb s.b).2 = 0 then (0, s.fail (if jO bb s.b then 3 else 2)) else ((if bb = 32 then (sig bb s.b).1 % 4294967296 else (sig bb s.b).1), ⟨s.b.drop (sig bb s.b).2, s.v⟩) from rfl)
 generalize (sig bb s.b).1 = q at *
 generalize (sig bb s.b).2 = n at *
 generalize hE : jO bb s.b = ee at *
 have qp : IntKind.u64.wrap (toS q) = (q : Int) := by rw [IntKind.wrap_u64]; exact zcD hV
 have CZ : toS q % 4294967296 = ((q % 4294967296 : Nat) : Int) := by unfold toS; omega
 have AI : -9223372036854775808 ≤ toS q ∧ toS q < 9223372036854775808 := by unfold toS; omega
 generalize toS q = z at *
 clear hb h1 h2 bh hl hE
 go_enter Tryz.func180, Tryz.ntmps180
 go_wp2_with fail
 refine HC.o.mono ?_
 rintro e w1 ⟨rfl, rfl⟩
 by_cases hn : n = 0
 ·subst hn
  have dZ := qh (show zC bb s = (0, s.fail (if ee then 3 else 2)) from hR.o)
  clear hR
  go_wp2_with fail
  refine HE.o.mono ?_
  rintro e w1 ⟨rfl, rfl⟩
  cases ee with
  | true =>
   go_wp2_with fail
   refine (zr D g lo s 3 _ hS.o).mono ?_
   rintro e w1 ⟨rfl, k1, k2⟩
   have HK := qh (anQ k1 k2)
   clear k1 k2 hc hf
   go_wp2
   go_ret
   rw [dZ.o]
   exact ⟨rfl, HK.o.1, HK.o.2⟩
  | false =>
   go_wp2_with fail
   refine (zr D g lo s 2 _ hS.o).mono ?_
   rintro e w1 ⟨rfl, k1, k2⟩
   have HK := qh (anQ k1 k2)
   clear k1 k2 hc hf
   go_wp2
   go_ret
   rw [dZ.o]
   exact ⟨rfl, HK.o.1, HK.o.2⟩
 ·have dZ := qh (hR.o.trans (if_neg hn))
  clear hR
  rcases uI with rfl | rfl
  ·go_wp2
   ·go_ret
    rw [dZ.o]
    exact ⟨by simp, (HD.o n hN).2 (by omega), zh w1 ⟨g, 0, none⟩ _⟩
   ·go_ret
    rw [dZ.o]
    exact ⟨by simp, (HD.o n hN).1, zh w1 ⟨g, 0, none⟩ _⟩
  ·go_wp2
   ·go_ret
    rw [dZ.o]
    exact ⟨by simp, (HD.o n hN).2 (by omega), zh w1 ⟨g, 0, none⟩ _⟩
   ·go_ret
    rw [dZ.o]
    exact ⟨by simp, (HD.o n hN).1, zh w1 ⟨g, 0, none⟩ _⟩
variable {D : Nat → Prop} {g : Nat} {lo : Bool} {s : St} {w : World}
theorem ye (h : SpR D g lo s w) (hl : s.b.length ≤ 140737488355328) :
 Calls Tryz.prog 96 #[.pointer (some ⟨g, 0, none⟩)] w fun e w' => e = .returned (.int .i64 ((zv s).1 : Int)) ∧ SpR D g lo (zv s).2 w' ∧ Fr (fun k => k = g) w w' := by
 have HC := qh (zN D g lo s w h hl)
 have ah := zX s
 have hR := qh (show zv s = if (zd s).2.b.length < (zd s).1 then (0, if 10000 < (zd s).1 then ⟨[], 2⟩ else (zd s).2.fail 3) else zd s from rfl)
 have kg := zJ s
 generalize zd s = r at *
 obtain ⟨n, s1⟩ := r
 dsimp only at *
 clear h
 go_enter Tryz.func96, Tryz.ntmps96
 go_wp2_with fail
 refine HC.o.mono ?_
 rintro e w1 ⟨rfl, h1, hF⟩
 have H1 := qh (anQ h1 hF)
 obtain ⟨aa, cap, hb, h2, h3⟩ := h1
 have hc := hb.cell
 clear hb h2 h3 hF HC
 by_cases hs : s1.b.length < n
 ·have dZ := qh (hR.o.trans (if_pos hs))
  clear hR
  go_wp2_with fail
  refine (zr D g lo s1 3 _ H1.o.1).mono ?_
  rintro e w2 ⟨rfl, k1, k2⟩
  have HK := qh (anQ k1 (H1.o.2.trans k2 (fun _ _ h => h) (fun _ _ h => h)))
  obtain ⟨BD, eV, hb, h2, h3⟩ := k1
  have hf := hb.frz
  have fM := hb.cell
  have HB := qh (anQ hb (anQ h2 h3))
  clear hb h2 h3 k2 hc
  by_cases h4 : 10000 < n
  ·rw [if_pos h4] at dZ
   go_wp2
   go_ret
   rw [dZ.o]
   refine ⟨rfl, ?_, HK.o.2.trans (zh w2 ⟨g, 1, none⟩ _) (fun _ _ h => h) (fun _ _ h => h)⟩
   have hz : (s1.fail 3).b = [] := rfl
   have := HB.o.1.set 1 (.int .i64 2)
   refine SpR.mk (aa := BD) (cap := eV) (w := w2) ?_ ?_ HB.o.2.2 (zh w2 ⟨g, 1, none⟩ _)
   ·simpa [hz] using this
   ·have := HB.o.2.1
    simpa [hz] using this
  ·rw [if_neg h4] at dZ
   go_wp2
   go_ret
   rw [dZ.o]
   exact ⟨rfl, HK.o.1, HK.o.2⟩
 ·have dZ := qh (hR.o.trans (if_neg hs))
  clear hR
  go_wp2
  go_ret
  rw [dZ.o]
  exact ⟨rfl, H1.o.1, H1.o.2⟩
theorem jP (h : SpR D g lo s w) :
 Calls Tryz.prog 99 #[.pointer (some ⟨g, 0, none⟩)] w fun e w' => e = .returned (.int .i64 (zj s).1) ∧ SpR D g lo (zj s).2 w' ∧ Fr (fun k => k = g) w w' := by
 have HC := qh (yo h)
 have ah : (zn s).1 < 256 := by
  unfold zn
  cases s.b with
  | nil => show (0 : Nat) < 256; omega
  | cons c r => exact c.toNat_lt
 have hR := qh (show zj s = (127 - ((zn s).1 : Int), if (zn s).2.v = 0 ∧ ((zn s).1 < 124 ∨ 127 < (zn s).1) then (zn s).2.fail 1 else (zn s).2) from rfl)
 generalize zn s = r at *
 obtain ⟨n, s1⟩ := r
 dsimp only at *
 clear h
 go_enter Tryz.func99, Tryz.ntmps99
 go_wp2_with fail
 refine HC.o.mono ?_
 rintro e w1 ⟨rfl, h1, hF⟩
 have H1 := qh (anQ h1 hF)
 clear h1 hF HC
 go_wp2_with fail
 refine (yh H1.o.1).mono ?_
 rintro e w2 ⟨rfl, rfl⟩
 by_cases hv : s1.v = 0
 ·rw [decide_eq_true hv]
  by_cases hn : n < 124
  ·have dZ := qh (hR.o.trans (by rw [if_pos ⟨hv, .inl hn⟩]))
   clear hR
   go_wp2_with fail
   refine (zr D g lo s1 1 _ H1.o.1).mono ?_
   rintro e w2 ⟨rfl, k1, k2⟩
   have HK := qh (anQ k1 (H1.o.2.trans k2 (fun _ _ h => h) (fun _ _ h => h)))
   clear k1 k2
   go_wp2
   go_ret
   rw [dZ.o]
   exact ⟨rfl, HK.o.1, HK.o.2⟩
  ·by_cases eU : 127 < n
   ·have dZ := qh (hR.o.trans (by rw [if_pos ⟨hv, .inr eU⟩]))
    clear hR
    go_wp2_with fail
    refine (zr D g lo s1 1 _ H1.o.1).mono ?_
    rintro e w2 ⟨rfl, k1, k2⟩
    have HK := qh (anQ k1 (H1.o.2.trans k2 (fun _ _ h => h) (fun _ _ h => h)))
    clear k1 k2
    go_wp2
    go_ret
    rw [dZ.o]
    exact ⟨rfl, HK.o.1, HK.o.2⟩
   ·have dZ := qh (hR.o.trans (by rw [if_neg (fun h => h.2.elim hn eU)]))
    clear hR
    go_wp2
    go_ret
    rw [dZ.o]
    exact ⟨rfl, H1.o.1, H1.o.2⟩
 ·rw [decide_eq_false hv]
  have dZ := qh (hR.o.trans (by rw [if_neg (fun h => hv h.1)]))
  clear hR hv
  go_wp2
  go_ret
  rw [dZ.o]
  exact ⟨rfl, H1.o.1, H1.o.2⟩
namespace Lay
variable {α : Type}
theorem rd_take {l : Lay α} {A : Nat → Prop} {w : World} {aa : Option Addr} {cap m n c : Nat} {xs : List α} (h : l.slice.rd A w [.slice aa m cap] xs) (hn : n ≤ xs.length) (hc : n ≤ c) (bh : c ≤ maxLen) :
 l.slice.rd A w [.slice aa n c] (xs.take n) := by
 obtain ⟨a', eV, e, h1, h2, h3⟩ := h
 simp only [List.cons.injEq, Value.slice.injEq, and_true] at e
 obtain ⟨rfl, rfl, rfl⟩ := e
 have hl : (xs.take n).length = n := by rw [ltQ]; omega
 refine ⟨aa, c, by rw [hl], by omega, bh, fun hp => ?_⟩
 obtain ⟨b, o, bO, T, fz, flat, rfl, hA, hh, cr, rm⟩ := h3 (by omega)
 rw [← List.take_append_drop n xs] at cr
 obtain ⟨f1, f2, rfl, k1, k2⟩ := all_split cr
 exact ⟨b, o, bO, T, fz, f1, rfl, hA, hh, k1, fun j hj => by rw [rm j (by rw [laQ]; omega), List.getElem?_append_left hj]⟩
theorem rd_dropG {l : Lay α} {A : Nat → Prop} {w : World} {aa : Option Addr} {cap m n : Nat} {xs : List α} (h : l.slice.rd A w [.slice aa m cap] xs) (hn : n ≤ xs.length) :
 l.slice.rd A w [.slice (aa.map (·.add (n * l.size))) (xs.length - n) (cap - n)] (xs.drop n) := by
 obtain ⟨a', eV, e, h1, h2, h3⟩ := h
 simp only [List.cons.injEq, Value.slice.injEq, and_true] at e
 obtain ⟨rfl, rfl, rfl⟩ := e
 refine ⟨_, _, by rw [ldQ], by rw [ldQ]; omega, by omega, fun hp => ?_⟩
 rw [ldQ] at hp
 obtain ⟨b, o, bO, T, fz, flat, rfl, hA, hh, cr, rm⟩ := h3 (by omega)
 rw [← List.take_append_drop n xs] at cr
 obtain ⟨f1, f2, rfl, k1, k2⟩ := all_split cr
 have iw : f1.length = n * l.size := by rw [all_len k1, ltQ, Nat.min_eq_left hn]
 refine ⟨b, o + n * l.size, bO, T, fz, f2, by rw [Option.map_some, jL], hA, hh, k2, fun j hj => ?_⟩
 rw [Nat.add_assoc, rm _ (by rw [laQ]; omega), List.getElem?_append_right (by omega), iw, Nat.add_sub_cancel_left]
theorem rd_new1 {l : Lay α} {A A' : Nat → Prop} {w : World} {cs : Array Value} {T : TypeId} {x : α} (h : l.rd A w cs.toList x) (hA : ∀ k, A k → k < w.heap.size) (h1 : ∀ k, A k → A' k) (h2 : A' w.heap.size) :
 l.slice.rd A' (w.alloc (.cells cs T)) [.slice (some ⟨w.heap.size, 0, none⟩) 1 1] [x] := by
 refine ⟨_, 1, rfl, Nat.le_refl _, by decide, fun _ => ⟨w.heap.size, 0, cs, T, (0, 0), cs.toList, rfl, h2, heap_alloc_new w _, ?_, fun j hj => ?_⟩⟩
 ·refine all_single (l.mono (l.frame h fun k hk => ?_) h1)
  exact (za w _).block k (hA k hk) (fun h => h)
 ·rw [Nat.zero_add]; simp
theorem rd_end {l : Lay α} {A : Nat → Prop} {w : World} {aa : Option Addr} {c : Nat} (hc : c ≤ maxLen) : l.slice.rd A w [.slice aa 0 c] [] := ⟨aa, c, rfl, nzQ _, hc, fun h => absurd h (by simp)⟩
theorem slice_cells {l : Lay α} {A : Nat → Prop} {w : World} {aa : Option Addr} {m cap : Nat} {xs : List α} (h : l.slice.rd A w [.slice aa m cap] xs) : m = xs.length ∧ ∃ flat, l.all A w flat xs ∧ flat.length = m * l.size ∧ ∀ j u, flat[j]? = some u → ∃ a, aa = some a ∧ w.cell? (a.add j) = some u := by
 obtain ⟨a', eV, e, h1, h2, h3⟩ := h
 simp only [List.cons.injEq, Value.slice.injEq, and_true] at e
 obtain ⟨rfl, rfl, rfl⟩ := e
 rcases Nat.eq_zero_or_pos xs.length with h0 | h0
 ·have : xs = [] := List.eq_nil_of_length_eq_zero h0
  subst this
  exact ⟨rfl, [], rfl, by simp, fun j u hj => by simp at hj⟩
 ·obtain ⟨b, o, bO, T, fz, flat, rfl, hA, hh, cr, rm⟩ := h3 h0
  refine ⟨rfl, flat, cr, all_len cr, fun j u hj => ⟨_, rfl, ?_⟩⟩
  have ah : j < flat.length := (List.getElem?_eq_some_iff.1 hj).1
  rw [jL, Lib.cell_of_heap hh, rm j ah, hj]
end Lay
section
variable {P : Program} {ar : Array Oper} {rest : List Oper} {o : Oper} {a : Act} {Q : Exit → Act → World → Prop} {K : Act → World → Prop}
theorem jp {α : Type} (l : Lay α) (dT : l.flat) {W : World} (lo : Nat) (s x : Operand) (t e : TypeId) (z : Value) (bytes : Nat)
 (ho : o.op = .call { callee := .builtin .append, args := #[s, x], argTypes := #[t, t] })
 (ht : P.underlying t = some (.slice e)) (bj : (P.info? e).map (fun i => (i.zero, i.size, i.bytes)) = some (some z, l.size, bytes)) (hz : z.cells.size = l.size) (ct : 0 < bytes)
 (xs ys : List α) (a1 a2 : Option Addr) (n m c : Nat) {A B : Nat → Prop} (hs : a.eval s = .slice a1 n n) (hx : a.eval x = .slice a2 m c)
 (h1 : l.slice.rd A W [.slice a1 n n] xs) (h2 : l.slice.rd B W [.slice a2 m c] ys) (hy : 0 < ys.length) (ap : lo ≤ W.heap.size) (hl : (xs.length + ys.length) * bytes ≤ 140737488355328)
 (h : ∀ v1 w1, Own l e lo w1 v1 (xs ++ ys) → Ext W w1 → K (a.put o.dst v1) w1) : o.wp P a W K Q := by
 obtain ⟨i0, hi, kY⟩ := Option.map_eq_some_iff.1 bj
 simp only [Prod.mk.injEq] at kY
 obtain ⟨fh, iu, nz⟩ := kY
 obtain ⟨rfl, f1, k1, rZ, Bs⟩ := Lay.slice_cells h1
 obtain ⟨rfl, f2, k2, ug, Dp⟩ := Lay.slice_cells h2
 have ao : xs.length + ys.length ≤ 140737488355328 := nlQ (Nat.le_mul_of_pos_right _ ct) hl
 have xF : (Builtin.firstCells i0.size xs.length (.slice a1 xs.length xs.length)).run P W.drew = .ok f1.toArray W.drew := by
  rw [iu]
  cases a1 with
  | none =>
   have h0 : f1 = [] := by
    cases f1 with
    | nil => rfl
    | cons u r => obtain ⟨q, hq, -⟩ := Bs 0 u rfl; cases hq
   have hn : xs.length * l.size = 0 := by rw [← rZ, h0]; rfl
   have := run_firstCells_none W.drew l.size xs.length xs.length xs.length (P := P)
   subst h0
   rcases Nat.eq_zero_or_pos xs.length with h0 | h0
   ·rw [h0]; exact run_firstCells_none W.drew l.size 0 0 0
   ·exact run_firstCells_none W.drew l.size _ _ _
  | some q =>
   exact run_firstCells_some W.drew l.size xs.length q xs.length xs.length f1 rZ (fun j u hj => by
    obtain ⟨q', e, hc⟩ := Bs j u hj
    obtain rfl := Option.some.inj e
    simpa using hc)
 obtain ⟨q2, rfl⟩ : ∃ q2, a2 = some q2 := by
  cases a2 with
  | some q => exact ⟨q, rfl⟩
  | none =>
   exfalso
   obtain ⟨a', eV, e, -, -, h3⟩ := h2
   simp only [List.cons.injEq, Value.slice.injEq, and_true] at e
   obtain ⟨rfl, -, -⟩ := e
   obtain ⟨_, _, _, _, _, _, e, _⟩ := h3 hy
   cases e
 have nM := Src.ofSlice (P := P) W (size := i0.size) (tx := t) ht q2 ys.length c f2 (by rw [iu]; exact ug) (fun j u hj => by
  obtain ⟨q', e, hc⟩ := Dp j u hj
  obtain rfl := Option.some.inj e
  exact hc) (Lay.all_one k2)
 have mu := run_append_grow_src (P := P) W t t o.type e i0 z ht hi fh a1 xs.length xs.length f1 xF (.slice (some q2) ys.length c) ys.length f2 nM (by omega) (by omega) (growslice_fits (by omega) (by rw [nz]; exact hl))
 unfold Oper.wp execOp
 simp only [ho, resolve, invoke, builtin, Sem.run_bind, Sem.run_pure, Result.andThen_ok, List.map_toArray, List.map_cons, List.map_nil, hs, hx, mu]
 show K _ _
 have aZ := grownCap_ge W (xs.length + ys.length) xs.length e
 have bh := grownCap_le_maxLen W (xs.length + ys.length) xs.length e (by simp only [maxLen]; omega)
 refine h _ _ ⟨f1 ++ f2, ⟨by rw [laQ, laQ, rZ, ug, Nat.add_mul], .inr ⟨W.heap.size, _, _, by rw [laQ], ap, heap_alloc_new W.drew _, ?_, bh, ?_, ?_⟩⟩, Lay.all_append (Lay.all_flat dT k1) (Lay.all_flat dT k2)⟩ (Ext.trans (zb W) (za _ _))
 ·rw [laQ]; exact aZ
 ·rw [Array.size_append, List.size_toArray, laQ, rZ, ug, size_zeroCells, hz, ← Nat.add_mul, ← Nat.add_mul]
  congr 1
  omega
 ·rw [Array.toList_append, List.take_append_of_le_length (by simp [rZ, ug, Nat.add_mul]), List.take_of_length_le (by simp [rZ, ug, Nat.add_mul])]
end
theorem Jy (n : Nat) (hn : n < 4294967296) (D : Nat → Prop) (g : Nat) (lo : Bool) (s : St) (w : World) (h : SpR D g lo s w) (hl : s.b.length ≤ 140737488355328) :
 Calls Tryz.prog 52 #[.pointer (some ⟨g, 0, none⟩), .int .u32 (n : Int)] w fun e w' => ∃ a m c, e = .returned (.slice a m c) ∧ Lay.u8.slice.rd D w' [.slice a m c] (zW n s).1 ∧ SpR D g lo (zW n s).2 w' ∧ Fr (fun k => k = g) w w' := by
 have hS := qh h
 obtain ⟨aa, cap, hb, h1, h2⟩ := h
 have hc := hb.cell
 have hf := hb.frz
 obtain ⟨a', c', ee, dh, bh⟩ := Lay.slice_form h1
 simp only [Value.slice.injEq] at ee
 obtain ⟨-, -, rfl⟩ := ee
 have fA : (cap : Int) ≤ 9223372036854775807 := by simp only [maxLen] at bh; omega
 have dN : IntKind.u64.wrap (s.b.length : Int) = (s.b.length : Int) := by rw [IntKind.wrap_u64]; omega
 have dQ : IntKind.u64.wrap (n : Int) = (n : Int) := by rw [IntKind.wrap_u64]; omega
 have H := qh (anQ hb (anQ h1 h2))
 by_cases ah : s.b.length < n
 ·have d1 : decide ((s.b.length : Int) < (n : Int)) = true := decide_eq_true (by omega)
  clear hb h1 h2 hf
  by_cases lh : 1048576 < n
  ·have d2 : decide ((1048576 : Int) < (n : Int)) = true := decide_eq_true (by omega)
   have hR := qh (show zW n s = ([], ⟨[], 2⟩) from by unfold zW; rw [if_pos ah, if_pos lh])
   go_enter Tryz.func52, Tryz.ntmps52
   go_wp2_with fail
   refine (zr D g lo s 3 w hS.o).mono ?_
   rintro e w1 ⟨rfl, ⟨ab, cb, kb, k1, k2⟩, kf⟩
   have ek := kb.cell
   have iw := kb.frz
   have HK := qh (anQ kb (anQ k1 (anQ k2 kf)))
   clear kb k1 k2 kf hc
   go_wp2
   go_ret
   have hs := zh w1 ⟨g, 1, none⟩ (.int .i64 2)
   refine ⟨_, _, _, rfl, ?_, ?_, Fr.trans HK.o.2.2.2 hs (fun _ _ h => h) (fun _ _ h => h)⟩
   ·rw [hR.o]; exact zbY (by decide)
   ·rw [hR.o]
    refine SpR.mk (aa := ab) (cap := cb) ?_ (s := ⟨[], 2⟩) HK.o.2.1 HK.o.2.2.1 hs
    have := HK.o.1.set 1 (.int .i64 2)
    simpa [St.fail] using this
  ·have d2 : decide ((1048576 : Int) < (n : Int)) = false := decide_eq_false (by omega)
   have hR := qh (show zW n s = ([], s.fail 3) from by unfold zW; rw [if_pos ah, if_neg lh])
   go_enter Tryz.func52, Tryz.ntmps52
   go_wp2_with fail
   refine (zr D g lo s 3 w hS.o).mono ?_
   rintro e w1 ⟨rfl, k1, kf⟩
   have HK := qh (anQ k1 kf)
   clear k1 kf hc
   go_wp2
   go_ret
   exact ⟨_, _, _, rfl, by rw [hR.o]; exact zbY (by decide), by rw [hR.o]; exact HK.o.1, HK.o.2⟩
 ·have d1 : decide ((s.b.length : Int) < (n : Int)) = false := decide_eq_false (by omega)
  have kJ : n ≤ s.b.length := by omega
  have tt : (n : Int) ≤ (cap : Int) := by omega
  have Eh : (n : Int) ≤ (s.b.length : Int) := by omega
  have hR := qh (show zW n s = (s.b.take n, ⟨s.b.drop n, s.v⟩) from by unfold zW; rw [if_neg ah])
  have HD := qh (anQ (SpR.drop (b := s.b) (v := s.v) hb h1 h2 n kJ) (anQ kJ bh))
  have qQ : Int.toNat ((s.b.length : Int) - (n : Int)) = s.b.length - n := by omega
  clear hb h1 h2 hS
  go_enter Tryz.func52, Tryz.ntmps52
  go_wp2
  ·go_ret
   have hs := zh w ⟨g, 0, none⟩ (.slice aa (s.b.length - n) 0)
   refine ⟨_, _, _, rfl, ?_, ?_, hs⟩
   ·rw [hR.o]
    exact Lay.fr (Lay.rd_take H.o.2.1 HD.o.2.1 (Nat.le_refl _) (by have := HD.o.2; omega)) hs (fun k hk => H.o.2.2 k hk)
   ·rw [hR.o]
    exact HD.o.1.2 (by omega)
  ·go_ret
   have hs := zh w ⟨g, 0, none⟩ (.slice (aa.map (·.add n)) (s.b.length - n) (cap - n))
   refine ⟨_, _, _, rfl, ?_, ?_, hs⟩
   ·rw [hR.o]
    exact Lay.fr (Lay.rd_take H.o.2.1 HD.o.2.1 (Nat.le_refl _) (by have := HD.o.2; omega)) hs (fun k hk => H.o.2.2 k hk)
   ·rw [hR.o]
    exact HD.o.1.1
theorem zdj (s : ByteArray) (pos : Nat) (h : pos < s.size) : 1 ≤ (Utf8.decode s pos).2 := by
 by_cases ha : (s[pos]'h).toNat < 128
 ·rw [decode_ascii s pos h ha]
  exact Nat.le_refl _
 ·exact (decode_high s pos h (by omega)).2
def y6 (s : ByteArray) : Nat → Nat → Bool
 | 0, _ => true
 | f + 1, pos => if pos < s.size then (if (Utf8.decode s pos).1 = 65533 then false else y6 s f (pos + (Utf8.decode s pos).2)) else true
def z9 (l : List UInt8) : Bool := y6 (zc l) (zc l).size 0
theorem YG (s : ByteArray) (f pos : Nat) : y6 s (f + 1) pos = if pos < s.size then (if (Utf8.decode s pos).1 = 65533 then false else y6 s f (pos + (Utf8.decode s pos).2)) else true := rfl
theorem zat (s : ByteArray) (f pos : Nat) (h : ¬ pos < s.size) : y6 s f pos = true := by
 cases f with
 | zero => rfl
 | succ f => simp [y6, h]
theorem zcE (w : World) (s : ByteArray) (p : Nat) : Ext w (w.iter s p) := by
 have : w.iter s p = w.alloc (.stringIter s p) := by simp [World.iter]
 rw [this]
 exact za w _
theorem j3 (l : List UInt8) (w : World) :
 Calls Tryz.prog 39 #[.string (zc l)] w fun e w' => e = .returned (.bool (z9 l)) ∧ Ext w w' := by
 obtain ⟨s, hs⟩ := exQ (zc l)
 have hR := qh (show z9 l = y6 s s.size 0 from by unfold z9; rw [hs])
 rw [hs]
 clear hs
 go_enter Tryz.func39, Tryz.ntmps39
 go_wp2_with fail
 go_loopw [4] (fun _ w' => ∃ (pos b : Nat), w' = w.iter s pos ∧ Hd (y6 s b pos = y6 s s.size 0) ∧ s.size ≤ pos + b) (fun _ w' => s.size - w'.iterPos w.heap.size)
 case atStart => exact ⟨0, s.size, rfl, rfl, by omega⟩
 case round =>
  obtain ⟨pos, b, rfl, hc, hb⟩ := hrel
  by_cases hp : pos < s.size
  ·have lV : ∀ ty, (Instr.next (.pointer (some ⟨w.heap.size, 0, none⟩)) true ty).run Tryz.prog (w.iter s pos) = _ := fun ty => run_next_any w s pos ty hp
   have Cw := zdj s pos hp
   obtain ⟨b', rfl⟩ : ∃ b', b = b' + 1 := ⟨b - 1, by omega⟩
   have fM := hc.o
   rw [YG, if_pos hp] at fM
   by_cases h6 : (Utf8.decode s pos).1 = 65533
   ·rw [if_pos h6] at fM
    have mE := qh (show z9 l = false from by rw [hR.o, ← fM])
    have d6 : (((Utf8.decode s pos).1 : Int) == 65533) = true := by rw [beq_iff_eq]; omega
    clear hc fM hR hb
    go_wp2
    go_ret
    exact ⟨by rw [mE.o]; rfl, zcE _ _ _⟩
   ·rw [if_neg h6] at fM
    have wS := qh fM
    have d6 := bfQ (a := ((Utf8.decode s pos).1 : Int)) (b := 65533) (by omega)
    clear hc fM hR
    go_wp2
    go_roundw
    case rel => exact ⟨pos + (Utf8.decode s pos).2, b', rfl, wS, by omega⟩
    case measure => simp; omega
  ·have lV : ∀ ty, (Instr.next (.pointer (some ⟨w.heap.size, 0, none⟩)) true ty).run Tryz.prog (w.iter s pos) = _ := fun ty => run_next_end w s pos ty hp
   have mE := qh (show z9 l = true from by rw [hR.o, ← hc.o, zat s b pos hp])
   clear hc hR hb
   go_wp2
   go_ret
   exact ⟨by rw [mE.o]; rfl, zcE _ _ _⟩
def zF (s : St) : List UInt8 × St :=
 ((zW (zd s).1 (zd s).2).1, if z9 (zW (zd s).1 (zd s).2).1 then (zW (zd s).1 (zd s).2).2 else (zW (zd s).1 (zd s).2).2.fail 2)
theorem zgv (s : St) (n : Nat) : (s.fail n).fail n = s.fail n := by
 unfold St.fail
 simp only [St.mk.injEq, true_and]
 by_cases h : s.v = 0
 ·simp [h]
 ·simp [h]
theorem zgw (w : World) (k : Nat) (s : ByteArray) (p : Nat) : Fr (fun j => j = k) w (w.iterAt k s p) :=
 ⟨rfl, rfl, rfl, by simp [World.iterAt], fun j _ hj => by simp [World.iterAt, Array.getElem?_setIfInBounds, Ne.symm hj]⟩
theorem zgx (w : World) (k : Nat) (s : ByteArray) (p : Nat) (hk : k < w.heap.size) : (w.iterAt k s p).heap[k]? = some (.stringIter s p) := by
 simp [World.iterAt, hk]
theorem Jz (h : SpR D g lo s w) (hl : s.b.length ≤ 140737488355328) :
 Calls Tryz.prog 91 #[.pointer (some ⟨g, 0, none⟩)] w fun e w' => e = .returned (.string (zc (zF s).1)) ∧ SpR D g lo (zF s).2 w' ∧ Fr (fun k => k = g) w w' := by
 have ah := h.lt
 have H := qh (anQ h (anQ hl (anQ ah (zJ s))))
 have Bm := qh (zX s)
 clear h hl ah
 go_enter Tryz.func91, Tryz.ntmps91
 go_wp2_with fail
 refine (zN D g lo s w H.o.1 H.o.2.1).mono ?_
 rintro e w1 ⟨rfl, k1, k2⟩
 have H1 := qh (anQ k1 k2)
 clear k1 k2
 obtain ⟨n, hn⟩ := exQ ((zd s).1)
 obtain ⟨s1, cZ⟩ := exQ ((zd s).2)
 have hR := qh (show zF s = ((zW n s1).1, if z9 (zW n s1).1 then (zW n s1).2 else (zW n s1).2.fail 2) from by unfold zF; rw [hn, cZ])
 have oz := H.o.2.2.2
 rw [hn] at Bm ⊢
 rw [cZ] at H1 oz
 clear hn cZ
 go_wp2_with fail
 refine (Jy n Bm.o D g lo s1 w1 H1.o.1 (by have := H.o.2.1; omega)).mono ?_
 rintro e w2 ⟨ta, tm, tc, rfl, k1, k2, k3⟩
 obtain ⟨l, hl⟩ := exQ ((zW n s1).1)
 obtain ⟨s2, fI⟩ := exQ ((zW n s1).2)
 rw [hl, fI] at hR
 rw [hl] at k1
 rw [fI] at k2
 have eN := Zx k1 (fun k hk => (k2.lt.2 k hk).1) 22 9 5 Tryz.underlying22 Tryz.underlying5 Tryz.underlying9 w2 (Fr.refl _ _)
 have H2 := qh (anQ k2 (Fr.trans H1.o.2 k3 (U := fun k => k = g) (fun _ _ h => h) (fun _ _ h => h)))
 clear k1 k2 k3 hl fI oz
 obtain ⟨t, ht⟩ := exQ (zc l)
 have hT := qh (show z9 l = y6 t t.size 0 from by unfold z9; rw [ht])
 have DW := qh ht
 rw [ht] at eN
 go_wp2_with fail
 clear eN
 obtain ⟨W3, eS⟩ := exQ (w2.iter t 0)
 obtain ⟨ki, uj⟩ := exQ (w2.heap.size)
 have H3 : Hd (W3.heap[ki]? = some (.stringIter t 0) ∧ Ext w2 W3 ∧ w2.heap.size = ki) := by
  subst eS
  subst uj
  exact ⟨by simp [World.iter_heap], zcE _ _ _, rfl⟩
 rw [eS, uj]
 clear eS uj
 go_loopw [5] (fun _ w' => ∃ (pos b : Nat) (rV : Bool), w'.heap[ki]? = some (.stringIter t pos) ∧ Hd ((!rV && y6 t b pos) = y6 t t.size 0) ∧ t.size ≤ pos + b ∧ Hd (SpR D g lo (if rV then s2.fail 2 else s2) w' ∧ Fr (fun k => k = g ∨ k = ki) W3 w')) (fun _ w' => t.size - w'.iterPos ki)
 case atStart => exact ⟨0, t.size, false, H3.o.1, by show _ = _; simp, by omega, H2.o.1.ext H3.o.2.1, Fr.refl _ _⟩
 case round =>
  obtain ⟨pos, b, rV, vb, hc, hb, hV⟩ := hrel
  have xB : ki < wr.heap.size := (Array.getElem?_eq_some_iff.1 vb).1
  have A4 : g ≠ ki := by have := H2.o.1.lt.1; have := H3.o.2.2; omega
  have uV : wr.iterPos ki = pos := by unfold World.iterPos; rw [vb]
  by_cases hp : pos < t.size
  ·have lV : ∀ ty, (Instr.next (.pointer (some ⟨ki, 0, none⟩)) true ty).run Tryz.prog wr = _ := fun ty => Lib.run_next_any_at wr ki t pos ty vb hp
   have Cw := zdj t pos hp
   obtain ⟨b', rfl⟩ : ∃ b', b = b' + 1 := ⟨b - 1, by omega⟩
   have fM := hc.o
   rw [YG, if_pos hp] at fM
   have uP := zgw wr ki t (pos + (Utf8.decode t pos).2)
   have xq : ∀ k, D k → ¬ k = ki := fun k hk e => by have := (H2.o.1.lt.2 k hk).1; have := H3.o.2.2; omega
   have A9 := qh (hV.o.1.fr uP A4 xq)
   have AW := qh (Fr.trans hV.o.2 uP (U := fun k => k = g ∨ k = ki) (fun _ _ h => h) (fun _ _ h => .inr h))
   have ku := zgx wr ki t (pos + (Utf8.decode t pos).2) xB
   have pz := qh (show t.size - (pos + (Utf8.decode t pos).2) < t.size - wr.iterPos ki from by rw [uV]; omega)
   have cV := qh (show t.size ≤ pos + (Utf8.decode t pos).2 + b' from by omega)
   by_cases h6 : (Utf8.decode t pos).1 = 65533
   ·rw [if_pos h6] at fM
    have d6 : (((Utf8.decode t pos).1 : Int) == 65533) = true := by rw [beq_iff_eq]; omega
    have sF := qh fM
    clear hc fM hb uV uP hV xq
    go_wp2_with fail
    clear lV
    generalize (wr.iterAt ki t (pos + (Utf8.decode t pos).2)) = W4 at *
    refine (zr D g lo _ 2 W4 A9.o).mono ?_
    rintro e w5 ⟨rfl, k1, k2⟩
    have eo : Hd (w5.heap[ki]? = some (.stringIter t (pos + (Utf8.decode t pos).2)) ∧ ((!true && y6 t b' (pos + (Utf8.decode t pos).2)) = y6 t t.size 0) ∧ SpR D g lo (s2.fail 2) w5 ∧ Fr (fun k => k = g ∨ k = ki) W3 w5) := by
     refine ⟨(k2.block ki (Array.getElem?_eq_some_iff.1 ku).1 (fun e => A4 e.symm)).trans ku, ?_, ?_, Fr.trans AW.o k2 (fun _ _ h => h) (fun _ _ h => .inl h)⟩
     ·rw [← sF.o]; simp
     ·cases rV with
      | true => have := k1; simp only [if_true] at this; rw [zgv] at this; exact this
      | false => exact k1
    have wH := qh (show w5.iterPos ki = pos + (Utf8.decode t pos).2 from by unfold World.iterPos; rw [eo.o.1])
    clear k1 k2 ku
    go_wp2
    go_roundw
    case rel => exact ⟨_, b', true, eo.o.1, eo.o.2.1, cV.o, eo.o.2.2.1, eo.o.2.2.2⟩
    case measure => rw [wH.o]; exact pz.o
   ·rw [if_neg h6] at fM
    have d6 := bfQ (a := ((Utf8.decode t pos).1 : Int)) (b := 65533) (by omega)
    have sF := qh fM
    have wH := qh (show (wr.iterAt ki t (pos + (Utf8.decode t pos).2)).iterPos ki = pos + (Utf8.decode t pos).2 from by unfold World.iterPos; rw [ku])
    have ku := qh ku
    clear hc fM hb uV uP hV xq
    go_wp2
    go_roundw
    case rel => exact ⟨_, b', rV, ku.o, sF.o, cV.o, A9.o, AW.o⟩
    case measure => rw [wH.o]; exact pz.o
  ·have lV : ∀ ty, (Instr.next (.pointer (some ⟨ki, 0, none⟩)) true ty).run Tryz.prog wr = _ := fun ty => Lib.run_next_end_at wr ki t pos ty vb hp
   have fM := hc.o
   rw [zat t b pos hp, Bool.and_true] at fM
   have ai := qh (show (zF s).1 = l ∧ SpR D g lo (zF s).2 wr ∧ Fr (fun k => k = g) w wr from by
    rw [hR.o, hT.o, ← fM]
    refine ⟨rfl, ?_, (Fr.trans (Fr.ext H2.o.2 H3.o.2.1) hV.o.2 (U := fun k => k = g ∨ k = ki) (fun _ _ h => .inl h) (fun _ _ h => h)).mono (fun k hk e => e.elim id (fun e => by have := H2.o.2.size; have := H3.o.2.2; omega))⟩
    cases rV with
    | true => exact hV.o.1
    | false => exact hV.o.1)
   clear hc fM hV hb uV
   go_wp2
   go_ret
   exact ⟨by rw [ai.o.1, DW.o]; rfl, ai.o.2⟩
end Go.Proofs.YtejgninpjhcgnaaGreatDoor
