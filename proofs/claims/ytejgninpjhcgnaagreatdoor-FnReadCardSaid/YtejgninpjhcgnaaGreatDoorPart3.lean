/- Texts of this proof, one behind the other. -/
import Derived.Test.YtejgninpjhcgnaaGreatDoorPart2
import Derived.Deep.WholeRow
import Derived.Deep.MidRow
import Derived.Laws.Tables
import Derived.Deep.AppendSrc
import Derived.Laws.RangeAny
import Derived.Lib.OthersKept
import Derived.LoopTactic
namespace Go.Proofs.YtejgninpjhcgnaaGreatDoor
open Go.RowKit
set_option linter.unusedSimpArgs false
set_option linter.unusedVariables false
set_option maxRecDepth 100000
set_option maxHeartbeats 2000000
theorem zji (a s t : Nat) (ha : a < 18446744073709551616) :
 bits .or .i64 (toS a) (wrap64 ((t : Int) % 128 * 2 ^ s)) = toS (a ||| (t % 128 * 2 ^ s % 2 ^ 64)) ∧ a ||| (t % 128 * 2 ^ s % 2 ^ 64) < 18446744073709551616 := by
 have hb : t % 128 * 2 ^ s % 2 ^ 64 < 18446744073709551616 := Nat.mod_lt _ (by decide)
 refine ⟨zd6 (YH ha) ?_, Nat.or_lt_two_pow (n := 64) ha hb⟩
 have e1 : (t : Int) % 128 * 2 ^ s = ((t % 128 * 2 ^ s : Nat) : Int) := by simp
 rw [e1]
 unfold wrap64
 generalize t % 128 * 2 ^ s = q
 omega
theorem ZM (t : Nat) (ht : t < 256) : bits .and .u8 (t : Int) 64 = if t % 128 < 64 then 0 else 64 := by
 rw [show (64 : Int) = ((64 : Nat) : Int) from rfl, u8_and_nat t 64 (by omega) (by omega), show (64 : Nat) = 2 ^ 6 from rfl, nat_bit 6 t]
 split <;> omega
theorem zdu (a s : Nat) (ha : a < 18446744073709551616) (hs : s < 64) : bits .or .i64 (toS a) (wrap64 (-2 ^ s)) = toS (a ||| (2 ^ 64 - 2 ^ s)) := by
 have hp : 2 ^ s < 2 ^ 64 := Nat.pow_lt_pow_right (by decide) hs
 have dQ : 0 < 2 ^ s := Nat.pow_pos (by decide)
 refine zd6 (YH ha) ?_
 have e1 : (-2 ^ s : Int) = -((2 ^ s : Nat) : Int) := by simp
 rw [e1]
 unfold wrap64
 generalize 2 ^ s = q at *
 omega
theorem zft (t : Nat) (ht : t < 64) : IntKind.i8.wrap ((t : Int) * 2) = (t : Int) * 2 := by
 unfold IntKind.wrap
 simp only [IntKind.bits, IntKind.signed]
 simp
 omega
theorem i8w (t l : Nat) : zd7 l t = ((decide (IntKind.i8.wrap ((t : Int) * 2 % 256) / 2 ^ l ≠ 0) && decide (IntKind.i8.wrap ((t : Int) * 2 % 256) / 2 ^ l ≠ -1)) || decide (128 ≤ (t : Int))) := by
 have e : IntKind.i8.wrap ((t : Int) * 2 % 256) = (((t * 2 % 256 : Nat) : Int) + 128) % 256 - 128 := by
  unfold IntKind.wrap
  simp only [IntKind.bits, IntKind.signed]
  simp
  omega
 rw [e]
 unfold zd7
 rw [show decide (128 ≤ (t : Int)) = decide (128 ≤ t) from decide_eq_decide.2 (by omega)]
theorem zcy (D : Nat → Prop) (aa : Option Addr) (cap : Nat) (bs : List UInt8) (bb : Nat) (qQ : bb ≤ 64) (xn : 0 < bb) (w : World) (h : Lay.u8.slice.rd D w [.slice aa bs.length cap] bs) :
 Calls Tryz.prog 187 #[.slice aa bs.length cap, .int .i64 (bb : Int)] w fun e w' => e = .returned (.tuple #[.int .i64 (toS (sig bb bs).1), .int .i64 ((sig bb bs).2 : Int)]) ∧ w' = w := by
 have H := qh h
 have aT : bs.length ≤ 9223372036854775807 := by
  obtain ⟨a', c', ee, c6, cn⟩ := Lay.slice_form h
  simp only [maxLen] at cn; omega
 clear h
 go_enter Tryz.func187, Tryz.ntmps187
 go_wp2_with fail
 go_loopw [4, 5, 6, 7, 8, 9] (fun s4 s5 s6 s7 s8 s9 w' => ∃ (bf n : Nat) (r : List UInt8), s4 = .int .i64 (toS bf) ∧ s5 = .int .i64 n ∧ s6 = .int .i64 (7 * n : Nat) ∧ bf < 18446744073709551616 ∧ n ≤ 10 ∧ n + r.length = bs.length ∧ Hq (bs.drop n = r) ∧ Hq (sigG bb (7 * n) bf n r = sig bb bs) ∧ w' = w) (fun _ s5 _ _ _ _ _ => 11 - (intOf s5).toNat)
 case atStart =>
  exact ⟨0, 0, bs, rfl, rfl, rfl, by omega, by omega, by omega, rfl, rfl, rfl⟩
 case round =>
  obtain ⟨bf, n, r, rfl, rfl, rfl, dG, vQ, hn, kW, hG, rfl⟩ := hrel
  cases r with
  | nil =>
   have eu := qh (show sig bb bs = (0, 0) from by rw [← hG.o]; simp [sigG])
   simp only [List.length_nil, Nat.add_zero] at hn
   clear hG kW
   go_wp2
   go_ret2
   rw [eu.o]
   exact ⟨rfl, rfl⟩
  | cons c r =>
   obtain ⟨ba, o, rfl, hA, e0⟩ := zeA H.o n (by simp only [List.length_cons] at hn; omega)
   have ec : bs[n]'(by simp only [List.length_cons] at hn; omega) = c := by
    have h1 := kW.o
    have h2 : (bs.drop n)[0]? = some c := by rw [h1]; rfl
    rw [List.getElem?_drop, Nat.add_zero] at h2
    exact List.getElem?_eq_some_iff.1 h2 |>.2
   rw [ec] at e0
   have eN : Hq (bs.drop (n + 1) = r) := by
    show _ = _
    rw [← List.drop_drop, kW.o]; rfl
   have cY := hG.o
   simp only [sigG] at cY
   have ht := c.toNat_lt
   simp only [List.length_cons] at hn
   generalize c.toNat = t at *
   have e7 := zcx t ht
   clear hA kW hG ec
   by_cases hs : bb ≤ 7 * n
   ·rw [if_pos hs] at cY
    have eu := qh cY
    clear cY
    go_wp2
    go_ret2
    rw [← eu.o]
    exact ⟨rfl, rfl⟩
   ·rw [if_neg hs] at cY
    have aU := zji bf (7 * n) t dG
    have gN := aU.2
    have qi := aU.1
    clear aU
    by_cases hl : bb - 7 * n < 7
    ·have dl : decide ((bb : Int) - 7 * (n : Int) < 7) = true := by rw [decide_eq_true_eq]; omega
     have mO := i8w t (bb - 7 * n)
     generalize hq : IntKind.i8.wrap ((t : Int) * 2 % 256) / 2 ^ (bb - 7 * n) = q at mO
     cases cZ : zd7 (bb - 7 * n) t with
     | true =>
      rw [cZ] at mO cY
      rw [if_pos ⟨hl, rfl⟩] at cY
      have eu := qh cY
      clear cY qi eN
      by_cases q0 : q = 0
      ·have d8 : decide (128 ≤ (t : Int)) = true := by subst q0; simpa using mO.symm
       subst q0
       clear mO
       go_wp2
       go_ret2
       rw [← eu.o]
       exact ⟨rfl, rfl⟩
      ·by_cases q1 : q = -1
       ·have d8 : decide (128 ≤ (t : Int)) = true := by subst q1; simpa using mO.symm
        subst q1
        clear mO
        go_wp2
        go_ret2
        rw [← eu.o]
        exact ⟨rfl, rfl⟩
       ·have b0 : (q == 0) = false := by rw [beq_eq_false_iff_ne]; exact q0
        have b1 : (q == -1) = false := by rw [beq_eq_false_iff_ne]; exact q1
        clear mO
        go_wp2
        go_ret2
        rw [← eu.o]
        exact ⟨rfl, rfl⟩
     | false =>
      rw [cZ] at mO cY
      rw [if_neg (fun h => nomatch h.2)] at cY
      have pL : (q = 0 ∨ q = -1) ∧ t < 128 := by
       have := mO.symm
       simp only [Bool.or_eq_false_iff, Bool.and_eq_false_iff, decide_eq_false_iff_not] at this
       omega
      obtain ⟨wO, rJ⟩ := pL
      have d8 : decide (128 ≤ (t : Int)) = false := by rw [decide_eq_false_iff_not]; omega
      have d9 : decide ((t : Int) < 128) = true := by rw [decide_eq_true_eq]; omega
      rw [if_pos rJ] at cY
      clear mO
      have xm := hq
      rw [show (t : Int) * 2 % 256 = (t : Int) * 2 from by omega] at xm
      rcases wO with rfl | rfl
      ·have fm := zdu (bf ||| (t % 128 * 2 ^ (7 * n) % 2 ^ 64)) (7 * n + 7) gN
       by_cases fk : 64 ≤ t
       ·have e6 : bits .and .u8 (t : Int) 64 = 64 := by rw [ZM t (by omega), if_neg (by omega)]
        by_cases h7 : 7 * n + 7 < 64
        ·rw [if_pos ⟨fk, h7⟩] at cY
         have fj : bits .or .i64 (toS (bf ||| t % 128 * 2 ^ (7 * n) % 18446744073709551616)) (wrap64 (-2 ^ (7 * n + 7))) = toS ((bf ||| t % 128 * 2 ^ (7 * n) % 18446744073709551616) ||| (18446744073709551616 - 2 ^ (7 * n + 7))) := fm h7
         have eu := qh cY
         have d7 : decide (7 * (n : Int) + 7 < 64) = true := by rw [decide_eq_true_eq]; omega
         clear cY eN fm
         go_wp2
         go_ret2
         rw [← eu.o]
         exact ⟨rfl, rfl⟩
        ·rw [if_neg (fun h => h7 h.2)] at cY
         have eu := qh cY
         have d7 : decide (7 * (n : Int) + 7 < 64) = false := by rw [decide_eq_false_iff_not]; omega
         clear cY eN fm
         go_wp2
         go_ret2
         rw [← eu.o]
         exact ⟨rfl, rfl⟩
       ·have e6 : bits .and .u8 (t : Int) 64 = 0 := by rw [ZM t (by omega), if_pos (by omega)]
        rw [zft t (by omega)] at xm
        rw [if_neg (fun h => fk h.1)] at cY
        have eu := qh cY
        clear cY eN fm
        go_wp2
        go_ret2
        rw [← eu.o]
        exact ⟨rfl, rfl⟩
      ·have fm := zdu (bf ||| (t % 128 * 2 ^ (7 * n) % 2 ^ 64)) (7 * n + 7) gN
       by_cases fk : 64 ≤ t
       ·have e6 : bits .and .u8 (t : Int) 64 = 64 := by rw [ZM t (by omega), if_neg (by omega)]
        by_cases h7 : 7 * n + 7 < 64
        ·rw [if_pos ⟨fk, h7⟩] at cY
         have fj : bits .or .i64 (toS (bf ||| t % 128 * 2 ^ (7 * n) % 18446744073709551616)) (wrap64 (-2 ^ (7 * n + 7))) = toS ((bf ||| t % 128 * 2 ^ (7 * n) % 18446744073709551616) ||| (18446744073709551616 - 2 ^ (7 * n + 7))) := fm h7
         have eu := qh cY
         have d7 : decide (7 * (n : Int) + 7 < 64) = true := by rw [decide_eq_true_eq]; omega
         clear cY eN fm
         go_wp2
         go_ret2
         rw [← eu.o]
         exact ⟨rfl, rfl⟩
        ·rw [if_neg (fun h => h7 h.2)] at cY
         have eu := qh cY
         have d7 : decide (7 * (n : Int) + 7 < 64) = false := by rw [decide_eq_false_iff_not]; omega
         clear cY eN fm
         go_wp2
         go_ret2
         rw [← eu.o]
         exact ⟨rfl, rfl⟩
       ·have e6 : bits .and .u8 (t : Int) 64 = 0 := by rw [ZM t (by omega), if_pos (by omega)]
        rw [zft t (by omega)] at xm
        rw [if_neg (fun h => fk h.1)] at cY
        have eu := qh cY
        clear cY eN fm
        go_wp2
    ·have dl : decide ((bb : Int) - 7 * (n : Int) < 7) = false := by rw [decide_eq_false_iff_not]; omega
     rw [if_neg (fun h => hl h.1)] at cY
     by_cases h128 : t < 128
     ·rw [if_pos h128] at cY
      have d9 : decide ((t : Int) < 128) = true := by rw [decide_eq_true_eq]; omega
      have fm := zdu (bf ||| (t % 128 * 2 ^ (7 * n) % 2 ^ 64)) (7 * n + 7) gN
      by_cases fk : 64 ≤ t
      ·have e6 : bits .and .u8 (t : Int) 64 = 64 := by rw [ZM t (by omega), if_neg (by omega)]
       by_cases h7 : 7 * n + 7 < 64
       ·rw [if_pos ⟨fk, h7⟩] at cY
        have fj : bits .or .i64 (toS (bf ||| t % 128 * 2 ^ (7 * n) % 18446744073709551616)) (wrap64 (-2 ^ (7 * n + 7))) = toS ((bf ||| t % 128 * 2 ^ (7 * n) % 18446744073709551616) ||| (18446744073709551616 - 2 ^ (7 * n + 7))) := fm h7
        have eu := qh cY
        have d7 : decide (7 * (n : Int) + 7 < 64) = true := by rw [decide_eq_true_eq]; omega
        clear cY eN fm
        go_wp2
        go_ret2
        rw [← eu.o]
        exact ⟨rfl, rfl⟩
       ·rw [if_neg (fun h => h7 h.2)] at cY
        have eu := qh cY
        have d7 : decide (7 * (n : Int) + 7 < 64) = false := by rw [decide_eq_false_iff_not]; omega
        clear cY eN fm
        go_wp2
      ·have e6 : bits .and .u8 (t : Int) 64 = 0 := by rw [ZM t (by omega), if_pos (by omega)]
       rw [if_neg (fun h => fk h.1)] at cY
       have eu := qh cY
       clear cY eN fm
       go_wp2
       go_ret2
       rw [← eu.o]
       exact ⟨rfl, rfl⟩
     ·rw [if_neg h128] at cY
      have eu := qh cY
      have d9 : decide ((t : Int) < 128) = false := by rw [decide_eq_false_iff_not]; omega
      clear cY h128
      go_wp2
      go_roundw
      case rel => exact ⟨_, n + 1, r, rfl, rfl, rfl, gN, by omega, by omega, eN, by show _ = _; rw [← eu.o, show 7 * (n + 1) = 7 * n + 7 from rfl], trivial⟩
      case measure => simp [intOf]; omega
theorem zd8 (bb : Nat) : ∀ (sh bf n : Nat) (b : List UInt8), (unsG bb sh bf n b).2 ≤ n + b.length
 | _, _, _, [] => nzQ _
 | sh, bf, n, c :: r => by
  have ih := zd8 bb (sh + 7) (bf ||| (c.toNat % 128 * 2 ^ sh % 2 ^ 64)) (n + 1) r
  simp only [unsG, List.length_cons]
  split
  ·exact nzQ _
  ·split
   ·exact nzQ _
   ·split
    ·show n + 1 ≤ _; omega
    ·omega
theorem zii (bb : Nat) (b : List UInt8) : (uns bb b).2 ≤ b.length := by have := zd8 bb 0 0 0 b; unfold uns; omega
theorem zd9 (bb : Nat) : ∀ (sh bf n : Nat) (b : List UInt8), (sigG bb sh bf n b).2 ≤ n + b.length
 | _, _, _, [] => nzQ _
 | sh, bf, n, c :: r => by
  have ih := zd9 bb (sh + 7) (bf ||| (c.toNat % 128 * 2 ^ sh % 2 ^ 64)) (n + 1) r
  simp only [sigG, List.length_cons]
  split
  ·exact nzQ _
  ·split
   ·exact nzQ _
   ·split
    ·show n + 1 ≤ _; omega
    ·omega
theorem zfu (bb : Nat) (b : List UInt8) : (sig bb b).2 ≤ b.length := by have := zd9 bb 0 0 0 b; unfold sig; omega
theorem zfv (bb : Nat) : ∀ (sh bf n : Nat) (b : List UInt8), bf < 2 ^ 64 → (unsG bb sh bf n b).1 < 2 ^ 64
 | _, _, _, [], _ => Nat.pow_pos (by decide)
 | sh, bf, n, c :: r, h => by
  have hz : bf ||| (c.toNat % 128 * 2 ^ sh % 2 ^ 64) < 2 ^ 64 := Nat.or_lt_two_pow h (Nat.mod_lt _ (by decide))
  have ih := zfv bb (sh + 7) (bf ||| (c.toNat % 128 * 2 ^ sh % 2 ^ 64)) (n + 1) r hz
  simp only [unsG]
  split
  ·decide
  ·split
   ·decide
   ·split
    ·exact hz
    ·exact ih
theorem zjj (bb : Nat) (b : List UInt8) : (uns bb b).1 < 18446744073709551616 := zfv bb 0 0 0 b (by decide)
theorem zfw (bb : Nat) : ∀ (sh bf n : Nat) (b : List UInt8), bf < 2 ^ 64 → (sigG bb sh bf n b).1 < 2 ^ 64
 | _, _, _, [], _ => Nat.pow_pos (by decide)
 | sh, bf, n, c :: r, h => by
  have hz : bf ||| (c.toNat % 128 * 2 ^ sh % 2 ^ 64) < 2 ^ 64 := Nat.or_lt_two_pow h (Nat.mod_lt _ (by decide))
  have ih := zfw bb (sh + 7) (bf ||| (c.toNat % 128 * 2 ^ sh % 2 ^ 64)) (n + 1) r hz
  have hp : 0 < 2 ^ (sh + 7) := Nat.pow_pos (by decide)
  simp only [sigG]
  split
  ·decide
  ·split
   ·decide
   ·split
    ·show (if _ then _ else _) < _
     split
     ·exact Nat.or_lt_two_pow hz (by omega)
     ·exact hz
    ·exact ih
theorem zfx (bb : Nat) (b : List UInt8) : (sig bb b).1 < 18446744073709551616 := zfw bb 0 0 0 b (by decide)
theorem zK (D : Nat → Prop) (g : Nat) (lo : Bool) (s : St) (w : World) (h : SpR D g lo s w) (hl : s.b.length ≤ 140737488355328) :
 Calls Tryz.prog 51 #[.pointer (some ⟨g, 0, none⟩)] w fun e w' => e = .returned (.int .u32 ((zc s).1 : Int)) ∧ SpR D g lo (zc s).2 w' ∧ Fr (fun k => k = g) w w' := by
 have hS := qh h
 obtain ⟨aa, cap, hb, h1, h2⟩ := h
 have hc := hb.cell
 have hf := hb.frz
 have hN := zii 32 s.b
 have hV := zjj 32 s.b
 have HC := qh (zbj D aa cap s.b 32 (by decide) (by decide) w h1)
 have HE := qh (zay D aa cap s.b 32 w h1 hl)
 have HD := qh (fun n hn => SpR.drop (v := s.v) hb h1 h2 n hn)
 obtain ⟨a', c', ee, c6, cn⟩ := Lay.slice_form h1
 simp only [Value.slice.injEq] at ee
 obtain ⟨-, -, rfl⟩ := ee
 have kQ : (cap : Int) ≤ 9223372036854775807 := by simp only [maxLen] at cn; omega
 have hR := qh (show zc s = if (uns 32 s.b).2 = 0 then (0, s.fail (if jD 32 s.b then 3 else 2)) else ((uns 32 s.b).1 % 4294967296, ⟨s.b.drop (uns 32 s.b).2, s.v⟩) from rfl)
 generalize (uns 32 s.b).1 = q at *
 generalize (uns 32 s.b).2 = n at *
 generalize hE : jD 32 s.b = ee at *
 clear hb h1 h2 cn hl hE
 go_enter Tryz.func51, Tryz.ntmps51
 go_wp2_with fail
 refine HC.o.mono ?_
 rintro e w1 ⟨rfl, rfl⟩
 by_cases hn : n = 0
 ·subst hn
  have eI := qh (show zc s = (0, s.fail (if ee then 3 else 2)) from hR.o)
  clear hR
  go_wp2_with fail
  refine HE.o.mono ?_
  rintro e w1 ⟨rfl, rfl⟩
  cases ee with
  | true =>
   go_wp2_with fail
   refine (zp D g lo s 3 _ hS.o).mono ?_
   rintro e w1 ⟨rfl, k1, k2⟩
   have HK := qh (anQ k1 k2)
   clear k1 k2 hc hf
   go_wp2
   go_ret
   rw [eI.o]
   exact ⟨rfl, HK.o.1, HK.o.2⟩
  | false =>
   go_wp2_with fail
   refine (zp D g lo s 2 _ hS.o).mono ?_
   rintro e w1 ⟨rfl, k1, k2⟩
   have HK := qh (anQ k1 k2)
   clear k1 k2 hc hf
   go_wp2
   go_ret
   rw [eI.o]
   exact ⟨rfl, HK.o.1, HK.o.2⟩
 ·have eI := qh (show zc s = (q % 4294967296, ⟨s.b.drop n, s.v⟩) from hR.o.trans (if_neg hn))
  clear hR
  go_wp2
  ·go_ret
   rw [eI.o]
   exact ⟨by simp, (HD.o n hN).2 (by omega), zf w1 ⟨g, 0, none⟩ _⟩
  ·go_ret
   rw [eI.o]
   exact ⟨by simp, (HD.o n hN).1, zf w1 ⟨g, 0, none⟩ _⟩
theorem zF (s : St) : (zc s).2.b.length ≤ s.b.length := by
 unfold zc St.fail
 split
 ·exact nzQ _
 ·simp
theorem zL (s : St) : (zc s).1 < 4294967296 := by
 unfold zc
 split
 ·show (0 : Nat) < 4294967296; omega
 ·exact Nat.mod_lt _ (by decide)
theorem Y4 (bb : Nat) (qQ : bb = 32 ∨ bb = 64) (D : Nat → Prop) (g : Nat) (lo : Bool) (s : St) (w : World) (h : SpR D g lo s w) (hl : s.b.length ≤ 140737488355328) :
 Calls Tryz.prog 180 #[.pointer (some ⟨g, 0, none⟩), .int .i64 (bb : Int)] w fun e w' => e = .returned (.int .u64 ((zJ bb s).1 : Int)) ∧ SpR D g lo (zJ bb s).2 w' ∧ Fr (fun k => k = g) w w' := by
 have hS := qh h
 obtain ⟨aa, cap, hb, h1, h2⟩ := h
 have hc := hb.cell
 have hf := hb.frz
 have hN := zfu bb s.b
 have hV := zfx bb s.b
 have HC := qh (zcy D aa cap s.b bb (by omega) (by omega) w h1)
 have HE := qh (zay D aa cap s.b bb w h1 hl)
 have HD := qh (fun n hn => SpR.drop (v := s.v) hb h1 h2 n hn)
 obtain ⟨a', c', ee, c6, cn⟩ := Lay.slice_form h1
 simp only [Value.slice.injEq] at ee
 obtain ⟨-, -, rfl⟩ := ee
 have kQ : (cap : Int) ≤ 9223372036854775807 := by simp only [maxLen] at cn; omega
 have hR := qh (show zJ bb s = if (sig bb s.b).2 = 0 then (0, s.fail (if jD bb s.b then 3 else 2)) else ((if bb = 32 then (sig bb s.b).1 % 4294967296 else (sig bb s.b).1), ⟨s.b.drop (sig bb s.b).2, s.v⟩) from rfl)
 generalize (sig bb s.b).1 = q at *
 generalize (sig bb s.b).2 = n at *
 generalize hE : jD bb s.b = ee at *
 have Bt : IntKind.u64.wrap (toS q) = (q : Int) := by rw [IntKind.wrap_u64]; exact YH hV
 have Ci : toS q % 4294967296 = ((q % 4294967296 : Nat) : Int) := by unfold toS; omega
 have DG : -9223372036854775808 ≤ toS q ∧ toS q < 9223372036854775808 := by unfold toS; omega
 generalize toS q = z at *
 clear hb h1 h2 cn hl hE
 go_enter Tryz.func180, Tryz.ntmps180
 go_wp2_with fail
 refine HC.o.mono ?_
 rintro e w1 ⟨rfl, rfl⟩
 by_cases hn : n = 0
 ·subst hn
  have eI := qh (show zJ bb s = (0, s.fail (if ee then 3 else 2)) from hR.o)
  clear hR
  go_wp2_with fail
  refine HE.o.mono ?_
  rintro e w1 ⟨rfl, rfl⟩
  cases ee with
  | true =>
   go_wp2_with fail
   refine (zp D g lo s 3 _ hS.o).mono ?_
   rintro e w1 ⟨rfl, k1, k2⟩
   have HK := qh (anQ k1 k2)
   clear k1 k2 hc hf
   go_wp2
   go_ret
   rw [eI.o]
   exact ⟨rfl, HK.o.1, HK.o.2⟩
  | false =>
   go_wp2_with fail
   refine (zp D g lo s 2 _ hS.o).mono ?_
   rintro e w1 ⟨rfl, k1, k2⟩
   have HK := qh (anQ k1 k2)
   clear k1 k2 hc hf
   go_wp2
   go_ret
   rw [eI.o]
   exact ⟨rfl, HK.o.1, HK.o.2⟩
 ·have eI := qh (hR.o.trans (if_neg hn))
  clear hR
  rcases qQ with rfl | rfl
  ·go_wp2
   ·go_ret
    rw [eI.o]
    exact ⟨by simp, (HD.o n hN).2 (by omega), zf w1 ⟨g, 0, none⟩ _⟩
   ·go_ret
    rw [eI.o]
    exact ⟨by simp, (HD.o n hN).1, zf w1 ⟨g, 0, none⟩ _⟩
  ·go_wp2
   ·go_ret
    rw [eI.o]
    exact ⟨by simp, (HD.o n hN).2 (by omega), zf w1 ⟨g, 0, none⟩ _⟩
   ·go_ret
    rw [eI.o]
    exact ⟨by simp, (HD.o n hN).1, zf w1 ⟨g, 0, none⟩ _⟩
variable {D : Nat → Prop} {s : St} {w : World}
theorem z6 {g : Nat} {lo : Bool} (h : SpR D g lo s w) (hl : s.b.length ≤ 140737488355328) :
 Calls Tryz.prog 96 #[.pointer (some ⟨g, 0, none⟩)] w fun e w' => e = .returned (.int .i64 ((zo s).1 : Int)) ∧ SpR D g lo (zo s).2 w' ∧ Fr (fun k => k = g) w w' := by
 have HC := qh (zK D g lo s w h hl)
 have aj := zL s
 have hR := qh (show zo s = if (zc s).2.b.length < (zc s).1 then (0, if 10000 < (zc s).1 then ⟨[], 2⟩ else (zc s).2.fail 3) else zc s from rfl)
 have lj := zF s
 generalize zc s = r at *
 obtain ⟨n, s1⟩ := r
 dsimp only at *
 clear h
 go_enter Tryz.func96, Tryz.ntmps96
 go_wp2_with fail
 refine HC.o.mono ?_
 rintro e w1 ⟨rfl, h1, hF⟩
 have H1 := qh (anQ h1 hF)
 obtain ⟨aa, cap, hb, h2, h3⟩ := h1
 have hc := hb.cell
 clear hb h2 h3 hF HC
 by_cases hs : s1.b.length < n
 ·have eI := qh (hR.o.trans (if_pos hs))
  clear hR
  go_wp2_with fail
  refine (zp D g lo s1 3 _ H1.o.1).mono ?_
  rintro e w2 ⟨rfl, k1, k2⟩
  have HK := qh (anQ k1 (H1.o.2.trans k2 (fun _ _ h => h) (fun _ _ h => h)))
  obtain ⟨uy, fV, hb, h2, h3⟩ := k1
  have hf := hb.frz
  have gZ := hb.cell
  have HB := qh (anQ hb (anQ h2 h3))
  clear hb h2 h3 k2 hc
  by_cases h4 : 10000 < n
  ·rw [if_pos h4] at eI
   go_wp2
   go_ret
   rw [eI.o]
   refine ⟨rfl, ?_, HK.o.2.trans (zf w2 ⟨g, 1, none⟩ _) (fun _ _ h => h) (fun _ _ h => h)⟩
   have hz : (s1.fail 3).b = [] := rfl
   have := HB.o.1.set 1 (.int .i64 2)
   refine SpR.mk (aa := uy) (cap := fV) (w := w2) ?_ ?_ HB.o.2.2 (zf w2 ⟨g, 1, none⟩ _)
   ·simpa [hz] using this
   ·have := HB.o.2.1
    simpa [hz] using this
  ·rw [if_neg h4] at eI
   go_wp2
   go_ret
   rw [eI.o]
   exact ⟨rfl, HK.o.1, HK.o.2⟩
 ·have eI := qh (hR.o.trans (if_neg hs))
  clear hR
  go_wp2
  go_ret
  rw [eI.o]
  exact ⟨rfl, H1.o.1, H1.o.2⟩
theorem jt {g : Nat} {lo : Bool} (h : SpR D g lo s w) :
 Calls Tryz.prog 99 #[.pointer (some ⟨g, 0, none⟩)] w fun e w' => e = .returned (.int .i64 (zk s).1) ∧ SpR D g lo (zk s).2 w' ∧ Fr (fun k => k = g) w w' := by
 have HC := qh (yh h)
 have aj : (zi s).1 < 256 := by
  unfold zi
  cases s.b with
  | nil => show (0 : Nat) < 256; omega
  | cons c r => exact c.toNat_lt
 have hR := qh (show zk s = (127 - ((zi s).1 : Int), if (zi s).2.v = 0 ∧ ((zi s).1 < 124 ∨ 127 < (zi s).1) then (zi s).2.fail 1 else (zi s).2) from rfl)
 generalize zi s = r at *
 obtain ⟨n, s1⟩ := r
 dsimp only at *
 clear h
 go_enter Tryz.func99, Tryz.ntmps99
 go_wp2_with fail
 refine HC.o.mono ?_
 rintro e w1 ⟨rfl, h1, hF⟩
 have H1 := qh (anQ h1 hF)
 clear h1 hF HC
 go_wp2_with fail
 refine (z8 H1.o.1).mono ?_
 rintro e w2 ⟨rfl, rfl⟩
 by_cases hv : s1.v = 0
 ·rw [decide_eq_true hv]
  by_cases hn : n < 124
  ·have eI := qh (hR.o.trans (by rw [if_pos ⟨hv, .inl hn⟩]))
   clear hR
   go_wp2_with fail
   refine (zp D g lo s1 1 _ H1.o.1).mono ?_
   rintro e w2 ⟨rfl, k1, k2⟩
   have HK := qh (anQ k1 (H1.o.2.trans k2 (fun _ _ h => h) (fun _ _ h => h)))
   clear k1 k2
   go_wp2
   go_ret
   rw [eI.o]
   exact ⟨rfl, HK.o.1, HK.o.2⟩
  ·by_cases fy : 127 < n
   ·have eI := qh (hR.o.trans (by rw [if_pos ⟨hv, .inr fy⟩]))
    clear hR
    go_wp2_with fail
    refine (zp D g lo s1 1 _ H1.o.1).mono ?_
    rintro e w2 ⟨rfl, k1, k2⟩
    have HK := qh (anQ k1 (H1.o.2.trans k2 (fun _ _ h => h) (fun _ _ h => h)))
    clear k1 k2
    go_wp2
    go_ret
    rw [eI.o]
    exact ⟨rfl, HK.o.1, HK.o.2⟩
   ·have eI := qh (hR.o.trans (by rw [if_neg (fun h => h.2.elim hn fy)]))
    clear hR
    go_wp2
    go_ret
    rw [eI.o]
    exact ⟨rfl, H1.o.1, H1.o.2⟩
 ·rw [decide_eq_false hv]
  have eI := qh (hR.o.trans (by rw [if_neg (fun h => hv h.1)]))
  clear hR hv
  go_wp2
  go_ret
  rw [eI.o]
  exact ⟨rfl, H1.o.1, H1.o.2⟩
variable {P : Program} {cs : Array Value} {T : TypeId}
theorem Blk.load {g : Nat} (h : Blk w g cs T) (n : Nat) (hn : cs.size = n) : (loadCellsFrom ⟨g, 0, none⟩ 0 n #[]).run P w = .ok cs w := by
 subst hn
 have := run_loadCells_list (P := P) w ⟨g, 0, none⟩ cs.toList (fun j v hv => by rw [yY, Nat.zero_add, h.cell j]; simpa using hv)
 simpa [loadCells] using this
variable {ty : TypeId}
theorem Blk.loadAt {g : Nat} (h : Blk w g cs T) (d : TypeDesc) (hu : P.underlying ty = some d) (hd : d.isRow = true) (hi : (P.info? ty).map (·.size) = some cs.size) :
 (Instr.loadAt ty (.pointer (some ⟨g, 0, none⟩))).run P w = .ok (.agg cs) w :=
 run_loadAt_mid w g 0 ty cs.toList d (fun j v hv => by rw [Nat.zero_add, h.cell j]; simpa using hv) hu hd (by simpa using hi)
theorem Blk.loadVar {g : Nat} (h : Blk w g cs T) (d : TypeDesc) (hu : P.underlying ty = some d) (hd : d.isRow = true) (hi : (P.info? ty).map (·.size) = some cs.size) :
 (loadVar ty ⟨g, 0, none⟩).run P w = .ok (.agg cs) w :=
 run_loadVar_mid w g 0 ty cs.toList d (fun j v hv => by rw [Nat.zero_add, h.cell j]; simpa using hv) hu hd (by simpa using hi)
theorem Blk.setRow {g : Nat} (h : Blk w g cs T) (fb : Array Value) : Blk (w.setRow g fb) g fb T := setRow_heap w g cs fb T (0, 0) h
theorem z9 (w : World) (g : Nat) (cs : Array Value) : Fr (fun k => k = g) w (w.setRow g cs) := ⟨rfl, rfl, rfl, by rw [World.setRow, Array.size_modify]; omega, fun k _ hk => setRow_other w g k _ (fun e => hk e)⟩
theorem Blk.store {g : Nat} (h : Blk w g cs T) (l : List Value) (hn : l.length = cs.size) (h1 : ∀ v ∈ l, v.oneCell' = true) : (storeCells ⟨g, 0, none⟩ l 0).run P w = .ok () (w.setRow g l.toArray) := by
 have := run_storeCells_from (P := P) g T l 0 cs w h (by omega) h1
 simpa using this
section
variable {P : Program} {aw : Array Oper} {rest : List Oper} {o : Oper} {a : Act} {Q : Exit → Act → World → Prop}
theorem Blk.wpList_load {w : World} {g : Nat} {cs : Array Value} {T : TypeId} (hB : Blk w g cs T) (iI : o.guard = none) (ty : TypeId) (x : Operand) (ho : o.op = .load ty x) (hx : a.eval x = .pointer (some ⟨g, 0, none⟩)) (d : TypeDesc)
 (hu : P.underlying ty = some d) (hd : d.isRow = true) (hi : (P.info? ty).map (·.size) = some cs.size) (h : wpList P aw Q rest (a.put o.dst (.agg cs)) w) : wpList P aw Q (o :: rest) a w :=
 wpList_load_mid iI ty x ho g 0 hx cs.toList d (fun j v hv => by rw [Nat.zero_add, hB.cell j]; simpa using hv) hu hd (by simpa using hi) h
theorem Blk.wpList_store {w : World} {g : Nat} {cs fb : Array Value} {T : TypeId} (hB : Blk w g cs T) (iI : o.guard = none) (ty : TypeId) (x y : Operand) (ho : o.op = .store ty x y) (hx : a.eval x = .pointer (some ⟨g, 0, none⟩)) (hy : a.eval y = .agg fb)
 (hi : (P.info? ty).map (·.size) = some fb.size) (hs : cs.size = fb.size) (h1 : fb.toList.all (·.oneCell') = true) (h : wpList P aw Q rest (a.put o.dst undef) (w.setRow g fb)) : wpList P aw Q (o :: rest) a w :=
 wpList_plain iI fun _ hK => by
  unfold Oper.wp execOp
  simp only [ho, hx, hy, Instr.storeAt, Instr.sureAddr, Sem.run_bind, Sem.run_pure, Result.andThen_ok, run_storeVar_row (P := P) w g T ty cs fb hB hi hs (by rw [← Array.all_toList]; exact h1)]
  exact hK _ _ h
end
namespace Lay
variable {α : Type}
end Lay
def OwnG {α : Type} (l : Lay α) (e : TypeId) (lo : Nat) (X : Nat → Prop) (w : World) (v : Value) (xs : List α) : Prop :=
 ∃ flat, w.ownsRow lo e l.size v xs.length flat ∧ l.all (fun k => ¬ X k ∧ k < w.heap.size ∧ some k ≠ v.ownBlock) w flat xs
variable {α : Type}
theorem zv (l : Lay α) (e : TypeId) (lo : Nat) (X : Nat → Prop) (w : World) : OwnG l e lo X w (.slice none 0 0) [] := ⟨[], World.ownsRow_nil _ _ _ _, rfl⟩
variable {lo : Nat} {l : Lay α} {e : TypeId} {X : Nat → Prop} {v : Value} {xs : List α}
theorem OwnG.lt (h : OwnG l e lo X w v xs) : ∀ k, v.ownBlock = some k → lo ≤ k ∧ k < w.heap.size := by
 obtain ⟨flat, h, _⟩ := h
 exact h.lt
variable {w' : World}
theorem OwnG.fr {S : Nat → Prop} (h : OwnG l e lo X w v xs) (hf : Fr S w w') (hs : ∀ k, S k → X k ∨ w.heap.size ≤ k) (ho : ∀ k, v.ownBlock = some k → ¬ S k) : OwnG l e lo X w' v xs := by
 have aj := h.lt
 obtain ⟨flat, h, k⟩ := h
 refine ⟨flat, ?_, Lay.all_mono (fun k hk => ⟨hk.1, nqQ hk.2.1 hf.size, hk.2.2⟩) (Lay.all_frame (fun k hk => hf.block k hk.2.1 (fun hS => (hs k hS).elim hk.1 (fun h => absurd hk.2.1 (by omega)))) k)⟩
 obtain ⟨h1, h2⟩ := h
 refine ⟨h1, h2.imp id ?_⟩
 rintro ⟨g, cap, cX, rfl, hg, hh, r⟩
 have := aj g rfl
 exact ⟨g, cap, cX, rfl, hg, (hf.block g this.2 (ho g rfl)).trans hh, r⟩
theorem OwnG.ext (h : OwnG l e lo X w v xs) (hf : Ext w w') : OwnG l e lo X w' v xs := h.fr hf (fun _ h => h.elim) (fun _ _ h => h)
theorem OwnG.slice (h : OwnG l e lo X w v xs) (hX : ∀ k, lo ≤ k → ¬ X k) : l.slice.rd (fun k => ¬ X k ∧ k < w.heap.size) w [v] xs := by
 obtain ⟨flat, ⟨h1, h2⟩, k⟩ := h
 rcases h2 with ⟨rfl, h0⟩ | ⟨g, cap, cX, rfl, hg, hh, hn, hm, hs, ht⟩
 ·have : xs = [] := List.eq_nil_of_length_eq_zero h0
  subst this
  exact ⟨none, 0, rfl, Nat.le_refl _, by simp [maxLen], fun h => absurd h (by simp)⟩
 ·refine ⟨_, cap, rfl, hn, hm, fun _ => ⟨g, 0, cX, e, (0, 0), flat, rfl, ⟨hX g hg, (Z6 hh)⟩, hh, Lay.all_mono (fun k hk => ⟨hk.1, hk.2.1⟩) k, fun j hj => ?_⟩⟩
  rw [Nat.zero_add, ← ht, List.getElem?_take, if_pos (by omega)]
  simp
theorem OwnG.form (h : OwnG l e lo X w v xs) : ∃ a cap, v = .slice a xs.length cap ∧ xs.length ≤ cap ∧ cap ≤ maxLen := by
 obtain ⟨flat, ⟨h1, h2⟩, k⟩ := h
 rcases h2 with ⟨rfl, h0⟩ | ⟨g, cap, cX, rfl, hg, hh, hn, hm, hs, ht⟩
 ·exact ⟨none, 0, by rw [h0], by omega, by simp [maxLen]⟩
 ·exact ⟨_, cap, rfl, hn, hm⟩
theorem OwnG.shape (h : OwnG l e lo X w v xs) : ∃ a n cap, v = .slice a n cap := by
 obtain ⟨a, cap, e, _⟩ := h.form
 exact ⟨a, _, cap, e⟩
theorem Own.g (h : Own l e lo w v xs) : OwnG l e lo (fun k => k < lo) w v xs := by
 obtain ⟨flat, h, k⟩ := h
 exact ⟨flat, h, Lay.all_mono (fun k hk => ⟨by omega, hk.2⟩) k⟩
section
variable {P : Program} {aw : Array Oper} {rest : List Oper} {o : Oper} {a : Act} {Q : Exit → Act → World → Prop} {K : Act → World → Prop}
theorem Z1 {α : Type} (l : Lay α) {W : World} (lo : Nat) {X : Nat → Prop} (s x : Operand) (t e : TypeId) (z : Value) (bytes : Nat)
 (ho : o.op = .call { callee := .builtin .append, args := #[s, x], argTypes := #[t, t] })
 (ht : P.underlying t = some (.slice e)) (bR : (P.info? e).map (fun i => (i.zero, i.size, i.bytes)) = some (some z, l.size, bytes)) (hz : z.cells.size = l.size) (dS : 0 < bytes) (fc : 0 < l.size)
 (v : Value) (xs ys : List α) (ig : List Value) (ad : Addr) (m c : Nat) (hs : a.eval s = v) (hx : a.eval x = .slice (some ad) m c) (hm : ys.length = m)
 (HO : OwnG l e lo X W v xs) (HN : l.all (fun k => ¬ X k ∧ k < W.heap.size ∧ some k ≠ v.ownBlock) W ig ys) (mq : ∀ j u, ig[j]? = some u → W.cell? (ad.add j) = some u)
 (bj : lo ≤ W.heap.size) (hl : (xs.length + m) * bytes ≤ 140737488355328)
 (h : ∀ v1 w1, OwnG l e lo X w1 v1 (xs ++ ys) → Fr (fun k => some k = v.ownBlock) W w1 → (v1.ownBlock = v.ownBlock ∨ v1.ownBlock = some W.heap.size) → K (a.put o.dst v1) w1) :
 o.wp P a W K Q := by
 obtain ⟨i0, hi, kK⟩ := Option.map_eq_some_iff.1 bR
 simp only [Prod.mk.injEq] at kK
 obtain ⟨gf, dt, dO⟩ := kK
 have aj := HO.lt
 obtain ⟨flat, HO, HF⟩ := HO
 have aT : xs.length + m ≤ 140737488355328 := nlQ (Nat.le_mul_of_pos_right _ dS) hl
 obtain ⟨v1, w1, hr, ah, hg, _, ic⟩ := run_append_own_at (P := P) W lo t o.type e i0 z l.size bytes ht hi gf dt dO hz fc v xs.length flat HO ad m c ig (by rw [Lay.all_len HN, hm]) mq (Lay.all_one HN) (by simp only [maxLen]; omega) hl bj
 unfold Oper.wp execOp
 simp only [ho, resolve, invoke, builtin, Sem.run_bind, Sem.run_pure, Result.andThen_ok, List.map_toArray, List.map_cons, List.map_nil, hs, hx, hr]
 show K _ _
 refine h v1 w1 ⟨flat ++ ig, by rw [laQ, hm]; exact ah, ?_⟩ (yW hg) ic
 have vy := ah.lt
 have hA : ∀ k, (¬ X k ∧ k < W.heap.size ∧ some k ≠ v.ownBlock) → (¬ X k ∧ k < w1.heap.size ∧ some k ≠ v1.ownBlock) := fun k hk => ⟨hk.1, nqQ hk.2.1 hg.size, fun e => by
  rcases ic with ic | ic
  ·exact hk.2.2 (e.trans ic)
  ·rw [ic] at e
   injection e with e
   omega⟩
 exact Lay.all_append (Lay.all_mono hA (Lay.all_frame (fun k hk => hg.block k hk.2.1 hk.2.2) HF)) (Lay.all_mono hA (Lay.all_frame (fun k hk => hg.block k hk.2.1 hk.2.2) HN))
theorem ju {α : Type} (l : Lay α) {W : World} (lo : Nat) {X : Nat → Prop} (s x : Operand) (t e : TypeId) (z : Value) (bytes : Nat)
 (ho : o.op = .call { callee := .builtin .append, args := #[s, x], argTypes := #[t, t] })
 (ht : P.underlying t = some (.slice e)) (bR : (P.info? e).map (fun i => (i.zero, i.size, i.bytes)) = some (some z, l.size, bytes)) (hz : z.cells.size = l.size) (dS : 0 < bytes) (fc : 0 < l.size)
 (v : Value) (xs : List α) (y : α) (cs : Array Value) (hs : a.eval s = v) (hx : a.eval x = .slice (some ⟨W.heap.size, 0, none⟩) 1 1)
 (HO : OwnG l e lo X W v xs) (HY : l.rd (fun k => ¬ X k ∧ k < W.heap.size ∧ some k ≠ v.ownBlock) W cs.toList y)
 (bj : lo ≤ W.heap.size) (hl : (xs.length + 1) * bytes ≤ 140737488355328)
 (h : ∀ v1 w1, OwnG l e lo X w1 v1 (xs ++ [y]) → Fr (fun k => some k = v.ownBlock) W w1 → (∀ k, v1.ownBlock = some k → v.ownBlock = some k ∨ W.heap.size ≤ k) → K (a.put o.dst v1) w1) :
 o.wp P a (W.alloc (.cells cs e)) K Q := by
 have aj := HO.lt
 refine Z1 l lo s x t e z bytes ho ht bR hz dS fc v xs [y] cs.toList ⟨W.heap.size, 0, none⟩ 1 1 hs hx rfl (HO.ext (za _ _)) ?_ ?_ (by simp; omega) hl ?_
 ·exact Lay.all_single (l.mono (l.frame HY (fun k hk => Below.heap_alloc _ _ _ hk.2.1)) (fun k hk => ⟨hk.1, by simp; omega, hk.2.2⟩))
 ·intro j u hj
  rw [show ((⟨W.heap.size, 0, none⟩ : Addr).add j) = ⟨W.heap.size, j, none⟩ from by unfold Addr.add; split <;> simp_all, (zl W cs e).cell j]
  simpa using hj
 ·intro v1 w1 h1 h2 h3
  refine h v1 w1 h1 (Fr.trans (za W _) h2 (fun _ _ h => h.elim) (fun _ _ h => h)) (fun k hk => ?_)
  rcases h3 with h3 | h3
  ·exact .inl (h3 ▸ hk)
  ·rw [h3] at hk
   injection hk with hk
   refine .inr ?_
   simp at hk
   omega
theorem zU {α : Type} (l : Lay α) {W : World} {X : Nat → Prop} (lo n : Nat) (hn : W.heap.size = n) (iI : o.guard = none) (s x : Operand) (t e : TypeId) (z : Value) (bytes : Nat)
 (ho : o.op = .call { callee := .builtin .append, args := #[s, x], argTypes := #[t, t] })
 (ht : P.underlying t = some (.slice e)) (bR : (P.info? e).map (fun i => (i.zero, i.size, i.bytes)) = some (some z, l.size, bytes)) (hz : z.cells.size = l.size) (dS : 0 < bytes) (fc : 0 < l.size)
 (v : Value) (xs : List α) (y : α) (cs : Array Value) (hs : a.eval s = v) (hx : a.eval x = .slice (some ⟨n, 0, none⟩) 1 1)
 (HO : OwnG l e lo X W v xs) (HY : l.rd (fun k => ¬ X k ∧ k < W.heap.size ∧ some k ≠ v.ownBlock) W cs.toList y)
 (bj : lo ≤ W.heap.size) (hl : (xs.length + 1) * bytes ≤ 140737488355328)
 (h : ∀ v1 w1, OwnG l e lo X w1 v1 (xs ++ [y]) → Fr (fun k => some k = v.ownBlock) W w1 → (∀ k, v1.ownBlock = some k → v.ownBlock = some k ∨ W.heap.size ≤ k) → wpList P aw Q rest (a.put o.dst v1) w1) :
 wpList P aw Q (o :: rest) a (W.alloc (.cells cs e)) := by
 subst hn
 exact wpList_plain iI fun _ hK => ju l lo s x t e z bytes ho ht bR hz dS fc v xs y cs hs hx HO HY bj hl fun v1 w1 h1 h2 h3 => hK _ _ (h v1 w1 h1 h2 h3)
theorem zah {α : Type} (l : Lay α) {W : World} {X : Nat → Prop} (lo n : Nat) (hn : W.heap.size = n) (s x : Operand) (t e : TypeId) (z : Value) (bytes : Nat)
 (ho : o.op = .call { callee := .builtin .append, args := #[s, x], argTypes := #[t, t] })
 (ht : P.underlying t = some (.slice e)) (bR : (P.info? e).map (fun i => (i.zero, i.size, i.bytes)) = some (some z, l.size, bytes)) (hz : z.cells.size = l.size) (dS : 0 < bytes) (fc : 0 < l.size)
 (v : Value) (xs : List α) (y : α) (cs : Array Value) (hs : a.eval s = v) (hx : a.eval x = .slice (some ⟨n, 0, none⟩) 1 1)
 (HO : OwnG l e lo X W v xs) (HY : l.rd (fun k => ¬ X k ∧ k < W.heap.size ∧ some k ≠ v.ownBlock) W cs.toList y)
 (bj : lo ≤ W.heap.size) (hl : (xs.length + 1) * bytes ≤ 140737488355328)
 (h : ∀ v1 w1, OwnG l e lo X w1 v1 (xs ++ [y]) → Fr (fun k => some k = v.ownBlock) W w1 → (∀ k, v1.ownBlock = some k → v.ownBlock = some k ∨ W.heap.size ≤ k) → K (a.put o.dst v1) w1) :
 o.wp P a (W.alloc (.cells cs e)) K Q := by
 subst hn
 exact ju l lo s x t e z bytes ho ht bR hz dS fc v xs y cs hs hx HO HY bj hl h
end
theorem zgZ {g f : Nat} {w0 W w1 : World} {v1 : Value} {ys : List α} 
 (hB : Blk W g cs T) (hO : OwnG l e lo X W v xs) (hF : Fr (fun k => k = g) w0 W) (hX : X g) (hg : g < lo) (bj : lo = w0.heap.size)
 (h1 : OwnG l e lo X w1 v1 ys) (h2 : Fr (fun k => some k = v.ownBlock) W w1) :
 Blk w1 g cs T ∧ (Blk (w1.setCell ⟨g, f, none⟩ v1) g (cs.setIfInBounds f v1) T ∧ OwnG l e lo X (w1.setCell ⟨g, f, none⟩ v1) v1 ys ∧ Fr (fun k => k = g) w0 (w1.setCell ⟨g, f, none⟩ v1)) := by
 have cz := hB.fr h2 (fun e => by have := (hO.lt g e.symm).1; omega)
 have hs := zf w1 ⟨g, f, none⟩ v1
 refine ⟨cz, cz.set f v1, h1.fr hs (fun k e => .inl (by have e' : k = g := e; rw [e']; exact hX)) (fun k hk e => by have := (h1.lt k hk).1; have e' : k = g := e; omega), ?_⟩
 exact Fr.trans (Fr.trans hF h2 (fun _ _ h => h) (fun k hk e => absurd hk (by have := (hO.lt k e.symm).1; omega))) hs (fun _ _ h => h) (fun _ _ h => h)
section
variable {P : Program} {aw : Array Oper} {rest : List Oper} {a : Act} {w : World} {Q : Exit → Act → World → Prop}
theorem jl (T : TypeId) {d : Option Tmp} {x y : Operand} {ty : TypeId} {p : String} {af : Array Edge} {g : Option (Nat × Bool)} (h : Hq (wpList P aw Q ({ dst := d, op := .store T x y, type := ty, pos := p, after := af, guard := g } :: rest) a w)) :
 wpList P aw Q ({ dst := d, op := .store T x y, type := ty, pos := p, after := af, guard := g } :: rest) a w := h.o
theorem JO (T : TypeId) {d : Option Tmp} {x : Operand} {ty : TypeId} {p : String} {af : Array Edge} {g : Option (Nat × Bool)} (h : Hq (wpList P aw Q ({ dst := d, op := .load T x, type := ty, pos := p, after := af, guard := g } :: rest) a w)) :
 wpList P aw Q ({ dst := d, op := .load T x, type := ty, pos := p, after := af, guard := g } :: rest) a w := h.o
theorem JP (T : TypeId) {d : Option Tmp} {parts : Array (Nat × Operand)} {ty : TypeId} {p : String} {af : Array Edge} {g : Option (Nat × Bool)} (h : Hq (wpList P aw Q ({ dst := d, op := .build T parts, type := ty, pos := p, after := af, guard := g } :: rest) a w)) :
 wpList P aw Q ({ dst := d, op := .build T parts, type := ty, pos := p, after := af, guard := g } :: rest) a w := h.o
theorem JQ {o : Oper} (hg : o.guard = none) (t : TypeId) (parts : Array (Nat × Operand)) (ho : o.op = .build t parts) (cells : Array Value)
 (hf : P.built t (parts.map fun (i, x) => (i, a.eval x)).toList = some cells) (h : wpList P aw Q rest (a.put o.dst (.agg cells)) w) : wpList P aw Q (o :: rest) a w :=
 wpList_build hg t parts ho (by rw [hf]; rfl) (by rw [hf]; exact h)
end
theorem yq {fn : Func} {a ty : Nat} (h : fn.results = #[.cell a ty]) (tmps : Array Value) {g : Nat} (hp : tmps.getD a undef = .pointer (some ⟨g, 0, none⟩)) (hB : Blk w g cs T) (d : TypeDesc)
 (hu : P.underlying ty = some d) (hd : d.isRow = true) (hi : (P.info? ty).map (·.size) = some cs.size) : (results fn tmps).run P w = .ok (.agg cs) w := by
 have rF : tmps[a]?.getD undef = .pointer (some ⟨g, 0, none⟩) := by simpa using hp
 simp [results, h, rF, asAddr, hB.loadVar d hu hd hi]
theorem Lay.slice_one {A : Nat → Prop} (h : (Lay.slice l).rd A w [v] xs) : v.oneCell' = true := (Lay.slice l).one h v (.head _)
namespace Lay
variable {α : Type}
theorem rd_take {l : Lay α} {A : Nat → Prop} {w : World} {aa : Option Addr} {cap m n c : Nat} {xs : List α} (h : l.slice.rd A w [.slice aa m cap] xs) (hn : n ≤ xs.length) (hc : n ≤ c) (cn : c ≤ maxLen) :
 l.slice.rd A w [.slice aa n c] (xs.take n) := by
 obtain ⟨a', fV, e, h1, h2, h3⟩ := h
 simp only [List.cons.injEq, Value.slice.injEq, and_true] at e
 obtain ⟨rfl, rfl, rfl⟩ := e
 have hl : (xs.take n).length = n := by rw [ltQ]; omega
 refine ⟨aa, c, by rw [hl], by omega, cn, fun hp => ?_⟩
 obtain ⟨b, o, cX, T, fz, flat, rfl, hA, hh, cO, p6⟩ := h3 (by omega)
 rw [← List.take_append_drop n xs] at cO
 obtain ⟨f1, f2, rfl, k1, k2⟩ := all_split cO
 exact ⟨b, o, cX, T, fz, f1, rfl, hA, hh, k1, fun j hj => by rw [p6 j (by rw [laQ]; omega), List.getElem?_append_left hj]⟩
theorem rd_dropG {l : Lay α} {A : Nat → Prop} {w : World} {aa : Option Addr} {cap m n : Nat} {xs : List α} (h : l.slice.rd A w [.slice aa m cap] xs) (hn : n ≤ xs.length) :
 l.slice.rd A w [.slice (aa.map (·.add (n * l.size))) (xs.length - n) (cap - n)] (xs.drop n) := by
 obtain ⟨a', fV, e, h1, h2, h3⟩ := h
 simp only [List.cons.injEq, Value.slice.injEq, and_true] at e
 obtain ⟨rfl, rfl, rfl⟩ := e
 refine ⟨_, _, by rw [ldQ], by rw [ldQ]; omega, by omega, fun hp => ?_⟩
 rw [ldQ] at hp
 obtain ⟨b, o, cX, T, fz, flat, rfl, hA, hh, cO, p6⟩ := h3 (by omega)
 rw [← List.take_append_drop n xs] at cO
 obtain ⟨f1, f2, rfl, k1, k2⟩ := all_split cO
 have fj : f1.length = n * l.size := by rw [all_len k1, ltQ, Nat.min_eq_left hn]
 refine ⟨b, o + n * l.size, cX, T, fz, f2, by rw [Option.map_some, yY], hA, hh, k2, fun j hj => ?_⟩
 rw [Nat.add_assoc, p6 _ (by rw [laQ]; omega), List.getElem?_append_right (by omega), fj, Nat.add_sub_cancel_left]
theorem rd_new1 {l : Lay α} {A A' : Nat → Prop} {w : World} {cs : Array Value} {T : TypeId} {x : α} (h : l.rd A w cs.toList x) (hA : ∀ k, A k → k < w.heap.size) (h1 : ∀ k, A k → A' k) (h2 : A' w.heap.size) :
 l.slice.rd A' (w.alloc (.cells cs T)) [.slice (some ⟨w.heap.size, 0, none⟩) 1 1] [x] := by
 refine ⟨_, 1, rfl, Nat.le_refl _, by decide, fun _ => ⟨w.heap.size, 0, cs, T, (0, 0), cs.toList, rfl, h2, heap_alloc_new w _, ?_, fun j hj => ?_⟩⟩
 ·refine all_single (l.mono (l.frame h fun k hk => ?_) h1)
  exact (za w _).block k (hA k hk) (fun h => h)
 ·rw [Nat.zero_add]; simp
theorem rd_end {l : Lay α} {A : Nat → Prop} {w : World} {aa : Option Addr} {c : Nat} (hc : c ≤ maxLen) : l.slice.rd A w [.slice aa 0 c] [] := ⟨aa, c, rfl, nzQ _, hc, fun h => absurd h (by simp)⟩
theorem slice_cells {l : Lay α} {A : Nat → Prop} {w : World} {aa : Option Addr} {m cap : Nat} {xs : List α} (h : l.slice.rd A w [.slice aa m cap] xs) : m = xs.length ∧ ∃ flat, l.all A w flat xs ∧ flat.length = m * l.size ∧ ∀ j u, flat[j]? = some u → ∃ a, aa = some a ∧ w.cell? (a.add j) = some u := by
 obtain ⟨a', fV, e, h1, h2, h3⟩ := h
 simp only [List.cons.injEq, Value.slice.injEq, and_true] at e
 obtain ⟨rfl, rfl, rfl⟩ := e
 rcases Nat.eq_zero_or_pos xs.length with h0 | h0
 ·have : xs = [] := List.eq_nil_of_length_eq_zero h0
  subst this
  exact ⟨rfl, [], rfl, by simp, fun j u hj => by simp at hj⟩
 ·obtain ⟨b, o, cX, T, fz, flat, rfl, hA, hh, cO, p6⟩ := h3 h0
  refine ⟨rfl, flat, cO, all_len cO, fun j u hj => ⟨_, rfl, ?_⟩⟩
  have aj : j < flat.length := (List.getElem?_eq_some_iff.1 hj).1
  rw [yY, Lib.cell_of_heap hh, p6 j aj, hj]
end Lay
section
variable {P : Program} {aw : Array Oper} {rest : List Oper} {o : Oper} {a : Act} {Q : Exit → Act → World → Prop} {K : Act → World → Prop}
theorem y9 {α : Type} (l : Lay α) (fm : l.flat) {W : World} (lo : Nat) (s x : Operand) (t e : TypeId) (z : Value) (bytes : Nat)
 (ho : o.op = .call { callee := .builtin .append, args := #[s, x], argTypes := #[t, t] })
 (ht : P.underlying t = some (.slice e)) (bR : (P.info? e).map (fun i => (i.zero, i.size, i.bytes)) = some (some z, l.size, bytes)) (hz : z.cells.size = l.size) (dS : 0 < bytes)
 (xs ys : List α) (a1 a2 : Option Addr) (n m c : Nat) {A B : Nat → Prop} (hs : a.eval s = .slice a1 n n) (hx : a.eval x = .slice a2 m c)
 (h1 : l.slice.rd A W [.slice a1 n n] xs) (h2 : l.slice.rd B W [.slice a2 m c] ys) (hy : 0 < ys.length) (bj : lo ≤ W.heap.size) (hl : (xs.length + ys.length) * bytes ≤ 140737488355328)
 (h : ∀ v1 w1, Own l e lo w1 v1 (xs ++ ys) → Ext W w1 → K (a.put o.dst v1) w1) : o.wp P a W K Q := by
 obtain ⟨i0, hi, kK⟩ := Option.map_eq_some_iff.1 bR
 simp only [Prod.mk.injEq] at kK
 obtain ⟨gf, dt, dO⟩ := kK
 obtain ⟨rfl, f1, k1, qD, uC⟩ := Lay.slice_cells h1
 obtain ⟨rfl, f2, k2, rn, p9⟩ := Lay.slice_cells h2
 have aT : xs.length + ys.length ≤ 140737488355328 := nlQ (Nat.le_mul_of_pos_right _ dS) hl
 have aX : (Builtin.firstCells i0.size xs.length (.slice a1 xs.length xs.length)).run P W.drew = .ok f1.toArray W.drew := by
  rw [dt]
  cases a1 with
  | none =>
   have h0 : f1 = [] := by
    cases f1 with
    | nil => rfl
    | cons u r => obtain ⟨q, hq, -⟩ := uC 0 u rfl; cases hq
   have hn : xs.length * l.size = 0 := by rw [← qD, h0]; rfl
   have := run_firstCells_none W.drew l.size xs.length xs.length xs.length (P := P)
   subst h0
   rcases Nat.eq_zero_or_pos xs.length with h0 | h0
   ·rw [h0]; exact run_firstCells_none W.drew l.size 0 0 0
   ·exact run_firstCells_none W.drew l.size _ _ _
  | some q =>
   exact run_firstCells_some W.drew l.size xs.length q xs.length xs.length f1 qD (fun j u hj => by
    obtain ⟨q', e, hc⟩ := uC j u hj
    obtain rfl := Option.some.inj e
    simpa using hc)
 obtain ⟨q2, rfl⟩ : ∃ q2, a2 = some q2 := by
  cases a2 with
  | some q => exact ⟨q, rfl⟩
  | none =>
   exfalso
   obtain ⟨a', fV, e, -, -, h3⟩ := h2
   simp only [List.cons.injEq, Value.slice.injEq, and_true] at e
   obtain ⟨rfl, -, -⟩ := e
   obtain ⟨_, _, _, _, _, _, e, _⟩ := h3 hy
   cases e
 have xw := Src.ofSlice (P := P) W (size := i0.size) (tx := t) ht q2 ys.length c f2 (by rw [dt]; exact rn) (fun j u hj => by
  obtain ⟨q', e, hc⟩ := p9 j u hj
  obtain rfl := Option.some.inj e
  exact hc) (Lay.all_one k2)
 have ko := run_append_grow_src (P := P) W t t o.type e i0 z ht hi gf a1 xs.length xs.length f1 aX (.slice (some q2) ys.length c) ys.length f2 xw (by omega) (by omega) (growslice_fits (by omega) (by rw [dO]; exact hl))
 unfold Oper.wp execOp
 simp only [ho, resolve, invoke, builtin, Sem.run_bind, Sem.run_pure, Result.andThen_ok, List.map_toArray, List.map_cons, List.map_nil, hs, hx, ko]
 show K _ _
 have cm := grownCap_ge W (xs.length + ys.length) xs.length e
 have cn := grownCap_le_maxLen W (xs.length + ys.length) xs.length e (by simp only [maxLen]; omega)
 refine h _ _ ⟨f1 ++ f2, ⟨by rw [laQ, laQ, qD, rn, Nat.add_mul], .inr ⟨W.heap.size, _, _, by rw [laQ], bj, heap_alloc_new W.drew _, ?_, cn, ?_, ?_⟩⟩, Lay.all_append (Lay.all_flat fm k1) (Lay.all_flat fm k2)⟩ (Ext.trans (zb W) (za _ _))
 ·rw [laQ]; exact cm
 ·rw [Array.size_append, List.size_toArray, laQ, qD, rn, size_zeroCells, hz, ← Nat.add_mul, ← Nat.add_mul]
  congr 1
  omega
 ·rw [Array.toList_append, List.take_append_of_le_length (by simp [qD, rn, Nat.add_mul]), List.take_of_length_le (by simp [qD, rn, Nat.add_mul])]
end
theorem j9 (n : Nat) (hn : n < 4294967296) (D : Nat → Prop) (g : Nat) (lo : Bool) (s : St) (w : World) (h : SpR D g lo s w) (hl : s.b.length ≤ 140737488355328) :
 Calls Tryz.prog 52 #[.pointer (some ⟨g, 0, none⟩), .int .u32 (n : Int)] w fun e w' => ∃ a m c, e = .returned (.slice a m c) ∧ Lay.u8.slice.rd D w' [.slice a m c] (zy n s).1 ∧ SpR D g lo (zy n s).2 w' ∧ Fr (fun k => k = g) w w' := by
 have hS := qh h
 obtain ⟨aa, cap, hb, h1, h2⟩ := h
 have hc := hb.cell
 have hf := hb.frz
 obtain ⟨a', c', ee, c6, cn⟩ := Lay.slice_form h1
 simp only [Value.slice.injEq] at ee
 obtain ⟨-, -, rfl⟩ := ee
 have kQ : (cap : Int) ≤ 9223372036854775807 := by simp only [maxLen] at cn; omega
 have lR : IntKind.u64.wrap (s.b.length : Int) = (s.b.length : Int) := by rw [IntKind.wrap_u64]; omega
 have eW : IntKind.u64.wrap (n : Int) = (n : Int) := by rw [IntKind.wrap_u64]; omega
 have H := qh (anQ hb (anQ h1 h2))
 by_cases aj : s.b.length < n
 ·have d1 : decide ((s.b.length : Int) < (n : Int)) = true := decide_eq_true (by omega)
  clear hb h1 h2 hf
  by_cases hbig : 1048576 < n
  ·have d2 : decide ((1048576 : Int) < (n : Int)) = true := decide_eq_true (by omega)
   have hR := qh (show zy n s = ([], ⟨[], 2⟩) from by unfold zy; rw [if_pos aj, if_pos hbig])
   go_enter Tryz.func52, Tryz.ntmps52
   go_wp2_with fail
   refine (zp D g lo s 3 w hS.o).mono ?_
   rintro e w1 ⟨rfl, ⟨ab, cb, kb, k1, k2⟩, kf⟩
   have cw := kb.cell
   have fj := kb.frz
   have HK := qh (anQ kb (anQ k1 (anQ k2 kf)))
   clear kb k1 k2 kf hc
   go_wp2
   go_ret
   have hs := zf w1 ⟨g, 1, none⟩ (.int .i64 2)
   refine ⟨_, _, _, rfl, ?_, ?_, Fr.trans HK.o.2.2.2 hs (fun _ _ h => h) (fun _ _ h => h)⟩
   ·rw [hR.o]; exact zbx (by decide)
   ·rw [hR.o]
    refine SpR.mk (aa := ab) (cap := cb) ?_ (s := ⟨[], 2⟩) HK.o.2.1 HK.o.2.2.1 hs
    have := HK.o.1.set 1 (.int .i64 2)
    simpa [St.fail] using this
  ·have d2 : decide ((1048576 : Int) < (n : Int)) = false := decide_eq_false (by omega)
   have hR := qh (show zy n s = ([], s.fail 3) from by unfold zy; rw [if_pos aj, if_neg hbig])
   go_enter Tryz.func52, Tryz.ntmps52
   go_wp2_with fail
   refine (zp D g lo s 3 w hS.o).mono ?_
   rintro e w1 ⟨rfl, k1, kf⟩
   have HK := qh (anQ k1 kf)
   clear k1 kf hc
   go_wp2
   go_ret
   exact ⟨_, _, _, rfl, by rw [hR.o]; exact zbx (by decide), by rw [hR.o]; exact HK.o.1, HK.o.2⟩
 ·have d1 : decide ((s.b.length : Int) < (n : Int)) = false := decide_eq_false (by omega)
  have ff : n ≤ s.b.length := by omega
  have uK : (n : Int) ≤ (cap : Int) := by omega
  have Cu : (n : Int) ≤ (s.b.length : Int) := by omega
  have hR := qh (show zy n s = (s.b.take n, ⟨s.b.drop n, s.v⟩) from by unfold zy; rw [if_neg aj])
  have HD := qh (anQ (SpR.drop (b := s.b) (v := s.v) hb h1 h2 n ff) (anQ ff cn))
  have ru : Int.toNat ((s.b.length : Int) - (n : Int)) = s.b.length - n := by omega
  clear hb h1 h2 hS
  go_enter Tryz.func52, Tryz.ntmps52
  go_wp2
  ·go_ret
   have hs := zf w ⟨g, 0, none⟩ (.slice aa (s.b.length - n) 0)
   refine ⟨_, _, _, rfl, ?_, ?_, hs⟩
   ·rw [hR.o]
    exact Lay.fr (Lay.rd_take H.o.2.1 HD.o.2.1 (Nat.le_refl _) (by have := HD.o.2; omega)) hs (fun k hk => H.o.2.2 k hk)
   ·rw [hR.o]
    exact HD.o.1.2 (by omega)
  ·go_ret
   have hs := zf w ⟨g, 0, none⟩ (.slice (aa.map (·.add n)) (s.b.length - n) (cap - n))
   refine ⟨_, _, _, rfl, ?_, ?_, hs⟩
   ·rw [hR.o]
    exact Lay.fr (Lay.rd_take H.o.2.1 HD.o.2.1 (Nat.le_refl _) (by have := HD.o.2; omega)) hs (fun k hk => H.o.2.2 k hk)
   ·rw [hR.o]
    exact HD.o.1.1
theorem zcz (s : ByteArray) (pos : Nat) (h : pos < s.size) : 1 ≤ (Utf8.decode s pos).2 := by
 by_cases ha : (s[pos]'h).toNat < 128
 ·rw [decode_ascii s pos h ha]
  exact Nat.le_refl _
 ·exact (decode_high s pos h (by omega)).2
def yO (s : ByteArray) : Nat → Nat → Bool
 | 0, _ => true
 | f + 1, pos => if pos < s.size then (if (Utf8.decode s pos).1 = 65533 then false else yO s f (pos + (Utf8.decode s pos).2)) else true
def Zm (l : List UInt8) : Bool := yO (zd l) (zd l).size 0
theorem Yj (s : ByteArray) (f pos : Nat) : yO s (f + 1) pos = if pos < s.size then (if (Utf8.decode s pos).1 = 65533 then false else yO s f (pos + (Utf8.decode s pos).2)) else true := rfl
theorem Y5 (s : ByteArray) (f pos : Nat) (h : ¬ pos < s.size) : yO s f pos = true := by
 cases f with
 | zero => rfl
 | succ f => simp [yO, h]
theorem zbW (w : World) (s : ByteArray) (p : Nat) : Ext w (w.iter s p) := by
 have : w.iter s p = w.alloc (.stringIter s p) := by simp [World.iter]
 rw [this]
 exact za w _
theorem zjb (l : List UInt8) (w : World) :
 Calls Tryz.prog 39 #[.string (zd l)] w fun e w' => e = .returned (.bool (Zm l)) ∧ Ext w w' := by
 obtain ⟨s, hs⟩ := exQ (zd l)
 have hR := qh (show Zm l = yO s s.size 0 from by unfold Zm; rw [hs])
 rw [hs]
 clear hs
 go_enter Tryz.func39, Tryz.ntmps39
 go_wp2_with fail
 go_loopw [4] (fun _ w' => ∃ (pos b : Nat), w' = w.iter s pos ∧ Hq (yO s b pos = yO s s.size 0) ∧ s.size ≤ pos + b) (fun _ w' => s.size - w'.iterPos w.heap.size)
 case atStart => exact ⟨0, s.size, rfl, rfl, by omega⟩
 case round =>
  obtain ⟨pos, b, rfl, hc, hb⟩ := hrel
  by_cases hp : pos < s.size
  ·have ey : ∀ ty, (Instr.next (.pointer (some ⟨w.heap.size, 0, none⟩)) true ty).run Tryz.prog (w.iter s pos) = _ := fun ty => run_next_any w s pos ty hp
   have sd := zcz s pos hp
   obtain ⟨b', rfl⟩ : ∃ b', b = b' + 1 := ⟨b - 1, by omega⟩
   have gZ := hc.o
   rw [Yj, if_pos hp] at gZ
   by_cases h6 : (Utf8.decode s pos).1 = 65533
   ·rw [if_pos h6] at gZ
    have my := qh (show Zm l = false from by rw [hR.o, ← gZ])
    have d6 : (((Utf8.decode s pos).1 : Int) == 65533) = true := by rw [beq_iff_eq]; omega
    clear hc gZ hR hb
    go_wp2
    go_ret
    exact ⟨by rw [my.o]; rfl, zbW _ _ _⟩
   ·rw [if_neg h6] at gZ
    have wU := qh gZ
    have d6 := bfQ (a := ((Utf8.decode s pos).1 : Int)) (b := 65533) (by omega)
    clear hc gZ hR
    go_wp2
    go_roundw
    case rel => exact ⟨pos + (Utf8.decode s pos).2, b', rfl, wU, by omega⟩
    case measure => simp; omega
  ·have ey : ∀ ty, (Instr.next (.pointer (some ⟨w.heap.size, 0, none⟩)) true ty).run Tryz.prog (w.iter s pos) = _ := fun ty => run_next_end w s pos ty hp
   have my := qh (show Zm l = true from by rw [hR.o, ← hc.o, Y5 s b pos hp])
   clear hc hR hb
   go_wp2
   go_ret
   exact ⟨by rw [my.o]; rfl, zbW _ _ _⟩
def zr (s : St) : List UInt8 × St :=
 ((zy (zc s).1 (zc s).2).1, if Zm (zy (zc s).1 (zc s).2).1 then (zy (zc s).1 (zc s).2).2 else (zy (zc s).1 (zc s).2).2.fail 2)
theorem zfy (s : St) (n : Nat) : (s.fail n).fail n = s.fail n := by
 unfold St.fail
 simp only [St.mk.injEq, true_and]
 by_cases h : s.v = 0
 ·simp [h]
 ·simp [h]
theorem zfz (w : World) (k : Nat) (s : ByteArray) (p : Nat) : Fr (fun j => j = k) w (w.iterAt k s p) :=
 ⟨rfl, rfl, rfl, by simp [World.iterAt], fun j _ hj => by simp [World.iterAt, Array.getElem?_setIfInBounds, Ne.symm hj]⟩
theorem zfA (w : World) (k : Nat) (s : ByteArray) (p : Nat) (hk : k < w.heap.size) : (w.iterAt k s p).heap[k]? = some (.stringIter s p) := by
 simp [World.iterAt, hk]
theorem Ja {g : Nat} {lo : Bool} (h : SpR D g lo s w) (hl : s.b.length ≤ 140737488355328) :
 Calls Tryz.prog 91 #[.pointer (some ⟨g, 0, none⟩)] w fun e w' => e = .returned (.string (zd (zr s).1)) ∧ SpR D g lo (zr s).2 w' ∧ Fr (fun k => k = g) w w' := by
 have aj := h.lt
 have H := qh (anQ h (anQ hl (anQ aj (zF s))))
 have oS := qh (zL s)
 clear h hl aj
 go_enter Tryz.func91, Tryz.ntmps91
 go_wp2_with fail
 refine (zK D g lo s w H.o.1 H.o.2.1).mono ?_
 rintro e w1 ⟨rfl, k1, k2⟩
 have H1 := qh (anQ k1 k2)
 clear k1 k2
 obtain ⟨n, hn⟩ := exQ ((zc s).1)
 obtain ⟨s1, ed⟩ := exQ ((zc s).2)
 have hR := qh (show zr s = ((zy n s1).1, if Zm (zy n s1).1 then (zy n s1).2 else (zy n s1).2.fail 2) from by unfold zr; rw [hn, ed])
 have l8 := H.o.2.2.2
 rw [hn] at oS ⊢
 rw [ed] at H1 l8
 clear hn ed
 go_wp2_with fail
 refine (j9 n oS.o D g lo s1 w1 H1.o.1 (by have := H.o.2.1; omega)).mono ?_
 rintro e w2 ⟨ta, tm, tc, rfl, k1, k2, k3⟩
 obtain ⟨l, hl⟩ := exQ ((zy n s1).1)
 obtain ⟨s2, cT⟩ := exQ ((zy n s1).2)
 rw [hl, cT] at hR
 rw [hl] at k1
 rw [cT] at k2
 have gI := Jt k1 (fun k hk => (k2.lt.2 k hk).1) 22 9 5 Tryz.underlying22 Tryz.underlying5 Tryz.underlying9 w2 (Fr.refl _ _)
 have H2 := qh (anQ k2 (Fr.trans H1.o.2 k3 (U := fun k => k = g) (fun _ _ h => h) (fun _ _ h => h)))
 clear k1 k2 k3 hl cT l8
 obtain ⟨t, ht⟩ := exQ (zd l)
 have hT := qh (show Zm l = yO t t.size 0 from by unfold Zm; rw [ht])
 have CP := qh ht
 rw [ht] at gI
 go_wp2_with fail
 clear gI
 obtain ⟨W3, fi⟩ := exQ (w2.iter t 0)
 obtain ⟨ki, rH⟩ := exQ (w2.heap.size)
 have H3 : Hq (W3.heap[ki]? = some (.stringIter t 0) ∧ Ext w2 W3 ∧ w2.heap.size = ki) := by
  subst fi
  subst rH
  exact ⟨by simp [World.iter_heap], zbW _ _ _, rfl⟩
 rw [fi, rH]
 clear fi rH
 go_loopw [5] (fun _ w' => ∃ (pos b : Nat) (bad : Bool), w'.heap[ki]? = some (.stringIter t pos) ∧ Hq ((!bad && yO t b pos) = yO t t.size 0) ∧ t.size ≤ pos + b ∧ Hq (SpR D g lo (if bad then s2.fail 2 else s2) w' ∧ Fr (fun k => k = g ∨ k = ki) W3 w')) (fun _ w' => t.size - w'.iterPos ki)
 case atStart => exact ⟨0, t.size, false, H3.o.1, by show _ = _; simp, by omega, H2.o.1.ext H3.o.2.1, Fr.refl _ _⟩
 case round =>
  obtain ⟨pos, b, bad, us, hc, hb, hV⟩ := hrel
  have wW : ki < wr.heap.size := (Array.getElem?_eq_some_iff.1 us).1
  have Aw : g ≠ ki := by have := H2.o.1.lt.1; have := H3.o.2.2; omega
  have uc : wr.iterPos ki = pos := by unfold World.iterPos; rw [us]
  by_cases hp : pos < t.size
  ·have ey : ∀ ty, (Instr.next (.pointer (some ⟨ki, 0, none⟩)) true ty).run Tryz.prog wr = _ := fun ty => Lib.run_next_any_at wr ki t pos ty us hp
   have sd := zcz t pos hp
   obtain ⟨b', rfl⟩ : ∃ b', b = b' + 1 := ⟨b - 1, by omega⟩
   have gZ := hc.o
   rw [Yj, if_pos hp] at gZ
   have ux := zfz wr ki t (pos + (Utf8.decode t pos).2)
   have xy : ∀ k, D k → ¬ k = ki := fun k hk e => by have := (H2.o.1.lt.2 k hk).1; have := H3.o.2.2; omega
   have xY := qh (hV.o.1.fr ux Aw xy)
   have AT := qh (Fr.trans hV.o.2 ux (U := fun k => k = g ∨ k = ki) (fun _ _ h => h) (fun _ _ h => .inr h))
   have kw := zfA wr ki t (pos + (Utf8.decode t pos).2) wW
   have dd := qh (show t.size - (pos + (Utf8.decode t pos).2) < t.size - wr.iterPos ki from by rw [uc]; omega)
   have ct := qh (show t.size ≤ pos + (Utf8.decode t pos).2 + b' from by omega)
   by_cases h6 : (Utf8.decode t pos).1 = 65533
   ·rw [if_pos h6] at gZ
    have d6 : (((Utf8.decode t pos).1 : Int) == 65533) = true := by rw [beq_iff_eq]; omega
    have tO := qh gZ
    clear hc gZ hb uc ux hV xy
    go_wp2_with fail
    clear ey
    generalize (wr.iterAt ki t (pos + (Utf8.decode t pos).2)) = W4 at *
    refine (zp D g lo _ 2 W4 xY.o).mono ?_
    rintro e w5 ⟨rfl, k1, k2⟩
    have iH : Hq (w5.heap[ki]? = some (.stringIter t (pos + (Utf8.decode t pos).2)) ∧ ((!true && yO t b' (pos + (Utf8.decode t pos).2)) = yO t t.size 0) ∧ SpR D g lo (s2.fail 2) w5 ∧ Fr (fun k => k = g ∨ k = ki) W3 w5) := by
     refine ⟨(k2.block ki (Array.getElem?_eq_some_iff.1 kw).1 (fun e => Aw e.symm)).trans kw, ?_, ?_, Fr.trans AT.o k2 (fun _ _ h => h) (fun _ _ h => .inl h)⟩
     ·rw [← tO.o]; simp
     ·cases bad with
      | true => have := k1; simp only [if_true] at this; rw [zfy] at this; exact this
      | false => exact k1
    have wE := qh (show w5.iterPos ki = pos + (Utf8.decode t pos).2 from by unfold World.iterPos; rw [iH.o.1])
    clear k1 k2 kw
    go_wp2
    go_roundw
    case rel => exact ⟨_, b', true, iH.o.1, iH.o.2.1, ct.o, iH.o.2.2.1, iH.o.2.2.2⟩
    case measure => rw [wE.o]; exact dd.o
   ·rw [if_neg h6] at gZ
    have d6 := bfQ (a := ((Utf8.decode t pos).1 : Int)) (b := 65533) (by omega)
    have tO := qh gZ
    have wE := qh (show (wr.iterAt ki t (pos + (Utf8.decode t pos).2)).iterPos ki = pos + (Utf8.decode t pos).2 from by unfold World.iterPos; rw [kw])
    have kw := qh kw
    clear hc gZ hb uc ux hV xy
    go_wp2
    go_roundw
    case rel => exact ⟨_, b', bad, kw.o, tO.o, ct.o, xY.o, AT.o⟩
    case measure => rw [wE.o]; exact dd.o
  ·have ey : ∀ ty, (Instr.next (.pointer (some ⟨ki, 0, none⟩)) true ty).run Tryz.prog wr = _ := fun ty => Lib.run_next_end_at wr ki t pos ty us hp
   have gZ := hc.o
   rw [Y5 t b pos hp, Bool.and_true] at gZ
   have aV := qh (show (zr s).1 = l ∧ SpR D g lo (zr s).2 wr ∧ Fr (fun k => k = g) w wr from by
    rw [hR.o, hT.o, ← gZ]
    refine ⟨rfl, ?_, (Fr.trans (Fr.ext H2.o.2 H3.o.2.1) hV.o.2 (U := fun k => k = g ∨ k = ki) (fun _ _ h => .inl h) (fun _ _ h => h)).mono (fun k hk e => e.elim id (fun e => by have := H2.o.2.size; have := H3.o.2.2; omega))⟩
    cases bad with
    | true => exact hV.o.1
    | false => exact hV.o.1)
   clear hc gZ hV hb uc
   go_wp2
   go_ret
   exact ⟨by rw [aV.o.1, CP.o]; rfl, aV.o.2⟩
end Go.Proofs.YtejgninpjhcgnaaGreatDoor
