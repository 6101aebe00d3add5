/- Texts of this proof, one behind the other. -/
import Derived.Test.YtejgninpjhcgnaaGreatDoorPart12
namespace Go.Proofs.YtejgninpjhcgnaaGreatDoor
open Go.RowKit
set_option linter.unusedSimpArgs false
set_option linter.unusedVariables false
set_option maxRecDepth 100000
set_option maxHeartbeats 4000000
theorem zeA : ∀ (b : List UInt8) (sh bz : Nat), (∀ c ∈ b, 128 ≤ c.toNat) → zi7 sh bz b = none
 | [], _, _, _ => rfl
 | c :: r, sh, bz, h => by
  have hc := h c (List.mem_cons_self ..)
  unfold zi7
  rw [if_neg (by omega)]
  exact zeA r _ _ (fun c hc => h c (List.mem_cons_of_mem _ hc))
theorem Yu : ∀ (b : List UInt8) (sh bz : Nat), (∀ c ∈ b, 128 ≤ c.toNat) → Ze sh bz b = none
 | [], _, _, _ => rfl
 | c :: r, sh, bz, h => by
  have hc := h c (List.mem_cons_self ..)
  unfold Ze
  rw [if_neg (by omega)]
  exact Yu r _ _ (fun c hc => h c (List.mem_cons_of_mem _ hc))
variable {bits : Nat} {b : List UInt8}
theorem zdM (h : jO bits b = true) : ∀ c ∈ b, 128 ≤ c.toNat := by
 unfold jO at h
 rw [Bool.and_eq_true, List.all_eq_true] at h
 exact fun c hc => of_decide_eq_true (h.1 c hc)
theorem zgU (a : Nat) : toS a % 4294967296 = ((a % 4294967296 : Nat) : Int) := by unfold toS; omega
theorem zfJ (x s : Nat) (h1 : 32 ≤ s) (h2 : s < 64) : (x ||| (2 ^ 64 - 2 ^ s)) % 2 ^ 32 = x % 2 ^ 32 := by
 have hz : (2 ^ 64 - 2 ^ s) % 2 ^ 32 = 0 := by
  have e : (2 : Nat) ^ s = 2 ^ (s - 32) * 2 ^ 32 := by rw [← Nat.pow_add]; congr 1; omega
  have e2 : (2 : Nat) ^ 64 = 2 ^ 32 * 2 ^ 32 := by rw [← Nat.pow_add]
  rw [e, e2, ← Nat.sub_mul, Nat.mul_mod_left]
 rw [Nat.or_mod_two_pow, hz, Nat.or_zero]
theorem zff (x s : Nat) (h2 : s < 64) : 9223372036854775808 ≤ (x ||| (2 ^ 64 - 2 ^ s)) := by
 have h := Nat.right_le_or (n := x) (m := 2 ^ 64 - 2 ^ s)
 have : (2 : Nat) ^ s ≤ 2 ^ 63 := Nat.pow_le_pow_right (by decide) (by omega)
 omega
theorem zaM : ∀ (b : List UInt8) (sh bz n : Nat) {v k : Nat}, sigG 32 sh bz n b = (v, k) → k ≠ 0 → ∃ j m, k = n + j ∧ Ze sh bz b = some (m, b.drop j) ∧ m % 4294967296 = ((v % 4294967296 : Nat) : Int)
 | [], _, _, _, v, k, h, hk => by simp only [sigG, Prod.mk.injEq] at h; exact absurd h.2.symm hk
 | c :: r, sh, bz, n, v, k, h, hk => by
  unfold sigG at h
  split at h
  ·simp only [Prod.mk.injEq] at h; exact absurd h.2.symm hk
  ·split at h
   ·simp only [Prod.mk.injEq] at h; exact absurd h.2.symm hk
   ·split at h
    ·rename_i h128
     simp only [Prod.mk.injEq] at h
     refine ⟨1, _, h.2.symm, by unfold Ze; rw [if_pos h128]; rfl, ?_⟩
     rw [zgU, ← h.1]
     by_cases dO : 64 ≤ c.toNat
     ·by_cases h32 : sh + 7 < 32
      ·rw [if_pos ⟨h32, dO⟩, if_pos ⟨dO, by omega⟩]
      ·rw [if_neg (fun e => h32 e.1)]
       by_cases h7 : sh + 7 < 64
       ·rw [if_pos ⟨dO, h7⟩]
        have := zfJ (bz ||| (c.toNat % 128 * 2 ^ sh % 2 ^ 64)) (sh + 7) (by omega) h7
        congr 1
        exact this.symm
       ·rw [if_neg (fun e => h7 e.2)]
     ·rw [if_neg (fun e => dO e.2), if_neg (fun e => dO e.1)]
    ·rename_i h128
     obtain ⟨j, m, hj, hr, hm⟩ := zaM r _ _ _ h hk
     refine ⟨j + 1, m, by omega, ?_, hm⟩
     unfold Ze
     rw [if_neg h128, hr]
     rfl
theorem zaN : ∀ (b : List UInt8) (sh bz n : Nat) {v k : Nat}, sh = 7 * n → sigG 64 sh bz n b = (v, k) → k ≠ 0 → ¬ (9223372036854775808 ≤ v ∧ 4 < k) → ∃ j, k = n + j ∧ Ze sh bz b = some (toS v, b.drop j)
 | [], _, _, _, v, k, _, h, hk, _ => by simp only [sigG, Prod.mk.injEq] at h; exact absurd h.2.symm hk
 | c :: r, sh, bz, n, v, k, DC, h, hk, hw => by
  unfold sigG at h
  split at h
  ·simp only [Prod.mk.injEq] at h; exact absurd h.2.symm hk
  ·split at h
   ·simp only [Prod.mk.injEq] at h; exact absurd h.2.symm hk
   ·split at h
    ·rename_i h128
     simp only [Prod.mk.injEq] at h
     refine ⟨1, h.2.symm, ?_⟩
     unfold Ze
     rw [if_pos h128, ← h.1]
     by_cases dO : 64 ≤ c.toNat
     ·by_cases h7 : sh + 7 < 64
      ·rw [if_pos (c := 64 ≤ c.toNat ∧ sh + 7 < 64) ⟨dO, h7⟩]
       have hb := zff (bz ||| (c.toNat % 128 * 2 ^ sh % 2 ^ 64)) (sh + 7) h7
       have hv : 9223372036854775808 ≤ v := by rw [← h.1, if_pos ⟨dO, h7⟩]; exact hb
       have h4 : ¬ 4 < k := fun e => hw ⟨hv, e⟩
       rw [if_pos ⟨by omega, dO⟩]
       rfl
      ·rw [if_neg (fun e => h7 (by omega)), if_neg (fun e => h7 e.2)]
       rfl
     ·rw [if_neg (fun e => dO e.2), if_neg (fun e => dO e.1)]
      rfl
    ·rename_i h128
     obtain ⟨j, hj, hr⟩ := zaN r _ _ _ (by omega) h hk hw
     refine ⟨j + 1, by omega, ?_⟩
     unfold Ze
     rw [if_neg h128, hr]
     rfl
variable {s : St}
theorem zfg (h : s.v = 0) (n : Nat) : s.fail n = ⟨[], n⟩ := by simp [St.fail, h]
theorem zae (n : Nat) (h : n < 18446744073709551616) : zbA (n : Int) = UInt64.ofNat n := by
 unfold zbA
 rw [show ((n : Int) % 18446744073709551616).toNat = n from by omega]
theorem zcS (hv : s.v = 0) : ((zC 32 s).2.v = 0 → ∃ m, Ze 0 0 s.b = some (m, (zC 32 s).2.b) ∧ zbA (wrap32 m % 4294967296) = UInt64.ofNat (zC 32 s).1) ∧ ((zC 32 s).2.v ≠ 0 → (zC 32 s).2.v = 2 ∨ ((zC 32 s).2.v = 3 ∧ Ze 0 0 s.b = none)) := by
 unfold zC
 by_cases hn : (sig 32 s.b).2 = 0
 ·rw [if_pos hn, zfg hv]
  cases he : jO 32 s.b with
  | true => exact ⟨fun h => (by cases h), fun _ => .inr ⟨rfl, Yu _ _ _ (zdM he)⟩⟩
  | false => exact ⟨fun h => (by cases h), fun _ => .inl rfl⟩
 ·rw [if_neg hn]
  refine ⟨fun _ => ?_, fun h => absurd hv h⟩
  obtain ⟨j, m, hj, hr, hm⟩ := zaM s.b 0 0 0 (v := (sig 32 s.b).1) (k := (sig 32 s.b).2) rfl hn
  rw [Nat.zero_add] at hj
  refine ⟨m, by rw [hr, hj], ?_⟩
  rw [if_pos rfl, ← zae _ (by omega)]
  congr 1
  rw [← hm]
  unfold wrap32
  omega
theorem zcT (hv : s.v = 0) : ((yV 1 s).2.v = 0 → ∃ m, Ze 0 0 s.b = some (m, (yV 1 s).2.b) ∧ zbA m = UInt64.ofNat (yV 1 s).1) ∧ ((yV 1 s).2.v ≠ 0 → (yV 1 s).2.v = 2 ∨ ((yV 1 s).2.v = 3 ∧ Ze 0 0 s.b = none)) := by
 have lW : yV 1 s = ((zC 64 s).1, if 9223372036854775808 ≤ (zC 64 s).1 ∧ 4 + (zC 64 s).2.b.length < s.b.length then (zC 64 s).2.fail 2 else (zC 64 s).2) := rfl
 by_cases hn : (sig 64 s.b).2 = 0
 ·have od : zC 64 s = (0, s.fail (if jO 64 s.b then 3 else 2)) := by unfold zC; rw [if_pos hn]
  have xI : yV 1 s = (0, s.fail (if jO 64 s.b then 3 else 2)) := by rw [lW, od]; simp
  rw [xI, zfg hv]
  cases he : jO 64 s.b with
  | true => exact ⟨fun h => (by cases h), fun _ => .inr ⟨rfl, Yu _ _ _ (zdM he)⟩⟩
  | false => exact ⟨fun h => (by cases h), fun _ => .inl rfl⟩
 ·have od : zC 64 s = ((sig 64 s.b).1, ⟨s.b.drop (sig 64 s.b).2, s.v⟩) := by unfold zC; rw [if_neg hn, if_neg (by decide)]
  have ao := zgr 64 s.b
  rw [od] at lW
  rw [lW]
  dsimp only
  by_cases hw : 9223372036854775808 ≤ (sig 64 s.b).1 ∧ 4 + (s.b.drop (sig 64 s.b).2).length < s.b.length
  ·rw [if_pos hw, show (⟨s.b.drop (sig 64 s.b).2, s.v⟩ : St).fail 2 = ⟨[], 2⟩ from zfg (s := ⟨_, s.v⟩) hv 2]
   exact ⟨fun h => (by cases h), fun _ => .inl rfl⟩
  ·rw [if_neg hw]
   refine ⟨fun _ => ?_, fun h => absurd hv h⟩
   rw [ldQ] at hw
   obtain ⟨j, hj, hr⟩ := zaN s.b 0 0 0 (v := (sig 64 s.b).1) (k := (sig 64 s.b).2) rfl rfl hn (fun e => hw ⟨e.1, by omega⟩)
   rw [Nat.zero_add] at hj
   refine ⟨_, by rw [hr, hj], ?_⟩
   have ah := zgu 64 s.b
   rw [← zae _ ah]
   unfold zbA
   rw [zcD ah, show (((sig 64 s.b).1 : Nat) : Int) % 18446744073709551616 = (((sig 64 s.b).1 : Nat) : Int) from by omega]
theorem ziR (x y s : Nat) : (x ||| y) * 2 ^ s % 2 ^ 64 = (x * 2 ^ s % 2 ^ 64) ||| (y * 2 ^ s % 2 ^ 64) := by
 rw [← Nat.shiftLeft_eq, ← Nat.shiftLeft_eq, ← Nat.shiftLeft_eq, Nat.shiftLeft_or_distrib, Nat.or_mod_two_pow]
theorem ziS (n : Nat) : (n % 128) ||| (n / 128 * 128) = n := by
 have h := Nat.shiftLeft_add_eq_or_of_lt (i := 7) (b := n % 128) (Nat.mod_lt _ (by decide)) (n / 128)
 rw [Nat.shiftLeft_eq, show (2 : Nat) ^ 7 = 128 from rfl] at h
 rw [Nat.or_comm, ← h]
 omega
variable {x y : Nat}
theorem ziT {k : Nat} (hx : x < 2 ^ k) (hy : 2 ^ k ∣ y) : x ||| y = x + y := by
 obtain ⟨c, rfl⟩ := hy
 have h := Nat.shiftLeft_add_eq_or_of_lt (i := k) (b := x) hx c
 rw [Nat.shiftLeft_eq, Nat.mul_comm c] at h
 rw [Nat.or_comm, ← h, Nat.add_comm]
theorem zfK (i : Int) : ((i % 128).toNat : Int) = i % 128 := by omega
theorem zaf (N : Nat) : ∀ (i : Int) (s a : Nat) (r : List UInt8), i.natAbs ≤ N → s ≤ 63 → -2 ^ (63 - s) ≤ i → i < 2 ^ (63 - s) →
 ∃ q : Nat, Ze s a (sleb i ++ r) = some (toS (a ||| q), r) ∧ q < 18446744073709551616 ∧ 2 ^ s ∣ q ∧
  ((0 ≤ i ∨ s + 7 * (sleb i).length < 32) → (q : Int) % 18446744073709551616 = i * 2 ^ s % 18446744073709551616) ∧ (q : Int) % 4294967296 = i * 2 ^ s % 4294967296 := by
 induction N using Nat.strongRecOn with
 | ind N ih =>
  intro i s a r hN hs h1 h2
  have hP : 0 < 2 ^ s := Nat.pow_pos (by decide)
  have ht := zfK i
  by_cases hi : -64 ≤ i ∧ i < 64
  ·rw [j2 hi]
   generalize hT : (i % 128).toNat = t at *
   have lO : t < 128 := by omega
   simp only [List.cons_append, List.nil_append, Ze, UInt8.toNat_ofNat', List.length_cons, List.length_nil]
   rw [Nat.mod_eq_of_lt (by omega : t < 2 ^ 8), if_pos lO, Nat.mod_eq_of_lt lO]
   by_cases hf : s + 7 < 32 ∧ 64 ≤ t
   ·rw [if_pos hf, Nat.or_assoc]
    have uM : 2 ^ (s + 7) = 128 * 2 ^ s := by rw [Nat.pow_add]; omega
    have ah : 2 ^ (s + 7) ≤ 2 ^ 32 := Nat.pow_le_pow_right (by decide) (by omega)
    have hx : t * 2 ^ s < 2 ^ (s + 7) := by rw [uM]; exact Nat.mul_lt_mul_of_pos_right lO hP
    have bY : t * 2 ^ s % 2 ^ 64 = t * 2 ^ s := Nat.mod_eq_of_lt (by omega)
    have hd : 2 ^ (s + 7) ∣ 2 ^ 64 - 2 ^ (s + 7) := Nat.dvd_sub (Nat.pow_dvd_pow 2 (by omega)) (Nat.dvd_refl _)
    have CQ : 2 ^ s ∣ 2 ^ 64 - 2 ^ (s + 7) := Nat.dvd_trans (Nat.pow_dvd_pow 2 (by omega)) hd
    have ho := ziT hx hd
    have kH : i * 2 ^ s = (t : Int) * 2 ^ s - 128 * 2 ^ s := by rw [show i = (t : Int) - 128 from by omega, Int.sub_mul]
    refine ⟨_, rfl, ?_, ?_, ?_, ?_⟩
    ·rw [bY, ho]; omega
    ·rw [bY, ho]; exact Nat.dvd_add (Nat.dvd_mul_left _ _) CQ
    ·intro _
     rw [bY, ho, kH]
     have e1 : ((t * 2 ^ s : Nat) : Int) = (t : Int) * 2 ^ s := by simp
     have e2 : ((2 ^ s : Nat) : Int) = 2 ^ s := by simp
     rw [← e1, ← e2]
     generalize t * 2 ^ s = X at *
     generalize 2 ^ s = P at *
     omega
    ·rw [bY, ho, kH]
     have e1 : ((t * 2 ^ s : Nat) : Int) = (t : Int) * 2 ^ s := by simp
     have e2 : ((2 ^ s : Nat) : Int) = 2 ^ s := by simp
     rw [← e1, ← e2]
     generalize t * 2 ^ s = X at *
     generalize 2 ^ s = P at *
     omega
   ·rw [if_neg hf]
    refine ⟨_, rfl, Nat.mod_lt _ (by decide), ?_, ?_, ?_⟩
    ·exact (Nat.dvd_mod_iff (Nat.pow_dvd_pow 2 (by omega))).2 (Nat.dvd_mul_left _ _)
    ·intro h
     have : i = t := by omega
     rw [this]
     simp
    ·have e1 : ((t * 2 ^ s % 2 ^ 64 : Nat) : Int) = ((t : Int) * 2 ^ s) % 18446744073709551616 := by simp
     rw [e1]
     by_cases h0 : 0 ≤ i
     ·rw [show i = t from by omega]
      generalize (t : Int) * 2 ^ s = X
      omega
     ·have aZ : 32 ≤ s + 7 := by omega
      obtain ⟨c, hc⟩ : ∃ c : Nat, 2 ^ (s + 7) = 4294967296 * c := Nat.pow_dvd_pow 2 aZ
      have uM : 2 ^ (s + 7) = 128 * 2 ^ s := by rw [Nat.pow_add]; omega
      have kH : i * 2 ^ s = (t : Int) * 2 ^ s - 128 * 2 ^ s := by rw [show i = (t : Int) - 128 from by omega, Int.sub_mul]
      have e2 : ((2 ^ s : Nat) : Int) = 2 ^ s := by simp
      rw [kH]
      generalize (t : Int) * 2 ^ s = X
      rw [← e2]
      generalize 2 ^ s = P at *
      omega
  ·have sS : s + 7 ≤ 63 := by
    rcases Nat.lt_or_ge 6 (63 - s) with h | h
    ·omega
    ·have kg : 2 ^ (63 - s) ≤ 2 ^ 6 := Nat.pow_le_pow_right (by decide) h
     have e : (2 : Int) ^ (63 - s) = ((2 ^ (63 - s) : Nat) : Int) := by simp
     rw [e] at h1 h2
     generalize 2 ^ (63 - s) = Q at *
     omega
   have hQ : (2 : Int) ^ (63 - s) = 128 * 2 ^ (63 - (s + 7)) := by rw [show 63 - s = 63 - (s + 7) + 7 from by omega, Int.pow_add]; generalize (2 : Int) ^ (63 - (s + 7)) = q; omega
   rw [Z8 hi]
   have ao : (UInt8.ofNat ((i % 128).toNat + 128) :: sleb (i / 128)).length = (sleb (i / 128)).length + 1 := rfl
   rw [ao]
   simp only [List.cons_append, Ze, UInt8.toNat_ofNat']
   generalize hT : (i % 128).toNat = t at *
   have lO : t < 128 := by omega
   rw [Nat.mod_eq_of_lt (by omega : t + 128 < 2 ^ 8), if_neg (by omega), show (t + 128) % 128 = t from by omega]
   obtain ⟨q, dH, lT, ld, ws, Au⟩ := ih (i / 128).natAbs (by omega) (i / 128) (s + 7) (a ||| (t * 2 ^ s % 2 ^ 64)) r (Nat.le_refl _) sS (by
    rw [hQ] at h1; generalize (2 : Int) ^ (63 - (s + 7)) = q at *; omega) (by
    rw [hQ] at h2; generalize (2 : Int) ^ (63 - (s + 7)) = q at *; omega)
   rw [dH, Nat.or_assoc]
   have uM : 2 ^ (s + 7) = 128 * 2 ^ s := by rw [Nat.pow_add]; omega
   have ah : 2 ^ (s + 7) ≤ 2 ^ 63 := Nat.pow_le_pow_right (by decide) sS
   have hx : t * 2 ^ s < 2 ^ (s + 7) := by rw [uM]; exact Nat.mul_lt_mul_of_pos_right lO hP
   have bY : t * 2 ^ s % 2 ^ 64 = t * 2 ^ s := Nat.mod_eq_of_lt (by omega)
   have ho := ziT hx ld
   have DP : t * 2 ^ s ||| q < 2 ^ 64 := Nat.or_lt_two_pow (by omega) lT
   have kH : i * 2 ^ s = (t : Int) * 2 ^ s + i / 128 * 2 ^ (s + 7) := by
    rw [Int.pow_add, show (2 : Int) ^ s * 2 ^ 7 = 128 * 2 ^ s from by generalize (2 : Int) ^ s = p; omega, ← Int.mul_assoc, ← Int.add_mul]
    congr 1
    omega
   have e1 : ((t * 2 ^ s : Nat) : Int) = (t : Int) * 2 ^ s := by simp
   refine ⟨_, rfl, ?_, ?_, ?_, ?_⟩
   ·rw [bY]; exact DP
   ·rw [bY, ho]; exact Nat.dvd_add (Nat.dvd_mul_left _ _) (Nat.dvd_trans (Nat.pow_dvd_pow 2 (by omega)) ld)
   ·intro h
    have := ws (by omega)
    rw [bY, ho, kH, ← e1]
    generalize i / 128 * 2 ^ (s + 7) = Y at *
    generalize t * 2 ^ s = X at *
    omega
   ·rw [bY, ho, kH, ← e1]
    generalize i / 128 * 2 ^ (s + 7) = Y at *
    generalize t * 2 ^ s = X at *
    omega
variable {R : List UInt8}
theorem zkk (h : s.v = 0) (hb : s.b = R) : s = ⟨R, 0⟩ := by
 obtain ⟨b, v⟩ := s
 have h1 : v = 0 := h
 have h2 : b = R := hb
 rw [h1, h2]
theorem zfL (s : St) : yV 0 s = zC 32 s := rfl
theorem zdN (s : St) : yV 1 s = ((zC 64 s).1, if 9223372036854775808 ≤ (zC 64 s).1 ∧ 4 + (zC 64 s).2.b.length < s.b.length then (zC 64 s).2.fail 2 else (zC 64 s).2) := rfl
theorem za4 (a : UInt64) : UInt64.ofNat a.toNat = a := by
 apply UInt64.toNat_inj.1
 exact Nat.mod_eq_of_lt a.toNat_lt
variable {q i : Int}
theorem zjm {a : Int} (h5 : q % 4294967296 = i % 4294967296) (hi : (a + 2147483648) % 4294967296 - 2147483648 = i) (h0 : 0 ≤ a) (h1 : a < 4294967296) : wrap32 ((q + 9223372036854775808) % 18446744073709551616 - 9223372036854775808) % 4294967296 = a := by
 unfold wrap32
 have h2 : ((q + 9223372036854775808) % 18446744073709551616 - 9223372036854775808) % 4294967296 = q % 4294967296 := by omega
 generalize (q + 9223372036854775808) % 18446744073709551616 - 9223372036854775808 = z at *
 omega
theorem zic (a : UInt64) : zbA ((((a.toNat : Int) + 9223372036854775808) % 18446744073709551616) - 9223372036854775808) = a := by
 have ha := a.toNat_lt
 unfold zbA
 rw [show ((((a.toNat : Int) + 9223372036854775808) % 18446744073709551616 - 9223372036854775808) % 18446744073709551616).toNat = a.toNat from by omega]
 exact za4 a
theorem zbR (a : UInt64) (ha : a.toNat < 4294967296) (R : List UInt8) : (zC 32 ⟨sleb ((((a.toNat : Int) + 2147483648) % 4294967296) - 2147483648) ++ R, 0⟩).2.v ≠ 0 ∨
 ((zC 32 ⟨sleb ((((a.toNat : Int) + 2147483648) % 4294967296) - 2147483648) ++ R, 0⟩).2 = ⟨R, 0⟩ ∧ UInt64.ofNat (zC 32 ⟨sleb ((((a.toNat : Int) + 2147483648) % 4294967296) - 2147483648) ++ R, 0⟩).1 = a) := by
 generalize hi : (((a.toNat : Int) + 2147483648) % 4294967296) - 2147483648 = i
 by_cases h : (zC 32 ⟨sleb i ++ R, 0⟩).2.v = 0
 ·refine .inr ?_
  obtain ⟨m, hm, he⟩ := (zcS (s := ⟨sleb i ++ R, 0⟩) rfl).1 h
  obtain ⟨q, dH, lT, -, -, Au⟩ := zaf i.natAbs i 0 0 R (Nat.le_refl _) (by omega) (by show -2 ^ 63 ≤ i; omega) (by show i < 2 ^ 63; omega)
  have ma := hm.symm.trans dH
  simp only [Option.some.injEq, Prod.mk.injEq] at ma
  refine ⟨zkk h ma.2, ?_⟩
  rw [← he, ma.1, Nat.zero_or]
  simp only [Int.pow_zero, Int.mul_one] at Au
  have hw : wrap32 (toS q) % 4294967296 = (a.toNat : Int) := by
   unfold toS
   exact zjm Au hi (by omega) (by omega)
  rw [hw]
  exact (zae a.toNat a.toNat_lt).trans (za4 a)
 ·exact .inl h
theorem zcU : ∀ (bits : Nat) (b : List UInt8) (sh bz n : Nat) {v k : Nat}, sigG bits sh bz n b = (v, k) → k ≠ 0 → ∃ j m, k = n + j ∧ j ≤ b.length ∧ Ze sh bz b = some (m, b.drop j)
 | _, [], _, _, _, v, k, h, hk => by simp only [sigG, Prod.mk.injEq] at h; exact absurd h.2.symm hk
 | bits, c :: r, sh, bz, n, v, k, h, hk => by
  unfold sigG at h
  split at h
  ·simp only [Prod.mk.injEq] at h; exact absurd h.2.symm hk
  ·split at h
   ·simp only [Prod.mk.injEq] at h; exact absurd h.2.symm hk
   ·split at h
    ·rename_i h128
     simp only [Prod.mk.injEq] at h
     exact ⟨1, _, h.2.symm, by simp, by unfold Ze; rw [if_pos h128]; rfl⟩
    ·rename_i h128
     obtain ⟨j, m, hj, hl, hr⟩ := zcU bits r _ _ _ h hk
     refine ⟨j + 1, m, by omega, by simp only [List.length_cons]; omega, ?_⟩
     unfold Ze
     rw [if_neg h128, hr]
     rfl
theorem zjn {t : Nat} (ht : t < 128) (dO : 64 ≤ t) (h : Yk 1 t = false) : t = 127 := by
 have : ∀ x : Fin 128, 64 ≤ x.val → Yk 1 x.val = false → x.val = 127 := by decide +kernel
 exact this ⟨t, ht⟩ dO h
theorem zkl (h : 9223372036854775808 ≤ y) : 9223372036854775808 ≤ x ||| y := nlQ h Nat.right_le_or
theorem zjo (N : Nat) : ∀ (i : Int) (sh bz n : Nat) (R : List UInt8) {v k : Nat}, i.natAbs ≤ N → i < 0 → sh = 7 * n → sigG 64 sh bz n (sleb i ++ R) = (v, k) → k ≠ 0 → 9223372036854775808 ≤ v := by
 induction N using Nat.strongRecOn with
 | ind N ih =>
  intro i sh bz n R v k hN hi DC h hk
  by_cases hs : -64 ≤ i ∧ i < 64
  ·rw [j2 hs] at h
   generalize ht : (i % 128).toNat = t at *
   have lO : t < 128 := by omega
   have qp : 64 ≤ t := by omega
   simp only [List.cons_append, List.nil_append] at h
   unfold sigG at h
   rw [UInt8.toNat_ofNat', Nat.mod_eq_of_lt (by omega : t < 2 ^ 8)] at h
   split at h
   ·simp only [Prod.mk.injEq] at h; exact absurd h.2.symm hk
   ·split at h
    ·simp only [Prod.mk.injEq] at h; exact absurd h.2.symm hk
    ·rename_i h1 h2
     simp only [Prod.mk.injEq] at h
     rw [← h.1]
     by_cases h7 : sh + 7 < 64
     ·rw [if_pos ⟨qp, h7⟩]
      exact zff _ _ h7
     ·rw [if_neg (fun e => h7 e.2)]
      obtain rfl : sh = 63 := by omega
      have lz : Yk 1 t = false := by
       cases hb : Yk 1 t with
       | false => rfl
       | true => exact absurd ⟨by omega, hb⟩ h2
      obtain rfl := zjn lO qp lz
      exact zkl (by decide)
  ·rw [Z8 hs] at h
   generalize ht : (i % 128).toNat = t at *
   have lO : t < 128 := by omega
   simp only [List.cons_append] at h
   unfold sigG at h
   rw [UInt8.toNat_ofNat', Nat.mod_eq_of_lt (by omega : t + 128 < 2 ^ 8)] at h
   split at h
   ·simp only [Prod.mk.injEq] at h; exact absurd h.2.symm hk
   ·split at h
    ·simp only [Prod.mk.injEq] at h; exact absurd h.2.symm hk
    ·rw [if_neg (by omega)] at h
     exact ih (i / 128).natAbs (by omega) (i / 128) _ _ _ R (Nat.le_refl _) (by omega) (by omega) h hk
theorem zcV (bits : Nat) (b : List UInt8) : sigG bits 0 0 0 b = ((sig bits b).1, (sig bits b).2) := rfl
theorem len4 {r : Nat} (h : ¬ 4 + r < x + r) : 0 + 7 * x < 32 := by omega
theorem zid (lh : ∀ v k, sigG 64 0 0 0 b = (v, k) → k ≠ 0 → 9223372036854775808 ≤ v) (dH : Ze 0 0 b = some (q, R)) (ao : b.length = x + R.length) (h : (yV 1 ⟨b, 0⟩).2.v = 0) : 0 + 7 * x < 32 := by
 have lW := zdN ⟨b, 0⟩
 by_cases hk : (sig 64 b).2 = 0
 ·have od : zC 64 ⟨b, 0⟩ = (0, (⟨b, 0⟩ : St).fail (if jO 64 b then 3 else 2)) := by unfold zC; rw [if_pos hk]
  rw [od, zfg (s := ⟨b, 0⟩) rfl] at lW
  rw [lW] at h
  cases he2 : jO 64 b <;> rw [he2] at h <;> simp at h
 ·have od : zC 64 ⟨b, 0⟩ = ((sig 64 b).1, ⟨b.drop (sig 64 b).2, 0⟩) := by unfold zC; rw [if_neg hk, if_neg (by decide)]
  have lh := lh (sig 64 b).1 (sig 64 b).2 (zcV 64 _) hk
  obtain ⟨j, m', hj, ep, hr⟩ := zcU 64 b 0 0 0 (v := (sig 64 b).1) (k := (sig 64 b).2) (zcV 64 _) hk
  have bR := hr.symm.trans dH
  simp only [Option.some.injEq, Prod.mk.injEq] at bR
  have nQ : b.drop j = R := bR.2
  rw [Nat.zero_add] at hj
  rw [od] at lW
  dsimp only at lW
  rw [hj, nQ] at lW
  by_cases h4 : 4 + R.length < b.length
  ·rw [if_pos ⟨lh, h4⟩] at lW
   rw [lW] at h
   exact absurd h (by simp [St.fail])
  ·rw [ao] at h4
   exact len4 h4
theorem zeB (a : UInt64) (R : List UInt8) : (yV 1 ⟨sleb ((((a.toNat : Int) + 9223372036854775808) % 18446744073709551616) - 9223372036854775808) ++ R, 0⟩).2.v ≠ 0 ∨
 ((yV 1 ⟨sleb ((((a.toNat : Int) + 9223372036854775808) % 18446744073709551616) - 9223372036854775808) ++ R, 0⟩).2 = ⟨R, 0⟩ ∧ UInt64.ofNat (yV 1 ⟨sleb ((((a.toNat : Int) + 9223372036854775808) % 18446744073709551616) - 9223372036854775808) ++ R, 0⟩).1 = a) := by
 have hb := zic a
 have qS := a.toNat_lt
 generalize hi : (((a.toNat : Int) + 9223372036854775808) % 18446744073709551616) - 9223372036854775808 = i at *
 by_cases h : (yV 1 ⟨sleb i ++ R, 0⟩).2.v = 0
 ·refine .inr ?_
  obtain ⟨m, hm, he⟩ := (zcT (s := ⟨sleb i ++ R, 0⟩) rfl).1 h
  obtain ⟨q, dH, lT, -, ws, -⟩ := zaf i.natAbs i 0 0 R (Nat.le_refl _) (by omega) (by show -2 ^ 63 ≤ i; omega) (by show i < 2 ^ 63; omega)
  have ma := hm.symm.trans dH
  simp only [Option.some.injEq, Prod.mk.injEq] at ma
  have hst : (yV 1 ⟨sleb i ++ R, 0⟩).2 = ⟨R, 0⟩ := zkk h ma.2
  refine ⟨hst, ?_⟩
  have hc : 0 ≤ i ∨ 0 + 7 * (sleb i).length < 32 := by
   by_cases h0 : 0 ≤ i
   ·exact .inl h0
   ·refine .inr ?_
    exact zid (fun v k e hk => zjo i.natAbs i 0 0 0 R (Nat.le_refl _) (by omega) rfl e hk) dH laQ h
  have h5 := ws hc
  rw [← he, ma.1, Nat.zero_or]
  simp only [Int.pow_zero, Int.mul_one] at h5
  have : toS q = i := by unfold toS; omega
  rw [this, hb]
 ·exact .inl h
theorem zU (n : Nat) : 0 < (uleb n).length := by
 by_cases h : n < 128
 ·rw [jF h]; exact Nat.succ_pos _
 ·rw [Zy (by omega)]; exact Nat.succ_pos _
theorem zie : ∀ (n sh bz k : Nat) (R : List UInt8), sh < 32 → n < 2 ^ (32 - sh) → unsG 32 sh bz k (uleb n ++ R) = (bz ||| (n * 2 ^ sh % 2 ^ 64), k + (uleb n).length) := by
 intro n
 induction n using Nat.strongRecOn with
 | ind n ih =>
  intro sh bz k R hs eU
  by_cases hn : n < 128
  ·rw [jF hn]
   simp only [List.cons_append, List.nil_append, List.length_cons, List.length_nil, unsG, UInt8.toNat_ofNat']
   rw [Nat.mod_eq_of_lt (by omega : n < 2 ^ 8), if_neg (by omega), if_neg, if_pos hn, Nat.mod_eq_of_lt hn]
   rintro ⟨-, h⟩
   rw [Nat.mod_eq_of_lt hn] at h
   exact h (Nat.div_eq_of_lt eU)
  ·have h7 : 7 < 32 - sh := by
    rcases Nat.lt_or_ge 7 (32 - sh) with h | h
    ·exact h
    ·have := Nat.pow_le_pow_right (show 0 < 2 by decide) h
     omega
   have hp : 2 ^ (32 - sh) = 2 ^ (32 - (sh + 7)) * 128 := by rw [show 32 - sh = (32 - (sh + 7)) + 7 from by omega, Nat.pow_add]
   rw [Zy (by omega)]
   simp only [List.cons_append, List.length_cons, unsG, UInt8.toNat_ofNat']
   rw [Nat.mod_eq_of_lt (by omega : n % 128 + 128 < 2 ^ 8), if_neg (by omega), if_neg (by omega), if_neg (by omega), ih (n / 128) (by omega) _ _ _ _ (by omega) (by rw [hp] at eU; omega), Nat.or_assoc]
   congr 1
   ·congr 1
    rw [show (n % 128 + 128) % 128 = n % 128 from by omega, show n / 128 * 2 ^ (sh + 7) = n / 128 * 128 * 2 ^ sh from by rw [Nat.pow_add, Nat.mul_comm (2 ^ sh), ← Nat.mul_assoc], ← ziR, ziS]
   ·omega
variable {n : Nat}
theorem jI (hn : n < 4294967296) (R : List UInt8) (v : Nat) : zd ⟨uleb n ++ R, v⟩ = (n, ⟨R, v⟩) := by
 have h := zie n 0 0 0 R (by decide) hn
 rw [Nat.zero_or, Nat.pow_zero, Nat.mul_one, Nat.mod_eq_of_lt (show n < 2 ^ 64 by omega), Nat.zero_add] at h
 have hp := zU n
 unfold zd uns
 simp only [h]
 rw [if_neg (by omega), Nat.mod_eq_of_lt hn, List.drop_left]
theorem ziU {left c : Nat} (hl : left < 7) (h0 : 0 < left) (hc : c < 128) (hi : i = if c < 64 then (c : Int) else (c : Int) - 128) (h1 : -2 ^ (left - 1) ≤ i) (h2 : i < 2 ^ (left - 1)) : Yk left c = false := by
 have : ∀ (x : Fin 7) (c : Fin 128), 0 < x.val → -2 ^ (x.val - 1) ≤ (if c.val < 64 then (c.val : Int) else (c.val : Int) - 128) → (if c.val < 64 then (c.val : Int) else (c.val : Int) - 128) < 2 ^ (x.val - 1) → Yk x.val c.val = false := by decide +kernel
 subst hi
 exact this ⟨left, hl⟩ ⟨c, hc⟩ h0 h1 h2
theorem zjp {a b : Nat} (h : a ≤ b) : (2 : Int) ^ a ≤ 2 ^ b := by
 have := Nat.pow_le_pow_right (show 0 < 2 by decide) h
 have e1 : ((2 ^ a : Nat) : Int) = 2 ^ a := by simp
 have e2 : ((2 ^ b : Nat) : Int) = 2 ^ b := by simp
 omega
theorem ziV (N : Nat) : ∀ (i : Int) (sh bz k : Nat) (R : List UInt8), i.natAbs ≤ N → sh < bits → -2 ^ (bits - 1 - sh) ≤ i → i < 2 ^ (bits - 1 - sh) → (sigG bits sh bz k (sleb i ++ R)).2 ≠ 0 := by
 induction N using Nat.strongRecOn with
 | ind N ih =>
  intro i sh bz k R hN hs h1 h2
  by_cases hi : -64 ≤ i ∧ i < 64
  ·rw [j2 hi]
   generalize hT : (i % 128).toNat = t at *
   have lO : t < 128 := by omega
   simp only [List.cons_append, List.nil_append, sigG, UInt8.toNat_ofNat']
   rw [Nat.mod_eq_of_lt (by omega : t < 2 ^ 8), if_neg (by omega), if_neg, if_pos lO]
   ·exact Nat.succ_ne_zero _
   ·rintro ⟨h7, lz⟩
    rw [ziU h7 (by omega) lO (i := i) (by split <;> omega) (by rw [show bits - sh - 1 = bits - 1 - sh from by omega]; exact h1) (by rw [show bits - sh - 1 = bits - 1 - sh from by omega]; exact h2)] at lz
    cases lz
  ·have h7 : 7 ≤ bits - 1 - sh := by
    rcases Nat.lt_or_ge 6 (bits - 1 - sh) with h | h
    ·omega
    ·have := zjp (show bits - 1 - sh ≤ 6 by omega)
     omega
   have hp : (2 : Int) ^ (bits - 1 - sh) = 2 ^ (bits - 1 - (sh + 7)) * 128 := by rw [show bits - 1 - sh = (bits - 1 - (sh + 7)) + 7 from by omega, Int.pow_add]; rfl
   rw [Z8 hi]
   generalize hT : (i % 128).toNat = t at *
   have lO : t < 128 := by omega
   simp only [List.cons_append, sigG, UInt8.toNat_ofNat']
   rw [Nat.mod_eq_of_lt (by omega : t + 128 < 2 ^ 8), if_neg (by omega), if_neg (by omega), if_neg (by omega)]
   rw [hp] at h1 h2
   exact ih (i / 128).natAbs (by omega) (i / 128) _ _ _ R (Nat.le_refl _) (by omega) (by omega) (by omega)
theorem zfM : ∀ (n sh bz k : Nat) (R : List UInt8), sh < 64 → n < 2 ^ (63 - sh) → sigG 64 sh bz k (sleb (n : Int) ++ R) = (bz ||| (n * 2 ^ sh % 2 ^ 64), k + (sleb (n : Int)).length) := by
 intro n
 induction n using Nat.strongRecOn with
 | ind n ih =>
  intro sh bz k R hs eU
  by_cases hn : n < 64
  ·rw [j2 (by omega), show ((n : Int) % 128).toNat = n from by omega]
   simp only [List.cons_append, List.nil_append, List.length_cons, List.length_nil, sigG, UInt8.toNat_ofNat']
   rw [Nat.mod_eq_of_lt (by omega : n < 2 ^ 8), if_neg (by omega), if_neg, if_pos (by omega), Nat.mod_eq_of_lt (by omega : n < 128), if_neg (by omega)]
   rintro ⟨h7, lz⟩
   have e : ((2 ^ (64 - sh - 1) : Nat) : Int) = 2 ^ (64 - sh - 1) := by simp
   have e0 : (0 : Int) ≤ 2 ^ (64 - sh - 1) := by rw [← e]; exact Int.natCast_nonneg _
   rw [show 63 - sh = 64 - sh - 1 from by omega] at eU
   rw [ziU h7 (by omega) (show n < 128 by omega) (i := (n : Int)) (by rw [if_pos hn]) (by omega) (by omega)] at lz
   cases lz
  ·have h7 : 7 ≤ 63 - sh := by
    rcases Nat.lt_or_ge 6 (63 - sh) with h | h
    ·omega
    ·have := Nat.pow_le_pow_right (show 0 < 2 by decide) (show 63 - sh ≤ 6 by omega)
     omega
   have hp : 2 ^ (63 - sh) = 2 ^ (63 - (sh + 7)) * 128 := by rw [show 63 - sh = (63 - (sh + 7)) + 7 from by omega, Nat.pow_add]
   rw [Z8 (by omega), show ((n : Int) % 128).toNat = n % 128 from by omega, show (n : Int) / 128 = ((n / 128 : Nat) : Int) from by omega]
   simp only [List.cons_append, List.length_cons, sigG, UInt8.toNat_ofNat']
   rw [Nat.mod_eq_of_lt (by omega : n % 128 + 128 < 2 ^ 8), if_neg (by omega), if_neg (by omega), if_neg (by omega), ih (n / 128) (by omega) _ _ _ _ (by omega) (by rw [hp] at eU; omega), Nat.or_assoc]
   congr 1
   ·congr 1
    rw [show (n % 128 + 128) % 128 = n % 128 from by omega, show n / 128 * 2 ^ (sh + 7) = n / 128 * 128 * 2 ^ sh from by rw [Nat.pow_add, Nat.mul_comm (2 ^ sh), ← Nat.mul_assoc], ← ziR, ziS]
   ·omega
theorem zeC (i : Int) (h1 : -2147483648 ≤ i) (h2 : i < 2147483648) (R : List UInt8) : (zC 32 ⟨sleb i ++ R, 0⟩).2.v = 0 := by
 have h : (sig 32 (sleb i ++ R)).2 ≠ 0 := ziV (bits := 32) i.natAbs i 0 0 0 R (Nat.le_refl _) (by decide) (by show -2 ^ 31 ≤ i; omega) (by show i < 2 ^ 31; omega)
 unfold zC
 rw [if_neg h]
theorem zif (i : Int) (h1 : -134217728 ≤ i) (h2 : i < 9223372036854775808) (R : List UInt8) : (yV 1 ⟨sleb i ++ R, 0⟩).2.v = 0 := by
 have h : (sig 64 (sleb i ++ R)).2 ≠ 0 := ziV (bits := 64) i.natAbs i 0 0 0 R (Nat.le_refl _) (by decide) (by show -2 ^ 63 ≤ i; omega) (by show i < 2 ^ 63; omega)
 have od : zC 64 ⟨sleb i ++ R, 0⟩ = ((sig 64 (sleb i ++ R)).1, ⟨(sleb i ++ R).drop (sig 64 (sleb i ++ R)).2, 0⟩) := by unfold zC; rw [if_neg h, if_neg (by decide)]
 rw [zdN, od]
 dsimp only
 rw [if_neg]
 rintro ⟨hv, hl⟩
 by_cases h0 : 0 ≤ i
 ·obtain ⟨n, rfl⟩ := Int.eq_ofNat_of_zero_le h0
  have e := zfM n 0 0 0 R (by decide) (by show n < 2 ^ 63; omega)
  rw [Nat.zero_or, Nat.pow_zero, Nat.mul_one, Nat.mod_eq_of_lt (show n < 2 ^ 64 by omega)] at e
  have e2 : (sig 64 (sleb (n : Int) ++ R)).1 = n := by rw [show sig 64 (sleb (n : Int) ++ R) = sigG 64 0 0 0 (sleb (n : Int) ++ R) from rfl, e]
  rw [e2] at hv
  omega
 ·have ao := zcv 3 i (by omega) (by omega)
  obtain ⟨j, m', hj, ep, hr⟩ := zcU 64 (sleb i ++ R) 0 0 0 (v := (sig 64 (sleb i ++ R)).1) (k := (sig 64 (sleb i ++ R)).2) (zcV 64 _) h
  obtain ⟨q, dH, -⟩ := zaf i.natAbs i 0 0 R (Nat.le_refl _) (by omega) (by show -2 ^ 63 ≤ i; omega) (by show i < 2 ^ 63; omega)
  have bR := hr.symm.trans dH
  simp only [Option.some.injEq, Prod.mk.injEq] at bR
  rw [hj, Nat.zero_add, bR.2, laQ] at hl
  omega
theorem zbB : ∀ (k n : Nat), ZQ (zG k n) = n % 256 ^ k
 | 0, n => by simp [zG, ZQ, Nat.mod_one]
 | k + 1, n => by
  rw [zG, ZQ, zbB k, UInt8.toNat_ofNat', Nat.mod_eq_of_lt (show n % 256 < 2 ^ 8 by omega), Nat.pow_succ, Nat.mul_comm (256 ^ k), Nat.mod_mul]
theorem zeD : ∀ (k n : Nat), (zG k n).length = k
 | 0, _ => rfl
 | k + 1, n => by rw [zG, List.length_cons, zeD k]
theorem uW (l R : List UInt8) (v : Nat) : zW l.length ⟨l ++ R, v⟩ = (l, ⟨R, v⟩) := by
 unfold zW
 simp only [laQ]
 rw [if_neg (by omega), List.take_left, List.drop_left]
theorem zjq {k : Int} (hk : k = 0 ∨ k = 1 ∨ k = 3 ∨ k = 4) {a : Int × UInt64} (ha : zaU k a = true) (h1 : k = 1 → -134217728 ≤ (((a.2.toNat : Int) + 9223372036854775808) % 18446744073709551616) - 9223372036854775808) (R : List UInt8) :
 (yV k ⟨zt a ++ R, 0⟩).2 = ⟨R, 0⟩ ∧ UInt64.ofNat (yV k ⟨zt a ++ R, 0⟩).1 = a.2 := by
 obtain ⟨k', b⟩ := a
 have dG := b.toNat_lt
 unfold zaU at ha
 simp only [Bool.and_eq_true, Bool.not_eq_true', Bool.and_eq_false_iff, Bool.or_eq_false_iff, decide_eq_true_eq, decide_eq_false_iff_not] at ha
 obtain ⟨⟨rfl, h5⟩, h4⟩ := ha
 rcases hk with rfl | rfl | rfl | rfl
 ·have e : zt (0, b) = sleb ((((b.toNat : Int) + 2147483648) % 4294967296) - 2147483648) := by unfold zt; rw [if_pos rfl]
  rw [e, zfL]
  exact (zbR b (by omega) R).resolve_left (fun q => q (zeC _ (by omega) (by omega) R))
 ·have e : zt (1, b) = sleb ((((b.toNat : Int) + 9223372036854775808) % 18446744073709551616) - 9223372036854775808) := by unfold zt; rw [if_neg (show ¬ (1 : Int) = 0 by decide), if_pos rfl]
  rw [e]
  exact (zeB b R).resolve_left (fun q => q (zif _ (h1 rfl) (by omega) R))
 ·have e : zt (3, b) = zG 4 b.toNat := rfl
  have hT := uW (zG 4 b.toNat) R 0
  rw [zeD] at hT
  rw [e, show yV 3 ⟨zG 4 b.toNat ++ R, 0⟩ = (ZQ (zW 4 ⟨zG 4 b.toNat ++ R, 0⟩).1, (zW 4 ⟨zG 4 b.toNat ++ R, 0⟩).2) from rfl, hT]
  dsimp only
  rw [zbB, Nat.mod_eq_of_lt (show b.toNat < 256 ^ 4 by omega)]
  exact ⟨rfl, za4 b⟩
 ·have e : zt (4, b) = zG 8 b.toNat := rfl
  have hT := uW (zG 8 b.toNat) R 0
  rw [zeD] at hT
  rw [e, show yV 4 ⟨zG 8 b.toNat ++ R, 0⟩ = (ZQ (zW 8 ⟨zG 8 b.toNat ++ R, 0⟩).1, (zW 8 ⟨zG 8 b.toNat ++ R, 0⟩).2) from rfl, hT]
  dsimp only
  rw [zbB, Nat.mod_eq_of_lt (show b.toNat < 256 ^ 8 by omega)]
  exact ⟨rfl, za4 b⟩
def Rd {α : Type} (rd : St → α × St) (bs : List UInt8) (x : α) : Prop := ∀ R, rd ⟨bs ++ R, 0⟩ = (x, ⟨R, 0⟩)
def RdE {α : Type} (rd : St → α × St) (f : α → List UInt8) (x : α) : Prop := (f x).length < 4294967296 → 1 ≤ (f x).length ∧ Rd rd (f x) x
theorem YS (n : UInt32) : UInt32.ofNat n.toNat = n := by
 apply UInt32.toNat_inj.1
 exact Nat.mod_eq_of_lt n.toNat_lt
theorem zbC (n : UInt32) : Rd rNum (uleb n.toNat) n := fun R => by
 unfold rNum
 rw [jI n.toNat_lt, YS]
theorem zgV (n : UInt32) : RdE rNum wNum n := fun _ => ⟨zU _, zbC n⟩
variable {t : Int}
theorem zgW (h : vtOk t = true) : RdE zj wVT t := fun _ => ⟨Nat.le_refl _, fun R => by
 unfold vtOk at h
 simp only [Bool.and_eq_true, decide_eq_true_eq] at h
 have : t = 0 ∨ t = 1 ∨ t = 2 ∨ t = 3 := by omega
 rcases this with rfl | rfl | rfl | rfl <;> rfl⟩
theorem zkm (h : vtOk t = true) : Rd zj (wVT t) t := (zgW h (by show 1 < _; decide)).2
theorem zgX (b : Bool) : Rd Zf (zdB b) b := fun R => by cases b <;> rfl
theorem zcW (hn : n < 4294967296) (hl : n ≤ R.length) : zv ⟨uleb n ++ R, 0⟩ = (n, ⟨R, 0⟩) := by
 unfold zv
 rw [jI hn]
 dsimp only
 rw [if_neg (by omega)]
variable {α : Type} {rd : St → α × St} {f : α → List UInt8}
theorem ziW : ∀ {l : List α}, (∀ x ∈ l, Rd rd (f x) x) → ∀ R, rVec rd l.length ⟨l.flatMap f ++ R, 0⟩ = (l, ⟨R, 0⟩)
 | [], _, _ => rfl
 | x :: l, h, R => by
  rw [List.flatMap_cons, List.append_assoc, List.length_cons, rVec, h x (List.mem_cons_self ..), ziW (fun y hy => h y (List.mem_cons_of_mem _ hy)) R]
theorem zig : ∀ {l : List α} {x : α}, x ∈ l → (f x).length ≤ (l.flatMap f).length
 | y :: l, x, h => by
  rw [List.flatMap_cons, laQ]
  rcases List.mem_cons.1 h with rfl | h
  ·omega
  ·have := zig h; omega
theorem zfh : ∀ {l : List α}, (∀ x ∈ l, 1 ≤ (f x).length) → l.length ≤ (l.flatMap f).length
 | [], _ => Nat.le_refl _
 | y :: l, h => by
  rw [List.flatMap_cons, laQ, List.length_cons]
  have := h y (List.mem_cons_self ..)
  have := zfh (fun x hx => h x (List.mem_cons_of_mem _ hx))
  omega
theorem zfi {l : List α} (h : ∀ x ∈ l, RdE rd f x) (hs : (wVec f l).length < 4294967296) : Rd (zR rd) (wVec f l) l := fun R => by
 unfold wVec at hs ⊢
 rw [laQ] at hs
 have h2 : ∀ x ∈ l, 1 ≤ (f x).length ∧ Rd rd (f x) x := fun x hx => h x hx (by have := zig (f := f) hx; omega)
 have h3 := zfh (fun x hx => (h2 x hx).1)
 unfold zR
 rw [List.append_assoc, zcW (by omega) (by rw [laQ]; omega)]
 exact ziW (fun x hx => (h2 x hx).2) R
theorem zeE {s : List UInt8} (hs : (zq s).length < 4294967296) : Rd (fun s => zW (zd s).1 (zd s).2) (zq s) s := fun R => by
 unfold zq at hs ⊢
 rw [laQ] at hs
 show zW (zd _).1 (zd _).2 = _
 rw [List.append_assoc, jI (by omega), uW]
theorem Yv {s : List UInt8} (ho : z9 s = true) (hs : (zq s).length < 4294967296) : Rd zF (zq s) s := fun R => by
 have h := zeE hs R
 dsimp only at h
 unfold zF
 rw [h]
 dsimp only
 rw [if_pos ho]
theorem Zt (s : List UInt8) : 1 ≤ (zq s).length := by
 unfold zq
 rw [laQ]
 have := zU s.length
 omega
theorem zfj (s : List UInt8) : RdE y7 zq s := fun hs => ⟨Zt s, zeE hs⟩
variable {l : Lim}
theorem zgY (h : ZR l = true) : Rd zE (wLim l) l := fun R => by
 obtain ⟨mn, b, mx⟩ := l
 unfold ZR at h
 cases b with
 | false =>
  simp only [Bool.false_or, decide_eq_true_eq] at h
  subst h
  show zE ⟨(0 : UInt8) :: (uleb mn.toNat ++ R), 0⟩ = _
  unfold zE
  rw [show zn ⟨(0 : UInt8) :: (uleb mn.toNat ++ R), 0⟩ = (0, ⟨uleb mn.toNat ++ R, 0⟩) from rfl]
  dsimp only
  rw [if_neg (show ¬ 1 < 0 by decide), jI mn.toNat_lt, if_neg (show ¬ 0 = 1 by decide), YS]
 | true =>
  show zE ⟨(1 : UInt8) :: (uleb mn.toNat ++ uleb mx.toNat) ++ R, 0⟩ = _
  unfold zE
  rw [show zn ⟨(1 : UInt8) :: (uleb mn.toNat ++ uleb mx.toNat) ++ R, 0⟩ = (1, ⟨uleb mn.toNat ++ (uleb mx.toNat ++ R), 0⟩) from by rw [← List.append_assoc]; rfl]
  dsimp only
  rw [if_neg (show ¬ 1 < 1 by decide), jI mn.toNat_lt, jI mx.toNat_lt, if_pos rfl, YS, YS]
theorem zih (l : Lim) : 1 ≤ (wLim l).length := by
 unfold wLim
 split <;> exact Nat.succ_pos _
theorem zjr (h : ZR l = true) : RdE zE wLim l := fun _ => ⟨zih l, zgY h⟩
theorem ziX (h : ZR l = true) : Rd z6 (wTab l) l := fun R => by
 unfold z6 wTab
 rw [show zn ⟨(112 : UInt8) :: wLim l ++ R, 0⟩ = (112, ⟨wLim l ++ R, 0⟩) from rfl]
 dsimp only
 rw [if_neg (fun q => q.2 rfl)]
 exact zgY h R
theorem zjs (h : ZR l = true) : RdE z6 wTab l := fun _ => ⟨Nat.succ_pos _, ziX h⟩
def zgZ (l : List Ins) : Prop := ∃ (op : Nat) (k : Int) (a : Int × UInt64), l = [.mk (op : Int) [a] false 0 []] ∧ z4 (op : Int) = some [k] ∧ a.1 = k ∧ zem op = true ∧ op < 256 ∧ (k = 0 ∨ k = 1 ∨ k = 3 ∨ k = 4) ∧ zaU k a = true ∧ (k = 1 → -134217728 ≤ sgn a.2)
theorem za6 {l : List Ins} (h : jK l = true) : zgZ l := by
 match l, h with
 | [x], h =>
  obtain ⟨op, args, st, ty, body⟩ := x
  unfold jK at h
  simp only [Ins.op, Ins.args, yi, Jb, Bool.and_eq_true, decide_eq_true_eq, Bool.and_true] at h
  obtain ⟨⟨lk, ⟨hst, -⟩, hl⟩, tE⟩ := h
  have uX : ∀ (o : Nat) (k : Int), op = (o : Int) → yU op = false → z4 op = some [k] → zem o = true → o < 256 → (k = 0 ∨ k = 1 ∨ k = 3 ∨ k = 4) → (k = 1 → op = 66) → zgZ [.mk op args st ty body] := fun o k he C8 hk ho xW Av h1 => by
   rw [C8] at hl hst
   rw [hk] at hl
   simp only [Bool.false_eq_true, if_false, Bool.and_eq_true, decide_eq_true_eq] at hl
   obtain ⟨⟨aY, fq⟩, bi⟩ := hl
   obtain rfl := List.eq_nil_of_length_eq_zero bi
   cases args with
   | nil => cases aY
   | cons a as' =>
    cases as' with
    | cons _ _ => simp [Jn] at aY
    | nil =>
     simp only [Jn, Bool.and_true] at aY
     have D9 : a.1 = k := by
      have := aY
      unfold zaU at this
      simp only [Bool.and_eq_true, decide_eq_true_eq] at this
      exact this.1.1
     refine ⟨o, k, a, ?_, by rw [← he]; exact hk, D9, ho, xW, Av, aY, fun q => ?_⟩
     ·rw [hst, fq, he]
     ·have BQ := tE
      simp only [Bool.or_eq_true, decide_eq_true_eq] at BQ
      exact BQ.resolve_left (fun q2 => (of_decide_eq_true q2 : op ≠ 66) (h1 q))
  have lk : op = 65 ∨ op = 66 ∨ op = 67 ∨ op = 68 := of_decide_eq_true lk
  rcases lk with rfl | rfl | rfl | rfl
  ·exact uX 65 0 rfl rfl rfl rfl (by decide) (by decide) (by decide)
  ·exact uX 66 1 rfl rfl rfl rfl (by decide) (by decide) (by decide)
  ·exact uX 67 3 rfl rfl rfl rfl (by decide) (by decide) (by decide)
  ·exact uX 68 4 rfl rfl rfl rfl (by decide) (by decide) (by decide)
 | [], h => cases h
 | _ :: _ :: _, h => cases h
theorem zg0 {l : List Ins} (h : jK l = true) : Rd yH (wKon l) l := fun R => by
 obtain ⟨op, k, a, rfl, hk, ha, ho, lk, Av, C3, h1⟩ := za6 h
 have hb := zjq Av C3 h1 (11 :: R)
 have e : wKon [.mk (op : Int) [a] false 0 []] ++ R = UInt8.ofNat op :: (zt a ++ 11 :: R) := by
  simp only [wKon, jJ, zdz, List.flatMap_cons, List.flatMap_nil, List.append_nil, Bool.false_eq_true, if_false, List.cons_append, List.append_assoc, List.nil_append]
  rw [show ((op : Int) % 256).toNat = op from by omega]
 rw [e]
 have eb : zn ⟨UInt8.ofNat op :: (zt a ++ 11 :: R), 0⟩ = (op, ⟨zt a ++ 11 :: R, 0⟩) := by
  show ((UInt8.ofNat op).toNat, _) = _
  rw [UInt8.toNat_ofNat', Nat.mod_eq_of_lt (by omega)]
 unfold yH ZD
 rw [eb]
 dsimp only
 rw [if_neg (by rw [ho]; simp)]
 unfold zQ JG
 rw [hk, if_neg (fun q => by cases q.2)]
 simp only [Option.getD_some, jB]
 rw [hb.1, hb.2]
 unfold JH
 rw [show zn ⟨(11 : UInt8) :: R, 0⟩ = (11, ⟨R, 0⟩) from rfl]
 dsimp only
 rw [if_neg (fun q => q.2 rfl), ← ha]
theorem zkn {t : FT} (h : ftOk t = true) : RdE rFT wFT t := fun hs => ⟨Nat.succ_pos _, fun R => by
 unfold ftOk at h
 simp only [Bool.and_eq_true, List.all_eq_true] at h
 unfold wFT at hs ⊢
 simp only [List.length_cons, laQ] at hs
 have h1 := zfi (rd := zj) (f := wVT) (l := t.ps) (fun x hx => zgW (h.1 x hx)) (by omega)
 have h2 := zfi (rd := zj) (f := wVT) (l := t.rs) (fun x hx => zgW (h.2 x hx)) (by omega)
 have e0 : rFT0 ⟨(96 : UInt8) :: (wVec wVT t.ps ++ wVec wVT t.rs) ++ R, 0⟩ = ⟨wVec wVT t.ps ++ (wVec wVT t.rs ++ R), 0⟩ := by
  unfold rFT0
  rw [show zn ⟨(96 : UInt8) :: (wVec wVT t.ps ++ wVec wVT t.rs) ++ R, 0⟩ = (96, ⟨wVec wVT t.ps ++ (wVec wVT t.rs ++ R), 0⟩) from by rw [← List.append_assoc]; rfl]
  dsimp only
  rw [if_neg (fun q => q.2 rfl)]
 unfold rFT rVTs
 rw [e0, h1, h2]⟩
theorem zg1 (h : limZ l = true) : l = ⟨0, false, 0⟩ := by
 obtain ⟨a, b, c⟩ := l
 unfold limZ at h
 simp only [Bool.and_eq_true, decide_eq_true_eq, Bool.not_eq_true'] at h
 obtain ⟨⟨rfl, rfl⟩, rfl⟩ := h
 rfl
theorem zjt {x : Imp} (h : Y7 x = true) : RdE rImp wImp x := fun hs => by
 obtain ⟨mdl, name, kind, index, lim, ty, mtb⟩ := x
 unfold Y7 at h
 simp only [Bool.and_eq_true] at h
 obtain ⟨⟨⟨⟨hk, Db⟩, C0⟩, hl⟩, fq⟩ := h
 unfold wImp at hs ⊢
 simp only [laQ] at hs
 have hp := Zt mdl
 refine ⟨by simp only [laQ]; omega, fun R => ?_⟩
 have h1 := Yv Db (by omega : (zq mdl).length < 4294967296)
 have h2 := Yv C0 (by omega : (zq name).length < 4294967296)
 unfold rImp j4
 simp only [List.append_assoc]
 rw [h1, h2]
 dsimp only
 by_cases k0 : kind = 0
 ·subst k0
  rw [if_pos rfl] at hk
  simp only [Bool.and_eq_true, decide_eq_true_eq, Bool.not_eq_true'] at hk
  obtain ⟨⟨hz, rfl⟩, rfl⟩ := hk
  obtain rfl := zg1 hz
  rw [show zn ⟨zbo ⟨mdl, name, 0, index, ⟨0, false, 0⟩, 0, false⟩ ++ R, 0⟩ = (0, ⟨uleb index.toNat ++ R, 0⟩) from rfl]
  dsimp only
  rw [if_pos rfl, jI index.toNat_lt, YS]
  rfl
 by_cases k1 : kind = 1
 ·subst k1
  rw [if_neg k0, if_pos (.inl rfl)] at hk
  simp only [Bool.and_eq_true, decide_eq_true_eq, Bool.not_eq_true'] at hk
  obtain ⟨⟨rfl, rfl⟩, rfl⟩ := hk
  rw [show zn ⟨zbo ⟨mdl, name, 1, 0, lim, 0, false⟩ ++ R, 0⟩ = (1, ⟨wTab lim ++ R, 0⟩) from rfl]
  dsimp only
  rw [if_neg (by decide), if_pos rfl, ziX hl]
  rfl
 by_cases k2 : kind = 2
 ·subst k2
  rw [if_neg k0, if_pos (.inr rfl)] at hk
  simp only [Bool.and_eq_true, decide_eq_true_eq, Bool.not_eq_true'] at hk
  obtain ⟨⟨rfl, rfl⟩, rfl⟩ := hk
  rw [show zn ⟨zbo ⟨mdl, name, 2, 0, lim, 0, false⟩ ++ R, 0⟩ = (2, ⟨wLim lim ++ R, 0⟩) from rfl]
  dsimp only
  rw [if_neg (by decide), if_neg (by decide), if_pos rfl, zgY hl]
  rfl
 by_cases k3 : kind = 3
 ·subst k3
  rw [if_neg k0, if_neg (by decide), if_pos rfl] at hk
  simp only [Bool.and_eq_true, decide_eq_true_eq] at hk
  obtain ⟨rfl, hz⟩ := hk
  obtain rfl := zg1 hz
  rw [show zn ⟨zbo ⟨mdl, name, 3, 0, ⟨0, false, 0⟩, ty, mtb⟩ ++ R, 0⟩ = (3, ⟨wVT ty ++ (zdB mtb ++ R), 0⟩) from rfl]
  dsimp only
  rw [if_neg (by decide), if_neg (by decide), if_neg (by decide), if_pos rfl, zkm fq, zgX]
  rfl
 ·rw [if_neg k0, if_neg (by omega), if_neg k3] at hk
  cases hk
theorem zii {g : Glob} (h : po g = true) : RdE Ju jC g := fun hs => ⟨Nat.succ_pos _, fun R => by
 unfold po at h
 simp only [Bool.and_eq_true] at h
 unfold Ju jC
 simp only [List.append_assoc]
 rw [zkm h.1, zgX, zg0 h.2]⟩
theorem zij {e : Expo} (h : o9 e = true) : RdE Ji jS e := fun hs => by
 obtain ⟨name, kind, index⟩ := e
 unfold o9 at h
 simp only [Bool.and_eq_true, decide_eq_true_eq] at h
 obtain ⟨⟨h0, h3⟩, ht⟩ := h
 unfold jS at hs ⊢
 simp only [laQ] at hs
 have hp := Zt name
 refine ⟨by simp only [laQ]; omega, fun R => ?_⟩
 obtain ⟨k, rfl⟩ := Int.eq_ofNat_of_zero_le h0
 unfold Ji
 simp only [List.append_assoc, List.cons_append, Int.toNat_natCast]
 rw [Yv ht (by omega)]
 rw [show zn ⟨UInt8.ofNat k :: (uleb index.toNat ++ R), 0⟩ = (k, ⟨uleb index.toNat ++ R, 0⟩) from by show ((UInt8.ofNat k).toNat, _) = _; rw [UInt8.toNat_ofNat', Nat.mod_eq_of_lt (by omega)]]
 dsimp only
 rw [zbC index]
 dsimp only
 rw [if_neg (by omega)]
theorem zik {e : Elem} (h : jK e.off = true) : RdE Jv jT e := fun hs => by
 unfold jT at hs ⊢
 simp only [laQ] at hs
 have hp := zU e.index.toNat
 refine ⟨by simp only [laQ]; omega, fun R => ?_⟩
 have h1 := zfi (rd := rNum) (f := wNum) (l := e.ids) (fun x _ => zgV x) (by omega)
 unfold Jv yp
 simp only [List.append_assoc]
 rw [zbC e.index, zg0 h, h1]
theorem zju {d : Dat} (h : jK d.off = true) : RdE rDat wDat d := fun hs => by
 unfold wDat at hs ⊢
 simp only [laQ] at hs
 have hp := zU d.index.toNat
 refine ⟨by simp only [laQ]; omega, fun R => ?_⟩
 have h1 := (zfj d.init (by omega)).2
 unfold rDat
 simp only [List.append_assoc]
 rw [zbC d.index, zg0 h, h1]
structure ModFit (m : Mod) : Prop where
 elements : ∀ x ∈ m.elements, x.off.length ≤ 1048576 ∧ fitA x.off
 globals : ∀ x ∈ m.globals, x.init.length ≤ 1048576 ∧ fitA x.init
 datas : ∀ x ∈ m.datas, x.off.length ≤ 1048576 ∧ fitA x.off
 len_types : m.types.length ≤ 4294967296
 len_imports : m.imports.length ≤ 4294967296
 len_tables : m.tables.length ≤ 4294967296
 len_memories : m.memories.length ≤ 4294967296
 len_elements : m.elements.length ≤ 4294967296
 len_globals : m.globals.length ≤ 4294967296
 len_exports : m.exports.length ≤ 4294967296
 len_datas : m.datas.length ≤ 4294967296
 len_customs : m.customs.length ≤ 4294967296
 len_funcs : m.funcs.length ≤ 4294967296
 len_locals : m.locals.length ≤ 4294967296
variable {k : α → List UInt8}
theorem zjv : ∀ {l : List α}, (∀ x ∈ l, (f x).length ≤ 13 * (k x).length) → (l.flatMap f).length ≤ 13 * (l.flatMap k).length
 | [], _ => by simp
 | x :: l, h => by
  have h1 := h x (List.mem_cons_self ..)
  have h2 := zjv (l := l) (fun y hy => h y (List.mem_cons_of_mem _ hy))
  rw [List.flatMap_cons, List.flatMap_cons, laQ, laQ]; omega
theorem Ym {x : α} : ∀ {l : List α}, x ∈ l → (k x).length ≤ (l.flatMap k).length
 | y :: l, h => by
  rw [List.flatMap_cons, laQ]
  rcases List.mem_cons.1 h with rfl | h
  ·omega
  ·have := Ym h; omega
theorem jY (h : ∀ x, 0 < (k x).length) : ∀ l : List α, l.length ≤ (l.flatMap k).length
 | [] => by simp
 | x :: l => by
  have := h x; have := jY h l
  rw [List.flatMap_cons, laQ, List.length_cons]; omega
theorem zbD {l : List α} (h : ∀ x ∈ l, (f x).length ≤ 13 * (k x).length) : (wVec f l).length ≤ 13 * ((uleb l.length).length + (l.flatMap k).length) := by
 have := zjv h
 unfold wVec
 rw [laQ]; omega
theorem u5 (n : UInt32) : (uleb n.toNat).length ≤ 10 := zI _ (by have := n.toNat_lt; omega)
theorem Jg (s : List UInt8) : (zw s).length = (uleb s.length).length + s.length := by unfold zw; rw [laQ]
theorem YT (s : List UInt8) : (zq s).length = (uleb s.length).length + s.length := by unfold zq; rw [laQ]
theorem zjw (l : List Int) : (l.flatMap wVT).length = l.length := by
 induction l with
 | nil => rfl
 | cons x l ih => rw [List.flatMap_cons, laQ, ih]; simp [wVT]; omega
theorem zg2 (t : FT) : (uleb t.ps.length).length + t.ps.length + ((uleb t.rs.length).length + t.rs.length) + 1 ≤ (JI t).length := by
 unfold JI
 rw [Jg]
 have h0 := zU (J4 (t.ps, t.rs)).length
 have h1 := jY (k := Jc) (fun n => zU _) t.ps
 have h2 := jY (k := Jc) (fun n => zU _) t.rs
 have h3 : (J4 (t.ps, t.rs)).length = ((uleb t.ps.length).length + (t.ps.flatMap Jc).length) + ((uleb t.rs.length).length + (t.rs.flatMap Jc).length) := by
  unfold J4 Z3; simp only [laQ]
 omega
theorem ft_le (t : FT) : (wFT t).length ≤ 13 * (JI t).length := by
 have := zg2 t
 unfold wFT wVec
 simp only [List.length_cons, laQ, zjw]
 omega
theorem zg3 (l : Lim) : (wLim l).length ≤ 21 := by
 have := u5 l.min; have := u5 l.max
 unfold wLim
 split <;> simp only [List.length_cons, laQ] <;> omega
theorem zcX (b : Bool) : 0 < (j0 b).length := zU _
theorem zeF (l : Lim) : 1 < (yQ l).length := by
 have := zU l.min.toNat; have := zcX l.bounded
 unfold yQ; rw [laQ, laQ]; omega
theorem zcY (l : Lim) : 0 < (yQ l).length := by have := zeF l; omega
theorem zjx (x : Imp) : (zbo x).length ≤ 24 := by
 have := u5 x.index; have := zg3 x.lim
 unfold zbo wTab
 split
 ·simp only [List.length_cons]; omega
 split
 ·simp only [List.length_cons]; omega
 split
 ·simp only [List.length_cons]; omega
 ·simp [wVT, zdB]
theorem zeG (x : Imp) : (zw x.mdl).length + (zw x.name).length ≤ (yR x).length := by
 unfold yR; simp only [laQ]; omega
theorem zko (x : Imp) : (wImp x).length ≤ 13 * (yR x).length := by
 have h1 := zeG x; have h2 := zjx x; have h3 := zU x.mdl.length; have h4 := zU x.name.length
 rw [Jg, Jg] at h1
 unfold wImp
 simp only [laQ, YT]
 omega
theorem zg4 {l : List Ins} (h : jK l = true) : (wKon l).length ≤ 12 := by
 obtain ⟨op, k, a, rfl, -⟩ := za6 h
 have := zdy a
 simp only [wKon, jJ, zdz, List.flatMap_cons, List.flatMap_nil, List.append_nil, Bool.false_eq_true, if_false, laQ, List.length_cons, List.length_nil]
 omega
theorem zg5 {l : List Ins} (h : jK l = true) : zaV l := by
 obtain ⟨op, k, a, rfl, -⟩ := za6 h
 exact ⟨fun h => (by cases h), trivial⟩
theorem zeH {l : List Ins} (h : jK l = true) : l.length ≤ 1048576 ∧ fitA l := by
 obtain ⟨op, k, a, rfl, -⟩ := za6 h
 exact ⟨by simp, ⟨by simp, by simp, trivial⟩, trivial⟩
theorem zjy {x : Glob} (h : jK x.init = true) : (jC x).length ≤ 13 * (yG x).length := by
 have h1 := zg4 h; have h2 := zcX x.mtb; have h4 : 0 < (Jc x.ty).length := zU _
 have h3 : (Jc x.ty).length + (j0 x.mtb).length ≤ (yG x).length := by unfold yG; simp only [laQ]; omega
 unfold jC wVT zdB
 simp only [laQ, List.length_cons, List.length_nil]
 omega
theorem zjz (x : Expo) : (jS x).length ≤ 13 * (ym x).length := by
 have h1 : (zw x.name).length ≤ (ym x).length := by unfold ym; simp only [laQ]; omega
 have h2 := zU x.name.length; have h3 := u5 x.index
 rw [Jg] at h1
 unfold jS
 simp only [laQ, List.length_cons, YT]
 omega
theorem zcZ (x : Elem) : (uleb x.ids.length).length + (x.ids.flatMap jW).length + 1 ≤ (yF x).length := by have := zU x.index.toNat; unfold yF Zl; simp only [laQ]; omega
theorem zjA {x : Elem} (h : jK x.off = true) : (jT x).length ≤ 13 * (yF x).length := by
 have h1 := zcZ x; have h2 := zU x.ids.length; have h3 := u5 x.index; have h4 := zg4 h
 have h5 : (wVec wNum x.ids).length = (uleb x.ids.length).length + (x.ids.flatMap jW).length := by unfold wVec; rw [laQ]; rfl
 unfold jT
 simp only [laQ]
 omega
theorem zeI (x : Dat) : (zw x.init).length + 1 ≤ (jf x).length := by have := zU x.index.toNat; unfold jf; simp only [laQ]; omega
theorem zkp {x : Dat} (h : jK x.off = true) : (wDat x).length ≤ 13 * (jf x).length := by
 have h1 := zeI x; have h2 := zU x.init.length; have h3 := u5 x.index; have h4 := zg4 h
 rw [Jg] at h1
 unfold wDat
 simp only [laQ, YT]
 omega
theorem zeJ (x : Cus) : (zq x.name ++ x.data).length + 1 ≤ (y8 x).length := by
 unfold y8
 have := zU x.data.length
 rw [laQ, laQ, YT, Jg, Jg]; omega
theorem zkq {x : Cus} (h : (y8 x).length ≤ 65536) : (wCus x).length ≤ 13 * (y8 x).length := by
 have h1 := zeJ x
 have h2 := zI (zq x.name ++ x.data).length (by omega)
 unfold wCus wSec
 rw [List.length_cons, YT]
 omega
theorem zc0 (x : Nam) : (wNam x).length + 1 ≤ (yM x).length := by
 unfold wNam yM
 have := zU x.fn.toNat
 simp only [laQ, YT, Jg]
 omega
theorem zil (x : Nam) : x.name.length ≤ (wNam x).length := by
 unfold wNam
 rw [laQ, YT]; omega
theorem zjB (x : Nam) : 0 < (wNam x).length := by
 have := zU x.idx.toNat
 unfold wNam
 rw [laQ]; omega
theorem zim (f : Nam → List UInt8) (bP : List Nam) (n : Nam) : ((insN bP n).flatMap f).length = (bP.flatMap f).length + (f n).length := by
 unfold insN
 generalize JO bP n.fn bP.length = k
 have h : (bP.flatMap f).length = ((bP.take k).flatMap f).length + ((bP.drop k).flatMap f).length := by rw [← laQ, ← List.flatMap_append, List.take_append_drop]
 rw [List.flatMap_append, List.flatMap_cons, laQ, laQ, h]
 omega
theorem zdO (f : Nam → List UInt8) : ∀ (l bP : List Nam), ((l.foldl insN bP).flatMap f).length = (bP.flatMap f).length + (l.flatMap f).length
 | [], bP => by simp
 | x :: l, bP => by
  rw [List.foldl_cons, zdO f l, zim, List.flatMap_cons, laQ]; omega
theorem zbE (f : Nam → List UInt8) (l : List Nam) : ((Jw l).flatMap f).length = (l.flatMap f).length := by
 unfold Jw
 rw [zdO]; simp
theorem zfk : ∀ l : List Nam, (l.map fun n => 20 + (wNam n).length).sum ≤ 13 * (l.flatMap yM).length
 | [] => by simp
 | x :: l => by
  have := zc0 x; have := zjB x; have := zfk l
  rw [List.map_cons, List.sum_cons, List.flatMap_cons, laQ]; omega
theorem zfl (n : UInt32) : 0 < (jW n).length := zU _
theorem zjC (x : FT) : 0 < (JI x).length := by have := zg2 x; omega
theorem zin (x : Imp) : 0 < (yR x).length := by have := zeG x; have := zU x.mdl.length; rw [Jg] at *; omega
theorem zg6 (x : Elem) : 0 < (yF x).length := by have := zcZ x; have := zU x.ids.length; omega
theorem zg7 (x : Glob) : 0 < (yG x).length := by have := zcX x.mtb; unfold yG; simp only [laQ]; omega
theorem zg8 (x : Expo) : 0 < (ym x).length := by have := zU x.index.toNat; unfold ym; simp only [laQ]; omega
theorem zdP (x : List UInt8) : 0 < (zw x).length := by have := zU x.length; rw [Jg]; omega
theorem zio (x : Dat) : 0 < (jf x).length := by have := zeI x; have := zdP x.init; omega
theorem zip (x : Cus) : 0 < (y8 x).length := by have := zeJ x; omega
theorem zfm (x : Nam) : 0 < (yM x).length := by have := zc0 x; omega
theorem zci {p : α → Bool} {l : List α} (h : l.all p = true) : ∀ x ∈ l, p x = true := List.all_eq_true.1 h
structure KParts (m : Mod) : Prop where
 all : (uleb m.types.length).length + (m.types.flatMap JI).length + ((uleb m.imports.length).length + (m.imports.flatMap yR).length) + ((uleb m.functions.length).length + (m.functions.flatMap jW).length) +
  ((uleb m.tables.length).length + (m.tables.flatMap yQ).length) + ((uleb m.memories.length).length + (m.memories.flatMap yQ).length) + ((uleb m.elements.length).length + (m.elements.flatMap yF).length) +
  ((uleb m.globals.length).length + (m.globals.flatMap yG).length) + ((uleb m.exports.length).length + (m.exports.flatMap ym).length) + ((uleb m.codes.length).length + (m.codes.flatMap zw).length) +
  ((uleb m.datas.length).length + (m.datas.flatMap jf).length) + ((uleb m.customs.length).length + (m.customs.flatMap y8).length) + m.named.length + ((uleb m.funcs.length).length + (m.funcs.flatMap yM).length) + (m.locals.flatMap yM).length ≤ 65536
variable {m : Mod}
theorem ziY (h : (yn m).length ≤ 65536) : KParts m := by
 have h1 := zbE yM m.locals
 have h2 := Jg m.named
 refine ⟨?_⟩
 simp only [yn, Zl, jD, jX, laQ] at h
 omega
structure WFit (m : Mod) : Prop where
 ok : WOk m
 fit : ModFit m
 codes : m.codes.length ≤ 4294967296
 ft : ∀ x ∈ m.types, x.ps.length ≤ 8796093022208 ∧ x.rs.length ≤ 8796093022208
 size : ∀ gs, jU m.locals gs → (wMod m gs).length ≤ 1048576
theorem wfit (hK : (yn m).length ≤ 65536) (hL : JU m = true) : WFit m := by
 have P := (ziY hK).all
 clear hK
 unfold JU at hL
 simp only [Bool.and_eq_true, Bool.or_eq_true, decide_eq_true_eq] at hL
 obtain ⟨⟨⟨⟨⟨⟨⟨⟨⟨⟨⟨⟨⟨⟨sP, hst⟩, Br⟩, B8⟩, fq⟩, gc⟩, eF⟩, cj⟩, vV⟩, xf⟩, wR⟩, rx⟩, lU⟩, xb⟩, A7⟩ := hL
 have ve : ∀ x ∈ m.globals, vtOk x.ty = true ∧ jK x.init = true := fun x hx => by
  have := zci cj x hx
  unfold po at this
  rwa [Bool.and_eq_true] at this
 have vN : ∀ x ∈ m.elements, jK x.off = true := zci xf
 have wx : ∀ x ∈ m.datas, jK x.off = true := zci wR
 have s1 := zbD (l := m.types) (f := wFT) (k := JI) (fun x _ => ft_le x)
 have s2 := zbD (l := m.imports) (f := wImp) (k := yR) (fun x _ => zko x)
 have s3 := zbD (l := m.functions) (f := wNum) (k := jW) (fun x _ => by show (uleb _).length ≤ 13 * (uleb _).length; omega)
 have s4 := zbD (l := m.tables) (f := wTab) (k := yQ) (fun x _ => by have := zg3 x; have := zeF x; unfold wTab; rw [List.length_cons]; omega)
 have s5 := zbD (l := m.memories) (f := wLim) (k := yQ) (fun x _ => by have := zg3 x; have := zeF x; omega)
 have s6 := zbD (l := m.globals) (f := jC) (k := yG) (fun x hx => zjy (ve x hx).2)
 have s7 := zbD (l := m.exports) (f := jS) (k := ym) (fun x _ => zjz x)
 have s9 := zbD (l := m.elements) (f := jT) (k := yF) (fun x hx => zjA (vN x hx))
 have ey := zbD (l := m.codes) (f := zq) (k := zw) (fun x _ => by show (zw x).length ≤ 13 * (zw x).length; omega)
 have nN := zbD (l := m.datas) (f := wDat) (k := jf) (fun x hx => zkp (wx x hx))
 have s0 := zjv (l := m.customs) (f := wCus) (k := y8) (fun x hx => zkq (by have := Ym (k := y8) hx; omega))
 have sf := zbD (l := m.funcs) (f := wNam) (k := yM) (fun x _ => by have := zc0 x; omega)
 have sl := zfk m.locals
 have n1 := jY zjC m.types
 have n2 := jY zin m.imports
 have n3 := jY zfl m.functions
 have n4 := jY zcY m.tables
 have n5 := jY zcY m.memories
 have n6 := jY zg7 m.globals
 have n7 := jY zg8 m.exports
 have n9 := jY zg6 m.elements
 have Fb := jY zdP m.codes
 have Fh := jY zio m.datas
 have n0 := jY zip m.customs
 have nf := jY zfm m.funcs
 have nl := jY zfm m.locals
 have pt : ∀ x ∈ m.types, x.ps.length ≤ 65536 ∧ x.rs.length ≤ 65536 := fun x hx => by
  have h1 := zg2 x; have h2 := Ym (k := JI) hx
  omega
 have Af : ∀ x ∈ m.funcs, x.name.length < 4294967296 := fun x hx => by
  have h1 := zil x; have h2 := zc0 x; have h3 := Ym (k := yM) hx
  omega
 have dK : WOk m := by
  constructor
  case ty1 => exact zci fq
  case ty2 => exact fun x hx => by have := pt x hx; omega
  case im1 =>
   intro x hx
   have h1 := zeG x; have h2 := Ym (k := yR) hx
   rw [Jg, Jg] at h1
   omega
  case im2 => exact zci gc
  case gl1 => exact fun x hx => (ve x hx).1
  case gl2 => exact fun x hx => zg5 (ve x hx).2
  case ex1 =>
   intro x hx
   have h0 := zci vV x hx
   unfold o9 at h0
   simp only [Bool.and_eq_true, decide_eq_true_eq] at h0
   have h2 := Ym (k := ym) hx
   have h1 : (zw x.name).length ≤ (ym x).length := by unfold ym; simp only [laQ]; omega
   rw [Jg] at h1
   exact ⟨h0.1, by omega⟩
  case el1 => exact fun x hx => zg5 (vN x hx)
  case el2 =>
   intro x hx
   have h1 := zcZ x; have h2 := Ym (k := yF) hx; have h3 := jY zfl x.ids
   omega
  case co1 =>
   intro x hx
   have h2 := Ym (k := zw) hx
   rw [Jg] at h2
   omega
  case da1 => exact fun x hx => zg5 (wx x hx)
  case da2 =>
   intro x hx
   have h1 := zeI x; have h2 := Ym (k := jf) hx
   rw [Jg] at h1
   omega
  case cu1 =>
   intro x hx
   have h1 := zeJ x; have h2 := Ym (k := y8) hx
   omega
  case nf => exact Af
  case nl => exact ⟨by omega, by omega⟩
  case nm => omega
  all_goals omega
 refine ⟨dK, ⟨fun x hx => zeH (vN x hx), fun x hx => zeH (ve x hx).2, fun x hx => zeH (wx x hx), by omega, by omega, by omega, by omega, by omega, by omega, by omega, by omega, by omega, by omega, by omega⟩, by omega, fun x hx => by have := pt x hx; omega, fun gs hG => ?_⟩
 have Cb : zaW m.locals gs := ⟨hG.1, fun g hg => (hG.2.1 g.1).1 (List.mem_map.2 ⟨g, hg, rfl⟩), hG.2.2⟩
 have dN := zfa Cb (by omega)
 have dQ := zI gs.length (by have := zab Cb; omega)
 have EE : (wVec wGrp gs).length ≤ 13 * (m.locals.flatMap yM).length + 10 := by unfold wVec; rw [laQ]; omega
 have a1 := Jf 1 wFT m.types (by omega)
 have a2 := Jf 2 wImp m.imports (by omega)
 have a3 := Jf 3 wNum m.functions (by omega)
 have a4 := Jf 4 wTab m.tables (by omega)
 have a5 := Jf 5 wLim m.memories (by omega)
 have a6 := Jf 6 jC m.globals (by omega)
 have a7 := Jf 7 jS m.exports (by omega)
 have a9 := Jf 9 jT m.elements (by omega)
 have a10 := Jf 10 zq m.codes (by omega)
 have kZ := Jf 11 wDat m.datas (by omega)
 have b1 := Jf 1 wNam m.funcs (by omega)
 have b2 := Jf 2 wGrp gs (by omega)
 have b0 := zgR m.named (by omega)
 have c8 : (zdC m).length ≤ 30 := by
  unfold zdC wSec
  split
  ·have h1 := u5 m.start
   have h2 := zI (uleb m.start.toNat).length (by omega)
   rw [List.length_cons, YT]; omega
  ·simp
 have cn : (Yl m gs).length ≤ 11 + (5 + (m.named.length + 21) + ((wVec wNam m.funcs).length + 11) + ((uleb gs.length).length + (gs.flatMap wGrp).length + 11)) := by
  unfold Yl wSec
  split
  ·simp
  ·have e0 : (wVec wGrp gs).length = (uleb gs.length).length + (gs.flatMap wGrp).length := by unfold wVec; rw [laQ]
   have e : (zq ji ++ (yL m.named ++ (zD 1 wNam m.funcs ++ zD 2 wGrp gs))).length ≤ 5 + (m.named.length + 21) + ((wVec wNam m.funcs).length + 11) + ((uleb gs.length).length + (gs.flatMap wGrp).length + 11) := by
    simp only [laQ, Ye]; omega
   have h2 := zI (zq ji ++ (yL m.named ++ (zD 1 wNam m.funcs ++ zD 2 wGrp gs))).length (by omega)
   rw [List.length_cons, YT]; omega
 have cm : YK.length = 8 := rfl
 unfold wMod zfy
 simp only [laQ]
 omega
end Go.Proofs.YtejgninpjhcgnaaGreatDoor
