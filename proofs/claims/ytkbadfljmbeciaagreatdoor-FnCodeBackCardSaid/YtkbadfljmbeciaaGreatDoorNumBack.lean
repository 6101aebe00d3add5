/- LEB128 written and read back: plain numbers. -/
import Derived.Test.YtkbadfljmbeciaaGreatDoorLibD
namespace Go.Proofs.YtkbadfljmbeciaaGreatDoor
open Go.RowKit
theorem or_shl (x y s : Nat) : (x ||| y) * 2 ^ s % 2 ^ 64 = (x * 2 ^ s % 2 ^ 64) ||| (y * 2 ^ s % 2 ^ 64) := by
  rw [← Nat.shiftLeft_eq, ← Nat.shiftLeft_eq, ← Nat.shiftLeft_eq, Nat.shiftLeft_or_distrib, Nat.or_mod_two_pow]
theorem split7 (n : Nat) : (n % 128) ||| (n / 128 * 128) = n := by
  have h := Nat.shiftLeft_add_eq_or_of_lt (i := 7) (b := n % 128) (Nat.mod_lt _ (by decide)) (n / 128)
  rw [Nat.shiftLeft_eq, show (2 : Nat) ^ 7 = 128 from rfl] at h
  rw [Nat.or_comm, ← h]
  omega
theorem readU_uleb : ∀ (n s a : Nat) (r : List UInt8), readU s a (uleb n ++ r) = some (a ||| (n * 2 ^ s % 2 ^ 64), r) := by
  intro n
  induction n using Nat.strongRecOn with
  | ind n ih =>
    intro s a r
    by_cases hn : n < 128
    · rw [uleb_small hn]
      simp only [List.cons_append, List.nil_append, readU, UInt8.toNat_ofNat']
      rw [Nat.mod_eq_of_lt (by omega : n < 2 ^ 8), if_pos hn, Nat.mod_eq_of_lt hn]
    · rw [uleb_big (by omega)]
      simp only [List.cons_append, readU, UInt8.toNat_ofNat']
      rw [Nat.mod_eq_of_lt (by omega : n % 128 + 128 < 2 ^ 8), if_neg (by omega), ih (n / 128) (by omega), Nat.or_assoc]
      congr 2
      congr 1
      rw [show (n % 128 + 128) % 128 = n % 128 from by omega, show n / 128 * 2 ^ (s + 7) = n / 128 * 128 * 2 ^ s from by rw [Nat.pow_add, Nat.mul_comm (2 ^ s), ← Nat.mul_assoc], ← or_shl, split7]
theorem or_add {x y k : Nat} (hx : x < 2 ^ k) (hy : 2 ^ k ∣ y) : x ||| y = x + y := by
  obtain ⟨c, rfl⟩ := hy
  have h := Nat.shiftLeft_add_eq_or_of_lt (i := k) (b := x) hx c
  rw [Nat.shiftLeft_eq, Nat.mul_comm c] at h
  rw [Nat.or_comm, ← h, Nat.add_comm]
theorem emod_toNat (i : Int) : ((i % 128).toNat : Int) = i % 128 := by omega
theorem readS_sleb (N : Nat) : ∀ (i : Int) (s a : Nat) (r : List UInt8), i.natAbs ≤ N → s ≤ 63 → -2 ^ (63 - s) ≤ i → i < 2 ^ (63 - s) →
    ∃ q : Nat, readS s a (sleb i ++ r) = some (toS (a ||| q), r) ∧ q < 18446744073709551616 ∧ 2 ^ s ∣ q ∧
      ((0 ≤ i ∨ s + 7 * (sleb i).length < 32) → (q : Int) % 18446744073709551616 = i * 2 ^ s % 18446744073709551616) ∧ (q : Int) % 4294967296 = i * 2 ^ s % 4294967296 := by
  induction N using Nat.strongRecOn with
  | ind N ih =>
    intro i s a r hN hs h1 h2
    have hP : 0 < 2 ^ s := Nat.pow_pos (by decide)
    have ht := emod_toNat i
    by_cases hi : -64 ≤ i ∧ i < 64
    · rw [sleb_small hi]
      generalize hT : (i % 128).toNat = t at *
      have htl : t < 128 := by omega
      simp only [List.cons_append, List.nil_append, readS, UInt8.toNat_ofNat', List.length_cons, List.length_nil]
      rw [Nat.mod_eq_of_lt (by omega : t < 2 ^ 8), if_pos htl, Nat.mod_eq_of_lt htl]
      by_cases hf : s + 7 < 32 ∧ 64 ≤ t
      · rw [if_pos hf, Nat.or_assoc]
        have hp7 : 2 ^ (s + 7) = 128 * 2 ^ s := by rw [Nat.pow_add]; omega
        have hlt : 2 ^ (s + 7) ≤ 2 ^ 32 := Nat.pow_le_pow_right (by decide) (by omega)
        have hx : t * 2 ^ s < 2 ^ (s + 7) := by rw [hp7]; exact Nat.mul_lt_mul_of_pos_right htl hP
        have hx2 : t * 2 ^ s % 2 ^ 64 = t * 2 ^ s := Nat.mod_eq_of_lt (by omega)
        have hd : 2 ^ (s + 7) ∣ 2 ^ 64 - 2 ^ (s + 7) := Nat.dvd_sub (Nat.pow_dvd_pow 2 (by omega)) (Nat.dvd_refl _)
        have hds : 2 ^ s ∣ 2 ^ 64 - 2 ^ (s + 7) := Nat.dvd_trans (Nat.pow_dvd_pow 2 (by omega)) hd
        have ho := or_add hx hd
        have hi2 : i * 2 ^ s = (t : Int) * 2 ^ s - 128 * 2 ^ s := by rw [show i = (t : Int) - 128 from by omega, Int.sub_mul]
        refine ⟨_, rfl, ?_, ?_, ?_, ?_⟩
        · rw [hx2, ho]; omega
        · rw [hx2, ho]; exact Nat.dvd_add (Nat.dvd_mul_left _ _) hds
        · intro _
          rw [hx2, ho, hi2]
          have e1 : ((t * 2 ^ s : Nat) : Int) = (t : Int) * 2 ^ s := by simp
          have e2 : ((2 ^ s : Nat) : Int) = 2 ^ s := by simp
          rw [← e1, ← e2]
          generalize t * 2 ^ s = X at *
          generalize 2 ^ s = P at *
          omega
        · rw [hx2, ho, hi2]
          have e1 : ((t * 2 ^ s : Nat) : Int) = (t : Int) * 2 ^ s := by simp
          have e2 : ((2 ^ s : Nat) : Int) = 2 ^ s := by simp
          rw [← e1, ← e2]
          generalize t * 2 ^ s = X at *
          generalize 2 ^ s = P at *
          omega
      · rw [if_neg hf]
        refine ⟨_, rfl, Nat.mod_lt _ (by decide), ?_, ?_, ?_⟩
        · exact (Nat.dvd_mod_iff (Nat.pow_dvd_pow 2 (by omega))).2 (Nat.dvd_mul_left _ _)
        · intro h
          have : i = t := by omega
          rw [this]
          simp
        · have e1 : ((t * 2 ^ s % 2 ^ 64 : Nat) : Int) = ((t : Int) * 2 ^ s) % 18446744073709551616 := by simp
          rw [e1]
          by_cases h0 : 0 ≤ i
          · rw [show i = t from by omega]
            generalize (t : Int) * 2 ^ s = X
            omega
          · have hge : 32 ≤ s + 7 := by omega
            obtain ⟨c, hc⟩ : ∃ c : Nat, 2 ^ (s + 7) = 4294967296 * c := Nat.pow_dvd_pow 2 hge
            have hp7 : 2 ^ (s + 7) = 128 * 2 ^ s := by rw [Nat.pow_add]; omega
            have hi2 : i * 2 ^ s = (t : Int) * 2 ^ s - 128 * 2 ^ s := by rw [show i = (t : Int) - 128 from by omega, Int.sub_mul]
            have e2 : ((2 ^ s : Nat) : Int) = 2 ^ s := by simp
            rw [hi2]
            generalize (t : Int) * 2 ^ s = X
            rw [← e2]
            generalize 2 ^ s = P at *
            omega
    · have hs56 : s + 7 ≤ 63 := by
        rcases Nat.lt_or_ge 6 (63 - s) with h | h
        · omega
        · have hle : 2 ^ (63 - s) ≤ 2 ^ 6 := Nat.pow_le_pow_right (by decide) h
          have e : (2 : Int) ^ (63 - s) = ((2 ^ (63 - s) : Nat) : Int) := by simp
          rw [e] at h1 h2
          generalize 2 ^ (63 - s) = Q at *
          omega
      have hQ : (2 : Int) ^ (63 - s) = 128 * 2 ^ (63 - (s + 7)) := by rw [show 63 - s = 63 - (s + 7) + 7 from by omega, Int.pow_add]; generalize (2 : Int) ^ (63 - (s + 7)) = q; omega
      rw [sleb_big hi]
      have hlen : (UInt8.ofNat ((i % 128).toNat + 128) :: sleb (i / 128)).length = (sleb (i / 128)).length + 1 := rfl
      rw [hlen]
      simp only [List.cons_append, readS, UInt8.toNat_ofNat']
      generalize hT : (i % 128).toNat = t at *
      have htl : t < 128 := by omega
      rw [Nat.mod_eq_of_lt (by omega : t + 128 < 2 ^ 8), if_neg (by omega), show (t + 128) % 128 = t from by omega]
      obtain ⟨q, hq1, hq2, hq3, hq4, hq5⟩ := ih (i / 128).natAbs (by omega) (i / 128) (s + 7) (a ||| (t * 2 ^ s % 2 ^ 64)) r (Nat.le_refl _) hs56 (by
        rw [hQ] at h1; generalize (2 : Int) ^ (63 - (s + 7)) = q at *; omega) (by
        rw [hQ] at h2; generalize (2 : Int) ^ (63 - (s + 7)) = q at *; omega)
      rw [hq1, Nat.or_assoc]
      have hp7 : 2 ^ (s + 7) = 128 * 2 ^ s := by rw [Nat.pow_add]; omega
      have hlt : 2 ^ (s + 7) ≤ 2 ^ 63 := Nat.pow_le_pow_right (by decide) hs56
      have hx : t * 2 ^ s < 2 ^ (s + 7) := by rw [hp7]; exact Nat.mul_lt_mul_of_pos_right htl hP
      have hx2 : t * 2 ^ s % 2 ^ 64 = t * 2 ^ s := Nat.mod_eq_of_lt (by omega)
      have ho := or_add hx hq3
      have hor : t * 2 ^ s ||| q < 2 ^ 64 := Nat.or_lt_two_pow (by omega) hq2
      have hi2 : i * 2 ^ s = (t : Int) * 2 ^ s + i / 128 * 2 ^ (s + 7) := by
        rw [Int.pow_add, show (2 : Int) ^ s * 2 ^ 7 = 128 * 2 ^ s from by generalize (2 : Int) ^ s = p; omega, ← Int.mul_assoc, ← Int.add_mul]
        congr 1
        omega
      have e1 : ((t * 2 ^ s : Nat) : Int) = (t : Int) * 2 ^ s := by simp
      refine ⟨_, rfl, ?_, ?_, ?_, ?_⟩
      · rw [hx2]; exact hor
      · rw [hx2, ho]; exact Nat.dvd_add (Nat.dvd_mul_left _ _) (Nat.dvd_trans (Nat.pow_dvd_pow 2 (by omega)) hq3)
      · intro h
        have := hq4 (by omega)
        rw [hx2, ho, hi2, ← e1]
        generalize i / 128 * 2 ^ (s + 7) = Y at *
        generalize t * 2 ^ s = X at *
        omega
      · rw [hx2, ho, hi2, ← e1]
        generalize i / 128 * 2 ^ (s + 7) = Y at *
        generalize t * 2 ^ s = X at *
        omega
theorem readU_back (n : Nat) (hn : n < 18446744073709551616) : readU 0 0 (uleb n) = some (n, []) := by
  have := readU_uleb n 0 0 []
  rw [List.append_nil] at this
  rw [this, Nat.zero_or, Nat.pow_zero, Nat.mul_one, Nat.mod_eq_of_lt (show n < 2 ^ 64 from hn)]
theorem readS_back64 (i : Int) (h1 : -134217728 ≤ i) (h2 : i ≤ 9223372036854775807) : readS 0 0 (sleb i) = some (i, []) := by
  obtain ⟨q, e, hq, -, h4, -⟩ := readS_sleb i.natAbs i 0 0 [] (Nat.le_refl _) (by omega) (by show -2 ^ 63 ≤ i; omega) (by show i < 2 ^ 63; omega)
  rw [List.append_nil] at e
  have hc : 0 ≤ i ∨ 0 + 7 * (sleb i).length < 32 := by
    by_cases h : 0 ≤ i
    · exact .inl h
    · have := sleb_len 3 i (by omega) (by omega)
      omega
  have h5 := h4 hc
  rw [e, Nat.zero_or]
  simp only [Int.pow_zero, Int.mul_one] at h5
  have : toS q = i := by unfold toS; omega
  rw [this]
theorem readS_back32 (i : Int) (h1 : -2147483648 ≤ i) (h2 : i ≤ 2147483647) : ∃ m : Int, readS 0 0 (sleb i) = some (m, []) ∧ m % 4294967296 = i % 4294967296 := by
  obtain ⟨q, e, hq, -, -, h5⟩ := readS_sleb i.natAbs i 0 0 [] (Nat.le_refl _) (by omega) (by show -2 ^ 63 ≤ i; omega) (by show i < 2 ^ 63; omega)
  rw [List.append_nil] at e
  refine ⟨_, e, ?_⟩
  simp only [Int.pow_zero, Int.mul_one] at h5
  rw [Nat.zero_or]
  unfold toS
  omega
end Go.Proofs.YtkbadfljmbeciaaGreatDoor
