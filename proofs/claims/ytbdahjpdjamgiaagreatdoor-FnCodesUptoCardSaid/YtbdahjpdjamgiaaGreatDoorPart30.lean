/- The plain law of reading back: what the reference writes of a legal code entry, its reader reads as it is, or calls it wide. -/
import Derived.Test.YtbdahjpdjamgiaaGreatDoorPart23
import Derived.Test.YtbdahjpdjamgiaaGreatDoorPart26
import Derived.Test.YtbdahjpdjamgiaaGreatDoorPart29
namespace Go.Proofs.YtbdahjpdjamgiaaGreatDoor
open Go.RowKit
/-! ### Numbers -/
theorem drop_len {a R : List UInt8} {j : Nat} (h : (a ++ R).drop j = R) (hj : j ≤ (a ++ R).length) : j = a.length := by
  have := congrArg List.length h
  rw [List.length_drop, List.length_append] at this
  rw [List.length_append] at hj
  omega
theorem st_eq {s : St} {R : List UInt8} (h : s.v = 0) (hb : s.b = R) : s = ⟨R, 0⟩ := by
  obtain ⟨b, v⟩ := s
  have h1 : v = 0 := h
  have h2 : b = R := hb
  rw [h1, h2]
theorem st_nil {s : St} (hb : s.b = []) : s = ⟨[], s.v⟩ := by
  obtain ⟨b, v⟩ := s
  have h2 : b = [] := hb
  rw [h2]
theorem rBits_zero (s : St) : rBits 0 s = rSigned 32 s := rfl
theorem rBits_one (s : St) : rBits 1 s = ((rSigned 64 s).1, if 9223372036854775808 ≤ (rSigned 64 s).1 ∧ 4 + (rSigned 64 s).2.b.length < s.b.length then (rSigned 64 s).2.fail 2 else (rSigned 64 s).2) := rfl
theorem rBits_two (s : St) : rBits 2 s = rNumber s := rfl
theorem rBits_five (s : St) : rBits 5 s = rByte s := rfl
theorem u64_back (a : UInt64) : UInt64.ofNat a.toNat = a := by
  apply UInt64.toNat_inj.1
  exact Nat.mod_eq_of_lt a.toNat_lt
theorem w32_law {q a i : Int} (h5 : q % 4294967296 = i % 4294967296) (hi : (a + 2147483648) % 4294967296 - 2147483648 = i) (h0 : 0 ≤ a) (h1 : a < 4294967296) : wrap32 ((q + 9223372036854775808) % 18446744073709551616 - 9223372036854775808) % 4294967296 = a := by
  unfold wrap32
  have h2 : ((q + 9223372036854775808) % 18446744073709551616 - 9223372036854775808) % 4294967296 = q % 4294967296 := by omega
  generalize (q + 9223372036854775808) % 18446744073709551616 - 9223372036854775808 = z at *
  omega
theorem rNumber_back {n : Nat} (hn : n < 4294967296) (R : List UInt8) : (rNumber ⟨uleb n ++ R, 0⟩).2.v ≠ 0 ∨ rNumber ⟨uleb n ++ R, 0⟩ = (n, ⟨R, 0⟩) := by
  by_cases h : (rNumber ⟨uleb n ++ R, 0⟩).2.v = 0
  · refine .inr ?_
    obtain ⟨m, hm, he⟩ := (rNumber_law (s := ⟨uleb n ++ R, 0⟩) rfl).1 h
    have hr := readU_uleb n 0 0 R
    rw [Nat.zero_or, Nat.pow_zero, Nat.mul_one, Nat.mod_eq_of_lt (show n < 2 ^ 64 by omega)] at hr
    have hm2 := hm.symm.trans hr
    simp only [Option.some.injEq, Prod.mk.injEq] at hm2
    have h1 : (rNumber ⟨uleb n ++ R, 0⟩).1 = n := by rw [he, hm2.1, Nat.mod_eq_of_lt hn]
    have h2 := st_eq h hm2.2
    exact Prod.ext h1 h2
  · exact .inl h
/-- The signed number of some 64 bits. -/
theorem s64_bits (a : UInt64) : bits64 ((((a.toNat : Int) + 9223372036854775808) % 18446744073709551616) - 9223372036854775808) = a := by
  have ha := a.toNat_lt
  unfold bits64
  rw [show ((((a.toNat : Int) + 9223372036854775808) % 18446744073709551616 - 9223372036854775808) % 18446744073709551616).toNat = a.toNat from by omega]
  exact u64_back a
theorem rSigned32_back (a : UInt64) (ha : a.toNat < 4294967296) (R : List UInt8) : (rSigned 32 ⟨sleb ((((a.toNat : Int) + 2147483648) % 4294967296) - 2147483648) ++ R, 0⟩).2.v ≠ 0 ∨
    ((rSigned 32 ⟨sleb ((((a.toNat : Int) + 2147483648) % 4294967296) - 2147483648) ++ R, 0⟩).2 = ⟨R, 0⟩ ∧ UInt64.ofNat (rSigned 32 ⟨sleb ((((a.toNat : Int) + 2147483648) % 4294967296) - 2147483648) ++ R, 0⟩).1 = a) := by
  generalize hi : (((a.toNat : Int) + 2147483648) % 4294967296) - 2147483648 = i
  by_cases h : (rSigned 32 ⟨sleb i ++ R, 0⟩).2.v = 0
  · refine .inr ?_
    obtain ⟨m, hm, he⟩ := (rSigned32_law (s := ⟨sleb i ++ R, 0⟩) rfl).1 h
    obtain ⟨q, hq1, hq2, -, -, hq5⟩ := readS_sleb i.natAbs i 0 0 R (Nat.le_refl _) (by omega) (by show -2 ^ 63 ≤ i; omega) (by show i < 2 ^ 63; omega)
    have hm2 := hm.symm.trans hq1
    simp only [Option.some.injEq, Prod.mk.injEq] at hm2
    refine ⟨st_eq h hm2.2, ?_⟩
    rw [← he, hm2.1, Nat.zero_or]
    simp only [Int.pow_zero, Int.mul_one] at hq5
    have hw : wrap32 (toS q) % 4294967296 = (a.toNat : Int) := by
      unfold toS
      exact w32_law hq5 hi (by omega) (by omega)
    rw [hw]
    exact (bits64_nat a.toNat a.toNat_lt).trans (u64_back a)
  · exact .inl h
theorem sigG_any : ∀ (bits : Nat) (b : List UInt8) (sh acc n : Nat) {v k : Nat}, sigG bits sh acc n b = (v, k) → k ≠ 0 → ∃ j m, k = n + j ∧ j ≤ b.length ∧ readS sh acc b = some (m, b.drop j)
  | _, [], _, _, _, v, k, h, hk => by simp only [sigG, Prod.mk.injEq] at h; exact absurd h.2.symm hk
  | bits, c :: r, sh, acc, n, v, k, h, hk => by
    unfold sigG at h
    split at h
    · simp only [Prod.mk.injEq] at h; exact absurd h.2.symm hk
    · split at h
      · simp only [Prod.mk.injEq] at h; exact absurd h.2.symm hk
      · split at h
        · rename_i h128
          simp only [Prod.mk.injEq] at h
          exact ⟨1, _, h.2.symm, by simp, by unfold readS; rw [if_pos h128]; rfl⟩
        · rename_i h128
          obtain ⟨j, m, hj, hl, hr⟩ := sigG_any bits r _ _ _ h hk
          refine ⟨j + 1, m, by omega, by simp only [List.length_cons]; omega, ?_⟩
          unfold readS
          rw [if_neg h128, hr]
          rfl
theorem top_one {t : Nat} (ht : t < 128) (h64 : 64 ≤ t) (h : badTop 1 t = false) : t = 127 := by
  have : ∀ x : Fin 128, 64 ≤ x.val → badTop 1 x.val = false → x.val = 127 := by decide +kernel
  exact this ⟨t, ht⟩ h64 h
theorem or_big {x y : Nat} (h : 9223372036854775808 ≤ y) : 9223372036854775808 ≤ x ||| y := Nat.le_trans h Nat.right_le_or
/-- A number below zero is read as one. -/
theorem sig_neg (N : Nat) : ∀ (i : Int) (sh acc n : Nat) (R : List UInt8) {v k : Nat}, i.natAbs ≤ N → i < 0 → sh = 7 * n → sigG 64 sh acc n (sleb i ++ R) = (v, k) → k ≠ 0 → 9223372036854775808 ≤ v := by
  induction N using Nat.strongRecOn with
  | ind N ih =>
    intro i sh acc n R v k hN hi hsh h hk
    by_cases hs : -64 ≤ i ∧ i < 64
    · rw [sleb_small hs] at h
      generalize ht : (i % 128).toNat = t at *
      have htl : t < 128 := by omega
      have ht64 : 64 ≤ t := by omega
      simp only [List.cons_append, List.nil_append] at h
      unfold sigG at h
      rw [UInt8.toNat_ofNat', Nat.mod_eq_of_lt (by omega : t < 2 ^ 8)] at h
      split at h
      · simp only [Prod.mk.injEq] at h; exact absurd h.2.symm hk
      · split at h
        · simp only [Prod.mk.injEq] at h; exact absurd h.2.symm hk
        · rename_i h1 h2
          simp only [Prod.mk.injEq] at h
          rw [← h.1]
          by_cases h7 : sh + 7 < 64
          · rw [if_pos ⟨ht64, h7⟩]
            exact fill_big _ _ h7
          · rw [if_neg (fun e => h7 e.2)]
            obtain rfl : sh = 63 := by omega
            have hbt : badTop 1 t = false := by
              cases hb : badTop 1 t with
              | false => rfl
              | true => exact absurd ⟨by omega, hb⟩ h2
            obtain rfl := top_one htl ht64 hbt
            exact or_big (by decide)
    · rw [sleb_big hs] at h
      generalize ht : (i % 128).toNat = t at *
      have htl : t < 128 := by omega
      simp only [List.cons_append] at h
      unfold sigG at h
      rw [UInt8.toNat_ofNat', Nat.mod_eq_of_lt (by omega : t + 128 < 2 ^ 8)] at h
      split at h
      · simp only [Prod.mk.injEq] at h; exact absurd h.2.symm hk
      · split at h
        · simp only [Prod.mk.injEq] at h; exact absurd h.2.symm hk
        · rw [if_neg (by omega)] at h
          exact ih (i / 128).natAbs (by omega) (i / 128) _ _ _ R (Nat.le_refl _) (by omega) (by omega) h hk
theorem sig_pair (bits : Nat) (b : List UInt8) : sigG bits 0 0 0 b = ((sig bits b).1, (sig bits b).2) := rfl
theorem len4 {x r : Nat} (h : ¬ 4 + r < x + r) : 0 + 7 * x < 32 := by omega
theorem wide_neg {b R : List UInt8} {x : Nat} {q : Int} (hbig : ∀ v k, sigG 64 0 0 0 b = (v, k) → k ≠ 0 → 9223372036854775808 ≤ v) (hq1 : readS 0 0 b = some (q, R)) (hlen : b.length = x + R.length) (h : (rBits 1 ⟨b, 0⟩).2.v = 0) : 0 + 7 * x < 32 := by
  have hrb := rBits_one ⟨b, 0⟩
  by_cases hk : (sig 64 b).2 = 0
  · have hrs : rSigned 64 ⟨b, 0⟩ = (0, (⟨b, 0⟩ : St).fail (if endedB 64 b then 3 else 2)) := by unfold rSigned; rw [if_pos hk]
    rw [hrs, fail_v (s := ⟨b, 0⟩) rfl] at hrb
    rw [hrb] at h
    cases he2 : endedB 64 b <;> rw [he2] at h <;> simp at h
  · have hrs : rSigned 64 ⟨b, 0⟩ = ((sig 64 b).1, ⟨b.drop (sig 64 b).2, 0⟩) := by unfold rSigned; rw [if_neg hk, if_neg (by decide)]
    have hbig := hbig (sig 64 b).1 (sig 64 b).2 (sig_pair 64 _) hk
    obtain ⟨j, m', hj, hjl, hr⟩ := sigG_any 64 b 0 0 0 (v := (sig 64 b).1) (k := (sig 64 b).2) (sig_pair 64 _) hk
    have hr2 := hr.symm.trans hq1
    simp only [Option.some.injEq, Prod.mk.injEq] at hr2
    have hjj : b.drop j = R := hr2.2
    rw [Nat.zero_add] at hj
    rw [hrs] at hrb
    dsimp only at hrb
    rw [hj, hjj] at hrb
    by_cases h4 : 4 + R.length < b.length
    · rw [if_pos ⟨hbig, h4⟩] at hrb
      rw [hrb] at h
      exact absurd h (by simp [St.fail])
    · rw [hlen] at h4
      exact len4 h4
theorem rBits1_back (a : UInt64) (R : List UInt8) : (rBits 1 ⟨sleb ((((a.toNat : Int) + 9223372036854775808) % 18446744073709551616) - 9223372036854775808) ++ R, 0⟩).2.v ≠ 0 ∨
    ((rBits 1 ⟨sleb ((((a.toNat : Int) + 9223372036854775808) % 18446744073709551616) - 9223372036854775808) ++ R, 0⟩).2 = ⟨R, 0⟩ ∧ UInt64.ofNat (rBits 1 ⟨sleb ((((a.toNat : Int) + 9223372036854775808) % 18446744073709551616) - 9223372036854775808) ++ R, 0⟩).1 = a) := by
  have hb := s64_bits a
  have hal := a.toNat_lt
  generalize hi : (((a.toNat : Int) + 9223372036854775808) % 18446744073709551616) - 9223372036854775808 = i at *
  by_cases h : (rBits 1 ⟨sleb i ++ R, 0⟩).2.v = 0
  · refine .inr ?_
    obtain ⟨m, hm, he⟩ := (rSigned64_law (s := ⟨sleb i ++ R, 0⟩) rfl).1 h
    obtain ⟨q, hq1, hq2, -, hq4, -⟩ := readS_sleb i.natAbs i 0 0 R (Nat.le_refl _) (by omega) (by show -2 ^ 63 ≤ i; omega) (by show i < 2 ^ 63; omega)
    have hm2 := hm.symm.trans hq1
    simp only [Option.some.injEq, Prod.mk.injEq] at hm2
    have hst : (rBits 1 ⟨sleb i ++ R, 0⟩).2 = ⟨R, 0⟩ := st_eq h hm2.2
    refine ⟨hst, ?_⟩
    have hc : 0 ≤ i ∨ 0 + 7 * (sleb i).length < 32 := by
      by_cases h0 : 0 ≤ i
      · exact .inl h0
      · refine .inr ?_
        exact wide_neg (fun v k e hk => sig_neg i.natAbs i 0 0 0 R (Nat.le_refl _) (by omega) rfl e hk) hq1 List.length_append h
    have h5 := hq4 hc
    rw [← he, hm2.1, Nat.zero_or]
    simp only [Int.pow_zero, Int.mul_one] at h5
    have : toS q = i := by unfold toS; omega
    rw [this, hb]
  · exact .inl h
/-! ### Arguments -/
theorem stuck_args (ks : List Int) (hk : ∀ k ∈ ks, k = 0 ∨ k = 1 ∨ k = 2 ∨ k = 5) : ∀ {v : Nat}, v ≠ 0 → (rArgs ks ⟨[], v⟩).2.v ≠ 0 := by
  induction ks with
  | nil => exact fun h => h
  | cons k ks ih =>
    intro v hv
    have hN : (rNumber ⟨[], v⟩).2 = ⟨[], v⟩ := by
      unfold rNumber
      rw [if_pos (by rfl)]
      show St.fail ⟨[], v⟩ _ = _
      unfold St.fail
      simp [hv]
    have hS : ∀ bits, (rSigned bits ⟨[], v⟩).2 = ⟨[], v⟩ := fun bits => by
      unfold rSigned
      rw [if_pos (by rfl)]
      show St.fail ⟨[], v⟩ _ = _
      unfold St.fail
      simp [hv]
    have hB : (rBits k ⟨[], v⟩).2 = ⟨[], v⟩ := by
      rcases hk k (List.mem_cons_self ..) with rfl | rfl | rfl | rfl
      · rw [rBits_zero]; exact hS 32
      · rw [rBits_one]
        dsimp only
        rw [hS 64]
        split
        · unfold St.fail; simp [hv]
        · rfl
      · rw [rBits_two]; exact hN
      · rw [rBits_five]
        unfold rByte St.fail
        simp [hv]
    rw [rArgs, hB]
    exact ih (fun k hk' => hk k (List.mem_cons_of_mem _ hk')) hv
theorem signed_b (bits : Nat) {b : List UInt8} (h : (rSigned bits ⟨b, 0⟩).2.v ≠ 0) : (rSigned bits ⟨b, 0⟩).2.b = [] := by
  unfold rSigned at h ⊢
  split
  · rfl
  · rename_i hn; rw [if_neg hn] at h; exact absurd rfl h
theorem bits_b {k : Int} (hk : k = 0 ∨ k = 1 ∨ k = 2 ∨ k = 5) {b : List UInt8} (h : (rBits k ⟨b, 0⟩).2.v ≠ 0) : (rBits k ⟨b, 0⟩).2 = ⟨[], (rBits k ⟨b, 0⟩).2.v⟩ := by
  apply st_nil
  rcases hk with rfl | rfl | rfl | rfl
  · rw [rBits_zero] at h ⊢
    exact signed_b 32 h
  · rw [rBits_one] at h ⊢
    dsimp only at h ⊢
    split
    · rfl
    · rename_i hn
      rw [if_neg hn] at h
      exact signed_b 64 h
  · rw [rBits_two] at h ⊢
    exact ((rNumber_law (s := ⟨b, 0⟩) rfl).2 h).1
  · rw [rBits_five] at h ⊢
    rcases rByte_law (s := ⟨b, 0⟩) rfl with ⟨c, r, -, e⟩ | ⟨-, e⟩
    · rw [e] at h
      exact absurd rfl h
    · rw [e]
theorem bits_back {k : Int} (hk : k = 0 ∨ k = 1 ∨ k = 2 ∨ k = 5) {a : Int × UInt64} (ha : argOk k a = true) (R : List UInt8) : (rBits k ⟨argBytes a ++ R, 0⟩).2.v ≠ 0 ∨ ((rBits k ⟨argBytes a ++ R, 0⟩).2 = ⟨R, 0⟩ ∧ UInt64.ofNat (rBits k ⟨argBytes a ++ R, 0⟩).1 = a.2) := by
  obtain ⟨k', b⟩ := a
  have hbl := b.toNat_lt
  unfold argOk at ha
  simp only [Bool.and_eq_true, Bool.not_eq_true', Bool.and_eq_false_iff, Bool.or_eq_false_iff, decide_eq_true_eq, decide_eq_false_iff_not] at ha
  obtain ⟨⟨rfl, h5⟩, h4⟩ := ha
  rcases hk with rfl | rfl | rfl | rfl
  · have e : argBytes (0, b) = sleb ((((b.toNat : Int) + 2147483648) % 4294967296) - 2147483648) := by unfold argBytes; rw [if_pos rfl]
    rw [e, rBits_zero]
    exact rSigned32_back b (by omega) R
  · have e : argBytes (1, b) = sleb ((((b.toNat : Int) + 9223372036854775808) % 18446744073709551616) - 9223372036854775808) := by unfold argBytes; rw [if_neg (show ¬ (1 : Int) = 0 by decide), if_pos rfl]
    rw [e]
    exact rBits1_back b R
  · have e : argBytes (2, b) = uleb b.toNat := by
      unfold argBytes
      rw [if_neg (show ¬ (2 : Int) = 0 by decide), if_neg (show ¬ (2 : Int) = 1 by decide), if_pos rfl]
      rw [Nat.mod_eq_of_lt (show b.toNat < 4294967296 by omega)]
    rw [e, rBits_two]
    rcases rNumber_back (n := b.toNat) (by omega) R with h | h
    · exact .inl h
    · rw [h]
      exact .inr ⟨rfl, u64_back b⟩
  · have e : argBytes (5, b) = [UInt8.ofNat (b.toNat % 256)] := by
      unfold argBytes
      rw [if_neg (show ¬ (5 : Int) = 0 by decide), if_neg (show ¬ (5 : Int) = 1 by decide), if_neg (show ¬ (5 : Int) = 2 by decide), if_neg (show ¬ (5 : Int) = 3 by decide), if_neg (show ¬ (5 : Int) = 4 by decide), if_pos rfl]
    rw [e, rBits_five, show rByte ⟨[UInt8.ofNat (b.toNat % 256)] ++ R, 0⟩ = ((UInt8.ofNat (b.toNat % 256)).toNat, ⟨R, 0⟩) from rfl]
    refine .inr ⟨rfl, ?_⟩
    dsimp only
    rw [UInt8.toNat_ofNat', Nat.mod_eq_of_lt (show b.toNat % 256 < 2 ^ 8 by omega), Nat.mod_eq_of_lt (show b.toNat < 256 by omega)]
    exact u64_back b
theorem args_back : ∀ (ks : List Int) (_ : ∀ k ∈ ks, k = 0 ∨ k = 1 ∨ k = 2 ∨ k = 5) (args : List (Int × UInt64)) (_ : argsOk ks args = true) (R : List UInt8), (rArgs ks ⟨args.flatMap argBytes ++ R, 0⟩).2.v ≠ 0 ∨ rArgs ks ⟨args.flatMap argBytes ++ R, 0⟩ = (args, ⟨R, 0⟩)
  | [], _, [], _, R => .inr rfl
  | [], _, _ :: _, h, _ => by cases h
  | _ :: _, _, [], h, _ => by cases h
  | k :: ks, hk, a :: as', h, R => by
    simp only [argsOk, Bool.and_eq_true] at h
    have hk0 := hk k (List.mem_cons_self ..)
    have hka : a.1 = k := by
      have := h.1
      unfold argOk at this
      simp only [Bool.and_eq_true, decide_eq_true_eq] at this
      exact this.1.1
    rw [List.flatMap_cons, List.append_assoc, rArgs]
    rcases bits_back hk0 h.1 (as'.flatMap argBytes ++ R) with hb | ⟨hb, hv⟩
    · refine .inl ?_
      rw [bits_b hk0 hb]
      exact stuck_args ks (fun k hk' => hk k (List.mem_cons_of_mem _ hk')) hb
    · rw [hb, hv]
      rcases args_back ks (fun k hk' => hk k (List.mem_cons_of_mem _ hk')) as' h.2 R with h2 | h2
      · exact .inl h2
      · rw [h2, ← hka]
        exact .inr rfl
/-! ### Instructions -/
theorem rBody_step (f : Nat) (d : Int) (acc : List Ins) (c : UInt8) (r : List UInt8) : rBody (f + 1) d acc ⟨c :: r, 0⟩ = if c.toNat = 11 then (acc, ⟨r, 0⟩)
    else if c.toNat = 5 ∨ c.toNat = 4 ∨ 100 < d then ([], (⟨r, 0⟩ : St).fail 2)
    else if c.toNat = 2 ∨ c.toNat = 3 then
      rBody f d (acc ++ [.mk (c.toNat : Int) [] true (-1) (rBody f (d + 1) [] (if (rByte ⟨r, 0⟩).2.v = 0 ∧ (rByte ⟨r, 0⟩).1 ≠ 64 then (rByte ⟨r, 0⟩).2.fail 2 else (rByte ⟨r, 0⟩).2)).1]) (rBody f (d + 1) [] (if (rByte ⟨r, 0⟩).2.v = 0 ∧ (rByte ⟨r, 0⟩).1 ≠ 64 then (rByte ⟨r, 0⟩).2.fail 2 else (rByte ⟨r, 0⟩).2)).2
    else if readOp c.toNat = false then ([], (⟨r, 0⟩ : St).fail 2)
    else rBody f d (acc ++ [(rInstr (c.toNat : Int) ⟨r, 0⟩).1]) (rInstr (c.toNat : Int) ⟨r, 0⟩).2 := by
  conv => lhs; unfold rBody
  rw [if_neg (fun h => h rfl)]
  rw [show rByte ⟨c :: r, 0⟩ = (c.toNat, ⟨r, 0⟩) from rfl]
  dsimp only
  rw [if_neg (fun h => h rfl)]
theorem kinds_range {op : Int} {ks : List Int} (h : kindsOf op = some ks) : 0 ≤ op ∧ op ≤ 191 ∧ op ≠ 11 ∧ op ≠ 5 := by
  unfold kindsOf at h
  repeat' split at h
  all_goals first | (cases h; done) | omega
theorem fail2_v {s : St} (h : s.v = 0) : (s.fail 2).v ≠ 0 := by rw [fail_v h]; decide
mutual
theorem back1 : ∀ (x : Ins) (d : Int) (f : Nat) (acc : List Ins) (R : List UInt8), legal1 d x = true → (insB1 x ++ R).length < f →
    (rBody f d acc ⟨insB1 x ++ R, 0⟩).2.v ≠ 0 ∨ ∃ f' x', R.length < f' ∧ rBody f d acc ⟨insB1 x ++ R, 0⟩ = rBody f' d (acc ++ [x']) ⟨R, 0⟩ ∧ keyI1 x' = keyI1 x
  | .mk op args st ty body, d, f0, acc, R, hl, hf => by
    obtain ⟨f, rfl⟩ : ∃ f, f0 = f + 1 := ⟨f0 - 1, by omega⟩
    rcases legal1_cases hl with ⟨rfl, hop, rfl, hty1, hty2, hd, hlb⟩ | ⟨rfl, hop, rfl, rfl, ks, hks, hargs⟩
    · have e : insB1 (.mk op [] true ty body) ++ R = UInt8.ofNat (op % 256).toNat :: typeByte ty :: (insBL body ++ (11 :: R)) := by rw [insB1_true]; simp
      rw [e] at hf ⊢
      have hc : (UInt8.ofNat (op % 256).toNat).toNat = op.toNat := by rw [UInt8.toNat_ofNat']; omega
      generalize UInt8.ofNat (op % 256).toNat = c at *
      simp only [List.length_cons, List.length_append] at hf
      obtain ⟨f1, rfl⟩ : ∃ f1, f = f1 + 1 := ⟨f - 1, by omega⟩
      rw [rBody_step, if_neg (by omega)]
      by_cases h54 : c.toNat = 5 ∨ c.toNat = 4 ∨ 100 < d
      · rw [if_pos h54]
        exact .inl (fail2_v rfl)
      · rw [if_neg h54, if_pos (by omega)]
        rw [show rByte ⟨typeByte ty :: (insBL body ++ (11 :: R)), 0⟩ = ((typeByte ty).toNat, ⟨insBL body ++ (11 :: R), 0⟩) from rfl]
        dsimp only
        by_cases h64 : (typeByte ty).toNat = 64
        · rw [if_neg (fun h => h.2 h64)]
          have hty : ty = -1 := by
            unfold typeByte at h64
            split at h64
            · rw [UInt8.toNat_ofNat'] at h64; omega
            · omega
          subst hty
          rcases backL body (d + 1) (f1 + 1) [] (11 :: R) hlb (by simp only [List.length_append, List.length_cons]; omega) with h | ⟨f', l', hf', he, hl2, hk2⟩
          · refine .inl ?_
            generalize rBody (f1 + 1) (d + 1) [] ⟨insBL body ++ (11 :: R), 0⟩ = q at *
            obtain ⟨l2, b2, v2⟩ := q
            dsimp only at h ⊢
            rw [rBody_done f1 d _ (s := ⟨b2, v2⟩) h]
            exact h
          · obtain ⟨f2, rfl⟩ : ∃ f2, f' = f2 + 1 := ⟨f' - 1, by simp only [List.length_cons] at hf'; omega⟩
            rw [rBody_step, if_pos (by decide), List.nil_append] at he
            rw [he]
            refine .inr ⟨f1 + 1, .mk (c.toNat : Int) [] true (-1) l', by omega, rfl, ?_⟩
            rw [show (c.toNat : Int) = op from by omega]
            unfold keyI1
            rw [hl2, hk2]
        · rw [if_pos ⟨rfl, h64⟩]
          rw [rBody_done f1 (d + 1) [] (fail2_v rfl)]
          dsimp only
          rw [rBody_done f1 d _ (fail2_v rfl)]
          exact .inl (fail2_v rfl)
    · have e : insB1 (.mk op args false 0 []) ++ R = UInt8.ofNat (op % 256).toNat :: (args.flatMap argBytes ++ R) := by rw [insB1_false]; simp
      rw [e] at hf ⊢
      have hr := kinds_range hks
      have hc : (UInt8.ofNat (op % 256).toNat).toNat = op.toNat := by rw [UInt8.toNat_ofNat']; omega
      generalize UInt8.ofNat (op % 256).toNat = c at *
      simp only [List.length_cons, List.length_append] at hf
      obtain ⟨f1, rfl⟩ : ∃ f1, f = f1 + 1 := ⟨f - 1, by omega⟩
      rw [rBody_step, if_neg (by omega)]
      by_cases h100 : 100 < d
      · rw [if_pos (.inr (.inr h100))]
        exact .inl (fail2_v rfl)
      · rw [if_neg (by omega), if_neg (by omega)]
        cases hro : readOp c.toNat with
        | false =>
          rw [if_pos rfl]
          exact .inl (fail2_v rfl)
        | true =>
          rw [if_neg (by decide)]
          obtain ⟨ks', hks', hk5, -⟩ := readOp_kinds hro
          have hce : (c.toNat : Int) = op := by omega
          rw [hce] at hks' ⊢
          obtain rfl : ks' = ks := by rw [hks] at hks'; exact (Option.some.inj hks').symm
          have hri : rInstr op ⟨args.flatMap argBytes ++ R, 0⟩ = (.mk op (rArgs ks' ⟨args.flatMap argBytes ++ R, 0⟩).1 false 0 [], (rArgs ks' ⟨args.flatMap argBytes ++ R, 0⟩).2) := by
            rw [← hce]; exact rInstr_eq (by rw [hce]; exact hks) _
          rw [hri]
          rcases args_back ks' hk5 args hargs R with h | h
          · refine .inl ?_
            generalize rArgs ks' ⟨args.flatMap argBytes ++ R, 0⟩ = q at *
            obtain ⟨l2, b2, v2⟩ := q
            dsimp only at h ⊢
            rw [rBody_done f1 d _ (s := ⟨b2, v2⟩) h]
            exact h
          · rw [h]
            exact .inr ⟨f1 + 1, .mk op args false 0 [], by omega, rfl, rfl⟩
theorem backL : ∀ (l : List Ins) (d : Int) (f : Nat) (acc : List Ins) (R : List UInt8), legalL d l = true → (insBL l ++ R).length < f →
    (rBody f d acc ⟨insBL l ++ R, 0⟩).2.v ≠ 0 ∨ ∃ f' l', R.length < f' ∧ rBody f d acc ⟨insBL l ++ R, 0⟩ = rBody f' d (acc ++ l') ⟨R, 0⟩ ∧ l'.length = l.length ∧ keyIs l' = keyIs l
  | [], d, f, acc, R, _, hf => .inr ⟨f, [], by simpa [insBL] using hf, by simp [insBL], rfl, rfl⟩
  | x :: xs, d, f, acc, R, hl, hf => by
    simp only [legalL, Bool.and_eq_true] at hl
    have e : insBL (x :: xs) ++ R = insB1 x ++ (insBL xs ++ R) := by rw [insBL, List.append_assoc]
    rw [e] at hf ⊢
    rcases back1 x d f acc (insBL xs ++ R) hl.1 hf with h | ⟨f', x', hf', he, hk⟩
    · exact .inl h
    · rw [he]
      rcases backL xs d f' (acc ++ [x']) R hl.2 hf' with h | ⟨f2, l', hf2, he2, hl2, hk2⟩
      · exact .inl h
      · refine .inr ⟨f2, x' :: l', hf2, by rw [he2]; simp, by simp [hl2], ?_⟩
        rw [keyIs, keyIs, hk, hk2]
end
/-! ### Locals, the whole -/
theorem locs_back : ∀ (ls : List (UInt32 × Int)) (_ : ∀ x ∈ ls, 0 ≤ x.2 ∧ x.2 ≤ 3) (R : List UInt8), (rLocals ls.length ⟨ls.flatMap locBytes ++ R, 0⟩).2.v ≠ 0 ∨ rLocals ls.length ⟨ls.flatMap locBytes ++ R, 0⟩ = (ls, ⟨R, 0⟩)
  | [], _, R => .inr rfl
  | x :: xs, h, R => by
    obtain ⟨cn, ty⟩ := x
    have hx : 0 ≤ ty ∧ ty ≤ 3 := h _ (List.mem_cons_self ..)
    have e : (((cn, ty) :: xs).flatMap locBytes ++ R) = uleb cn.toNat ++ (UInt8.ofNat (127 - ty).toNat :: (xs.flatMap locBytes ++ R)) := by
      rw [List.flatMap_cons]; unfold locBytes; simp
    rw [e]
    show (rLocals (xs.length + 1) _).2.v ≠ 0 ∨ rLocals (xs.length + 1) _ = _
    rw [rLocals]
    rcases rNumber_back (n := cn.toNat) cn.toNat_lt (UInt8.ofNat (127 - ty).toNat :: (xs.flatMap locBytes ++ R)) with hn | hn
    · refine .inl ?_
      have hb := ((rNumber_law (s := ⟨uleb cn.toNat ++ (UInt8.ofNat (127 - ty).toNat :: (xs.flatMap locBytes ++ R)), 0⟩) rfl).2 hn).1
      generalize rNumber ⟨uleb cn.toNat ++ (UInt8.ofNat (127 - ty).toNat :: (xs.flatMap locBytes ++ R)), 0⟩ = q at *
      obtain ⟨n, b, v⟩ := q
      dsimp only at hn hb ⊢
      subst hb
      have e2 : (rValueType ⟨[], v⟩).2 = ⟨[], v⟩ := by
        have e : (rByte ⟨[], v⟩).2 = ⟨[], v⟩ := by
          unfold rByte St.fail
          simp [hn]
        unfold rValueType
        rw [e]
        show (if v = 0 ∧ _ then _ else _) = _
        rw [if_neg (fun q => hn q.1)]
      rw [e2, rLocals_stuck _ hn]
      exact hn
    · rw [hn]
      dsimp only
      have hc : (UInt8.ofNat (127 - ty).toNat).toNat = (127 - ty).toNat := by rw [UInt8.toNat_ofNat']; omega
      have hv : rValueType ⟨UInt8.ofNat (127 - ty).toNat :: (xs.flatMap locBytes ++ R), 0⟩ = (ty, ⟨xs.flatMap locBytes ++ R, 0⟩) := by
        unfold rValueType
        rw [show rByte ⟨UInt8.ofNat (127 - ty).toNat :: (xs.flatMap locBytes ++ R), 0⟩ = ((UInt8.ofNat (127 - ty).toNat).toNat, ⟨xs.flatMap locBytes ++ R, 0⟩) from rfl, hc]
        dsimp only
        rw [if_neg (by omega), show (127 : Int) - ((127 - ty).toNat : Int) = ty from by omega]
      rw [hv]
      dsimp only
      rcases locs_back xs (fun y hy => h y (List.mem_cons_of_mem _ hy)) R with h2 | h2
      · exact .inl h2
      · rw [h2]
        exact .inr (by rw [show UInt32.ofNat cn.toNat = cn from UInt32.ofNat_toNat])
theorem locsB_ge : ∀ ls : List (UInt32 × Int), ls.length ≤ (ls.flatMap locBytes).length
  | [] => by simp
  | x :: xs => by
    have := locsB_ge xs
    rw [List.flatMap_cons, List.length_append, List.length_cons]
    unfold locBytes at *
    rw [List.length_append, List.length_cons]
    omega
/-- What is written is read back. -/
theorem code_back {ls : List (UInt32 × Int)} {l : List Ins} (hty : ∀ x ∈ ls, 0 ≤ x.2 ∧ x.2 ≤ 3) (hl : legalL 0 l = true) (hn : ls.length < 4294967296) (hv : (rCode (codeSp ls l)).2 = 0) :
    (rCode (codeSp ls l)).1.1 = ls ∧ codeKey ls (rCode (codeSp ls l)).1.2 = codeKey ls l := by
  have hrc : rCode (codeSp ls l) = (((rLocals (rCount ⟨codeSp ls l, 0⟩).1 (rCount ⟨codeSp ls l, 0⟩).2).1, (rBody ((rLocals (rCount ⟨codeSp ls l, 0⟩).1 (rCount ⟨codeSp ls l, 0⟩).2).2.b.length + 1) 0 [] (rLocals (rCount ⟨codeSp ls l, 0⟩).1 (rCount ⟨codeSp ls l, 0⟩).2).2).1),
    if (rBody ((rLocals (rCount ⟨codeSp ls l, 0⟩).1 (rCount ⟨codeSp ls l, 0⟩).2).2.b.length + 1) 0 [] (rLocals (rCount ⟨codeSp ls l, 0⟩).1 (rCount ⟨codeSp ls l, 0⟩).2).2).2.v = 3 then 1 else if (rBody ((rLocals (rCount ⟨codeSp ls l, 0⟩).1 (rCount ⟨codeSp ls l, 0⟩).2).2.b.length + 1) 0 [] (rLocals (rCount ⟨codeSp ls l, 0⟩).1 (rCount ⟨codeSp ls l, 0⟩).2).2).2.v = 0 ∧ 0 < (rBody ((rLocals (rCount ⟨codeSp ls l, 0⟩).1 (rCount ⟨codeSp ls l, 0⟩).2).2.b.length + 1) 0 [] (rLocals (rCount ⟨codeSp ls l, 0⟩).1 (rCount ⟨codeSp ls l, 0⟩).2).2).2.b.length then 2 else (rBody ((rLocals (rCount ⟨codeSp ls l, 0⟩).1 (rCount ⟨codeSp ls l, 0⟩).2).2.b.length + 1) 0 [] (rLocals (rCount ⟨codeSp ls l, 0⟩).1 (rCount ⟨codeSp ls l, 0⟩).2).2).2.v) := rfl
  have hv0 : (rBody ((rLocals (rCount ⟨codeSp ls l, 0⟩).1 (rCount ⟨codeSp ls l, 0⟩).2).2.b.length + 1) 0 [] (rLocals (rCount ⟨codeSp ls l, 0⟩).1 (rCount ⟨codeSp ls l, 0⟩).2).2).2.v = 0 := by
    rw [hrc] at hv
    dsimp only at hv
    split at hv
    · cases hv
    · split at hv
      · cases hv
      · exact hv
  have e : codeSp ls l = uleb ls.length ++ (ls.flatMap locBytes ++ (insBL l ++ [11])) := rfl
  have hcnt : rCount ⟨codeSp ls l, 0⟩ = (ls.length, ⟨ls.flatMap locBytes ++ (insBL l ++ [11]), 0⟩) := by
    have hcount : rCount ⟨codeSp ls l, 0⟩ = if (rNumber ⟨codeSp ls l, 0⟩).2.b.length < (rNumber ⟨codeSp ls l, 0⟩).1 then (0, if 10000 < (rNumber ⟨codeSp ls l, 0⟩).1 then ⟨[], 2⟩ else (rNumber ⟨codeSp ls l, 0⟩).2.fail 3) else rNumber ⟨codeSp ls l, 0⟩ := rfl
    rcases rNumber_back hn (ls.flatMap locBytes ++ (insBL l ++ [11])) with h | h
    · exfalso
      rw [← e] at h
      have hb := ((rNumber_law (s := ⟨codeSp ls l, 0⟩) rfl).2 h).1
      have hz0 : (rNumber ⟨codeSp ls l, 0⟩).1 = 0 := by
        unfold rNumber at h ⊢
        split
        · rfl
        · rename_i h'; rw [if_neg h'] at h; exact absurd rfl h
      rw [hb, hz0, if_neg (by decide : ¬ ([] : List UInt8).length < 0)] at hcount
      have e0 : (rNumber ⟨codeSp ls l, 0⟩).2 = ⟨[], (rNumber ⟨codeSp ls l, 0⟩).2.v⟩ := st_nil hb
      rw [hcount, e0, rLocals_stuck _ h, rBody_done _ _ _ (s := ⟨[], (rNumber ⟨codeSp ls l, 0⟩).2.v⟩) h] at hv0
      exact h hv0
    · rw [← e] at h
      rw [hcount, h, if_neg]
      have := locsB_ge ls
      dsimp only
      rw [List.length_append]
      omega
  rw [hcnt] at hv0 hrc
  dsimp only at hv0 hrc
  rcases locs_back ls hty (insBL l ++ [11]) with h | h
  · exfalso
    have hb := (locals_law ls.length (ls.flatMap locBytes ++ (insBL l ++ [11]))).2.2 h
    have e0 : (rLocals ls.length ⟨ls.flatMap locBytes ++ (insBL l ++ [11]), 0⟩).2 = ⟨[], (rLocals ls.length ⟨ls.flatMap locBytes ++ (insBL l ++ [11]), 0⟩).2.v⟩ := st_nil hb
    rw [e0, rBody_done _ _ _ (s := ⟨[], (rLocals ls.length ⟨ls.flatMap locBytes ++ (insBL l ++ [11]), 0⟩).2.v⟩) h] at hv0
    exact h hv0
  · rw [h] at hv0 hrc
    dsimp only at hv0 hrc
    rcases backL l 0 ((insBL l ++ [11]).length + 1) [] [11] hl (by omega) with h2 | ⟨f', l', hf', he, hl2, hk2⟩
    · exact absurd hv0 h2
    · obtain ⟨f2, rfl⟩ : ∃ f2, f' = f2 + 1 := ⟨f' - 1, by simp only [List.length_cons] at hf'; omega⟩
      rw [rBody_step, if_pos (by decide), List.nil_append] at he
      rw [hrc, he]
      refine ⟨rfl, ?_⟩
      unfold codeKey keyIL
      rw [hl2, hk2]
end Go.Proofs.YtbdahjpdjamgiaaGreatDoor
