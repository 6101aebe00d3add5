/- Plain facts on numbers, bits and LEB128: no program, no memory. -/
import Derived.WalkKit
import Derived.Lib.Strings
namespace Go.Proofs.YtfpikpbolgodcaaDoor

/-- The unsigned form of LEB128. -/
def uleb (n : Nat) : List UInt8 :=
  if n < 128 then [UInt8.ofNat n] else UInt8.ofNat (n % 128 + 128) :: uleb (n / 128)
termination_by n
decreasing_by omega

/-- The signed form of LEB128. -/
def sleb (i : Int) : List UInt8 :=
  if -64 ≤ i ∧ i < 64 then [UInt8.ofNat (i % 128).toNat] else UInt8.ofNat ((i % 128).toNat + 128) :: sleb (i / 128)
termination_by i.natAbs
decreasing_by omega

theorem uleb_small {n : Nat} (h : n < 128) : uleb n = [UInt8.ofNat n] := by rw [uleb, if_pos h]
theorem uleb_big {n : Nat} (h : 128 ≤ n) : uleb n = UInt8.ofNat (n % 128 + 128) :: uleb (n / 128) := by rw [uleb, if_neg (by omega)]
theorem sleb_small {i : Int} (h : -64 ≤ i ∧ i < 64) : sleb i = [UInt8.ofNat (i % 128).toNat] := by rw [sleb, if_pos h]
theorem sleb_big {i : Int} (h : ¬ (-64 ≤ i ∧ i < 64)) : sleb i = UInt8.ofNat ((i % 128).toNat + 128) :: sleb (i / 128) := by rw [sleb, if_neg h]

theorem uleb_len : ∀ (k n : Nat), n < 128 ^ (k + 1) → (uleb n).length ≤ k + 1
  | 0, n, h => by rw [uleb_small (by omega)]; simp
  | k + 1, n, h => by
    by_cases hn : n < 128
    · rw [uleb_small hn]; simp
    · rw [uleb_big (by omega), List.length_cons]
      have := uleb_len k (n / 128) (by rw [Nat.pow_succ] at h; omega)
      omega
theorem uleb_len64 (n : Nat) (h : n < 18446744073709551616) : (uleb n).length ≤ 10 := uleb_len 9 n (by omega)
theorem sleb_len : ∀ (k : Nat) (i : Int), -64 * 128 ^ k ≤ i → i < 64 * 128 ^ k → (sleb i).length ≤ k + 1
  | 0, i, h, h' => by rw [sleb_small (by omega)]; simp
  | k + 1, i, h, h' => by
    by_cases hn : -64 ≤ i ∧ i < 64
    · rw [sleb_small hn]; simp
    · rw [sleb_big hn, List.length_cons]
      have ih := sleb_len k (i / 128)
      rw [Int.pow_succ] at h h'
      generalize (128 : Int) ^ k = q at h h' ih
      have := ih (by omega) (by omega)
      omega
theorem sleb_len64 (i : Int) (h : -9223372036854775808 ≤ i) (h' : i ≤ 9223372036854775807) : (sleb i).length ≤ 10 := sleb_len 9 i (by omega) (by omega)

theorem u64_and127 (x : Int) (h0 : 0 ≤ x) (h1 : x < 18446744073709551616) : bits .and .u64 x 127 = x % 128 := by
  obtain ⟨a, rfl⟩ := Int.eq_ofNat_of_zero_le h0
  rw [show (127 : Int) = ((127 : Nat) : Int) from rfl, u64_and_nat a 127 (by omega) (by omega), nat_mask7]
  omega
theorem u64_and128 (x : Int) (h0 : 0 ≤ x) (h1 : x < 256) : bits .and .u64 x 128 = if x < 128 then 0 else 128 := by
  obtain ⟨a, rfl⟩ := Int.eq_ofNat_of_zero_le h0
  rw [show (128 : Int) = ((128 : Nat) : Int) from rfl, u64_and_nat a 128 (by omega) (by omega), show (128 : Nat) = 2 ^ 7 from rfl, nat_bit 7 a]
  split <;> omega
theorem u8_and128 (x : Int) (h0 : 0 ≤ x) (h1 : x < 256) : bits .and .u8 x 128 = if x < 128 then 0 else 128 := by
  obtain ⟨a, rfl⟩ := Int.eq_ofNat_of_zero_le h0
  rw [show (128 : Int) = ((128 : Nat) : Int) from rfl, u8_and_nat a 128 (by omega) (by omega), show (128 : Nat) = 2 ^ 7 from rfl, nat_bit 7 a]
  split <;> omega
theorem u8_and127 (x : Int) (h0 : 0 ≤ x) (h1 : x < 256) : bits .and .u8 x 127 = x % 128 := by
  obtain ⟨a, rfl⟩ := Int.eq_ofNat_of_zero_le h0
  rw [show (127 : Int) = ((127 : Nat) : Int) from rfl, u8_and_nat a 127 (by omega) (by omega), nat_mask7]
  omega
theorem u8_or128_low (x : Int) (h0 : 0 ≤ x) (h1 : x < 256) : bits .or .u8 x 128 = x % 128 + 128 := by
  obtain ⟨a, rfl⟩ := Int.eq_ofNat_of_zero_le h0
  rw [show (128 : Int) = ((128 : Nat) : Int) from rfl, u8_or_nat a 128 (by omega) (by omega)]
  have h : a ||| 128 = a % 128 + 128 := by
    have : ∀ b : Fin 256, b.val ||| 128 = b.val % 128 + 128 := by decide +kernel
    exact this ⟨a, by omega⟩
  omega
theorem ofInt64_toNat (x : Int) : ((BitVec.ofInt 64 x).toNat : Int) = x % 18446744073709551616 := by
  rw [BitVec.toNat_ofInt]
  omega
theorem i64_and_small (x : Int) (m : Nat) (hm : m < 128) : bits .and .i64 x (m : Int) = (((x % 128).toNat &&& m : Nat) : Int) := by
  show IntKind.i64.wrap ((BitVec.ofInt 64 x &&& BitVec.ofInt 64 (m : Int)).toNat : Int) = _
  rw [BitVec.toNat_and]
  have hx := ofInt64_toNat x
  have hmm := ofInt64_toNat (m : Int)
  generalize (BitVec.ofInt 64 x).toNat = a at *
  generalize (BitVec.ofInt 64 (m : Int)).toNat = b at *
  obtain rfl : b = m := by omega
  have h1 : a &&& b = (a % 128) &&& b := by
    have hb : b = b &&& 127 := by rw [nat_mask7]; omega
    rw [← nat_mask7 a, Nat.and_assoc, Nat.and_comm 127 b, ← hb]
  have h2 : a % 128 = (x % 128).toNat := by omega
  rw [h1, h2]
  have h3 : (x % 128).toNat &&& b ≤ b := Nat.and_le_right
  generalize (x % 128).toNat &&& b = c at *
  rw [IntKind.wrap_i64]
  omega
theorem i64_and127 (x : Int) : bits .and .i64 x 127 = x % 128 := by
  have h := i64_and_small x 127 (by omega)
  rw [show ((127 : Nat) : Int) = 127 from rfl, nat_mask7] at h
  omega
theorem i64_and64 (x : Int) : bits .and .i64 x 64 = if x % 128 < 64 then 0 else 64 := by
  have h := i64_and_small x 64 (by omega)
  rw [show ((64 : Nat) : Int) = 64 from rfl] at h
  have h2 := nat_bit 6 (x % 128).toNat
  rw [show (2 : Nat) ^ 6 = 64 from rfl] at h2
  rw [h2] at h
  split <;> omega

end Go.Proofs.YtfpikpbolgodcaaDoor
