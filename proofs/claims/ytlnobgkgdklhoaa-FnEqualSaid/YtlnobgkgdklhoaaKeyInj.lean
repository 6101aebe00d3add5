/- The reference's keys tell their values apart. -/
import Derived.Test.YtlnobgkgdklhoaaKey
namespace Go.Proofs.Ytlnobgkgdklhoaa
open Go.RowKit
theorem u8_ofNat_inj {n m : Nat} (hn : n < 256) (hm : m < 256) (h : UInt8.ofNat n = UInt8.ofNat m) : n = m := by
  have := congrArg UInt8.toNat h
  simp only [UInt8.toNat_ofNat'] at this
  omega
theorem uleb_cancel : ∀ (n m : Nat) {r s : List UInt8}, uleb n ++ r = uleb m ++ s → n = m ∧ r = s := by
  intro n
  induction n using Nat.strongRecOn with
  | ind n ih =>
    intro m r s h
    by_cases hn : n < 128 <;> by_cases hm : m < 128
    · rw [uleb_small hn, uleb_small hm] at h
      simp only [List.cons_append, List.nil_append, List.cons.injEq] at h
      exact ⟨u8_ofNat_inj (by omega) (by omega) h.1, h.2⟩
    · rw [uleb_small hn, uleb_big (by omega)] at h
      simp only [List.cons_append, List.nil_append, List.cons.injEq] at h
      have := u8_ofNat_inj (by omega) (by omega) h.1
      omega
    · rw [uleb_big (by omega), uleb_small hm] at h
      simp only [List.cons_append, List.nil_append, List.cons.injEq] at h
      have := u8_ofNat_inj (by omega) (by omega) h.1
      omega
    · rw [uleb_big (n := n) (by omega), uleb_big (n := m) (by omega)] at h
      simp only [List.cons_append, List.cons.injEq] at h
      have h1 := u8_ofNat_inj (by omega) (by omega) h.1
      obtain ⟨h2, h3⟩ := ih (n / 128) (by omega) (m / 128) h.2
      exact ⟨by omega, h3⟩
/-- A list of ints of the machine. -/
abbrev Is64 (l : List Int) : Prop := ∀ x ∈ l, -9223372036854775808 ≤ x ∧ x ≤ 9223372036854775807
theorem int_range {A : Nat → Prop} {w : World} {v : Value} {xs : List Int} (h : Lay.int.slice.rd A w [v] xs) : Is64 xs := by
  intro x hx
  obtain ⟨i, hi, rfl⟩ := List.getElem_of_mem hx
  obtain ⟨a, c, rfl, -, -⟩ := Lay.slice_form h
  obtain ⟨_, _, _, _, _, h1, h2⟩ := int_at h i hi
  exact ⟨h1, h2⟩
theorem ulebI_cancel {a b : Int} (ha : -9223372036854775808 ≤ a ∧ a ≤ 9223372036854775807) (hb : -9223372036854775808 ≤ b ∧ b ≤ 9223372036854775807) {r s : List UInt8} (h : ulebI a ++ r = ulebI b ++ s) : a = b ∧ r = s := by
  obtain ⟨h1, h2⟩ := uleb_cancel _ _ h
  exact ⟨by omega, h2⟩
theorem flat_cancel : ∀ {l m : List Int} {r s : List UInt8}, Is64 l → Is64 m → l.length = m.length → l.flatMap ulebI ++ r = m.flatMap ulebI ++ s → l = m ∧ r = s
  | [], [], _, _, _, _, _, h => ⟨rfl, by simpa using h⟩
  | [], _ :: _, _, _, _, _, hl, _ => by simp at hl
  | _ :: _, [], _, _, _, _, hl, _ => by simp at hl
  | a :: l, b :: m, r, s, h1, h2, hl, h => by
    rw [List.flatMap_cons, List.flatMap_cons, List.append_assoc, List.append_assoc] at h
    obtain ⟨e1, e2⟩ := ulebI_cancel (h1 a (.head _)) (h2 b (.head _)) h
    obtain ⟨e3, e4⟩ := flat_cancel (fun x hx => h1 x (.tail _ hx)) (fun x hx => h2 x (.tail _ hx)) (by simpa using hl) e2
    exact ⟨by rw [e1, e3], e4⟩
theorem keyNums_cancel {l m : List Int} {r s : List UInt8} (h1 : Is64 l) (h2 : Is64 m) (h : keyNums l ++ r = keyNums m ++ s) : l = m ∧ r = s := by
  rw [keyNums, keyNums, List.append_assoc, List.append_assoc] at h
  obtain ⟨e1, e2⟩ := uleb_cancel _ _ h
  exact flat_cancel h1 h2 e1 e2
theorem typeKey_inj {x y : List Int × List Int} (h1 : Is64 x.1) (h2 : Is64 x.2) (h3 : Is64 y.1) (h4 : Is64 y.2) (h : typeKey x = typeKey y) : x = y := by
  obtain ⟨e1, e2⟩ := keyNums_cancel h1 h3 h
  obtain ⟨e3, -⟩ := keyNums_cancel (r := []) (s := []) h2 h4 (by simpa using e2)
  exact Prod.ext e1 e3
end Go.Proofs.Ytlnobgkgdklhoaa
