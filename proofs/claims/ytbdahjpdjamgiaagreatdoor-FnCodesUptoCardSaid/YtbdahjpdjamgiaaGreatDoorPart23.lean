/- The plain law of reading: where the reference's reader speaks, the package reads the same. -/
import Derived.Test.YtbdahjpdjamgiaaGreatDoorPart16
import Derived.Test.YtbdahjpdjamgiaaGreatDoorPart22
import Derived.Test.YtbdahjpdjamgiaaGreatDoorPart4
namespace Go.Proofs.YtbdahjpdjamgiaaGreatDoor
open Go.RowKit
/-! ### Numbers -/
theorem unsG_readU (bits : Nat) : ∀ (b : List UInt8) (sh acc n : Nat) {v k : Nat}, unsG bits sh acc n b = (v, k) → k ≠ 0 → ∃ j, k = n + j ∧ readU sh acc b = some (v, b.drop j)
  | [], _, _, _, v, k, h, hk => by simp only [unsG, Prod.mk.injEq] at h; exact absurd h.2.symm hk
  | c :: r, sh, acc, n, v, k, h, hk => by
    unfold unsG at h
    split at h
    · simp only [Prod.mk.injEq] at h; exact absurd h.2.symm hk
    · split at h
      · simp only [Prod.mk.injEq] at h; exact absurd h.2.symm hk
      · split at h
        · rename_i h128
          simp only [Prod.mk.injEq] at h
          refine ⟨1, h.2.symm, ?_⟩
          unfold readU
          rw [if_pos h128, h.1]
          rfl
        · rename_i h128
          obtain ⟨j, hj, hr⟩ := unsG_readU bits r _ _ _ h hk
          refine ⟨j + 1, by omega, ?_⟩
          unfold readU
          rw [if_neg h128, hr]
          rfl
theorem readU_ended : ∀ (b : List UInt8) (sh acc : Nat), (∀ c ∈ b, 128 ≤ c.toNat) → readU sh acc b = none
  | [], _, _, _ => rfl
  | c :: r, sh, acc, h => by
    have hc := h c (List.mem_cons_self ..)
    unfold readU
    rw [if_neg (by omega)]
    exact readU_ended r _ _ (fun c hc => h c (List.mem_cons_of_mem _ hc))
theorem readS_ended : ∀ (b : List UInt8) (sh acc : Nat), (∀ c ∈ b, 128 ≤ c.toNat) → readS sh acc b = none
  | [], _, _, _ => rfl
  | c :: r, sh, acc, h => by
    have hc := h c (List.mem_cons_self ..)
    unfold readS
    rw [if_neg (by omega)]
    exact readS_ended r _ _ (fun c hc => h c (List.mem_cons_of_mem _ hc))
theorem ended_all {bits : Nat} {b : List UInt8} (h : endedB bits b = true) : ∀ c ∈ b, 128 ≤ c.toNat := by
  unfold endedB at h
  rw [Bool.and_eq_true, List.all_eq_true] at h
  exact fun c hc => of_decide_eq_true (h.1 c hc)
theorem toS_mod32 (a : Nat) : toS a % 4294967296 = ((a % 4294967296 : Nat) : Int) := by unfold toS; omega
theorem fill_mod32 (x s : Nat) (h1 : 32 ≤ s) (h2 : s < 64) : (x ||| (2 ^ 64 - 2 ^ s)) % 2 ^ 32 = x % 2 ^ 32 := by
  have hz : (2 ^ 64 - 2 ^ s) % 2 ^ 32 = 0 := by
    have e : (2 : Nat) ^ s = 2 ^ (s - 32) * 2 ^ 32 := by rw [← Nat.pow_add]; congr 1; omega
    have e2 : (2 : Nat) ^ 64 = 2 ^ 32 * 2 ^ 32 := by rw [← Nat.pow_add]
    rw [e, e2, ← Nat.sub_mul, Nat.mul_mod_left]
  rw [Nat.or_mod_two_pow, hz, Nat.or_zero]
theorem fill_big (x s : Nat) (h2 : s < 64) : 9223372036854775808 ≤ (x ||| (2 ^ 64 - 2 ^ s)) := by
  have h := Nat.right_le_or (n := x) (m := 2 ^ 64 - 2 ^ s)
  have : (2 : Nat) ^ s ≤ 2 ^ 63 := Nat.pow_le_pow_right (by decide) (by omega)
  omega
theorem sigG_readS32 : ∀ (b : List UInt8) (sh acc n : Nat) {v k : Nat}, sigG 32 sh acc n b = (v, k) → k ≠ 0 → ∃ j m, k = n + j ∧ readS sh acc b = some (m, b.drop j) ∧ m % 4294967296 = ((v % 4294967296 : Nat) : Int)
  | [], _, _, _, v, k, h, hk => by simp only [sigG, Prod.mk.injEq] at h; exact absurd h.2.symm hk
  | c :: r, sh, acc, n, v, k, h, hk => by
    unfold sigG at h
    split at h
    · simp only [Prod.mk.injEq] at h; exact absurd h.2.symm hk
    · split at h
      · simp only [Prod.mk.injEq] at h; exact absurd h.2.symm hk
      · split at h
        · rename_i h128
          simp only [Prod.mk.injEq] at h
          refine ⟨1, _, h.2.symm, by unfold readS; rw [if_pos h128]; rfl, ?_⟩
          rw [toS_mod32, ← h.1]
          by_cases h64 : 64 ≤ c.toNat
          · by_cases h32 : sh + 7 < 32
            · rw [if_pos ⟨h32, h64⟩, if_pos ⟨h64, by omega⟩]
            · rw [if_neg (fun e => h32 e.1)]
              by_cases h7 : sh + 7 < 64
              · rw [if_pos ⟨h64, h7⟩]
                have := fill_mod32 (acc ||| (c.toNat % 128 * 2 ^ sh % 2 ^ 64)) (sh + 7) (by omega) h7
                congr 1
                exact this.symm
              · rw [if_neg (fun e => h7 e.2)]
          · rw [if_neg (fun e => h64 e.2), if_neg (fun e => h64 e.1)]
        · rename_i h128
          obtain ⟨j, m, hj, hr, hm⟩ := sigG_readS32 r _ _ _ h hk
          refine ⟨j + 1, m, by omega, ?_, hm⟩
          unfold readS
          rw [if_neg h128, hr]
          rfl
theorem sigG_readS64 : ∀ (b : List UInt8) (sh acc n : Nat) {v k : Nat}, sh = 7 * n → sigG 64 sh acc n b = (v, k) → k ≠ 0 → ¬ (9223372036854775808 ≤ v ∧ 4 < k) → ∃ j, k = n + j ∧ readS sh acc b = some (toS v, b.drop j)
  | [], _, _, _, v, k, _, h, hk, _ => by simp only [sigG, Prod.mk.injEq] at h; exact absurd h.2.symm hk
  | c :: r, sh, acc, n, v, k, hsh, h, hk, hw => by
    unfold sigG at h
    split at h
    · simp only [Prod.mk.injEq] at h; exact absurd h.2.symm hk
    · split at h
      · simp only [Prod.mk.injEq] at h; exact absurd h.2.symm hk
      · split at h
        · rename_i h128
          simp only [Prod.mk.injEq] at h
          refine ⟨1, h.2.symm, ?_⟩
          unfold readS
          rw [if_pos h128, ← h.1]
          by_cases h64 : 64 ≤ c.toNat
          · by_cases h7 : sh + 7 < 64
            · rw [if_pos (c := 64 ≤ c.toNat ∧ sh + 7 < 64) ⟨h64, h7⟩]
              have hb := fill_big (acc ||| (c.toNat % 128 * 2 ^ sh % 2 ^ 64)) (sh + 7) h7
              have hv : 9223372036854775808 ≤ v := by rw [← h.1, if_pos ⟨h64, h7⟩]; exact hb
              have h4 : ¬ 4 < k := fun e => hw ⟨hv, e⟩
              rw [if_pos ⟨by omega, h64⟩]
              rfl
            · rw [if_neg (fun e => h7 (by omega)), if_neg (fun e => h7 e.2)]
              rfl
          · rw [if_neg (fun e => h64 e.2), if_neg (fun e => h64 e.1)]
            rfl
        · rename_i h128
          obtain ⟨j, hj, hr⟩ := sigG_readS64 r _ _ _ (by omega) h hk hw
          refine ⟨j + 1, by omega, ?_⟩
          unfold readS
          rw [if_neg h128, hr]
          rfl
theorem St.eta {s : St} (h : s.v = 0) : s = ⟨s.b, 0⟩ := by
  obtain ⟨b, v⟩ := s
  obtain rfl : v = 0 := h
  rfl
theorem fail_v {s : St} (h : s.v = 0) (n : Nat) : s.fail n = ⟨[], n⟩ := by simp [St.fail, h]
theorem rNumber_law {s : St} (hv : s.v = 0) : ((rNumber s).2.v = 0 → ∃ m, readU 0 0 s.b = some (m, (rNumber s).2.b) ∧ (rNumber s).1 = m % 4294967296) ∧ ((rNumber s).2.v ≠ 0 → (rNumber s).2.b = [] ∧ ((rNumber s).2.v = 2 ∨ ((rNumber s).2.v = 3 ∧ readU 0 0 s.b = none))) := by
  unfold rNumber
  by_cases hn : (uns 32 s.b).2 = 0
  · rw [if_pos hn, fail_v hv]
    cases he : endedB 32 s.b with
    | true => exact ⟨fun h => (by cases h), fun _ => ⟨rfl, .inr ⟨rfl, readU_ended _ _ _ (ended_all he)⟩⟩⟩
    | false => exact ⟨fun h => (by cases h), fun _ => ⟨rfl, .inl rfl⟩⟩
  · rw [if_neg hn]
    refine ⟨fun _ => ?_, fun h => absurd hv h⟩
    obtain ⟨j, hj, hr⟩ := unsG_readU 32 s.b 0 0 0 (v := (uns 32 s.b).1) (k := (uns 32 s.b).2) rfl hn
    rw [Nat.zero_add] at hj
    exact ⟨_, by rw [hr, hj], rfl⟩
theorem rByte_law {s : St} (hv : s.v = 0) : (∃ c r, s.b = c :: r ∧ rByte s = (c.toNat, ⟨r, 0⟩)) ∨ (s.b = [] ∧ rByte s = (0, ⟨[], 3⟩)) := by
  unfold rByte
  cases hb : s.b with
  | nil => exact .inr ⟨rfl, by rw [fail_v hv]⟩
  | cons c r => exact .inl ⟨c, r, rfl, by rw [hv]⟩
theorem bits64_nat (n : Nat) (h : n < 18446744073709551616) : bits64 (n : Int) = UInt64.ofNat n := by
  unfold bits64
  rw [show ((n : Int) % 18446744073709551616).toNat = n from by omega]
theorem rSigned32_law {s : St} (hv : s.v = 0) : ((rSigned 32 s).2.v = 0 → ∃ m, readS 0 0 s.b = some (m, (rSigned 32 s).2.b) ∧ bits64 (wrap32 m % 4294967296) = UInt64.ofNat (rSigned 32 s).1) ∧ ((rSigned 32 s).2.v ≠ 0 → (rSigned 32 s).2.v = 2 ∨ ((rSigned 32 s).2.v = 3 ∧ readS 0 0 s.b = none)) := by
  unfold rSigned
  by_cases hn : (sig 32 s.b).2 = 0
  · rw [if_pos hn, fail_v hv]
    cases he : endedB 32 s.b with
    | true => exact ⟨fun h => (by cases h), fun _ => .inr ⟨rfl, readS_ended _ _ _ (ended_all he)⟩⟩
    | false => exact ⟨fun h => (by cases h), fun _ => .inl rfl⟩
  · rw [if_neg hn]
    refine ⟨fun _ => ?_, fun h => absurd hv h⟩
    obtain ⟨j, m, hj, hr, hm⟩ := sigG_readS32 s.b 0 0 0 (v := (sig 32 s.b).1) (k := (sig 32 s.b).2) rfl hn
    rw [Nat.zero_add] at hj
    refine ⟨m, by rw [hr, hj], ?_⟩
    rw [if_pos rfl, ← bits64_nat _ (by omega)]
    congr 1
    rw [← hm]
    unfold wrap32
    omega
theorem rSigned64_law {s : St} (hv : s.v = 0) : ((rBits 1 s).2.v = 0 → ∃ m, readS 0 0 s.b = some (m, (rBits 1 s).2.b) ∧ bits64 m = UInt64.ofNat (rBits 1 s).1) ∧ ((rBits 1 s).2.v ≠ 0 → (rBits 1 s).2.v = 2 ∨ ((rBits 1 s).2.v = 3 ∧ readS 0 0 s.b = none)) := by
  have hrb : rBits 1 s = ((rSigned 64 s).1, if 9223372036854775808 ≤ (rSigned 64 s).1 ∧ 4 + (rSigned 64 s).2.b.length < s.b.length then (rSigned 64 s).2.fail 2 else (rSigned 64 s).2) := rfl
  by_cases hn : (sig 64 s.b).2 = 0
  · have hrs : rSigned 64 s = (0, s.fail (if endedB 64 s.b then 3 else 2)) := by unfold rSigned; rw [if_pos hn]
    have hrb2 : rBits 1 s = (0, s.fail (if endedB 64 s.b then 3 else 2)) := by rw [hrb, hrs]; simp
    rw [hrb2, fail_v hv]
    cases he : endedB 64 s.b with
    | true => exact ⟨fun h => (by cases h), fun _ => .inr ⟨rfl, readS_ended _ _ _ (ended_all he)⟩⟩
    | false => exact ⟨fun h => (by cases h), fun _ => .inl rfl⟩
  · have hrs : rSigned 64 s = ((sig 64 s.b).1, ⟨s.b.drop (sig 64 s.b).2, s.v⟩) := by unfold rSigned; rw [if_neg hn, if_neg (by decide)]
    have hlen := sig_len 64 s.b
    rw [hrs] at hrb
    rw [hrb]
    dsimp only
    by_cases hw : 9223372036854775808 ≤ (sig 64 s.b).1 ∧ 4 + (s.b.drop (sig 64 s.b).2).length < s.b.length
    · rw [if_pos hw, show (⟨s.b.drop (sig 64 s.b).2, s.v⟩ : St).fail 2 = ⟨[], 2⟩ from fail_v (s := ⟨_, s.v⟩) hv 2]
      exact ⟨fun h => (by cases h), fun _ => .inl rfl⟩
    · rw [if_neg hw]
      refine ⟨fun _ => ?_, fun h => absurd hv h⟩
      rw [List.length_drop] at hw
      obtain ⟨j, hj, hr⟩ := sigG_readS64 s.b 0 0 0 (v := (sig 64 s.b).1) (k := (sig 64 s.b).2) rfl rfl hn (fun e => hw ⟨e.1, by omega⟩)
      rw [Nat.zero_add] at hj
      refine ⟨_, by rw [hr, hj], ?_⟩
      have hlt := sig_lt 64 s.b
      rw [← bits64_nat _ hlt]
      unfold bits64
      rw [toS_mod hlt, show (((sig 64 s.b).1 : Nat) : Int) % 18446744073709551616 = (((sig 64 s.b).1 : Nat) : Int) from by omega]
/-! ### Instructions -/
theorem rInstr_eq {op : Nat} {ks : List Int} (hks : kindsOf (op : Int) = some ks) (s : St) : rInstr (op : Int) s = (.mk (op : Int) (rArgs ks s).1 false 0 [], (rArgs ks s).2) := by
  unfold rInstr
  simp only [hks]
  rw [if_neg (fun h => nomatch h.2)]
  rfl
theorem instr_law (f : Nat) (c : UInt8) (r : List UInt8) (hro : readOp c.toNat = true) :
    ((rInstr (c.toNat : Int) ⟨r, 0⟩).2.v = 0 → ∃ x, pIns (f + 1) (c :: r) = (pIns f (rInstr (c.toNat : Int) ⟨r, 0⟩).2.b).app [x] ∧ keyI1 (toI1 x) = keyI1 (rInstr (c.toNat : Int) ⟨r, 0⟩).1) ∧
    ((rInstr (c.toNat : Int) ⟨r, 0⟩).2.v = 3 → pIns (f + 1) (c :: r) = .bad) := by
  have hs : (⟨r, 0⟩ : St).v = 0 := rfl
  have hn := rNumber_law hs
  have h32 := rSigned32_law hs
  have h64 := rSigned64_law hs
  have hnl := rNumber_lt ⟨r, 0⟩
  have hro' := hro
  simp only [readOp, Bool.or_eq_true, decide_eq_true_eq] at hro'
  have idx : ∀ o : Nat, c.toNat = o → (o = 13 ∨ o = 16 ∨ o = 32 ∨ o = 33) → kindsOf (o : Int) = some [2] → ((rInstr (c.toNat : Int) ⟨r, 0⟩).2.v = 0 → ∃ x, pIns (f + 1) (c :: r) = (pIns f (rInstr (c.toNat : Int) ⟨r, 0⟩).2.b).app [x] ∧ keyI1 (toI1 x) = keyI1 (rInstr (c.toNat : Int) ⟨r, 0⟩).1) ∧ ((rInstr (c.toNat : Int) ⟨r, 0⟩).2.v = 3 → pIns (f + 1) (c :: r) = .bad) := by
    intro o ho hoo hk
    rw [ho, rInstr_eq hk]
    have hp : pIns (f + 1) (c :: r) = (match readU 0 0 r with | none => .bad | some (n, r') => (pIns f r').app [.idx o (n % 4294967296)]) := by
      conv => lhs; unfold pIns
      rw [ho, if_neg (by omega), if_neg (by omega), if_neg (by omega), if_pos (by omega)]
      rfl
    have ha : rArgs [2] ⟨r, 0⟩ = ([(2, UInt64.ofNat (rNumber ⟨r, 0⟩).1)], (rNumber ⟨r, 0⟩).2) := rfl
    rw [ha]
    dsimp only
    refine ⟨fun h => ?_, fun h => ?_⟩
    · obtain ⟨m, hm, he⟩ := hn.1 h
      refine ⟨.idx o (m % 4294967296), by rw [hp, hm], ?_⟩
      rw [← he, toI1, bits64_nat _ (by omega)]
      rfl
    · rcases (hn.2 (by omega)).2 with h2 | h2
      · omega
      · rw [hp, h2.2]
  rcases hro' with (((((((h | h) | h) | h) | h) | h) | h) | h) | h
  · exact idx 13 h (by omega) rfl
  · rw [h, rInstr_eq (show kindsOf ((15 : Nat) : Int) = some [] from rfl)]
    refine ⟨fun _ => ⟨.ret, ?_, by rw [toI1]; rfl⟩, fun h => (by cases h)⟩
    conv => lhs; unfold pIns
    rw [h]
    rfl
  · exact idx 16 h (by omega) rfl
  · rw [h, rInstr_eq (show kindsOf ((17 : Nat) : Int) = some [2, 5] from rfl)]
    have hp : pIns (f + 1) (c :: r) = (match readU 0 0 r with | none => .bad | some (_, []) => .bad | some (n, b :: r') => (pIns f r').app [.ci (n % 4294967296) b.toNat]) := by
      conv => lhs; unfold pIns
      rw [h]
      rfl
    have ha : rArgs [2, 5] ⟨r, 0⟩ = ([(2, UInt64.ofNat (rNumber ⟨r, 0⟩).1), (5, UInt64.ofNat (rByte (rNumber ⟨r, 0⟩).2).1)], (rByte (rNumber ⟨r, 0⟩).2).2) := rfl
    rw [ha]
    dsimp only
    by_cases hv : (rNumber ⟨r, 0⟩).2.v = 0
    · obtain ⟨m, hm, he⟩ := hn.1 hv
      rcases rByte_law hv with ⟨b, r', hb, e⟩ | ⟨hb, e⟩
      · rw [e]
        refine ⟨fun _ => ⟨.ci (m % 4294967296) b.toNat, by rw [hp, hm, hb], ?_⟩, fun h => (by cases h)⟩
        have hbl := b.toNat_lt
        rw [← he, toI1, bits64_nat _ (by omega), bits64_nat _ (by omega)]
        rfl
      · rw [e]
        exact ⟨fun h => (by cases h), fun _ => by rw [hp, hm, hb]⟩
    · obtain ⟨hb, hz⟩ := hn.2 hv
      have e : (rByte (rNumber ⟨r, 0⟩).2).2.v = (rNumber ⟨r, 0⟩).2.v := by
        unfold rByte
        rw [hb]
        unfold St.fail
        simp [hv]
      rw [e]
      refine ⟨fun h => absurd h hv, fun h3 => ?_⟩
      rcases hz with h2 | h2
      · omega
      · rw [hp, h2.2]
  · exact idx 32 h (by omega) rfl
  · exact idx 33 h (by omega) rfl
  · rw [h, rInstr_eq (show kindsOf ((65 : Nat) : Int) = some [0] from rfl)]
    have hp : pIns (f + 1) (c :: r) = (match readS 0 0 r with | none => .bad | some (v, r') => (pIns f r').app [.i32 (wrap32 v)]) := by
      conv => lhs; unfold pIns
      rw [if_pos h]
      rfl
    have ha : rArgs [0] ⟨r, 0⟩ = ([(0, UInt64.ofNat (rSigned 32 ⟨r, 0⟩).1)], (rSigned 32 ⟨r, 0⟩).2) := rfl
    rw [ha]
    dsimp only
    refine ⟨fun h => ?_, fun h => ?_⟩
    · obtain ⟨m, hm, he⟩ := h32.1 h
      refine ⟨.i32 (wrap32 m), by rw [hp, hm], ?_⟩
      rw [toI1, he]
      rfl
    · rcases h32.2 (by omega) with h2 | h2
      · omega
      · rw [hp, h2.2]
  · rw [h, rInstr_eq (show kindsOf ((66 : Nat) : Int) = some [1] from rfl)]
    have hp : pIns (f + 1) (c :: r) = (match readS 0 0 r with | none => .bad | some (v, r') => (pIns f r').app [.i64 v]) := by
      conv => lhs; unfold pIns
      rw [if_neg (by omega), if_pos h]
      rfl
    have ha : rArgs [1] ⟨r, 0⟩ = ([(1, UInt64.ofNat (rBits 1 ⟨r, 0⟩).1)], (rBits 1 ⟨r, 0⟩).2) := rfl
    rw [ha]
    dsimp only
    refine ⟨fun h => ?_, fun h => ?_⟩
    · obtain ⟨m, hm, he⟩ := h64.1 h
      refine ⟨.i64 m, by rw [hp, hm], ?_⟩
      rw [toI1, he]
      rfl
    · rcases h64.2 (by omega) with h2 | h2
      · omega
      · rw [hp, h2.2]
  · rw [h, rInstr_eq (show kindsOf ((69 : Nat) : Int) = some [] from rfl)]
    refine ⟨fun _ => ⟨.eqz, ?_, by rw [toI1]; rfl⟩, fun h => (by cases h)⟩
    conv => lhs; unfold pIns
    rw [h]
    rfl
theorem instr_v (c : UInt8) (r : List UInt8) (hro : readOp c.toNat = true) : (rInstr (c.toNat : Int) ⟨r, 0⟩).2.v = 0 ∨ (rInstr (c.toNat : Int) ⟨r, 0⟩).2.v = 2 ∨ (rInstr (c.toNat : Int) ⟨r, 0⟩).2.v = 3 := by
  have hs : (⟨r, 0⟩ : St).v = 0 := rfl
  have hn := (rNumber_law hs).2
  have h32 := (rSigned32_law hs).2
  have h64 := (rSigned64_law hs).2
  have hn' : (rNumber ⟨r, 0⟩).2.v = 0 ∨ (rNumber ⟨r, 0⟩).2.v = 2 ∨ (rNumber ⟨r, 0⟩).2.v = 3 := by
    by_cases h : (rNumber ⟨r, 0⟩).2.v = 0
    · exact .inl h
    · rcases (hn h).2 with h | h
      · exact .inr (.inl h)
      · exact .inr (.inr h.1)
  have hro' := hro
  simp only [readOp, Bool.or_eq_true, decide_eq_true_eq] at hro'
  rcases hro' with (((((((h | h) | h) | h) | h) | h) | h) | h) | h
  · rw [h, rInstr_eq (show kindsOf ((13 : Nat) : Int) = some [2] from rfl)]; exact hn'
  · rw [h, rInstr_eq (show kindsOf ((15 : Nat) : Int) = some [] from rfl)]; exact .inl rfl
  · rw [h, rInstr_eq (show kindsOf ((16 : Nat) : Int) = some [2] from rfl)]; exact hn'
  · rw [h, rInstr_eq (show kindsOf ((17 : Nat) : Int) = some [2, 5] from rfl)]
    show (rByte (rNumber ⟨r, 0⟩).2).2.v = 0 ∨ (rByte (rNumber ⟨r, 0⟩).2).2.v = 2 ∨ (rByte (rNumber ⟨r, 0⟩).2).2.v = 3
    by_cases hv : (rNumber ⟨r, 0⟩).2.v = 0
    · rcases rByte_law hv with ⟨b, r', hb, e⟩ | ⟨hb, e⟩
      · rw [e]; exact .inl rfl
      · rw [e]; exact .inr (.inr rfl)
    · have hb := (hn hv).1
      have e : (rByte (rNumber ⟨r, 0⟩).2).2.v = (rNumber ⟨r, 0⟩).2.v := by
        unfold rByte
        rw [hb]
        unfold St.fail
        simp [hv]
      rw [e]; exact hn'
  · rw [h, rInstr_eq (show kindsOf ((32 : Nat) : Int) = some [2] from rfl)]; exact hn'
  · rw [h, rInstr_eq (show kindsOf ((33 : Nat) : Int) = some [2] from rfl)]; exact hn'
  · rw [h, rInstr_eq (show kindsOf ((65 : Nat) : Int) = some [0] from rfl)]
    show (rSigned 32 ⟨r, 0⟩).2.v = 0 ∨ (rSigned 32 ⟨r, 0⟩).2.v = 2 ∨ (rSigned 32 ⟨r, 0⟩).2.v = 3
    by_cases hv : (rSigned 32 ⟨r, 0⟩).2.v = 0
    · exact .inl hv
    · rcases h32 hv with h | h
      · exact .inr (.inl h)
      · exact .inr (.inr h.1)
  · rw [h, rInstr_eq (show kindsOf ((66 : Nat) : Int) = some [1] from rfl)]
    show (rBits 1 ⟨r, 0⟩).2.v = 0 ∨ (rBits 1 ⟨r, 0⟩).2.v = 2 ∨ (rBits 1 ⟨r, 0⟩).2.v = 3
    by_cases hv : (rBits 1 ⟨r, 0⟩).2.v = 0
    · exact .inl hv
    · rcases h64 hv with h | h
      · exact .inr (.inl h)
      · exact .inr (.inr h.1)
  · rw [h, rInstr_eq (show kindsOf ((69 : Nat) : Int) = some [] from rfl)]; exact .inl rfl
theorem rBody_done (f : Nat) (d : Int) (acc : List Ins) {s : St} (h : s.v ≠ 0) : rBody (f + 1) d acc s = ([], s) := by
  unfold rBody; rw [if_pos h]
theorem keyI1_blk (c : UInt8) (l : List Ins) (l' : List RI) (hc : c.toNat = 2 ∨ c.toNat = 3) (hl : l.length = l'.length) (hk : keyIs l = keyIs (toIL l')) : keyI1 (.mk (c.toNat : Int) [] true (-1) l) = keyI1 (toI1 (.blk (decide (c.toNat = 3)) l')) := by
  rw [toI1]
  rcases hc with h | h
  · rw [h]
    show keyI1 (.mk 2 [] true (-1) l) = keyI1 (.mk 2 [] true (-1) (toIL l'))
    unfold keyI1
    rw [hk, hl, toIL_len]
  · rw [h]
    show keyI1 (.mk 3 [] true (-1) l) = keyI1 (.mk 3 [] true (-1) (toIL l'))
    unfold keyI1
    rw [hk, hl, toIL_len]
theorem pIns_blk (f : Nat) (c : UInt8) (r : List UInt8) (h23 : c.toNat = 2 ∨ c.toNat = 3) : pIns (f + 1) (c :: r) = (match r with
    | [] => .bad
    | b :: r1 => if b.toNat ≠ 64 then .odd else (match pIns f r1 with | .ok l r2 => (pIns f r2).app [.blk (decide (c.toNat = 3)) l] | .bad => .bad | .odd => .odd)) := by
  conv => lhs; unfold pIns
  rw [if_neg (by omega), if_neg (by omega), if_neg (by omega), if_neg (by omega), if_neg (by omega), if_neg (by omega), if_pos h23]
  rfl
/-- The body of a code entry. -/
theorem body_law : ∀ (f : Nat) (d : Int) (acc : List Ins) (b : List UInt8), b.length < f →
    ((rBody f d acc ⟨b, 0⟩).2.v = 0 → ∃ l, pIns f b = .ok l (rBody f d acc ⟨b, 0⟩).2.b ∧ (rBody f d acc ⟨b, 0⟩).1.length = acc.length + l.length ∧ keyIs (rBody f d acc ⟨b, 0⟩).1 = keyIs acc ++ keyIs (toIL l)) ∧
    ((rBody f d acc ⟨b, 0⟩).2.v ≠ 0 → (rBody f d acc ⟨b, 0⟩).2.v = 2 ∨ ((rBody f d acc ⟨b, 0⟩).2.v = 3 ∧ pIns f b = .bad))
  | 0, _, _, _, h => absurd h (Nat.not_lt_zero _)
  | f + 1, d, acc, b, hf => by
    have hstep : rBody (f + 1) d acc ⟨b, 0⟩ = if (rByte ⟨b, 0⟩).2.v ≠ 0 then ([], (rByte ⟨b, 0⟩).2)
            else if (rByte ⟨b, 0⟩).1 = 11 then (acc, (rByte ⟨b, 0⟩).2)
            else if (rByte ⟨b, 0⟩).1 = 5 ∨ (rByte ⟨b, 0⟩).1 = 4 ∨ 100 < d then ([], (rByte ⟨b, 0⟩).2.fail 2)
            else if (rByte ⟨b, 0⟩).1 = 2 ∨ (rByte ⟨b, 0⟩).1 = 3 then
              rBody f d (acc ++ [.mk ((rByte ⟨b, 0⟩).1 : Int) [] true (-1) (rBody f (d + 1) [] (if (rByte (rByte ⟨b, 0⟩).2).2.v = 0 ∧ (rByte (rByte ⟨b, 0⟩).2).1 ≠ 64 then (rByte (rByte ⟨b, 0⟩).2).2.fail 2 else (rByte (rByte ⟨b, 0⟩).2).2)).1]) (rBody f (d + 1) [] (if (rByte (rByte ⟨b, 0⟩).2).2.v = 0 ∧ (rByte (rByte ⟨b, 0⟩).2).1 ≠ 64 then (rByte (rByte ⟨b, 0⟩).2).2.fail 2 else (rByte (rByte ⟨b, 0⟩).2).2)).2
            else if readOp (rByte ⟨b, 0⟩).1 = false then ([], (rByte ⟨b, 0⟩).2.fail 2)
            else rBody f d (acc ++ [(rInstr ((rByte ⟨b, 0⟩).1 : Int) (rByte ⟨b, 0⟩).2).1]) (rInstr ((rByte ⟨b, 0⟩).1 : Int) (rByte ⟨b, 0⟩).2).2 := by
      conv => lhs; unfold rBody
      rw [if_neg (fun h => h rfl)]
    rcases rByte_law (s := ⟨b, 0⟩) rfl with ⟨c, r, hb, e⟩ | ⟨hb, e⟩
    · have hb : b = c :: r := hb
      subst hb
      rw [e] at hstep
      simp only [List.length_cons] at hf
      dsimp only at hstep
      rw [if_neg (fun h => h rfl)] at hstep
      rw [hstep]
      by_cases h11 : c.toNat = 11
      · rw [if_pos h11]
        refine ⟨fun _ => ⟨[], ?_, rfl, ?_⟩, fun h => absurd rfl h⟩
        · conv => lhs; unfold pIns
          rw [h11]
          rfl
        · rw [toIL]; simp [keyIs]
      · rw [if_neg h11]
        by_cases h54 : c.toNat = 5 ∨ c.toNat = 4 ∨ 100 < d
        · rw [if_pos h54]
          exact ⟨fun h => (by cases h), fun _ => .inl rfl⟩
        · rw [if_neg h54]
          by_cases h23 : c.toNat = 2 ∨ c.toNat = 3
          · rw [if_pos h23]
            have hp := pIns_blk f c r h23
            rcases rByte_law (s := ⟨r, 0⟩) rfl with ⟨c2, r2, hb2, e2⟩ | ⟨hb2, e2⟩
            · have hb2 : r = c2 :: r2 := hb2
              subst hb2
              simp only [List.length_cons] at hf
              obtain ⟨f1, rfl⟩ : ∃ f1, f = f1 + 1 := ⟨f - 1, by omega⟩
              rw [e2]
              dsimp only
              by_cases h64 : c2.toNat = 64
              · rw [if_neg (fun h => h.2 h64)]
                have hI := body_law (f1 + 1) (d + 1) [] r2 (by omega)
                have hbl := rBody_len (f1 + 1) (d + 1) [] ⟨r2, 0⟩
                have hp2 : pIns (f1 + 1 + 1) (c :: c2 :: r2) = (match pIns (f1 + 1) r2 with | .ok l r2 => (pIns (f1 + 1) r2).app [.blk (decide (c.toNat = 3)) l] | .bad => .bad | .odd => .odd) := by
                  rw [hp]
                  show (if c2.toNat ≠ 64 then PO.odd else _) = _
                  rw [if_neg (fun h => h h64)]
                generalize rBody (f1 + 1) (d + 1) [] ⟨r2, 0⟩ = q at *
                obtain ⟨l2, b3, v3⟩ := q
                dsimp only at hI hbl ⊢
                by_cases hv3 : v3 = 0
                · subst hv3
                  obtain ⟨l, hl1, hl2, hl3⟩ := hI.1 rfl
                  have hO := body_law (f1 + 1) d (acc ++ [.mk (c.toNat : Int) [] true (-1) l2]) b3 (by omega)
                  have hpo : pIns (f1 + 1 + 1) (c :: c2 :: r2) = (pIns (f1 + 1) b3).app [.blk (decide (c.toNat = 3)) l] := by rw [hp2, hl1]
                  rw [hpo]
                  refine ⟨fun h => ?_, fun h => ?_⟩
                  · obtain ⟨l', h1, h2, h3⟩ := hO.1 h
                    refine ⟨.blk (decide (c.toNat = 3)) l :: l', by rw [h1]; rfl, by rw [h2]; simp only [List.length_append, List.length_cons, List.length_nil]; omega, ?_⟩
                    rw [h3, toIL, keyIs_append]
                    simp only [keyIs, List.append_nil]
                    rw [keyI1_blk c l2 l h23 (by simpa using hl2) (by rw [hl3]; simp [keyIs]), List.append_assoc]
                  · rcases hO.2 h with h1 | ⟨h1, h2⟩
                    · exact .inl h1
                    · exact .inr ⟨h1, by rw [h2]; rfl⟩
                · rw [rBody_done f1 d _ (s := ⟨b3, v3⟩) hv3]
                  refine ⟨fun h => absurd h hv3, fun _ => ?_⟩
                  rcases hI.2 hv3 with h1 | ⟨h1, h2⟩
                  · exact .inl h1
                  · exact .inr ⟨h1, by rw [hp2, h2]⟩
              · rw [if_pos ⟨rfl, h64⟩]
                rw [rBody_done f1 (d + 1) [] (s := (⟨r2, 0⟩ : St).fail 2) (show (2 : Nat) ≠ 0 from by decide)]
                dsimp only
                rw [rBody_done f1 d _ (s := (⟨r2, 0⟩ : St).fail 2) (show (2 : Nat) ≠ 0 from by decide)]
                exact ⟨fun h => (by cases h), fun _ => .inl rfl⟩
            · have hb2 : r = [] := hb2
              subst hb2
              simp only [List.length_nil] at hf
              obtain ⟨f1, rfl⟩ : ∃ f1, f = f1 + 1 := ⟨f - 1, by omega⟩
              rw [e2]
              dsimp only
              rw [if_neg (fun h => absurd h.1 (by decide))]
              rw [rBody_done f1 (d + 1) [] (s := ⟨[], 3⟩) (by decide)]
              dsimp only
              rw [rBody_done f1 d _ (s := ⟨[], 3⟩) (by decide)]
              exact ⟨fun h => (by cases h), fun _ => .inr ⟨rfl, hp⟩⟩
          · rw [if_neg h23]
            cases hro : readOp c.toNat with
            | false =>
              rw [if_pos rfl]
              exact ⟨fun h => (by cases h), fun _ => .inl rfl⟩
            | true =>
              rw [if_neg (by decide)]
              have hI := instr_law f c r hro
              have hV := instr_v c r hro
              have hil := rInstr_len c.toNat hro ⟨r, 0⟩
              obtain ⟨ks, hks, -, -⟩ := readOp_kinds hro
              generalize rInstr (c.toNat : Int) ⟨r, 0⟩ = q at *
              obtain ⟨x', s2⟩ := q
              obtain ⟨b2, v2⟩ := s2
              dsimp only at hI hil hV ⊢
              obtain ⟨f1, rfl⟩ : ∃ f1, f = f1 + 1 := by
                cases f with
                | zero => exact absurd hf (by omega)
                | succ f1 => exact ⟨f1, rfl⟩
              by_cases hv2 : v2 = 0
              · subst hv2
                obtain ⟨x, hx1, hx2⟩ := hI.1 rfl
                have hO := body_law (f1 + 1) d (acc ++ [x']) b2 (by omega)
                rw [hx1]
                refine ⟨fun h => ?_, fun h => ?_⟩
                · obtain ⟨l', h1, h2, h3⟩ := hO.1 h
                  refine ⟨x :: l', by rw [h1]; rfl, by rw [h2]; simp only [List.length_append, List.length_cons, List.length_nil]; omega, ?_⟩
                  rw [h3, toIL, keyIs_append]
                  simp only [keyIs, List.append_nil]
                  rw [hx2, List.append_assoc]
                · rcases hO.2 h with h1 | ⟨h1, h2⟩
                  · exact .inl h1
                  · exact .inr ⟨h1, by rw [h2]; rfl⟩
              · rw [rBody_done f1 d _ (s := ⟨b2, v2⟩) hv2]
                refine ⟨fun h => absurd h hv2, fun _ => ?_⟩
                rcases hV with h | h | h
                · exact absurd h hv2
                · exact .inl h
                · exact .inr ⟨h, hI.2 h⟩
    · have hb : b = [] := hb
      subst hb
      rw [e] at hstep
      dsimp only at hstep
      rw [if_pos (by decide)] at hstep
      rw [hstep]
      exact ⟨fun h => (by cases h), fun _ => .inr ⟨rfl, rfl⟩⟩
/-! ### Locals, the whole -/
theorem rLocals_stuck : ∀ (n : Nat) {v : Nat}, v ≠ 0 → (rLocals n ⟨[], v⟩).2 = ⟨[], v⟩
  | 0, _, _ => rfl
  | n + 1, v, h => by
    have e1 : (rNumber ⟨[], v⟩).2 = ⟨[], v⟩ := by
      unfold rNumber
      rw [if_pos (by rfl)]
      show St.fail ⟨[], v⟩ _ = _
      unfold St.fail
      simp [h]
    have e2 : (rValueType ⟨[], v⟩).2 = ⟨[], v⟩ := by
      have e : (rByte ⟨[], v⟩).2 = ⟨[], v⟩ := by
        unfold rByte St.fail
        simp [h]
      unfold rValueType
      rw [e]
      show (if v = 0 ∧ _ then _ else _) = _
      rw [if_neg (fun q => h q.1)]
    unfold rLocals
    rw [e1, e2]
    exact rLocals_stuck n h
theorem locals_law : ∀ (n : Nat) (b : List UInt8),
    ((rLocals n ⟨b, 0⟩).2.v = 0 → pLocals n b = some ((rLocals n ⟨b, 0⟩).1, (rLocals n ⟨b, 0⟩).2.b)) ∧
    ((rLocals n ⟨b, 0⟩).2.v ≠ 0 → (rLocals n ⟨b, 0⟩).2.v = 2 ∨ (((rLocals n ⟨b, 0⟩).2.v = 1 ∨ (rLocals n ⟨b, 0⟩).2.v = 3) ∧ pLocals n b = none)) ∧ ((rLocals n ⟨b, 0⟩).2.v ≠ 0 → (rLocals n ⟨b, 0⟩).2.b = [])
  | 0, b => ⟨fun _ => rfl, fun h => absurd rfl h, fun h => absurd rfl h⟩
  | n + 1, b => by
    have hn := rNumber_law (s := ⟨b, 0⟩) rfl
    have hst : rLocals (n + 1) ⟨b, 0⟩ = ((UInt32.ofNat (rNumber ⟨b, 0⟩).1, (rValueType (rNumber ⟨b, 0⟩).2).1) :: (rLocals n (rValueType (rNumber ⟨b, 0⟩).2).2).1, (rLocals n (rValueType (rNumber ⟨b, 0⟩).2).2).2) := rfl
    by_cases hv : (rNumber ⟨b, 0⟩).2.v = 0
    · obtain ⟨m, hm, he⟩ := hn.1 hv
      have hm : readU 0 0 b = some (m, (rNumber ⟨b, 0⟩).2.b) := hm
      rcases rByte_law hv with ⟨c, r, hb, e⟩ | ⟨hb, e⟩
      · have hvt : rValueType (rNumber ⟨b, 0⟩).2 = (127 - (c.toNat : Int), if c.toNat < 124 ∨ 127 < c.toNat then ⟨[], 1⟩ else ⟨r, 0⟩) := by
          unfold rValueType
          rw [e]
          by_cases hc : c.toNat < 124 ∨ 127 < c.toNat
          · simp only [hc, and_self, if_true]; rfl
          · simp only [hc, and_false, if_false]
        by_cases hc : c.toNat < 124 ∨ 127 < c.toNat
        · rw [if_pos hc] at hvt
          rw [hst, hvt]
          dsimp only
          rw [rLocals_stuck n (by decide)]
          refine ⟨fun h => (by cases h), fun _ => .inr ⟨.inl rfl, ?_⟩, fun _ => rfl⟩
          unfold pLocals
          rw [hm, hb]
          simp only []
          rw [if_neg (by omega)]
        · rw [if_neg hc] at hvt
          rw [hst, hvt]
          dsimp only
          have ih := locals_law n r
          have hp : pLocals (n + 1) b = (pLocals n r).map (fun p => ((UInt32.ofNat (m % 4294967296), 127 - (c.toNat : Int)) :: p.1, p.2)) := by
            conv => lhs; unfold pLocals
            rw [hm, hb]
            simp only []
            rw [if_pos (by omega)]
          refine ⟨fun h => ?_, fun h => ?_, ih.2.2⟩
          · rw [hp, ih.1 h, he]; rfl
          · rcases ih.2.1 h with h1 | ⟨h1, h2⟩
            · exact .inl h1
            · exact .inr ⟨h1, by rw [hp, h2]; rfl⟩
      · have hvt : rValueType (rNumber ⟨b, 0⟩).2 = (127, ⟨[], 3⟩) := by
          unfold rValueType
          rw [e]
          rfl
        rw [hst, hvt]
        dsimp only
        rw [rLocals_stuck n (by decide)]
        refine ⟨fun h => (by cases h), fun _ => .inr ⟨.inr rfl, ?_⟩, fun _ => rfl⟩
        unfold pLocals
        rw [hm, hb]
    · obtain ⟨hb, hz⟩ := hn.2 hv
      have e0 : (rNumber ⟨b, 0⟩).2 = ⟨[], (rNumber ⟨b, 0⟩).2.v⟩ := by rw [← hb]
      have hvt : (rValueType (rNumber ⟨b, 0⟩).2).2 = ⟨[], (rNumber ⟨b, 0⟩).2.v⟩ := by
        rw [e0]
        have e : (rByte ⟨[], (rNumber ⟨b, 0⟩).2.v⟩).2 = ⟨[], (rNumber ⟨b, 0⟩).2.v⟩ := by
          unfold rByte St.fail
          simp [hv]
        unfold rValueType
        rw [e]
        show (if (rNumber ⟨b, 0⟩).2.v = 0 ∧ _ then _ else _) = _
        rw [if_neg (fun q => hv q.1)]
      rw [hst, hvt]
      dsimp only
      rw [rLocals_stuck n hv]
      refine ⟨fun h => absurd h hv, fun _ => ?_, fun _ => rfl⟩
      rcases hz with h2 | ⟨h2, h3⟩
      · exact .inl h2
      · have h3 : readU 0 0 b = none := h3
        refine .inr ⟨.inr h2, ?_⟩
        unfold pLocals
        rw [h3]
/-- What the reference says of bytes, the package reads. -/
theorem code_law (b : List UInt8) :
    ((rCode b).2 = 0 → pEven b ∧ ∃ l rest, pCode b = some ((rCode b).1.1, l, rest) ∧ codeKey (rCode b).1.1 (toIL l) = codeKey (rCode b).1.1 (rCode b).1.2) ∧
    ((rCode b).2 = 1 → pEven b ∧ pCode b = none) ∧ (rCode b).2 ≤ 2 := by
  have hn := rNumber_law (s := ⟨b, 0⟩) rfl
  have hrc : rCode b = (((rLocals (rCount ⟨b, 0⟩).1 (rCount ⟨b, 0⟩).2).1, (rBody ((rLocals (rCount ⟨b, 0⟩).1 (rCount ⟨b, 0⟩).2).2.b.length + 1) 0 [] (rLocals (rCount ⟨b, 0⟩).1 (rCount ⟨b, 0⟩).2).2).1),
    if (rBody ((rLocals (rCount ⟨b, 0⟩).1 (rCount ⟨b, 0⟩).2).2.b.length + 1) 0 [] (rLocals (rCount ⟨b, 0⟩).1 (rCount ⟨b, 0⟩).2).2).2.v = 3 then 1 else if (rBody ((rLocals (rCount ⟨b, 0⟩).1 (rCount ⟨b, 0⟩).2).2.b.length + 1) 0 [] (rLocals (rCount ⟨b, 0⟩).1 (rCount ⟨b, 0⟩).2).2).2.v = 0 ∧ 0 < (rBody ((rLocals (rCount ⟨b, 0⟩).1 (rCount ⟨b, 0⟩).2).2.b.length + 1) 0 [] (rLocals (rCount ⟨b, 0⟩).1 (rCount ⟨b, 0⟩).2).2).2.b.length then 2 else (rBody ((rLocals (rCount ⟨b, 0⟩).1 (rCount ⟨b, 0⟩).2).2.b.length + 1) 0 [] (rLocals (rCount ⟨b, 0⟩).1 (rCount ⟨b, 0⟩).2).2).2.v) := rfl
  have hcount : rCount ⟨b, 0⟩ = if (rNumber ⟨b, 0⟩).2.b.length < (rNumber ⟨b, 0⟩).1 then (0, if 10000 < (rNumber ⟨b, 0⟩).1 then ⟨[], 2⟩ else (rNumber ⟨b, 0⟩).2.fail 3) else rNumber ⟨b, 0⟩ := rfl
  have stuck : ∀ v : Nat, v ≠ 0 → rCount ⟨b, 0⟩ = ((rCount ⟨b, 0⟩).1, ⟨[], v⟩) → (rCode b).2 = (if v = 3 then 1 else v) := fun v hv e => by
    rw [hrc]
    dsimp only
    rw [e]
    dsimp only
    rw [rLocals_stuck _ hv]
    rw [rBody_done _ _ _ (s := ⟨[], v⟩) hv]
    dsimp only
    split
    · rfl
    · rw [if_neg (fun q => hv q.1)]
  by_cases hv : (rNumber ⟨b, 0⟩).2.v = 0
  · obtain ⟨m, hm, he⟩ := hn.1 hv
    have hm : readU 0 0 b = some (m, (rNumber ⟨b, 0⟩).2.b) := hm
    have hpl : pLoc b = pLocals (m % 4294967296) (rNumber ⟨b, 0⟩).2.b := by unfold pLoc; rw [hm]
    by_cases hlt : (rNumber ⟨b, 0⟩).2.b.length < (rNumber ⟨b, 0⟩).1
    · rw [if_pos hlt] at hcount
      have hnone : pLoc b = none := by
        rw [hpl, ← he]
        cases hp : pLocals (rNumber ⟨b, 0⟩).1 (rNumber ⟨b, 0⟩).2.b with
        | none => rfl
        | some q => obtain ⟨ls, r⟩ := q; have := pLocals_shorter _ _ hp; omega
      by_cases hbig : 10000 < (rNumber ⟨b, 0⟩).1
      · rw [if_pos hbig] at hcount
        have := stuck 2 (by decide) (by rw [hcount])
        rw [this]
        exact ⟨fun h => (by cases h), fun h => (by cases h), by decide⟩
      · rw [if_neg hbig, fail_v hv] at hcount
        have := stuck 3 (by decide) (by rw [hcount])
        rw [this]
        exact ⟨fun h => (by cases h), fun _ => ⟨fun ls r h => (by rw [hnone] at h; cases h), by unfold pCode; rw [hnone]⟩, by decide⟩
    · rw [if_neg hlt] at hcount
      have e0 : (rNumber ⟨b, 0⟩).2 = ⟨(rNumber ⟨b, 0⟩).2.b, 0⟩ := St.eta hv
      have hL := locals_law (rNumber ⟨b, 0⟩).1 (rNumber ⟨b, 0⟩).2.b
      rw [← e0] at hL
      rw [hcount] at hrc
      rw [he, ← hpl, ← he] at hL
      generalize rLocals (rNumber ⟨b, 0⟩).1 (rNumber ⟨b, 0⟩).2 = q at *
      obtain ⟨ls, b1, v1⟩ := q
      dsimp only at hL hrc
      by_cases hv1 : v1 = 0
      · subst hv1
        have hl := hL.1 rfl
        have hB := body_law (b1.length + 1) 0 [] b1 (by omega)
        generalize rBody (b1.length + 1) 0 [] ⟨b1, 0⟩ = t at *
        obtain ⟨ib, b2, v2⟩ := t
        dsimp only at hB hrc
        rw [hrc]
        dsimp only
        by_cases hv2 : v2 = 0
        · subst hv2
          obtain ⟨l, h1, h2, h3⟩ := hB.1 rfl
          rw [if_neg (by decide)]
          by_cases hb2 : 0 < b2.length
          · rw [if_pos ⟨rfl, hb2⟩]
            exact ⟨fun h => (by cases h), fun h => (by cases h), by decide⟩
          · rw [if_neg (fun q => hb2 q.2)]
            refine ⟨fun _ => ⟨fun ls' r' h => ?_, l, b2, ?_, ?_⟩, fun h => (by cases h), by decide⟩
            · rw [hl] at h
              simp only [Option.some.injEq, Prod.mk.injEq] at h
              rw [← h.2, h1]
              exact fun q => by cases q
            · unfold pCode
              rw [hl]
              simp only []
              rw [h1]
            · unfold codeKey keyIL
              rw [h3, toIL_len, h2]
              simp [keyIs]
        · rcases hB.2 hv2 with h1 | ⟨h1, h2⟩
          · rw [h1, if_neg (by decide), if_neg (fun q => absurd q.1 (by decide))]
            exact ⟨fun h => (by cases h), fun h => (by cases h), by decide⟩
          · rw [if_pos h1]
            refine ⟨fun h => (by cases h), fun _ => ⟨fun ls' r' h => ?_, ?_⟩, by decide⟩
            · rw [hl] at h
              simp only [Option.some.injEq, Prod.mk.injEq] at h
              rw [← h.2, h2]
              exact fun q => by cases q
            · unfold pCode
              rw [hl]
              simp only []
              rw [h2]
      · have hb1 := hL.2.2 hv1
        subst hb1
        rw [rBody_done _ _ _ (s := ⟨[], v1⟩) hv1] at hrc
        rw [hrc]
        dsimp only
        rcases hL.2.1 hv1 with h1 | ⟨h1, h2⟩
        · rw [h1, if_neg (by decide), if_neg (fun q => absurd q.1 (by decide))]
          exact ⟨fun h => (by cases h), fun h => (by cases h), by decide⟩
        · have hbad : pEven b ∧ pCode b = none := ⟨fun ls r h => (by rw [h2] at h; cases h), by unfold pCode; rw [h2]⟩
          rcases h1 with h1 | h1
          · rw [h1, if_neg (by decide), if_neg (fun q => absurd q.1 (by decide))]
            exact ⟨fun h => (by cases h), fun _ => hbad, by decide⟩
          · rw [h1, if_pos rfl]
            exact ⟨fun h => (by cases h), fun _ => hbad, by decide⟩
  · obtain ⟨hb, hz⟩ := hn.2 hv
    have hz0 : (rNumber ⟨b, 0⟩).1 = 0 := by
      unfold rNumber at hv ⊢
      split
      · rfl
      · rename_i h; rw [if_neg h] at hv; exact absurd rfl hv
    rw [hb, hz0, if_neg (by decide : ¬ ([] : List UInt8).length < 0)] at hcount
    have e0 : rNumber ⟨b, 0⟩ = ((rNumber ⟨b, 0⟩).1, ⟨[], (rNumber ⟨b, 0⟩).2.v⟩) := by rw [← hb]
    have := stuck _ hv (by rw [hcount]; exact e0)
    rw [this]
    rcases hz with h2 | ⟨h2, h3⟩
    · rw [h2]
      exact ⟨fun h => (by cases h), fun h => (by cases h), by decide⟩
    · have h3 : readU 0 0 b = none := h3
      have hnone : pLoc b = none := by unfold pLoc; rw [h3]
      rw [h2]
      exact ⟨fun h => (by cases h), fun _ => ⟨fun ls r h => (by rw [hnone] at h; cases h), by unfold pCode; rw [hnone]⟩, by decide⟩
end Go.Proofs.YtbdahjpdjamgiaaGreatDoor
