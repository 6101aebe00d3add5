/- spec.reader: number, signed, count, valueType. -/
import Derived.Test.YtkbadfljmbeciaaGreatDoorSpecSig
namespace Go.Proofs.YtkbadfljmbeciaaGreatDoor
open Go.RowKit
theorem unsG_len (bb : Nat) : ∀ (sh acc n : Nat) (b : List UInt8), (unsG bb sh acc n b).2 ≤ n + b.length
  | _, _, _, [] => Nat.zero_le _
  | sh, acc, n, c :: r => by
    have ih := unsG_len bb (sh + 7) (acc ||| (c.toNat % 128 * 2 ^ sh % 2 ^ 64)) (n + 1) r
    simp only [unsG, List.length_cons]
    split
    · exact Nat.zero_le _
    · split
      · exact Nat.zero_le _
      · split
        · show n + 1 ≤ _; omega
        · omega
theorem uns_len (bb : Nat) (b : List UInt8) : (uns bb b).2 ≤ b.length := by have := unsG_len bb 0 0 0 b; unfold uns; omega
theorem sigG_len (bb : Nat) : ∀ (sh acc n : Nat) (b : List UInt8), (sigG bb sh acc n b).2 ≤ n + b.length
  | _, _, _, [] => Nat.zero_le _
  | sh, acc, n, c :: r => by
    have ih := sigG_len bb (sh + 7) (acc ||| (c.toNat % 128 * 2 ^ sh % 2 ^ 64)) (n + 1) r
    simp only [sigG, List.length_cons]
    split
    · exact Nat.zero_le _
    · split
      · exact Nat.zero_le _
      · split
        · show n + 1 ≤ _; omega
        · omega
theorem sig_len (bb : Nat) (b : List UInt8) : (sig bb b).2 ≤ b.length := by have := sigG_len bb 0 0 0 b; unfold sig; omega
theorem unsG_lt (bb : Nat) : ∀ (sh acc n : Nat) (b : List UInt8), acc < 2 ^ 64 → (unsG bb sh acc n b).1 < 2 ^ 64
  | _, _, _, [], _ => Nat.pow_pos (by decide)
  | sh, acc, n, c :: r, h => by
    have hz : acc ||| (c.toNat % 128 * 2 ^ sh % 2 ^ 64) < 2 ^ 64 := Nat.or_lt_two_pow h (Nat.mod_lt _ (by decide))
    have ih := unsG_lt bb (sh + 7) (acc ||| (c.toNat % 128 * 2 ^ sh % 2 ^ 64)) (n + 1) r hz
    simp only [unsG]
    split
    · decide
    · split
      · decide
      · split
        · exact hz
        · exact ih
theorem uns_lt (bb : Nat) (b : List UInt8) : (uns bb b).1 < 18446744073709551616 := unsG_lt bb 0 0 0 b (by decide)
theorem sigG_lt (bb : Nat) : ∀ (sh acc n : Nat) (b : List UInt8), acc < 2 ^ 64 → (sigG bb sh acc n b).1 < 2 ^ 64
  | _, _, _, [], _ => Nat.pow_pos (by decide)
  | sh, acc, n, c :: r, h => by
    have hz : acc ||| (c.toNat % 128 * 2 ^ sh % 2 ^ 64) < 2 ^ 64 := Nat.or_lt_two_pow h (Nat.mod_lt _ (by decide))
    have ih := sigG_lt bb (sh + 7) (acc ||| (c.toNat % 128 * 2 ^ sh % 2 ^ 64)) (n + 1) r hz
    have hp : 0 < 2 ^ (sh + 7) := Nat.pow_pos (by decide)
    simp only [sigG]
    split
    · decide
    · split
      · decide
      · split
        · show (if _ then _ else _) < _
          split
          · exact Nat.or_lt_two_pow hz (by omega)
          · exact hz
        · exact ih
theorem sig_lt (bb : Nat) (b : List UInt8) : (sig bb b).1 < 18446744073709551616 := sigG_lt bb 0 0 0 b (by decide)
set_option maxRecDepth 100000 in
set_option maxHeartbeats 1000000 in
theorem number_calls (D : Nat → Prop) (g : Nat) (lo : Bool) (s : St) (w : World) (h : SpR D g lo s w) (hl : s.b.length ≤ 140737488355328) :
    Calls Tryz.prog 23 #[.pointer (some ⟨g, 0, none⟩)] w fun e w' => e = .returned (.int .u32 ((rNumber s).1 : Int)) ∧ SpR D g lo (rNumber s).2 w' ∧ Fr (fun k => k = g) w w' := by
  have hS := Lib.hid h
  obtain ⟨aa, cap, hb, h1, h2⟩ := h
  have hc := hb.cell
  have hf := hb.frz
  have hN := uns_len 32 s.b
  have hV := uns_lt 32 s.b
  have HC := Lib.hid (Unsigned_calls D aa cap s.b 32 (by decide) (by decide) w h1)
  have HE := Lib.hid (Ended_calls D aa cap s.b 32 w h1 hl)
  have HD := Lib.hid (fun n hn => SpR.drop (v := s.v) hb h1 h2 n hn)
  obtain ⟨a', c', ee, hcl, hcm⟩ := Lay.slice_form h1
  simp only [Value.slice.injEq] at ee
  obtain ⟨-, -, rfl⟩ := ee
  have hcm' : (cap : Int) ≤ 9223372036854775807 := by simp only [maxLen] at hcm; omega
  have hR := Lib.hid (show rNumber s = if (uns 32 s.b).2 = 0 then (0, s.fail (if endedB 32 s.b then 3 else 2)) else ((uns 32 s.b).1 % 4294967296, ⟨s.b.drop (uns 32 s.b).2, s.v⟩) from rfl)
  generalize (uns 32 s.b).1 = q at *
  generalize (uns 32 s.b).2 = n at *
  generalize hE : endedB 32 s.b = ee at *
  clear hb h1 h2 hcm hl hE
  go_enter Tryz.func23, Tryz.ntmps23
  go_wp2_with fail
  refine HC.out.mono ?_
  rintro e w1 ⟨rfl, rfl⟩
  by_cases hn : n = 0
  · subst hn
    have hR1 := Lib.hid (show rNumber s = (0, s.fail (if ee then 3 else 2)) from hR.out)
    clear hR
    go_wp2_with fail
    refine HE.out.mono ?_
    rintro e w1 ⟨rfl, rfl⟩
    cases ee with
    | true =>
      go_wp2_with fail
      refine (fail_calls D g lo s 3 _ hS.out).mono ?_
      rintro e w1 ⟨rfl, k1, k2⟩
      have HK := Lib.hid (And.intro k1 k2)
      clear k1 k2 hc hf
      go_wp2
      go_ret
      rw [hR1.out]
      exact ⟨rfl, HK.out.1, HK.out.2⟩
    | false =>
      go_wp2_with fail
      refine (fail_calls D g lo s 2 _ hS.out).mono ?_
      rintro e w1 ⟨rfl, k1, k2⟩
      have HK := Lib.hid (And.intro k1 k2)
      clear k1 k2 hc hf
      go_wp2
      go_ret
      rw [hR1.out]
      exact ⟨rfl, HK.out.1, HK.out.2⟩
  · have hR1 := Lib.hid (show rNumber s = (q % 4294967296, ⟨s.b.drop n, s.v⟩) from hR.out.trans (if_neg hn))
    clear hR
    go_wp2
    · go_ret
      rw [hR1.out]
      exact ⟨by simp, (HD.out n hN).2 (by omega), fr_setCell w1 ⟨g, 0, none⟩ _⟩
    · go_ret
      rw [hR1.out]
      exact ⟨by simp, (HD.out n hN).1, fr_setCell w1 ⟨g, 0, none⟩ _⟩
theorem rNumber_len (s : St) : (rNumber s).2.b.length ≤ s.b.length := by
  unfold rNumber St.fail
  split
  · exact Nat.zero_le _
  · simp
theorem rNumber_lt (s : St) : (rNumber s).1 < 4294967296 := by
  unfold rNumber
  split
  · show (0 : Nat) < 4294967296; omega
  · exact Nat.mod_lt _ (by decide)
set_option maxRecDepth 100000 in
set_option maxHeartbeats 1000000 in
theorem signed_calls (bb : Nat) (hbb : bb = 32 ∨ bb = 64) (D : Nat → Prop) (g : Nat) (lo : Bool) (s : St) (w : World) (h : SpR D g lo s w) (hl : s.b.length ≤ 140737488355328) :
    Calls Tryz.prog 86 #[.pointer (some ⟨g, 0, none⟩), .int .i64 (bb : Int)] w fun e w' => e = .returned (.int .u64 ((rSigned bb s).1 : Int)) ∧ SpR D g lo (rSigned bb s).2 w' ∧ Fr (fun k => k = g) w w' := by
  have hS := Lib.hid h
  obtain ⟨aa, cap, hb, h1, h2⟩ := h
  have hc := hb.cell
  have hf := hb.frz
  have hN := sig_len bb s.b
  have hV := sig_lt bb s.b
  have HC := Lib.hid (Signed_calls D aa cap s.b bb (by omega) (by omega) w h1)
  have HE := Lib.hid (Ended_calls D aa cap s.b bb w h1 hl)
  have HD := Lib.hid (fun n hn => SpR.drop (v := s.v) hb h1 h2 n hn)
  obtain ⟨a', c', ee, hcl, hcm⟩ := Lay.slice_form h1
  simp only [Value.slice.injEq] at ee
  obtain ⟨-, -, rfl⟩ := ee
  have hcm' : (cap : Int) ≤ 9223372036854775807 := by simp only [maxLen] at hcm; omega
  have hR := Lib.hid (show rSigned bb s = if (sig bb s.b).2 = 0 then (0, s.fail (if endedB bb s.b then 3 else 2)) else ((if bb = 32 then (sig bb s.b).1 % 4294967296 else (sig bb s.b).1), ⟨s.b.drop (sig bb s.b).2, s.v⟩) from rfl)
  generalize (sig bb s.b).1 = q at *
  generalize (sig bb s.b).2 = n at *
  generalize hE : endedB bb s.b = ee at *
  have ht64 : IntKind.u64.wrap (toS q) = (q : Int) := by rw [IntKind.wrap_u64]; exact toS_mod hV
  have ht32 : toS q % 4294967296 = ((q % 4294967296 : Nat) : Int) := by unfold toS; omega
  have htb : -9223372036854775808 ≤ toS q ∧ toS q < 9223372036854775808 := by unfold toS; omega
  generalize toS q = z at *
  clear hb h1 h2 hcm hl hE
  go_enter Tryz.func86, Tryz.ntmps86
  go_wp2_with fail
  refine HC.out.mono ?_
  rintro e w1 ⟨rfl, rfl⟩
  by_cases hn : n = 0
  · subst hn
    have hR1 := Lib.hid (show rSigned bb s = (0, s.fail (if ee then 3 else 2)) from hR.out)
    clear hR
    go_wp2_with fail
    refine HE.out.mono ?_
    rintro e w1 ⟨rfl, rfl⟩
    cases ee with
    | true =>
      go_wp2_with fail
      refine (fail_calls D g lo s 3 _ hS.out).mono ?_
      rintro e w1 ⟨rfl, k1, k2⟩
      have HK := Lib.hid (And.intro k1 k2)
      clear k1 k2 hc hf
      go_wp2
      go_ret
      rw [hR1.out]
      exact ⟨rfl, HK.out.1, HK.out.2⟩
    | false =>
      go_wp2_with fail
      refine (fail_calls D g lo s 2 _ hS.out).mono ?_
      rintro e w1 ⟨rfl, k1, k2⟩
      have HK := Lib.hid (And.intro k1 k2)
      clear k1 k2 hc hf
      go_wp2
      go_ret
      rw [hR1.out]
      exact ⟨rfl, HK.out.1, HK.out.2⟩
  · have hR1 := Lib.hid (hR.out.trans (if_neg hn))
    clear hR
    rcases hbb with rfl | rfl
    · go_wp2
      · go_ret
        rw [hR1.out]
        exact ⟨by simp, (HD.out n hN).2 (by omega), fr_setCell w1 ⟨g, 0, none⟩ _⟩
      · go_ret
        rw [hR1.out]
        exact ⟨by simp, (HD.out n hN).1, fr_setCell w1 ⟨g, 0, none⟩ _⟩
    · go_wp2
      · go_ret
        rw [hR1.out]
        exact ⟨by simp, (HD.out n hN).2 (by omega), fr_setCell w1 ⟨g, 0, none⟩ _⟩
      · go_ret
        rw [hR1.out]
        exact ⟨by simp, (HD.out n hN).1, fr_setCell w1 ⟨g, 0, none⟩ _⟩
set_option maxRecDepth 100000 in
set_option maxHeartbeats 1000000 in
theorem count_calls (D : Nat → Prop) (g : Nat) (lo : Bool) (s : St) (w : World) (h : SpR D g lo s w) (hl : s.b.length ≤ 140737488355328) :
    Calls Tryz.prog 22 #[.pointer (some ⟨g, 0, none⟩)] w fun e w' => e = .returned (.int .i64 ((rCount s).1 : Int)) ∧ SpR D g lo (rCount s).2 w' ∧ Fr (fun k => k = g) w w' := by
  have HC := Lib.hid (number_calls D g lo s w h hl)
  have hlt := rNumber_lt s
  have hR := Lib.hid (show rCount s = if (rNumber s).2.b.length < (rNumber s).1 then (0, if 10000 < (rNumber s).1 then ⟨[], 2⟩ else (rNumber s).2.fail 3) else rNumber s from rfl)
  have hle := rNumber_len s
  generalize rNumber s = r at *
  obtain ⟨n, s1⟩ := r
  dsimp only at *
  clear h
  go_enter Tryz.func22, Tryz.ntmps22
  go_wp2_with fail
  refine HC.out.mono ?_
  rintro e w1 ⟨rfl, h1, hF⟩
  have H1 := Lib.hid (And.intro h1 hF)
  obtain ⟨aa, cap, hb, h2, h3⟩ := h1
  have hc := hb.cell
  clear hb h2 h3 hF HC
  by_cases hs : s1.b.length < n
  · have hR1 := Lib.hid (hR.out.trans (if_pos hs))
    clear hR
    go_wp2_with fail
    refine (fail_calls D g lo s1 3 _ H1.out.1).mono ?_
    rintro e w2 ⟨rfl, k1, k2⟩
    have HK := Lib.hid (And.intro k1 (H1.out.2.trans k2 (fun _ _ h => h) (fun _ _ h => h)))
    obtain ⟨aa', cap', hb, h2, h3⟩ := k1
    have hf := hb.frz
    have hc' := hb.cell
    have HB := Lib.hid (And.intro hb (And.intro h2 h3))
    clear hb h2 h3 k2 hc
    by_cases h4 : 10000 < n
    · rw [if_pos h4] at hR1
      go_wp2
      go_ret
      rw [hR1.out]
      refine ⟨rfl, ?_, HK.out.2.trans (fr_setCell w2 ⟨g, 1, none⟩ _) (fun _ _ h => h) (fun _ _ h => h)⟩
      have hz : (s1.fail 3).b = [] := rfl
      have := HB.out.1.set 1 (.int .i64 2)
      refine SpR.mk (aa := aa') (cap := cap') (w := w2) ?_ ?_ HB.out.2.2 (fr_setCell w2 ⟨g, 1, none⟩ _)
      · simpa [hz] using this
      · have := HB.out.2.1
        simpa [hz] using this
    · rw [if_neg h4] at hR1
      go_wp2
      go_ret
      rw [hR1.out]
      exact ⟨rfl, HK.out.1, HK.out.2⟩
  · have hR1 := Lib.hid (hR.out.trans (if_neg hs))
    clear hR
    go_wp2
    go_ret
    rw [hR1.out]
    exact ⟨rfl, H1.out.1, H1.out.2⟩
set_option maxRecDepth 100000 in
set_option maxHeartbeats 1000000 in
theorem valueType_calls (D : Nat → Prop) (g : Nat) (lo : Bool) (s : St) (w : World) (h : SpR D g lo s w) :
    Calls Tryz.prog 24 #[.pointer (some ⟨g, 0, none⟩)] w fun e w' => e = .returned (.int .i64 (rValueType s).1) ∧ SpR D g lo (rValueType s).2 w' ∧ Fr (fun k => k = g) w w' := by
  have HC := Lib.hid (byte_calls D g lo s w h)
  have hlt : (rByte s).1 < 256 := by
    unfold rByte
    cases s.b with
    | nil => show (0 : Nat) < 256; omega
    | cons c r => exact c.toNat_lt
  have hR := Lib.hid (show rValueType s = (127 - ((rByte s).1 : Int), if (rByte s).2.v = 0 ∧ ((rByte s).1 < 124 ∨ 127 < (rByte s).1) then (rByte s).2.fail 1 else (rByte s).2) from rfl)
  generalize rByte s = r at *
  obtain ⟨n, s1⟩ := r
  dsimp only at *
  clear h
  go_enter Tryz.func24, Tryz.ntmps24
  go_wp2_with fail
  refine HC.out.mono ?_
  rintro e w1 ⟨rfl, h1, hF⟩
  have H1 := Lib.hid (And.intro h1 hF)
  clear h1 hF HC
  go_wp2_with fail
  refine (ok_calls D g lo s1 _ H1.out.1).mono ?_
  rintro e w2 ⟨rfl, rfl⟩
  by_cases hv : s1.v = 0
  · rw [decide_eq_true hv]
    by_cases hn : n < 124
    · have hR1 := Lib.hid (hR.out.trans (by rw [if_pos ⟨hv, .inl hn⟩]))
      clear hR
      go_wp2_with fail
      refine (fail_calls D g lo s1 1 _ H1.out.1).mono ?_
      rintro e w2 ⟨rfl, k1, k2⟩
      have HK := Lib.hid (And.intro k1 (H1.out.2.trans k2 (fun _ _ h => h) (fun _ _ h => h)))
      clear k1 k2
      go_wp2
      go_ret
      rw [hR1.out]
      exact ⟨rfl, HK.out.1, HK.out.2⟩
    · by_cases hn2 : 127 < n
      · have hR1 := Lib.hid (hR.out.trans (by rw [if_pos ⟨hv, .inr hn2⟩]))
        clear hR
        go_wp2_with fail
        refine (fail_calls D g lo s1 1 _ H1.out.1).mono ?_
        rintro e w2 ⟨rfl, k1, k2⟩
        have HK := Lib.hid (And.intro k1 (H1.out.2.trans k2 (fun _ _ h => h) (fun _ _ h => h)))
        clear k1 k2
        go_wp2
        go_ret
        rw [hR1.out]
        exact ⟨rfl, HK.out.1, HK.out.2⟩
      · have hR1 := Lib.hid (hR.out.trans (by rw [if_neg (fun h => h.2.elim hn hn2)]))
        clear hR
        go_wp2
        go_ret
        rw [hR1.out]
        exact ⟨rfl, H1.out.1, H1.out.2⟩
  · rw [decide_eq_false hv]
    have hR1 := Lib.hid (hR.out.trans (by rw [if_neg (fun h => hv h.1)]))
    clear hR hv
    go_wp2
    go_ret
    rw [hR1.out]
    exact ⟨rfl, H1.out.1, H1.out.2⟩
end Go.Proofs.YtkbadfljmbeciaaGreatDoor
