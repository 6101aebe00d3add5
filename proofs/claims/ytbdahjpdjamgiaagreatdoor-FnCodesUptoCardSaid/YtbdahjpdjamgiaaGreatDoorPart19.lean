/- Texts of this proof, one behind the other. -/
import Derived.Test.YtbdahjpdjamgiaaGreatDoorPart18
import Derived.Test.YtbdahjpdjamgiaaGreatDoorPart4
import Derived.Test.YtbdahjpdjamgiaaGreatDoorProg
import Derived.KernelRfl
import Derived.Deep.QuietTactic
import Derived.BigQuiet
import Derived.Outline
/- spec.reader: number, signed, count, valueType. -/
namespace Go.Proofs.YtbdahjpdjamgiaaGreatDoor
open Go.RowKit
theorem unsG_len (bb : Nat) : ∀ (sh acc n : Nat) (b : List UInt8), (unsG bb sh acc n b).2 ≤ n + b.length
  | _, _, _, [] => Nat.zero_le _
  | sh, acc, n, c :: r => by
    have ih := unsG_len bb (sh + 7) (acc ||| (c.toNat % 128 * 2 ^ sh % 2 ^ 64)) (n + 1) r
    simp only [unsG, List.length_cons]
    split
    · exact Nat.zero_le _
    · split
      · exact Nat.zero_le _
      · split
        · show n + 1 ≤ _; omega
        · omega
theorem uns_len (bb : Nat) (b : List UInt8) : (uns bb b).2 ≤ b.length := by have := unsG_len bb 0 0 0 b; unfold uns; omega
theorem sigG_len (bb : Nat) : ∀ (sh acc n : Nat) (b : List UInt8), (sigG bb sh acc n b).2 ≤ n + b.length
  | _, _, _, [] => Nat.zero_le _
  | sh, acc, n, c :: r => by
    have ih := sigG_len bb (sh + 7) (acc ||| (c.toNat % 128 * 2 ^ sh % 2 ^ 64)) (n + 1) r
    simp only [sigG, List.length_cons]
    split
    · exact Nat.zero_le _
    · split
      · exact Nat.zero_le _
      · split
        · show n + 1 ≤ _; omega
        · omega
theorem sig_len (bb : Nat) (b : List UInt8) : (sig bb b).2 ≤ b.length := by have := sigG_len bb 0 0 0 b; unfold sig; omega
theorem unsG_lt (bb : Nat) : ∀ (sh acc n : Nat) (b : List UInt8), acc < 2 ^ 64 → (unsG bb sh acc n b).1 < 2 ^ 64
  | _, _, _, [], _ => Nat.pow_pos (by decide)
  | sh, acc, n, c :: r, h => by
    have hz : acc ||| (c.toNat % 128 * 2 ^ sh % 2 ^ 64) < 2 ^ 64 := Nat.or_lt_two_pow h (Nat.mod_lt _ (by decide))
    have ih := unsG_lt bb (sh + 7) (acc ||| (c.toNat % 128 * 2 ^ sh % 2 ^ 64)) (n + 1) r hz
    simp only [unsG]
    split
    · decide
    · split
      · decide
      · split
        · exact hz
        · exact ih
theorem uns_lt (bb : Nat) (b : List UInt8) : (uns bb b).1 < 18446744073709551616 := unsG_lt bb 0 0 0 b (by decide)
theorem sigG_lt (bb : Nat) : ∀ (sh acc n : Nat) (b : List UInt8), acc < 2 ^ 64 → (sigG bb sh acc n b).1 < 2 ^ 64
  | _, _, _, [], _ => Nat.pow_pos (by decide)
  | sh, acc, n, c :: r, h => by
    have hz : acc ||| (c.toNat % 128 * 2 ^ sh % 2 ^ 64) < 2 ^ 64 := Nat.or_lt_two_pow h (Nat.mod_lt _ (by decide))
    have ih := sigG_lt bb (sh + 7) (acc ||| (c.toNat % 128 * 2 ^ sh % 2 ^ 64)) (n + 1) r hz
    have hp : 0 < 2 ^ (sh + 7) := Nat.pow_pos (by decide)
    simp only [sigG]
    split
    · decide
    · split
      · decide
      · split
        · show (if _ then _ else _) < _
          split
          · exact Nat.or_lt_two_pow hz (by omega)
          · exact hz
        · exact ih
theorem sig_lt (bb : Nat) (b : List UInt8) : (sig bb b).1 < 18446744073709551616 := sigG_lt bb 0 0 0 b (by decide)
set_option maxRecDepth 100000 in
set_option maxHeartbeats 1000000 in
theorem number_calls (D : Nat → Prop) (g : Nat) (lo : Bool) (s : St) (w : World) (h : SpR D g lo s w) (hl : s.b.length ≤ 140737488355328) :
    Calls Tryz.prog 18 #[.pointer (some ⟨g, 0, none⟩)] w fun e w' => e = .returned (.int .u32 ((rNumber s).1 : Int)) ∧ SpR D g lo (rNumber s).2 w' ∧ Fr (fun k => k = g) w w' := by
  have hS := Lib.hid h
  obtain ⟨aa, cap, hb, h1, h2⟩ := h
  have hc := hb.cell
  have hf := hb.frz
  have hN := uns_len 32 s.b
  have hV := uns_lt 32 s.b
  have HC := Lib.hid (Unsigned_calls D aa cap s.b 32 (by decide) (by decide) w h1)
  have HE := Lib.hid (Ended_calls D aa cap s.b 32 w h1 hl)
  have HD := Lib.hid (fun n hn => SpR.drop (v := s.v) hb h1 h2 n hn)
  obtain ⟨a', c', ee, hcl, hcm⟩ := Lay.slice_form h1
  simp only [Value.slice.injEq] at ee
  obtain ⟨-, -, rfl⟩ := ee
  have hcm' : (cap : Int) ≤ 9223372036854775807 := by simp only [maxLen] at hcm; omega
  have hR := Lib.hid (show rNumber s = if (uns 32 s.b).2 = 0 then (0, s.fail (if endedB 32 s.b then 3 else 2)) else ((uns 32 s.b).1 % 4294967296, ⟨s.b.drop (uns 32 s.b).2, s.v⟩) from rfl)
  generalize (uns 32 s.b).1 = q at *
  generalize (uns 32 s.b).2 = n at *
  generalize hE : endedB 32 s.b = ee at *
  clear hb h1 h2 hcm hl hE
  go_enter Tryz.func18, Tryz.ntmps18
  go_wp2_with fail
  refine HC.out.mono ?_
  rintro e w1 ⟨rfl, rfl⟩
  by_cases hn : n = 0
  · subst hn
    have hR1 := Lib.hid (show rNumber s = (0, s.fail (if ee then 3 else 2)) from hR.out)
    clear hR
    go_wp2_with fail
    refine HE.out.mono ?_
    rintro e w1 ⟨rfl, rfl⟩
    cases ee with
    | true =>
      go_wp2_with fail
      refine (fail_calls D g lo s 3 _ hS.out).mono ?_
      rintro e w1 ⟨rfl, k1, k2⟩
      have HK := Lib.hid (And.intro k1 k2)
      clear k1 k2 hc hf
      go_wp2
      go_ret
      rw [hR1.out]
      exact ⟨rfl, HK.out.1, HK.out.2⟩
    | false =>
      go_wp2_with fail
      refine (fail_calls D g lo s 2 _ hS.out).mono ?_
      rintro e w1 ⟨rfl, k1, k2⟩
      have HK := Lib.hid (And.intro k1 k2)
      clear k1 k2 hc hf
      go_wp2
      go_ret
      rw [hR1.out]
      exact ⟨rfl, HK.out.1, HK.out.2⟩
  · have hR1 := Lib.hid (show rNumber s = (q % 4294967296, ⟨s.b.drop n, s.v⟩) from hR.out.trans (if_neg hn))
    clear hR
    go_wp2
    · go_ret
      rw [hR1.out]
      exact ⟨by simp, (HD.out n hN).2 (by omega), fr_setCell w1 ⟨g, 0, none⟩ _⟩
    · go_ret
      rw [hR1.out]
      exact ⟨by simp, (HD.out n hN).1, fr_setCell w1 ⟨g, 0, none⟩ _⟩
theorem rNumber_len (s : St) : (rNumber s).2.b.length ≤ s.b.length := by
  unfold rNumber St.fail
  split
  · exact Nat.zero_le _
  · simp
theorem rNumber_lt (s : St) : (rNumber s).1 < 4294967296 := by
  unfold rNumber
  split
  · show (0 : Nat) < 4294967296; omega
  · exact Nat.mod_lt _ (by decide)
set_option maxRecDepth 100000 in
set_option maxHeartbeats 1000000 in
theorem signed_calls (bb : Nat) (hbb : bb = 32 ∨ bb = 64) (D : Nat → Prop) (g : Nat) (lo : Bool) (s : St) (w : World) (h : SpR D g lo s w) (hl : s.b.length ≤ 140737488355328) :
    Calls Tryz.prog 61 #[.pointer (some ⟨g, 0, none⟩), .int .i64 (bb : Int)] w fun e w' => e = .returned (.int .u64 ((rSigned bb s).1 : Int)) ∧ SpR D g lo (rSigned bb s).2 w' ∧ Fr (fun k => k = g) w w' := by
  have hS := Lib.hid h
  obtain ⟨aa, cap, hb, h1, h2⟩ := h
  have hc := hb.cell
  have hf := hb.frz
  have hN := sig_len bb s.b
  have hV := sig_lt bb s.b
  have HC := Lib.hid (Signed_calls D aa cap s.b bb (by omega) (by omega) w h1)
  have HE := Lib.hid (Ended_calls D aa cap s.b bb w h1 hl)
  have HD := Lib.hid (fun n hn => SpR.drop (v := s.v) hb h1 h2 n hn)
  obtain ⟨a', c', ee, hcl, hcm⟩ := Lay.slice_form h1
  simp only [Value.slice.injEq] at ee
  obtain ⟨-, -, rfl⟩ := ee
  have hcm' : (cap : Int) ≤ 9223372036854775807 := by simp only [maxLen] at hcm; omega
  have hR := Lib.hid (show rSigned bb s = if (sig bb s.b).2 = 0 then (0, s.fail (if endedB bb s.b then 3 else 2)) else ((if bb = 32 then (sig bb s.b).1 % 4294967296 else (sig bb s.b).1), ⟨s.b.drop (sig bb s.b).2, s.v⟩) from rfl)
  generalize (sig bb s.b).1 = q at *
  generalize (sig bb s.b).2 = n at *
  generalize hE : endedB bb s.b = ee at *
  have ht64 : IntKind.u64.wrap (toS q) = (q : Int) := by rw [IntKind.wrap_u64]; exact toS_mod hV
  have ht32 : toS q % 4294967296 = ((q % 4294967296 : Nat) : Int) := by unfold toS; omega
  have htb : -9223372036854775808 ≤ toS q ∧ toS q < 9223372036854775808 := by unfold toS; omega
  generalize toS q = z at *
  clear hb h1 h2 hcm hl hE
  go_enter Tryz.func61, Tryz.ntmps61
  go_wp2_with fail
  refine HC.out.mono ?_
  rintro e w1 ⟨rfl, rfl⟩
  by_cases hn : n = 0
  · subst hn
    have hR1 := Lib.hid (show rSigned bb s = (0, s.fail (if ee then 3 else 2)) from hR.out)
    clear hR
    go_wp2_with fail
    refine HE.out.mono ?_
    rintro e w1 ⟨rfl, rfl⟩
    cases ee with
    | true =>
      go_wp2_with fail
      refine (fail_calls D g lo s 3 _ hS.out).mono ?_
      rintro e w1 ⟨rfl, k1, k2⟩
      have HK := Lib.hid (And.intro k1 k2)
      clear k1 k2 hc hf
      go_wp2
      go_ret
      rw [hR1.out]
      exact ⟨rfl, HK.out.1, HK.out.2⟩
    | false =>
      go_wp2_with fail
      refine (fail_calls D g lo s 2 _ hS.out).mono ?_
      rintro e w1 ⟨rfl, k1, k2⟩
      have HK := Lib.hid (And.intro k1 k2)
      clear k1 k2 hc hf
      go_wp2
      go_ret
      rw [hR1.out]
      exact ⟨rfl, HK.out.1, HK.out.2⟩
  · have hR1 := Lib.hid (hR.out.trans (if_neg hn))
    clear hR
    rcases hbb with rfl | rfl
    · go_wp2
      · go_ret
        rw [hR1.out]
        exact ⟨by simp, (HD.out n hN).2 (by omega), fr_setCell w1 ⟨g, 0, none⟩ _⟩
      · go_ret
        rw [hR1.out]
        exact ⟨by simp, (HD.out n hN).1, fr_setCell w1 ⟨g, 0, none⟩ _⟩
    · go_wp2
      · go_ret
        rw [hR1.out]
        exact ⟨by simp, (HD.out n hN).2 (by omega), fr_setCell w1 ⟨g, 0, none⟩ _⟩
      · go_ret
        rw [hR1.out]
        exact ⟨by simp, (HD.out n hN).1, fr_setCell w1 ⟨g, 0, none⟩ _⟩
set_option maxRecDepth 100000 in
set_option maxHeartbeats 1000000 in
theorem count_calls (D : Nat → Prop) (g : Nat) (lo : Bool) (s : St) (w : World) (h : SpR D g lo s w) (hl : s.b.length ≤ 140737488355328) :
    Calls Tryz.prog 17 #[.pointer (some ⟨g, 0, none⟩)] w fun e w' => e = .returned (.int .i64 ((rCount s).1 : Int)) ∧ SpR D g lo (rCount s).2 w' ∧ Fr (fun k => k = g) w w' := by
  have HC := Lib.hid (number_calls D g lo s w h hl)
  have hlt := rNumber_lt s
  have hR := Lib.hid (show rCount s = if (rNumber s).2.b.length < (rNumber s).1 then (0, if 10000 < (rNumber s).1 then ⟨[], 2⟩ else (rNumber s).2.fail 3) else rNumber s from rfl)
  have hle := rNumber_len s
  generalize rNumber s = r at *
  obtain ⟨n, s1⟩ := r
  dsimp only at *
  clear h
  go_enter Tryz.func17, Tryz.ntmps17
  go_wp2_with fail
  refine HC.out.mono ?_
  rintro e w1 ⟨rfl, h1, hF⟩
  have H1 := Lib.hid (And.intro h1 hF)
  obtain ⟨aa, cap, hb, h2, h3⟩ := h1
  have hc := hb.cell
  clear hb h2 h3 hF HC
  by_cases hs : s1.b.length < n
  · have hR1 := Lib.hid (hR.out.trans (if_pos hs))
    clear hR
    go_wp2_with fail
    refine (fail_calls D g lo s1 3 _ H1.out.1).mono ?_
    rintro e w2 ⟨rfl, k1, k2⟩
    have HK := Lib.hid (And.intro k1 (H1.out.2.trans k2 (fun _ _ h => h) (fun _ _ h => h)))
    obtain ⟨aa', cap', hb, h2, h3⟩ := k1
    have hf := hb.frz
    have hc' := hb.cell
    have HB := Lib.hid (And.intro hb (And.intro h2 h3))
    clear hb h2 h3 k2 hc
    by_cases h4 : 10000 < n
    · rw [if_pos h4] at hR1
      go_wp2
      go_ret
      rw [hR1.out]
      refine ⟨rfl, ?_, HK.out.2.trans (fr_setCell w2 ⟨g, 1, none⟩ _) (fun _ _ h => h) (fun _ _ h => h)⟩
      have hz : (s1.fail 3).b = [] := rfl
      have := HB.out.1.set 1 (.int .i64 2)
      refine SpR.mk (aa := aa') (cap := cap') (w := w2) ?_ ?_ HB.out.2.2 (fr_setCell w2 ⟨g, 1, none⟩ _)
      · simpa [hz] using this
      · have := HB.out.2.1
        simpa [hz] using this
    · rw [if_neg h4] at hR1
      go_wp2
      go_ret
      rw [hR1.out]
      exact ⟨rfl, HK.out.1, HK.out.2⟩
  · have hR1 := Lib.hid (hR.out.trans (if_neg hs))
    clear hR
    go_wp2
    go_ret
    rw [hR1.out]
    exact ⟨rfl, H1.out.1, H1.out.2⟩
set_option maxRecDepth 100000 in
set_option maxHeartbeats 1000000 in
theorem valueType_calls (D : Nat → Prop) (g : Nat) (lo : Bool) (s : St) (w : World) (h : SpR D g lo s w) :
    Calls Tryz.prog 19 #[.pointer (some ⟨g, 0, none⟩)] w fun e w' => e = .returned (.int .i64 (rValueType s).1) ∧ SpR D g lo (rValueType s).2 w' ∧ Fr (fun k => k = g) w w' := by
  have HC := Lib.hid (byte_calls D g lo s w h)
  have hlt : (rByte s).1 < 256 := by
    unfold rByte
    cases s.b with
    | nil => show (0 : Nat) < 256; omega
    | cons c r => exact c.toNat_lt
  have hR := Lib.hid (show rValueType s = (127 - ((rByte s).1 : Int), if (rByte s).2.v = 0 ∧ ((rByte s).1 < 124 ∨ 127 < (rByte s).1) then (rByte s).2.fail 1 else (rByte s).2) from rfl)
  generalize rByte s = r at *
  obtain ⟨n, s1⟩ := r
  dsimp only at *
  clear h
  go_enter Tryz.func19, Tryz.ntmps19
  go_wp2_with fail
  refine HC.out.mono ?_
  rintro e w1 ⟨rfl, h1, hF⟩
  have H1 := Lib.hid (And.intro h1 hF)
  clear h1 hF HC
  go_wp2_with fail
  refine (ok_calls D g lo s1 _ H1.out.1).mono ?_
  rintro e w2 ⟨rfl, rfl⟩
  by_cases hv : s1.v = 0
  · rw [decide_eq_true hv]
    by_cases hn : n < 124
    · have hR1 := Lib.hid (hR.out.trans (by rw [if_pos ⟨hv, .inl hn⟩]))
      clear hR
      go_wp2_with fail
      refine (fail_calls D g lo s1 1 _ H1.out.1).mono ?_
      rintro e w2 ⟨rfl, k1, k2⟩
      have HK := Lib.hid (And.intro k1 (H1.out.2.trans k2 (fun _ _ h => h) (fun _ _ h => h)))
      clear k1 k2
      go_wp2
      go_ret
      rw [hR1.out]
      exact ⟨rfl, HK.out.1, HK.out.2⟩
    · by_cases hn2 : 127 < n
      · have hR1 := Lib.hid (hR.out.trans (by rw [if_pos ⟨hv, .inr hn2⟩]))
        clear hR
        go_wp2_with fail
        refine (fail_calls D g lo s1 1 _ H1.out.1).mono ?_
        rintro e w2 ⟨rfl, k1, k2⟩
        have HK := Lib.hid (And.intro k1 (H1.out.2.trans k2 (fun _ _ h => h) (fun _ _ h => h)))
        clear k1 k2
        go_wp2
        go_ret
        rw [hR1.out]
        exact ⟨rfl, HK.out.1, HK.out.2⟩
      · have hR1 := Lib.hid (hR.out.trans (by rw [if_neg (fun h => h.2.elim hn hn2)]))
        clear hR
        go_wp2
        go_ret
        rw [hR1.out]
        exact ⟨rfl, H1.out.1, H1.out.2⟩
  · rw [decide_eq_false hv]
    have hR1 := Lib.hid (hR.out.trans (by rw [if_neg (fun h => hv h.1)]))
    clear hR hv
    go_wp2
    go_ret
    rw [hR1.out]
    exact ⟨rfl, H1.out.1, H1.out.2⟩
end Go.Proofs.YtbdahjpdjamgiaaGreatDoor
/- spec.arguments, legal, LegalCode. -/
namespace Go.Proofs.YtbdahjpdjamgiaaGreatDoor
open Go.RowKit
def ArgsPost (op : Int) (w : World) (e : Ending) (w' : World) : Prop :=
  ∃ v, e = .returned (.tuple #[v, .bool (kindsOf op).isSome]) ∧ Lay.int.slice.rd (fun k => w.heap.size ≤ k ∧ k < w'.heap.size) w' [v] ((kindsOf op).getD []) ∧ Ext w w'
theorem argsPost_nil {op : Int} {w : World} (h : kindsOf op = some []) : ArgsPost op w (.returned (.tuple #[.slice none 0 0, .bool true])) w :=
  ⟨_, by rw [h]; rfl, by rw [h]; exact ⟨none, 0, rfl, Nat.le_refl _, by decide, fun h => absurd h (by simp)⟩, Fr.refl _ _⟩
theorem argsPost_no {op : Int} {w : World} (h : kindsOf op = none) : ArgsPost op w (.returned (.tuple #[.slice none 0 0, .bool false])) w :=
  ⟨_, by rw [h]; rfl, by rw [h]; exact ⟨none, 0, rfl, Nat.le_refl _, by decide, fun h => absurd h (by simp)⟩, Fr.refl _ _⟩
theorem argsPost_one {op a : Int} {w : World} (h : kindsOf op = some [a]) (ha : 0 ≤ a ∧ a ≤ 9) : ArgsPost op w (.returned (.tuple #[.slice (some ⟨w.heap.size, 0, none⟩) 1 1, .bool true])) (w.alloc (.cells #[.int .i64 a] 3)) :=
  ⟨_, by rw [h]; rfl, by
    rw [h]
    exact ⟨_, 1, rfl, Nat.le_refl _, by decide, fun _ => ⟨w.heap.size, 0, _, _, _, [.int .i64 a], rfl, ⟨Nat.le_refl _, by simp⟩, blk_new w _ _, Lay.all_single ⟨rfl, by omega, by omega⟩, fun j hj => by simp⟩⟩, ext_alloc _ _⟩
theorem argsPost_two {op a b : Int} {w : World} (h : kindsOf op = some [a, b]) (ha : 0 ≤ a ∧ a ≤ 9) (hb : 0 ≤ b ∧ b ≤ 9) : ArgsPost op w (.returned (.tuple #[.slice (some ⟨w.heap.size, 0, none⟩) 2 2, .bool true])) (w.alloc (.cells #[.int .i64 a, .int .i64 b] 3)) :=
  ⟨_, by rw [h]; rfl, by
    rw [h]
    exact ⟨_, 2, rfl, Nat.le_refl _, by decide, fun _ => ⟨w.heap.size, 0, _, _, _, [.int .i64 a, .int .i64 b], rfl, ⟨Nat.le_refl _, by simp⟩, blk_new w _ _, ⟨[_], _, rfl, ⟨rfl, by omega, by omega⟩, Lay.all_single ⟨rfl, by omega, by omega⟩⟩, fun j hj => by simp⟩⟩, ext_alloc _ _⟩
theorem kinds0 {op : Int} (h : op = 0 ∨ op = 1 ∨ op = 15 ∨ op = 26 ∨ op = 27 ∨ (69 ≤ op ∧ op ≤ 191)) : kindsOf op = some [] := by
  unfold kindsOf
  by_cases h1 : op = 0 ∨ op = 1 ∨ op = 15 ∨ op = 26 ∨ op = 27
  · rw [if_pos h1]
  · rw [if_neg h1, if_neg (by omega), if_neg (by omega), if_neg (by omega), if_neg (by omega), if_neg (by omega), if_neg (by omega), if_neg (by omega), if_pos (by omega)]
theorem kinds2 {op : Int} (h : op = 12 ∨ op = 13 ∨ op = 16 ∨ op = 32 ∨ op = 33 ∨ op = 34 ∨ op = 35 ∨ op = 36) : kindsOf op = some [2] := by
  unfold kindsOf; rw [if_neg (by omega), if_pos h]
theorem kinds25 {op : Int} (h : op = 17) : kindsOf op = some [2, 5] := by subst h; rfl
theorem kinds00 {op : Int} (h : op = 40 ∨ op = 54) : kindsOf op = some [0, 0] := by rcases h with rfl | rfl <;> rfl
theorem kinds65 {op : Int} (h : op = 65) : kindsOf op = some [0] := by subst h; rfl
theorem kinds66 {op : Int} (h : op = 66) : kindsOf op = some [1] := by subst h; rfl
theorem kinds67 {op : Int} (h : op = 67) : kindsOf op = some [3] := by subst h; rfl
theorem kinds68 {op : Int} (h : op = 68) : kindsOf op = some [4] := by subst h; rfl
theorem kindsNo {op : Int} (h : ¬ (op = 0 ∨ op = 1 ∨ op = 15 ∨ op = 26 ∨ op = 27 ∨ op = 12 ∨ op = 13 ∨ op = 16 ∨ op = 32 ∨ op = 33 ∨ op = 34 ∨ op = 35 ∨ op = 36 ∨ op = 17 ∨ op = 40 ∨ op = 54 ∨ op = 65 ∨ op = 66 ∨ op = 67 ∨ op = 68 ∨ (69 ≤ op ∧ op ≤ 191))) : kindsOf op = none := by
  unfold kindsOf
  rw [if_neg (by omega), if_neg (by omega), if_neg (by omega), if_neg (by omega), if_neg (by omega), if_neg (by omega), if_neg (by omega), if_neg (by omega), if_neg (by omega)]
set_option maxRecDepth 100000 in
set_option maxHeartbeats 1000000 in
theorem arguments_lit (op : Int) (w : World) (h : op = 0 ∨ op = 1 ∨ op = 15 ∨ op = 26 ∨ op = 27 ∨ op = 12 ∨ op = 13 ∨ op = 16 ∨ op = 32 ∨ op = 33 ∨ op = 34 ∨ op = 35 ∨ op = 36 ∨ op = 17 ∨ op = 40 ∨ op = 54 ∨ op = 65 ∨ op = 66 ∨ op = 67 ∨ op = 68) :
    Calls Tryz.prog 33 #[.int .i64 op] w (ArgsPost op w) := by
  rcases h with rfl | rfl | rfl | rfl | rfl | rfl | rfl | rfl | rfl | rfl | rfl | rfl | rfl | rfl | rfl | rfl | rfl | rfl | rfl | rfl
  all_goals
    go_enter Tryz.func33, Tryz.ntmps33
    go_wp2
    go_ret2
    first
      | exact argsPost_nil rfl
      | exact argsPost_one rfl (by omega)
      | exact argsPost_two rfl (by omega) (by omega)
set_option maxRecDepth 100000 in
set_option maxHeartbeats 1000000 in
theorem arguments_rest (op : Int) (w : World) (h : ¬ (op = 0 ∨ op = 1 ∨ op = 15 ∨ op = 26 ∨ op = 27 ∨ op = 12 ∨ op = 13 ∨ op = 16 ∨ op = 32 ∨ op = 33 ∨ op = 34 ∨ op = 35 ∨ op = 36 ∨ op = 17 ∨ op = 40 ∨ op = 54 ∨ op = 65 ∨ op = 66 ∨ op = 67 ∨ op = 68)) :
    Calls Tryz.prog 33 #[.int .i64 op] w (ArgsPost op w) := by
  simp only [not_or, ← beq_eq_false_iff_ne] at h
  obtain ⟨h0, h1, h2, h3, h4, h5, h6, h7, h8, h9, h10, h11, h12, h13, h14, h15, h16, h17, h18, h19⟩ := h
  have H := Lib.hid (And.intro h0 (And.intro h1 (And.intro h2 (And.intro h3 (And.intro h4 (And.intro h5 (And.intro h6 (And.intro h7 (And.intro h8 (And.intro h9 (And.intro h10 (And.intro h11 (And.intro h12 (And.intro h13 (And.intro h14 (And.intro h15 (And.intro h16 (And.intro h17 (And.intro h18 h19)))))))))))))))))))
  simp only [beq_eq_false_iff_ne] at H
  by_cases a : 69 ≤ op
  · by_cases b : op ≤ 191
    · have hk := Lib.hid (kinds0 (op := op) (by omega))
      go_enter Tryz.func33, Tryz.ntmps33
      go_wp2
      go_ret2
      exact argsPost_nil hk.out
    · have hk : Hid (kindsOf op = none) := by have := H.out; exact kindsNo (by omega)
      go_enter Tryz.func33, Tryz.ntmps33
      go_wp2
      go_ret2
      exact argsPost_no hk.out
  · have hk : Hid (kindsOf op = none) := by have := H.out; exact kindsNo (by omega)
    go_enter Tryz.func33, Tryz.ntmps33
    go_wp2
    go_ret2
    exact argsPost_no hk.out
theorem arguments_calls (op : Int) (w : World) : Calls Tryz.prog 33 #[.int .i64 op] w (ArgsPost op w) := by
  by_cases h : op = 0 ∨ op = 1 ∨ op = 15 ∨ op = 26 ∨ op = 27 ∨ op = 12 ∨ op = 13 ∨ op = 16 ∨ op = 32 ∨ op = 33 ∨ op = 34 ∨ op = 35 ∨ op = 36 ∨ op = 17 ∨ op = 40 ∨ op = 54 ∨ op = 65 ∨ op = 66 ∨ op = 67 ∨ op = 68
  · exact arguments_lit op w h
  · exact arguments_rest op w h

/-! ### legal -/
theorem argsOk_iff : ∀ (ks : List Int) (bs : List (Int × UInt64)), ks.length = bs.length → (argsOk ks bs = true ↔ ∀ (i : Nat) (h : i < ks.length) (h' : i < bs.length), argOk ks[i] bs[i] = true)
  | [], [], _ => by simp [argsOk]
  | k :: ks, a :: bs, h => by
    have ih := argsOk_iff ks bs (by simpa using h)
    simp only [argsOk, Bool.and_eq_true, ih]
    constructor
    · rintro ⟨h1, h2⟩ i hi hi'
      cases i with
      | zero => exact h1
      | succ i => exact h2 i (by simpa using hi) (by simpa using hi')
    · intro h1
      exact ⟨h1 0 (by simp) (by simp), fun i hi hi' => h1 (i + 1) (by simpa using hi) (by simpa using hi')⟩
theorem argsOk_len : ∀ {ks : List Int} {bs : List (Int × UInt64)}, argsOk ks bs = true → ks.length = bs.length
  | [], [], _ => rfl
  | _ :: _, _ :: _, h => by
    simp only [argsOk, Bool.and_eq_true] at h
    simp [argsOk_len h.2]
theorem legalL_append (d : Int) : ∀ (l m : List Ins), legalL d (l ++ m) = (legalL d l && legalL d m)
  | [], m => by simp [legalL]
  | x :: l, m => by simp only [List.cons_append, legalL, legalL_append d l m, Bool.and_assoc]
theorem legalL_take {d : Int} {l : List Ins} {i : Nat} (h : i < l.length) (h1 : legalL d (l.take i) = true) (h2 : legal1 d l[i] = true) : legalL d (l.take (i + 1)) = true := by
  rw [List.take_succ_eq_append_getElem h, legalL_append, h1]
  simp [legalL, h2]
theorem legalL_no {d : Int} {l : List Ins} {i : Nat} (h : i < l.length) (h2 : legal1 d l[i] = false) : legalL d l = false := by
  have : l = l.take i ++ (l[i] :: l.drop (i + 1)) := by rw [← List.drop_eq_getElem_cons h, List.take_append_drop]
  rw [this, legalL_append]
  simp [legalL, h2]
theorem sOp_yes {op : Int} (h : op = 2 ∨ op = 3 ∨ op = 4) : structuredOp op = true := by rcases h with rfl | rfl | rfl <;> rfl
theorem sOp_no {op : Int} (h : ¬ (op = 2 ∨ op = 3 ∨ op = 4)) : structuredOp op = false := by
  simp only [not_or] at h
  simp [structuredOp, h.1, h.2.1, h.2.2]
theorem legal1_st {d op ty : Int} {args : List (Int × UInt64)} {st : Bool} {body : List Ins} (h : st ≠ structuredOp op) : legal1 d (.mk op args st ty body) = false := by simp [legal1, h]
theorem legal1_deep {d op ty : Int} {args : List (Int × UInt64)} {st : Bool} {body : List Ins} (h : 100 < d) : legal1 d (.mk op args st ty body) = false := by simp [legal1]; intros; omega
theorem legal1_s {d op ty : Int} {args : List (Int × UInt64)} {body : List Ins} (h : op = 2 ∨ op = 3 ∨ op = 4) (hd : d ≤ 100) : legal1 d (.mk op args true ty body) = (decide (args.length = 0) && decide (-1 ≤ ty) && decide (ty ≤ 3) && legalL (d + 1) body) := by
  rw [legal1, if_pos (sOp_yes h), sOp_yes h]
  simp [hd]
theorem legal1_n {d op ty : Int} {args : List (Int × UInt64)} {body : List Ins} (h : ¬ (op = 2 ∨ op = 3 ∨ op = 4)) (hd : d ≤ 100) : legal1 d (.mk op args false ty body) = (match kindsOf op with | some ks => argsOk ks args && decide (ty = 0) && decide (body.length = 0) | none => false) := by
  rw [legal1, sOp_no h]
  simp only [hd, decide_true, Bool.true_and]
  rfl
theorem legal1_some {d op ty : Int} {args : List (Int × UInt64)} {body : List Ins} {ks : List Int} (h : ¬ (op = 2 ∨ op = 3 ∨ op = 4)) (hd : d ≤ 100) (hk : kindsOf op = some ks) : legal1 d (.mk op args false ty body) = (argsOk ks args && decide (ty = 0) && decide (body.length = 0)) := by
  rw [legal1_n h hd, hk]
theorem legal1_none {d op ty : Int} {args : List (Int × UInt64)} {body : List Ins} (h : ¬ (op = 2 ∨ op = 3 ∨ op = 4)) (hd : d ≤ 100) (hk : kindsOf op = none) : legal1 d (.mk op args false ty body) = false := by
  rw [legal1_n h hd, hk]
end Go.Proofs.YtbdahjpdjamgiaaGreatDoor
