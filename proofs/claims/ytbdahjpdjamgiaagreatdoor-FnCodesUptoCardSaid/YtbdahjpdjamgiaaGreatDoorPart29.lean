/- Plain facts on legal code entries. -/
import Derived.Test.YtbdahjpdjamgiaaGreatDoorPart28
import Derived.Test.YtbdahjpdjamgiaaGreatDoorPart5
import Derived.Test.YtbdahjpdjamgiaaGreatDoorPart19
import Derived.Test.YtbdahjpdjamgiaaGreatDoorPart24
namespace Go.Proofs.YtbdahjpdjamgiaaGreatDoor
theorem kindsOf_len {op : Int} {ks : List Int} (h : kindsOf op = some ks) : ks.length ≤ 2 := by
  unfold kindsOf at h
  repeat' split at h
  all_goals first | (simp only [Option.some.injEq] at h; subst h; decide) | cases h
/-- A legal instruction, by its kind. -/
theorem legal1_cases {d op ty : Int} {args : List (Int × UInt64)} {st : Bool} {body : List Ins} (h : legal1 d (.mk op args st ty body) = true) :
    (st = true ∧ (op = 2 ∨ op = 3 ∨ op = 4) ∧ args = [] ∧ -1 ≤ ty ∧ ty ≤ 3 ∧ d ≤ 100 ∧ legalL (d + 1) body = true) ∨ (st = false ∧ ¬ (op = 2 ∨ op = 3 ∨ op = 4) ∧ ty = 0 ∧ body = [] ∧ ∃ ks, kindsOf op = some ks ∧ argsOk ks args = true) := by
  by_cases hS : op = 2 ∨ op = 3 ∨ op = 4
  · by_cases hst : st = true
    · subst hst
      by_cases hd : 100 < d
      · rw [legal1_deep hd] at h; cases h
      · rw [legal1_s hS (by omega)] at h
        simp only [Bool.and_eq_true, decide_eq_true_eq] at h
        exact .inl ⟨rfl, hS, List.eq_nil_of_length_eq_zero h.1.1.1, h.1.1.2, h.1.2, by omega, h.2⟩
    · rw [legal1_st (by rw [sOp_yes hS]; exact hst)] at h; cases h
  · by_cases hst : st = true
    · rw [legal1_st (by rw [sOp_no hS, hst]; decide)] at h; cases h
    · obtain rfl : st = false := by simpa using hst
      by_cases hd : 100 < d
      · rw [legal1_deep hd] at h; cases h
      · cases hk : kindsOf op with
        | none => rw [legal1_none hS (by omega) hk] at h; cases h
        | some ks =>
          rw [legal1_some hS (by omega) hk] at h
          simp only [Bool.and_eq_true, decide_eq_true_eq] at h
          exact .inr ⟨rfl, hS, h.1.2, List.eq_nil_of_length_eq_zero h.2, ks, rfl, h.1.1⟩
theorem count_len : ∀ (l : List Ins), l.length ≤ countL l
  | [] => by simp [countL]
  | .mk _ _ _ _ _ :: xs => by have := count_len xs; simp only [countL, count1, List.length_cons]; omega
theorem args_len {ks : List Int} {args : List (Int × UInt64)} {op : Int} (hk : kindsOf op = some ks) (h : argsOk ks args = true) : args.length ≤ 2 := by
  have := argsOk_len h; have := kindsOf_len hk; omega
theorem keyArgs_len (l : List (Int × UInt64)) : (l.flatMap keyArg).length ≤ 20 * l.length := by
  induction l with
  | nil => simp
  | cons a l ih =>
    have h1 := ulebI_len a.1
    have h2 := uleb_len64 a.2.toNat a.2.toNat_lt
    simp only [List.flatMap_cons, List.length_append, List.length_cons, keyArg] at *
    omega
theorem argsB_len (l : List (Int × UInt64)) : (l.flatMap argBytes).length ≤ 10 * l.length := by
  induction l with
  | nil => simp
  | cons a l ih =>
    have h1 := argBytes_len a
    simp only [List.flatMap_cons, List.length_append, List.length_cons] at *
    omega
mutual
theorem legal_facts1 : ∀ (x : Ins) (d : Int), legal1 d x = true → count1 x ≤ 65536 → fit1 x ∧ tyOk1 x ∧ encB1 x = insB1 x ∧ (keyI1 x).length ≤ 100 * count1 x ∧ (insB1 x).length ≤ 100 * count1 x
  | .mk op args st ty body, d, h, hc => by
    simp only [count1] at hc ⊢
    rcases legal1_cases h with ⟨rfl, hS, rfl, h1, h2, h3, h4⟩ | ⟨rfl, hS, rfl, rfl, ks, hk, ha⟩
    · obtain ⟨g1, g2, g3, g4, g5⟩ := legal_factsL body (d + 1) h4 (by omega)
      have hbl := count_len body
      have l1 := ulebI_len op
      have l2 := ulebI_len (ty + 1)
      have l3 := uleb_len64 body.length (by omega)
      refine ⟨⟨by simp, by omega, g1⟩, fun _ => ⟨h2, g2⟩, ?_, ?_, ?_⟩
      · simp [encB1, insB1, g3]
      · simp only [keyI1, if_true, List.length_append, List.flatMap_nil, List.length_nil, uleb_small (show (0:Nat) < 128 by omega), uleb_small (show (1:Nat) < 128 by omega), List.length_cons]
        omega
      · rw [insB1_true]
        simp only [List.length_cons, List.length_append, List.length_nil]
        omega
    · have ha2 := args_len hk ha
      have l1 := ulebI_len op
      have l2 := uleb_len64 args.length (by omega)
      have l3 := keyArgs_len args
      have l4 := argsB_len args
      refine ⟨⟨by omega, by simp, trivial⟩, (fun h => by cases h), ?_, ?_, ?_⟩
      · simp [encB1, insB1]
      · simp only [keyI1, List.length_append, uleb_small (show (0:Nat) < 128 by omega), List.length_cons, List.length_nil, if_neg (show ¬ (false = true) from Bool.false_ne_true)]
        omega
      · rw [insB1_false]
        simp only [List.length_cons]
        omega
theorem legal_factsL : ∀ (l : List Ins) (d : Int), legalL d l = true → countL l ≤ 65536 → fitA l ∧ tyOkA l ∧ encBL l = insBL l ∧ (keyIs l).length ≤ 100 * countL l ∧ (insBL l).length ≤ 100 * countL l
  | [], _, _, _ => ⟨trivial, trivial, rfl, by simp [keyIs], by simp [insBL]⟩
  | x :: xs, d, h, hc => by
    simp only [legalL, Bool.and_eq_true] at h
    simp only [countL] at hc ⊢
    obtain ⟨a1, a2, a3, a4, a5⟩ := legal_facts1 x d h.1 (by omega)
    obtain ⟨b1, b2, b3, b4, b5⟩ := legal_factsL xs d h.2 (by omega)
    refine ⟨⟨a1, b1⟩, ⟨a2, b2⟩, by simp only [encBL, insBL, a3, b3], ?_, ?_⟩
    · simp only [keyIs, List.length_append]; omega
    · simp only [insBL, List.length_append]; omega
end
theorem keyLocs_len (l : List (UInt32 × Int)) : (l.flatMap keyLoc).length ≤ 20 * l.length := by
  induction l with
  | nil => simp
  | cons a l ih =>
    have h1 := ulebI_len a.2
    have h2 := uleb_len64 a.1.toNat (by have := a.1.toNat_lt; omega)
    simp only [List.flatMap_cons, List.length_append, List.length_cons, keyLoc] at *
    omega
theorem locsB_len (l : List (UInt32 × Int)) : (l.flatMap locBytes).length ≤ 11 * l.length := by
  induction l with
  | nil => simp
  | cons a l ih =>
    have h2 := uleb_len64 a.1.toNat (by have := a.1.toNat_lt; omega)
    simp only [List.flatMap_cons, List.length_append, List.length_cons, locBytes, List.length_nil] at *
    omega
theorem codeKey_len {ls : List (UInt32 × Int)} {l : List Ins} (h : legalL 0 l = true) (hc : countL l ≤ 65536) (hl : ls.length ≤ 2147483647) : (codeKey ls l).length + 10 ≤ KeyCap ∧ (codeSp ls l).length + 20 ≤ 70368744177664 := by
  obtain ⟨-, -, -, h4, h5⟩ := legal_factsL l 0 h hc
  have l1 := uleb_len64 ls.length (by omega)
  have l2 := keyLocs_len ls
  have l3 := uleb_len64 l.length (by have := count_len l; omega)
  have l4 := locsB_len ls
  simp only [codeKey, codeSp, keyIL, KeyCap, List.length_append, List.length_cons, List.length_nil]
  omega
theorem legal_locs {ls : List (UInt32 × Int)} {l : List Ins} (h : legalCode ls l = true) : (∀ x ∈ ls, 0 ≤ x.2 ∧ x.2 ≤ 3) ∧ legalL 0 l = true := by
  simp only [legalCode, Bool.and_eq_true, List.all_eq_true] at h
  refine ⟨fun x hx => ?_, h.2⟩
  have := h.1 x hx
  simp only [localOk, Bool.and_eq_true, decide_eq_true_eq] at this
  exact this
theorem codeEnc_eq {ls : List (UInt32 × Int)} {l : List Ins} (h : legalL 0 l = true) (hc : countL l ≤ 65536) : codeEnc ls l = codeSp ls l := by
  rw [codeEnc, codeSp, (legal_factsL l 0 h hc).2.2.1]
end Go.Proofs.YtbdahjpdjamgiaaGreatDoor
