/- Texts of this proof, one behind the other. -/
import Derived.Test.YtbdahjpdjamgiaaGreatDoorPart19
import Derived.Test.YtbdahjpdjamgiaaGreatDoorPart4
import Derived.Test.YtbdahjpdjamgiaaGreatDoorProg
import Derived.KernelRfl
import Derived.Deep.QuietTactic
import Derived.BigQuiet
/- spec.legal, LegalCode: walked. -/
namespace Go.Proofs.YtbdahjpdjamgiaaGreatDoor
open Go.RowKit
set_option maxRecDepth 100000 in
set_option maxHeartbeats 4000000 in
theorem legal_calls (n : Nat) : ∀ (l : List Ins) (d : Int) (aa : Option Addr) (m c : Nat) (A : Nat → Prop) (w : World), (Lay.ins n).slice.rd A w [.slice aa m c] l → (∀ k, A k → k < w.heap.size) → 0 ≤ d → d ≤ 101 →
    Calls Tryz.prog 14 #[.slice aa m c, .int .i64 d] w fun e w' => e = .returned (.bool (legalL d l)) ∧ Ext w w' := by
  induction n using Nat.strongRecOn with
  | ind n ih =>
    intro l d aa m c A w hR hA h0 h1
    obtain ⟨a', c', e, hlc, hcm⟩ := Lay.slice_form hR
    obtain ⟨rfl, rfl, rfl⟩ : aa = a' ∧ m = l.length ∧ c = c' := by simpa using e
    have hlen : (l.length : Int) ≤ 9223372036854775807 := by simp only [maxLen] at hcm; omega
    have H := Lib.hid (And.intro hR (And.intro hA ih))
    clear hR hA ih hlc hcm e
    go_enter Tryz.func14, Tryz.ntmps14
    go_wp2_with fail
    go_loopw [14] (fun s14 w' => ∃ (i : Nat), i ≤ l.length ∧ s14 = .int .i64 i ∧ Hid (legalL d (l.take i) = true) ∧ Hid (Ext w w')) (fun s14 _ => l.length - (intOf s14).toNat)
    case atStart => exact ⟨0, Nat.zero_le _, rfl, by show _ = _; simp [legalL], Fr.refl _ _⟩
    case round =>
      obtain ⟨i, hi, rfl, hL, hF⟩ := hrel
      by_cases hlt : i < l.length
      · obtain ⟨hR, hA, ih⟩ := H.out
        have hRr := Lay.fr hR hF.out (fun k hk => ⟨hA k hk, fun h => h⟩)
        obtain ⟨k, b, o, a1, n1, c1, a2, n2, c2, rfl, rfl, hAb, e0, e1, e2, e3, e4, hopb, htyb, hargs, hbody⟩ := Lay.ins_at hRr i hlt
        have hNo := Lib.hid (fun h => legalL_no (d := d) hlt h)
        have hTk := Lib.hid (fun h => legalL_take (d := d) hlt hL.out h)
        generalize l[i] = x at *
        obtain ⟨op, args, st, ty, body⟩ := x
        simp only [Ins.op, Ins.args, Ins.st, Ins.ty, Ins.body] at *
        obtain ⟨a1', c1', e1', hlc1, hcm1⟩ := Lay.slice_form hargs
        obtain ⟨rfl, rfl, rfl⟩ : a1 = a1' ∧ n1 = args.length ∧ c1 = c1' := by simpa using e1'
        obtain ⟨a2', c2', e2', hlc2, hcm2⟩ := Lay.slice_form hbody
        obtain ⟨rfl, rfl, rfl⟩ : a2 = a2' ∧ n2 = body.length ∧ c2 = c2' := by simpa using e2'
        have HR := Lib.hid (And.intro hargs (And.intro hbody (And.intro hA ih)))
        clear hR hA ih hRr hargs hbody hAb e1' e2' hlc1 hcm1 hlc2 hcm2 hopb htyb
        by_cases hS : op = 2 ∨ op = 3 ∨ op = 4
        · by_cases hst : st = true
          · subst hst
            by_cases hd : 100 < d
            · have hN := Lib.hid (hNo.out (legal1_deep hd))
              have hd' : decide (100 < d) = true := decide_eq_true hd
              clear hNo hTk HR
              rcases hS with rfl | rfl | rfl
              all_goals
                go_wp2
                go_ret
                exact ⟨by rw [hN.out]; rfl, hF.out.alloc _⟩
            · have hd' : decide (100 < d) = false := decide_eq_false hd
              have hs1 := Lib.hid (legal1_s (args := args) (ty := ty) (body := body) hS (by omega : d ≤ 100))
              by_cases ha : 0 < args.length
              · have hN : Hid (legalL d l = false) := hNo.out (by rw [hs1.out, decide_eq_false (by omega : ¬ args.length = 0)]; rfl)
                have ha' : decide ((0:Int) < (args.length : Int)) = true := decide_eq_true (by omega)
                clear hNo hTk HR hs1
                rcases hS with rfl | rfl | rfl
                all_goals
                  go_wp2
                  go_ret
                  exact ⟨by rw [hN.out]; rfl, hF.out.alloc _⟩
              · have ha' : decide ((0:Int) < (args.length : Int)) = false := decide_eq_false (by omega)
                by_cases ht : ty < -1
                · have hN : Hid (legalL d l = false) := hNo.out (by rw [hs1.out, decide_eq_false (by omega : ¬ -1 ≤ ty), Bool.and_false]; rfl)
                  have ht' : decide (ty < -1) = true := decide_eq_true ht
                  clear hNo hTk HR hs1
                  rcases hS with rfl | rfl | rfl
                  all_goals
                    go_wp2
                    go_ret
                    exact ⟨by rw [hN.out]; rfl, hF.out.alloc _⟩
                · have ht' : decide (ty < -1) = false := decide_eq_false ht
                  by_cases ht3 : 3 < ty
                  · have hN : Hid (legalL d l = false) := hNo.out (by rw [hs1.out, decide_eq_false (by omega : ¬ ty ≤ 3), Bool.and_false]; rfl)
                    have ht3' : decide (3 < ty) = true := decide_eq_true ht3
                    clear hNo hTk HR hs1
                    rcases hS with rfl | rfl | rfl
                    all_goals
                      go_wp2
                      go_ret
                      exact ⟨by rw [hN.out]; rfl, hF.out.alloc _⟩
                  · have ht3' : decide (3 < ty) = false := decide_eq_false ht3
                    have hs2 : Hid (legal1 d (.mk op args true ty body) = legalL (d + 1) body) := by
                      show _ = _
                      rw [hs1.out, decide_eq_true (by omega : args.length = 0), decide_eq_true (by omega : -1 ≤ ty), decide_eq_true (by omega : ty ≤ 3)]; rfl
                    clear hs1
                    rcases hS with rfl | rfl | rfl
                    all_goals
                      go_wp2_with fail
                      obtain ⟨hargs, hbody, hA, ih⟩ := HR.out
                      refine (ih k (by omega) body (d + 1) a2 body.length c2 A _ (Lay.fr hbody (ext_alloc _ _) (fun k hk => ⟨Nat.lt_of_lt_of_le (hA k hk) hF.out.size, fun h => h⟩)) (fun k hk => Nat.lt_of_lt_of_le (hA k hk) (hF.out.alloc _).size) (by omega) (by omega)).mono ?_
                      rintro e w2 ⟨rfl, hx⟩
                      have hF3 := Lib.hid (Ext.trans (hF.out.alloc _) hx)
                      clear hargs hbody hA ih hx
                      cases hb : legalL (d + 1) body with
                      | true =>
                        have hT := Lib.hid (hTk.out (hs2.out.trans hb))
                        clear hb hs2 hNo hTk HR
                        go_wp2
                        go_roundw
                        case rel => exact ⟨i + 1, by omega, by go_num, hT, hF3⟩
                        case measure => simp [intOf]; omega
                      | false =>
                        have hN := Lib.hid (hNo.out (hs2.out.trans hb))
                        clear hb hs2 hNo hTk HR
                        go_wp2
                        go_ret
                        exact ⟨by rw [hN.out]; rfl, hF3.out⟩
          · have hN := Lib.hid (hNo.out (legal1_st (by rw [sOp_yes hS]; exact hst)))
            obtain rfl : st = false := by simpa using hst
            clear hNo hTk HR
            rcases hS with rfl | rfl | rfl
            all_goals
              go_wp2
              go_ret
              exact ⟨by rw [hN.out]; rfl, hF.out.alloc _⟩
        · have q2 : (op == 2) = false := beq_eq_false_iff_ne.2 (fun h => hS (.inl h))
          have q3 : (op == 3) = false := beq_eq_false_iff_ne.2 (fun h => hS (.inr (.inl h)))
          have q4 : (op == 4) = false := beq_eq_false_iff_ne.2 (fun h => hS (.inr (.inr h)))
          by_cases hst : st = true
          · have hN := Lib.hid (hNo.out (legal1_st (by rw [sOp_no hS, hst]; decide)))
            subst hst
            clear hNo hTk HR hS
            go_wp2
            go_ret
            exact ⟨by rw [hN.out]; rfl, hF.out.alloc _⟩
          · obtain rfl : st = false := by simpa using hst
            by_cases hd : 100 < d
            · have hN := Lib.hid (hNo.out (legal1_deep hd))
              have hd' : decide (100 < d) = true := decide_eq_true hd
              clear hNo hTk HR hS hst
              go_wp2
              go_ret
              exact ⟨by rw [hN.out]; rfl, hF.out.alloc _⟩
            · have hd' : decide (100 < d) = false := decide_eq_false hd
              have hs0 := Lib.hid (fun hk => legal1_none (args := args) (ty := ty) (body := body) hS (by omega : d ≤ 100) hk)
              have hs1 := Lib.hid (fun ks hk => legal1_some (ks := ks) (args := args) (ty := ty) (body := body) hS (by omega : d ≤ 100) hk)
              clear hS hst
              go_wp2_with fail
              refine (arguments_calls op _).mono ?_
              rintro e w2 ⟨v, rfl, hv, hx⟩
              have hF3 := Lib.hid (Ext.trans (hF.out.alloc _) hx)
              have hB := (blk_new wr #[.int .i64 op, .slice a1 args.length c1, .bool false, .int .i64 ty, .slice a2 body.length c2] 138).ext hx
              have hcB := hB.cell
              obtain ⟨a3, c3, rfl, -, -⟩ := Lay.slice_form hv
              cases hk : kindsOf op with
              | none =>
                have hN := Lib.hid (hNo.out (hs0.out hk))
                rw [hk] at hv
                clear hNo hTk HR hs0 hs1 hv hx hB hk
                go_wp2
                go_ret
                exact ⟨by rw [hN.out]; rfl, hF3.out⟩
              | some ks =>
                rw [hk] at hv
                replace hs1 := Lib.hid (hs1.out ks hk)
                clear hs0
                simp only [Option.isSome_some, Option.getD_some] at *
                by_cases hl : ks.length = args.length
                · have hlq := Lib.hid hl
                  rw [hl] at hv ⊢
                  clear hl
                  have hargs2 := Lay.fr HR.out.1 (Ext.trans (ext_alloc _ _) hx) (fun k hk => ⟨by have := HR.out.2.2.1 k hk; have := hF.out.size; omega, fun h => h⟩)
                  have hA2 := Lib.hid (fun k hk => Nat.lt_of_lt_of_le (HR.out.2.2.1 k hk) hF3.out.size)
                  have HV := Lib.hid (And.intro hv hargs2)
                  clear hv hargs2 hx hk HR
                  by_cases ht : ty = 0
                  · subst ht
                    by_cases hbl : 0 < body.length
                    · have hN : Hid (legalL d l = false) := hNo.out (by rw [hs1.out, decide_eq_false (by omega : ¬ body.length = 0), Bool.and_false])
                      have hb' : decide ((0:Int) < (body.length : Int)) = true := decide_eq_true (by omega)
                      clear hNo hTk hs1
                      go_wp2
                      go_ret
                      exact ⟨by rw [hN.out]; rfl, hF3.out⟩
                    · have hb' : decide ((0:Int) < (body.length : Int)) = false := decide_eq_false (by omega)
                      have hs2 : Hid (legal1 d (.mk op args false 0 body) = argsOk ks args) := by
                        show _ = _
                        rw [hs1.out, decide_eq_true (by omega : body.length = 0)]; simp
                      have hal : (args.length : Int) ≤ 9223372036854775807 := by
                        obtain ⟨_, _, e, h1, h2⟩ := Lay.slice_form HV.out.2
                        simp only [maxLen] at h2; omega
                      clear hs1
                      go_wp2_with fail
                      go_loopw [92] (fun s92 w' => ∃ (j : Nat), j ≤ args.length ∧ s92 = .int .i64 j ∧ Hid (∀ (t : Nat) (h : t < ks.length) (h' : t < args.length), t < j → argOk ks[t] args[t] = true) ∧ Hid (Ext w2 w')) (fun s92 _ => args.length - (intOf s92).toNat)
                      case atStart => exact ⟨0, Nat.zero_le _, rfl, fun t _ _ h => absurd h (Nat.not_lt_zero _), Fr.refl _ _⟩
                      case round =>
                        obtain ⟨j, hj, rfl, hJ, hX⟩ := hrel
                        by_cases hjl : j < args.length
                        · have hlq' := hlq.out
                          have hjk : j < ks.length := by omega
                          obtain ⟨b3, o3, rfl, hA3, g0, g1, gb0, gb1⟩ := arg_at (Lay.fr HV.out.2 hX.out (fun k hk => ⟨hA2.out k hk, fun h => h⟩)) j hjl
                          have hv2 := Lay.fr HV.out.1 hX.out (fun k hk => ⟨hk.2, fun h => h⟩)
                          rw [← hlq'] at hv2
                          obtain ⟨b4, o4, rfl, hA4, g2, gk0, gk1⟩ := int_at hv2 j hjk
                          have hJ2 : Hid (argOk ks[j] args[j] = true → ∀ (t : Nat) (h : t < ks.length) (h' : t < args.length), t < j + 1 → argOk ks[t] args[t] = true) := by
                            intro h0 t h h' ht
                            rcases Nat.lt_or_ge t j with h1 | h1
                            · exact hJ.out t h h' h1
                            · obtain rfl : t = j := by omega
                              exact h0
                          have hJN : Hid (argOk ks[j] args[j] = false → legalL d l = false) := fun h0 => hNo.out (by
                            rw [hs2.out]
                            cases h : argsOk ks args with
                            | false => rfl
                            | true => rw [(argsOk_iff ks args hlq').1 h j hjk hjl] at h0; cases h0)
                          have hcB2 := (hB.ext hX.out).cell
                          have hHX := Lib.hid (And.intro hX.out hF3.out)
                          clear hX hcB
                          generalize args[j] = aq at *
                          obtain ⟨av, ab⟩ := aq
                          generalize ks[j] = kj at *
                          simp only [] at g0 g1 gb0 gb1
                          have hun : Hid (argOk kj (av, ab) = (decide (av = kj) && !(decide (kj = 5) && decide (255 < ab.toNat)) && !((decide (kj = 0) || decide (kj = 2) || decide (kj = 3)) && decide (4294967295 < ab.toNat)))) := rfl
                          generalize argOk kj (av, ab) = ok at *
                          generalize ab.toNat = bits at *
                          have g3 : ∀ o', (wr.alloc o').cell? ⟨b4, o4 + j, none⟩ = some (.int .i64 kj) := fun o' => (ext_alloc wr o').cell g2 (fun h => h)
                          clear hv2 hJ hlq' hjk hA3 hA4 gb0 gb1 gk0 gk1 hNo hTk HV hA2 hlq hB
                          by_cases hkk : av = kj
                          · subst hkk
                            have p1 : (av != av) = false := by simp
                            by_cases h5 : av = 5
                            · subst h5
                              by_cases hbt : 255 < bits
                              · have p2 : decide ((255:Int) < (bits : Int)) = true := decide_eq_true (by omega)
                                have hN : Hid (legalL d l = false) := hJN.out (by rw [hun.out, decide_eq_true hbt]; rfl)
                                clear hun hJ2 hJN
                                go_wp2_with fail
                                go_quiet (fail)
                                go_wp2
                                go_ret
                                exact ⟨by rw [hN.out]; rfl, (Ext.trans hHX.out.2 ((hHX.out.1).alloc _)).drewN _⟩
                              · have p2 : decide ((255:Int) < (bits : Int)) = false := decide_eq_false (by omega)
                                have hT := Lib.hid (hJ2.out (by rw [hun.out, decide_eq_false hbt]; rfl))
                                clear hun hJ2 hJN
                                go_wp2_with fail
                                go_quiet (fail)
                                go_wp2
                                go_roundw
                                case rel => exact ⟨j + 1, by omega, by go_num, hT, ((hHX.out.1).alloc _).drewN _⟩
                                case measure => simp [intOf]; omega
                            · have p5 : (av == 5) = false := beq_eq_false_iff_ne.2 h5
                              by_cases h023 : av = 0 ∨ av = 2 ∨ av = 3
                              · by_cases hbt : 4294967295 < bits
                                · have p2 : decide ((4294967295:Int) < (bits : Int)) = true := decide_eq_true (by omega)
                                  have hN : Hid (legalL d l = false) := hJN.out (by rw [hun.out, decide_eq_true hbt, decide_eq_false h5]; rcases h023 with rfl | rfl | rfl <;> rfl)
                                  clear hun hJ2 hJN
                                  rcases h023 with rfl | rfl | rfl
                                  all_goals
                                    go_wp2_with fail
                                    go_quiet (fail)
                                    go_wp2
                                    go_ret
                                    exact ⟨by rw [hN.out]; rfl, (Ext.trans hHX.out.2 ((hHX.out.1).alloc _)).drewN _⟩
                                · have p2 : decide ((4294967295:Int) < (bits : Int)) = false := decide_eq_false (by omega)
                                  have hT := Lib.hid (hJ2.out (by rw [hun.out, decide_eq_false hbt, decide_eq_false h5]; rcases h023 with rfl | rfl | rfl <;> rfl))
                                  clear hun hJ2 hJN
                                  rcases h023 with rfl | rfl | rfl
                                  all_goals
                                    go_wp2_with fail
                                    go_quiet (fail)
                                    go_wp2
                                    go_roundw
                                    case rel => exact ⟨j + 1, by omega, by go_num, hT, ((hHX.out.1).alloc _).drewN _⟩
                                    case measure => simp [intOf]; omega
                              · have p0 : (av == 0) = false := beq_eq_false_iff_ne.2 (fun h => h023 (.inl h))
                                have p2 : (av == 2) = false := beq_eq_false_iff_ne.2 (fun h => h023 (.inr (.inl h)))
                                have p3 : (av == 3) = false := beq_eq_false_iff_ne.2 (fun h => h023 (.inr (.inr h)))
                                have hT := Lib.hid (hJ2.out (by rw [hun.out, decide_eq_false h5, decide_eq_false (fun h => h023 (.inl h)), decide_eq_false (fun h => h023 (.inr (.inl h))), decide_eq_false (fun h => h023 (.inr (.inr h)))]; simp))
                                clear hun hJ2 hJN h5 h023
                                go_wp2_with fail
                                go_quiet (fail)
                                go_wp2
                                go_roundw
                                case rel => exact ⟨j + 1, by omega, by go_num, hT, ((hHX.out.1).alloc _).drewN _⟩
                                case measure => simp [intOf]; omega
                          · have p1 : (av != kj) = true := by simpa using hkk
                            have hN : Hid (legalL d l = false) := hJN.out (by rw [hun.out, decide_eq_false hkk]; rfl)
                            clear hkk hun hJ2 hJN
                            go_wp2_with fail
                            go_quiet (fail)
                            go_wp2
                            go_ret
                            exact ⟨by rw [hN.out]; rfl, (Ext.trans hHX.out.2 ((hHX.out.1).alloc _)).drewN _⟩
                        · obtain rfl : j = args.length := by omega
                          have hT : Hid (legalL d (l.take (i + 1)) = true) := hTk.out (by
                            rw [hs2.out]
                            exact (argsOk_iff ks args hlq.out).2 (fun t h h' => hJ.out t h h' h'))
                          have hF4 := Lib.hid (Ext.trans hF3.out hX.out)
                          go_wp2
                          go_roundw
                          case rel => exact ⟨i + 1, by omega, by go_num, hT, hF4⟩
                          case measure => simp [intOf]; omega
                  · have ht' : (ty != 0) = true := by simpa using ht
                    have hN : Hid (legalL d l = false) := hNo.out (by rw [hs1.out, decide_eq_false ht, Bool.and_false]; rfl)
                    clear hNo hTk hs1 ht
                    go_wp2
                    go_ret
                    exact ⟨by rw [hN.out]; rfl, hF3.out⟩
                · have hN : Hid (legalL d l = false) := hNo.out (by
                    rw [hs1.out]
                    cases h : argsOk ks args with
                    | false => rfl
                    | true => exact absurd (argsOk_len h) hl)
                  have hl' : (ks.length != args.length) = true := by simpa using hl
                  clear hNo hTk HR hs1 hv hx hB hk
                  go_wp2
                  go_ret
                  exact ⟨by rw [hN.out]; rfl, hF3.out⟩
      · obtain rfl : i = l.length := by omega
        have hd : legalL d l = true := by have := hL.out; rwa [List.take_length] at this
        have hd := Lib.hid hd
        go_wp2
        go_ret
        exact ⟨by rw [hd.out]; rfl, hF.out⟩
end Go.Proofs.YtbdahjpdjamgiaaGreatDoor
/- spec.room, RoomCode. -/
namespace Go.Proofs.YtbdahjpdjamgiaaGreatDoor
open Go.RowKit
theorem countL_append : ∀ (l m : List Ins), countL (l ++ m) = countL l + countL m
  | [], m => by simp [countL]
  | x :: l, m => by simp only [List.cons_append, countL, countL_append l m]; omega
theorem count1_eq (x : Ins) : count1 x = 1 + countL x.body := by cases x; rfl
theorem countL_take {l : List Ins} {i : Nat} (h : i < l.length) : countL (l.take (i + 1)) = countL (l.take i) + (1 + countL l[i].body) := by
  rw [List.take_succ_eq_append_getElem h, countL_append, ← count1_eq]; simp [countL]
theorem countL_le {l : List Ins} (i : Nat) : countL (l.take i) ≤ countL l := by
  have := countL_append (l.take i) (l.drop i)
  rw [List.take_append_drop] at this
  omega
set_option maxRecDepth 100000 in
set_option maxHeartbeats 1000000 in
theorem room_calls (n : Nat) : ∀ (l : List Ins) (left : Int) (aa : Option Addr) (m c : Nat) (A : Nat → Prop) (g : Nat) (w : World), (Lay.ins n).slice.rd A w [.slice aa m c] l → (∀ k, A k → k < w.heap.size ∧ k ≠ g) → Blk w g #[.int .i64 left] 3 → 0 ≤ left → left ≤ 2147483647 →
    Calls Tryz.prog 13 #[.slice aa m c, .pointer (some ⟨g, 0, none⟩)] w fun e w' => e = .returned (.bool (decide ((countL l : Int) ≤ left))) ∧ Fr (fun k => k = g) w w' ∧ ((countL l : Int) ≤ left → Blk w' g #[.int .i64 (left - countL l)] 3) := by
  induction n using Nat.strongRecOn with
  | ind n ih =>
    intro l left aa m c A g w hR hA hB h0 h1
    obtain ⟨a', c', e, hlc, hcm⟩ := Lay.slice_form hR
    obtain ⟨rfl, rfl, rfl⟩ : aa = a' ∧ m = l.length ∧ c = c' := by simpa using e
    have hlen : (l.length : Int) ≤ 9223372036854775807 := by simp only [maxLen] at hcm; omega
    have H := Lib.hid (And.intro hR (And.intro hA (And.intro hB ih)))
    clear hR hA hB ih hlc hcm e
    go_enter Tryz.func13, Tryz.ntmps13
    go_wp2_with fail
    go_loopw [6, 9] (fun _ s9 w' => ∃ (i : Nat), i ≤ l.length ∧ s9 = .int .i64 i ∧ (countL (l.take i) : Int) ≤ left ∧ Hid (Blk w' g #[.int .i64 (left - countL (l.take i))] 3) ∧ Hid (Fr (fun k => k = g) w w')) (fun _ s9 _ => l.length - (intOf s9).toNat)
    case atStart => exact ⟨0, Nat.zero_le _, rfl, by simp [countL]; omega, by show Blk _ _ _ _; simpa [countL] using H.out.2.2.1, Fr.refl _ _⟩
    case round =>
      obtain ⟨i, hi, rfl, hcl, hBg, hF⟩ := hrel
      by_cases hlt : i < l.length
      · obtain ⟨hR, hA, hB, ih⟩ := H.out
        have hRr := Lay.fr hR hF.out (fun k hk => ⟨(hA k hk).1, fun e => (hA k hk).2 e⟩)
        obtain ⟨k, b, o, a1, n1, c1, a2, n2, c2, rfl, rfl, hAb, e0, e1, e2, e3, e4, -, -, -, hbody⟩ := Lay.ins_at hRr i hlt
        have htk := countL_take hlt
        have hle := countL_le (l := l) (i + 1)
        generalize l[i] = x at *
        have hc0 := hBg.out.cell 0
        have hf0 := hBg.out.frz 0
        have hgl := hBg.out.lt
        have hgne : g ≠ wr.heap.size := by omega
        simp only [List.getElem?_toArray, List.getElem?_cons_zero] at hc0
        have HR := Lib.hid (And.intro hRr (And.intro hbody (And.intro hAb (And.intro htk (And.intro hle (And.intro hA (And.intro ih hBg.out)))))))
        clear hR hA hB ih hRr hbody hAb htk hle hBg
        generalize hq : left - (countL (l.take i) : Int) = q at *
        have hq0 : 0 ≤ q := by omega
        have hq1 : q ≤ 2147483647 := by omega
        by_cases hneg : q - 1 < 0
        · have d0 : decide (q - 1 < 0) = true := decide_eq_true hneg
          have hN : Hid (decide ((countL l : Int) ≤ left) = false ∧ ¬ (countL l : Int) ≤ left) := by
            have := HR.out.2.2.2.1
            have := HR.out.2.2.2.2.1
            exact ⟨decide_eq_false (by omega), by omega⟩
          clear hneg hq
          go_wp2
          go_ret
          refine ⟨by rw [hN.out.1]; rfl, ?_, fun h => by have := hN.out.2; omega⟩
          exact (Fr.setCell hF.out (.inl rfl) _).alloc _
        · have d0 : decide (q - 1 < 0) = false := decide_eq_false hneg
          go_wp2_with fail
          obtain ⟨hRr, hbody, hAb, htk, hle, hA, ih, hB⟩ := HR.out
          have hB1 : Blk ((wr.setCell ⟨g, 0, none⟩ (.int .i64 (q - 1))).alloc (.cells #[.int .i64 x.op, .slice a1 n1 c1, .bool x.st, .int .i64 x.ty, .slice a2 n2 c2] 138)) g #[.int .i64 (q - 1)] 3 := (hB.set 0 (.int .i64 (q - 1))).ext (ext_alloc _ _)
          have hF1 : Fr (fun k => k = g) wr ((wr.setCell ⟨g, 0, none⟩ (.int .i64 (q - 1))).alloc (.cells #[.int .i64 x.op, .slice a1 n1 c1, .bool x.st, .int .i64 x.ty, .slice a2 n2 c2] 138)) := (Fr.setCell (S := fun k => k = g) (p := ⟨g, 0, none⟩) (Fr.refl _ wr) (.inl rfl) _).alloc _
          generalize ((wr.setCell ⟨g, 0, none⟩ (.int .i64 (q - 1))).alloc (.cells #[.int .i64 x.op, .slice a1 n1 c1, .bool x.st, .int .i64 x.ty, .slice a2 n2 c2] 138)) = w1 at *
          have hAw : ∀ k, A k → k < w1.heap.size ∧ k ≠ g := fun k hk => ⟨by have := (hA k hk).1; have := hF.out.size; have := hF1.size; omega, (hA k hk).2⟩
          refine (ih k (by omega) x.body (q - 1) a2 n2 c2 A g w1 (Lay.fr hbody hF1 (fun k hk => ⟨by have := (hA k hk).1; have := hF.out.size; omega, (hA k hk).2⟩)) hAw hB1 (by omega) (by omega)).mono ?_
          rintro e w2 ⟨rfl, hF2, hB2⟩
          have hF3 : Hid (Fr (fun k => k = g) w w2) := (hF.out.trans hF1 (fun _ _ h => h) (fun _ _ h => h)).trans hF2 (fun _ _ h => h) (fun _ _ h => h)
          by_cases hok : (countL x.body : Int) ≤ q - 1
          · have hd : decide ((countL x.body : Int) ≤ q - 1) = true := decide_eq_true hok
            rw [hd]
            have hcl2 : (countL (l.take (i + 1)) : Int) ≤ left := by omega
            have hB3 : Hid (Blk w2 g #[.int .i64 (left - countL (l.take (i + 1)))] 3) := by
              have := hB2 hok
              rw [show q - 1 - (countL x.body : Int) = left - countL (l.take (i + 1)) from by omega] at this
              exact this
            clear hd hok hB2 hF2 hAw hF1 hB1 hRr hbody hAb htk hle hA ih hB
            go_wp2
            go_roundw
            case rel => exact ⟨i + 1, by omega, by go_num, hcl2, hB3, hF3⟩
            case measure => simp [intOf]; omega
          · have hd : decide ((countL x.body : Int) ≤ q - 1) = false := decide_eq_false hok
            rw [hd]
            have hN : Hid (decide ((countL l : Int) ≤ left) = false ∧ ¬ (countL l : Int) ≤ left) := ⟨decide_eq_false (by omega), by omega⟩
            clear hd hok hB2 hF2 hAw hF1 hB1 hRr hbody hAb htk hle hA ih hB
            go_wp2
            go_ret
            exact ⟨by rw [hN.out.1]; rfl, hF3.out, fun h => by have := hN.out.2; omega⟩
      · obtain rfl : i = l.length := by omega
        have hd : decide ((countL l : Int) ≤ left) = true := by rw [List.take_length] at hcl; exact decide_eq_true hcl
        have hBe : Hid (Blk wr g #[.int .i64 (left - countL l)] 3) := by have := hBg.out; rw [List.take_length] at this; exact this
        go_wp2
        go_ret
        exact ⟨by rw [hd]; rfl, hF.out, fun _ => hBe.out⟩
end Go.Proofs.YtbdahjpdjamgiaaGreatDoor
