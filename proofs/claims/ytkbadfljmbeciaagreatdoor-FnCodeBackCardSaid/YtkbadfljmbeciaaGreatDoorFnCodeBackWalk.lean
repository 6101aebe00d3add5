/- The walk of FnCodeBack: what is written is read back. -/
import Derived.Test.YtkbadfljmbeciaaGreatDoorBackLaw
import Derived.Test.YtkbadfljmbeciaaGreatDoorReadFacts
import Derived.Test.YtkbadfljmbeciaaGreatDoorGivenCode
import Derived.Test.YtkbadfljmbeciaaGreatDoorCodeGuards
namespace Go.Proofs.YtkbadfljmbeciaaGreatDoor
open Go.RowKit
theorem uleb_pos (n : Nat) : 1 ≤ (uleb n).length := by
  by_cases h : n < 128
  · rw [uleb_small h]; simp
  · rw [uleb_big (by omega), List.length_cons]; omega
theorem args_key (l : List (Int × UInt64)) : (l.flatMap argBytes).length ≤ 5 * (l.flatMap keyArg).length := by
  induction l with
  | nil => simp
  | cons a l ih =>
    have h1 := argBytes_len a
    have h2 : 2 ≤ (keyArg a).length := by
      unfold keyArg ulebI
      have := uleb_pos (a.1 % 18446744073709551616).toNat
      have := uleb_pos a.2.toNat
      rw [List.length_append]; omega
    simp only [List.flatMap_cons, List.length_append]
    omega
mutual
theorem ins_key1 : ∀ x : Ins, (insB1 x).length ≤ 5 * (keyI1 x).length
  | .mk op args st ty body => by
    have ih := ins_keyL body
    have h1 : 1 ≤ (ulebI op).length := uleb_pos _
    have h2 := uleb_pos args.length
    have h3 := args_key args
    have h4 := uleb_pos 1
    have h5 : 1 ≤ (ulebI (ty + 1)).length := uleb_pos _
    have h6 := uleb_pos body.length
    unfold insB1 keyI1
    cases st with
    | true =>
      simp only [if_true, List.length_cons, List.length_append, List.length_nil]
      omega
    | false =>
      simp only [Bool.false_eq_true, if_false, List.length_cons, List.length_append]
      omega
theorem ins_keyL : ∀ l : List Ins, (insBL l).length ≤ 5 * (keyIs l).length
  | [] => by simp [insBL]
  | x :: xs => by
    have h1 := ins_key1 x
    have h2 := ins_keyL xs
    rw [insBL, keyIs, List.length_append, List.length_append]
    omega
end
theorem locs_key (l : List (UInt32 × Int)) : (l.flatMap locBytes).length ≤ 5 * (l.flatMap keyLoc).length := by
  induction l with
  | nil => simp
  | cons a l ih =>
    have h1 : 1 ≤ (ulebI a.2).length := uleb_pos _
    simp only [List.flatMap_cons, List.length_append]
    unfold locBytes keyLoc at *
    simp only [List.length_append, List.length_cons, List.length_nil] at *
    omega
theorem code_key (ls : List (UInt32 × Int)) (l : List Ins) : (codeSp ls l).length ≤ 5 * (codeKey ls l).length := by
  have h1 := locs_key ls
  have h2 := ins_keyL l
  have h3 := uleb_pos l.length
  unfold codeSp codeKey keyIL
  simp only [List.length_append, List.length_cons, List.length_nil]
  omega
set_option maxRecDepth 100000 in
set_option maxHeartbeats 4000000 in
theorem FnCodeBack_calls (n : Nat) (ls : List (UInt32 × Int)) (l : List Ins) (a1 a2 : Option Addr) (n1 n2 c1 c2 : Nat) (pe : Addr) (w : World) (h1 : Lay.loc.slice.rd (fun k => k < w.heap.size) w [.slice a1 n1 c1] ls) (h2 : (Lay.ins n).slice.rd (fun k => k < w.heap.size) w [.slice a2 n2 c2] l) (hE : w.cell? eofAt = some (eofV pe)) :
    Calls Tryz.prog 4 #[.agg #[.slice a1 n1 c1, .slice a2 n2 c2]] w fun e w' => e = .returned (.bool true) ∧ Ext w w' := by
  obtain ⟨a', c', e, hlc, hcm⟩ := Lay.slice_form h1
  obtain ⟨rfl, rfl, rfl⟩ : a1 = a' ∧ n1 = ls.length ∧ c1 = c' := by simpa using e
  clear e hlc hcm
  obtain ⟨a', c', e, hlc, hcm⟩ := Lay.slice_form h2
  obtain ⟨rfl, rfl, rfl⟩ : a2 = a' ∧ n2 = l.length ∧ c2 = c' := by simpa using e
  have HR := Lib.hid (fun W (h : Ext w W) => And.intro (Lay.fr h1 h (fun k hk => ⟨hk, fun h => h⟩)) (And.intro (Lay.fr h2 h (fun k hk => ⟨hk, fun h => h⟩)) (fun k (hk : k < w.heap.size) => Nat.lt_of_lt_of_le hk h.size)))
  have HE := Lib.hid (fun W (h : Ext w W) => eof_frame hE h (fun h => h))
  clear h1 h2 hlc hcm e hE
  go_enter Tryz.func4, Tryz.ntmps4
  go_wp2_with fail
  have hx0 := Lib.hid (ext_alloc w (.cells #[.slice a1 ls.length c1, .slice a2 l.length c2] 40))
  have hB0 := Lib.hid (blk_new w #[.slice a1 ls.length c1, .slice a2 l.length c2] 40)
  generalize (w.alloc (.cells #[.slice a1 ls.length c1, .slice a2 l.length c2] 40)) = W0 at *
  refine (zzFits13_calls ls.length l.length c1 c2 a1 a2 W0).mono ?_
  rintro e w1 ⟨rfl, hx1⟩
  have hX1 := Lib.hid hx1
  have hcB := (hB0.out.ext hx1).cell
  clear hx1
  by_cases hfit : ls.length ≤ 2147483647 ∧ l.length ≤ 2147483647
  · have hb : (decide (ls.length ≤ 2147483647) && decide (l.length ≤ 2147483647)) = true := by simp [hfit.1, hfit.2]
    rw [hb]
    have hfit := Lib.hid hfit
    clear hb
    go_wp2_with fail
    obtain ⟨r1, r2, r3⟩ := HR.out _ (Ext.trans hx0.out hX1.out)
    refine (RoomCode_calls n l _ 65536 a2 l.length c2 _ w1 r2 r3 (by decide) (by decide)).mono ?_
    rintro e w2 ⟨rfl, hx2⟩
    have hX2 := Lib.hid (Ext.trans hX1.out hx2)
    clear hcB r1 r2 r3 hx2
    have hcB := (hB0.out.ext hX2.out).cell
    by_cases hroom : (countL l : Int) ≤ 65536
    · have hb : decide ((countL l : Int) ≤ 65536) = true := decide_eq_true hroom
      rw [hb]
      have hroom := Lib.hid (show countL l ≤ 65536 by omega)
      clear hb
      go_wp2_with fail
      obtain ⟨r1, r2, r3⟩ := HR.out _ (Ext.trans hx0.out hX2.out)
      refine (LegalCode_calls n ls l a1 a2 ls.length l.length c1 c2 _ w2 r1 r2 r3).mono ?_
      rintro e w3 ⟨rfl, hx3⟩
      have hX3 := Lib.hid (Ext.trans hX2.out hx3)
      clear hcB r1 r2 r3 hx3
      have hcB := (hB0.out.ext hX3.out).cell
      cases hleg : legalCode ls l with
      | true =>
        have hleg := Lib.hid hleg
        go_wp2_with fail
        obtain ⟨hty, hl0⟩ := legal_locs hleg.out
        obtain ⟨k1, k2⟩ := codeKey_len (ls := ls) hl0 hroom.out hfit.out.1
        obtain ⟨r1, r2, r3⟩ := HR.out _ (Ext.trans hx0.out hX3.out)
        refine (CodeKey_calls n ls l a1 a2 ls.length l.length c1 c2 _ w3 r1 r2 r3 k1).mono ?_
        rintro e w4 ⟨rfl, hx4⟩
        have hX4 := Lib.hid (Ext.trans hX3.out hx4)
        have HL := Lib.hid (And.intro hty (And.intro hl0 (And.intro k2 k1)))
        clear hcB r1 r2 r3 hx4 hty hl0 k1 k2
        have hcB := (hB0.out.ext hX4.out).cell
        have hsk : (strOf (codeKey ls l)).size = (codeKey ls l).length := strOf_size (codeKey ls l)
        have hsk := Lib.hid hsk
        by_cases hlong : 65536 < (strOf (codeKey ls l)).size
        · have hd : decide ((65536 : Int) < ((strOf (codeKey ls l)).size : Int)) = true := decide_eq_true (by omega)
          generalize strOf (codeKey ls l) = sk at *
          go_wp2
          go_ret
          exact ⟨rfl, Ext.trans hx0.out hX4.out⟩
        · have hd : decide ((65536 : Int) < ((strOf (codeKey ls l)).size : Int)) = false := decide_eq_false (by omega)
          have hkey := Lib.hid (show (codeKey ls l).length ≤ 65536 from by have := hsk.out; omega)
          generalize strOf (codeKey ls l) = sk at *
          go_wp2_with fail
          clear hd hlong hsk
          obtain ⟨r1, r2, r3⟩ := HR.out _ (Ext.trans hx0.out hX4.out)
          refine (CodeBytes_calls n ls l a1 a2 ls.length l.length c1 c2 _ w4 r1 r2 r3 HL.out.1 HL.out.2.2.1).mono ?_
          rintro e w5 ⟨u, rfl, hu, hx5⟩
          have hX5 := Lib.hid (Ext.trans hX4.out hx5)
          obtain ⟨u1, cu, rfl, -, -⟩ := hu.form
          have HU := Lib.hid hu
          have hlen := Lib.hid (show (codeSp ls l).length ≤ 1048576 from by have := code_key ls l; have := hkey.out; omega)
          clear hcB r1 r2 r3 hx5 hu
          go_wp2_with fail
          refine (ReadCode_calls _ u1 cu (codeSp ls l) w5 HU.out.slice (fun k hk => hk.2) hlen.out).mono ?_
          rintro e w6 ⟨f1, f2, f3, g1, g2, g3, rfl, -, -, hx6⟩
          have hback := Lib.hid (fun hv => code_back (ls := ls) (l := l) HL.out.1 HL.out.2.1 (by have := hfit.out.1; omega) hv)
          have hlaw := code_law (codeSp ls l)
          obtain ⟨ls0, ib0, v0, hrc⟩ : ∃ ls0 ib0 v0, rCode (codeSp ls l) = ((ls0, ib0), v0) := ⟨_, _, _, rfl⟩
          rw [hrc] at hlaw hback
          rw [hrc]
          dsimp only at hlaw hback
          have hX6 := Lib.hid (Ext.trans hX5.out (Ext.trans hx6 (ext_alloc w6 (.cells #[.slice f1 f2 f3, .slice g1 g2 g3] 40))))
          have hlaw := Lib.hid hlaw
          clear hx6
          by_cases hv : v0 = 0
          · subst hv
            obtain ⟨hev, l2, rest, hp, hk1⟩ := hlaw.out.1 rfl
            obtain ⟨rfl, hk2⟩ := hback.out rfl
            have HP := Lib.hid (And.intro hev (And.intro hp (hk1.trans hk2)))
            clear hlaw hback hrc hev hp hk1 hk2
            have hcB := (hB0.out.ext hX6.out).cell
            go_wp2_with fail
            obtain ⟨W6, hW6⟩ : ∃ W6, (w6.alloc (.cells #[.slice f1 f2 f3, .slice g1 g2 g3] 40)) = W6 := ⟨_, rfl⟩
            rw [hW6] at hX6 ⊢
            clear hcB hW6
            obtain ⟨r1, r2, r3⟩ := HR.out _ (Ext.trans hx0.out hX6.out)
            obtain ⟨q1, q2, q3, q4, q5⟩ := legal_factsL l 0 HL.out.2.1 hroom.out
            have hcl := count_len l
            refine (givenCode_calls n ls0 l a1 a2 ls0.length l.length c1 c2 _ W6 r1 r2 r3 (by have := hfit.out.1; omega) (by have := hroom.out; omega) q1).mono ?_
            rintro e w7 ⟨b1, m1, d1, b2, m2, d2, rfl, s1, s2, hx7⟩
            have hX7 := Lib.hid (Ext.trans hX6.out hx7)
            have HG := Lib.hid (And.intro s1 (And.intro s2 (And.intro q1 (And.intro q2 (codeEnc_eq (ls := ls0) HL.out.2.1 hroom.out)))))
            have hcl := Lib.hid hcl
            clear r1 r2 r3 hx7 s1 s2 q1 q2 q3 q4 q5
            go_wp2_with fail
            refine (WriteCode_calls n ls0 l b1 b2 m1 m2 d1 d2 _ w7 HG.out.1 HG.out.2.1 (fun k hk => hk.2) (by have := hfit.out.1; omega) HL.out.1 HG.out.2.2.2.1 (by have := hroom.out; have := hcl.out; omega) HG.out.2.2.1 (by rw [HG.out.2.2.2.2]; exact HL.out.2.2.1)).mono ?_
            rintro e w8 ⟨v, rfl, hv, hx8⟩
            rw [HG.out.2.2.2.2] at hv
            have hX8 := Lib.hid (Ext.trans hX7.out hx8)
            obtain ⟨v1, cv, rfl, -, -⟩ := hv.form
            have HV := Lib.hid hv
            clear hx8 hv HG
            go_wp2_with fail
            refine (implReadCode_rd _ v1 cv (codeSp ls0 l) pe w8 HV.out.slice (fun k hk => hk.2) (HE.out _ (Ext.trans hx0.out hX8.out)) hlen.out HP.out.1).mono ?_
            rintro e w9 (⟨ls', l', rest', n', b1, m1, d1, b2, m2, d2, hp', rfl, r3, r4, hx9⟩ | ⟨hp', -, -⟩)
            · obtain ⟨rfl, rfl, rfl⟩ : ls' = ls0 ∧ l' = l2 ∧ rest' = rest := by
                have := hp'.symm.trans HP.out.2.1
                simpa using this
              have hx10 := ext_alloc w9 (.cells #[.slice b1 m1 d1, .slice b2 m2 d2] 68)
              obtain ⟨W4, g4, hW4, hg4, H4⟩ : ∃ W4 g4, Hid ((w9.alloc (.cells #[.slice b1 m1 d1, .slice b2 m2 d2] 68)) = W4) ∧ Hid (w9.heap.size = g4) ∧ Hid (Blk W4 g4 #[.slice b1 m1 d1, .slice b2 m2 d2] 68 ∧ Ext W0 W4 ∧ Lay.loc.slice.rd (fun k => k < W4.heap.size) W4 [.slice b1 m1 d1] ls' ∧ (Lay.ins n').slice.rd (fun k => k < W4.heap.size) W4 [.slice b2 m2 d2] (toIL l')) :=
                ⟨_, _, rfl, rfl, blk_new _ _ _, Ext.trans hX8.out (Ext.trans hx9 hx10), Lay.mono _ (Lay.fr r3 hx10 (fun k hk => ⟨hk.2, fun h => h⟩)) (fun k hk => by have := hk.2; simp; omega), Lay.mono _ (Lay.fr r4 hx10 (fun k hk => ⟨hk.2, fun h => h⟩)) (fun k hk => by have := hk.2; simp; omega)⟩
              clear hx9 hx10 r3 r4 hp' HV HU
              go_wp2_with fail
              rw [hW4.out, hg4.out]
              refine region_items extFrm [(0, .take), (1, .take), (2, .take), (3, .take), (4, .take), (5, .take), (8, .take), (6, .run), (7, .run), (9, .run), (10, .take), (11, .take), (12, .take)] (by kernel_rfl) (by kernel_rfl) ?_
              simp only [itemsOf, List.getD_cons_zero, List.getD_cons_succ]
              have HC := Lib.hid (fun W' (h : Ext W4.drew W') => And.intro (H4.out.1.ext (Ext.trans (ext_drew _) h)).cell (hB0.out.ext (Ext.trans H4.out.2.1 (Ext.trans (ext_drew _) h))).cell)
              have hxd := Lib.hid (ext_drew W4)
              generalize W4.drew = W5 at *
              repeat (apply item_take; rfl; rfl; rfl; rfl; exact fun _ _ _ _ h => h; (intro W hE K hK; have q := HC.out W hE; go_simp; exact hK))
              have hcfit := pCode_fit HP.out.2.1 hlen.out
              have hcf := hlen.out
              have hrk := read_key_len HP.out.2.1
              apply item_run; rfl; intro K hK; go_simp
              refine (lawsPlainCode_calls n' ls' (toIL l') b1 b2 m1 m2 d1 d2 (fun k => k < W4.heap.size) W5 (Lay.fr H4.out.2.2.1 hxd.out (fun k hk => ⟨hk, fun h => h⟩)) (Lay.fr H4.out.2.2.2 hxd.out (fun k hk => ⟨hk, fun h => h⟩)) (fun k hk => Nat.lt_of_lt_of_le hk hxd.out.size) (by omega) (by rw [toIL_len]; omega) (toIL_fit hcfit.2.2)).mono ?_
              rintro e w10 ⟨y1, y2, y3, z1, z2, z3, rfl, r1, r2, hx11⟩
              refine hK _ _ hx11 ?_
              have H6 := Lib.hid (And.intro r1 (And.intro r2 (Ext.trans hxd.out hx11)))
              clear hK K r1 r2 hx11
              apply item_run; rfl; intro K hK; go_simp
              refine (CodeKey_calls n' ls' (toIL l') y1 z1 y2 z2 y3 z3 _ w10 H6.out.1 H6.out.2.1 (fun k hk => hk.2) (by show _ ≤ 70368744177664; omega)).mono ?_
              rintro e w11 ⟨rfl, hx12⟩
              refine hK _ _ hx12 ?_
              have H7 := Lib.hid (Ext.trans H4.out.2.1 (Ext.trans H6.out.2.2 hx12))
              clear hK K hx12 hcfit hrk hcf
              apply item_run; rfl; intro K hK; go_simp
              obtain ⟨r1, r2, r3⟩ := HR.out _ (Ext.trans hx0.out H7.out)
              refine (CodeKey_calls n ls' l a1 a2 ls'.length l.length c1 c2 _ w11 r1 r2 r3 HL.out.2.2.2).mono ?_
              rintro e w12 ⟨rfl, hx13⟩
              refine hK _ _ hx13 ?_
              rw [HP.out.2.2]
              have H8 := Lib.hid (Ext.trans H7.out hx13)
              clear hK K hx13 r1 r2 r3 HC
              repeat (apply item_take; rfl; rfl; rfl; rfl; exact fun _ _ _ _ h => h; (intro W hE K hK; go_simp; exact hK))
              apply items_done
              go_wp2
              go_ret
              exact ⟨rfl, Ext.trans hx0.out H8.out⟩
            · rw [HP.out.2.1] at hp'; cases hp'
          · have hvn : ((v0 : Int) != 0) = true := by rw [bne_iff_ne]; omega
            go_wp2
            go_ret
            exact ⟨rfl, Ext.trans hx0.out hX6.out⟩
      | false =>
        go_wp2
        go_ret
        exact ⟨rfl, Ext.trans hx0.out hX3.out⟩
    · have hb : decide ((countL l : Int) ≤ 65536) = false := decide_eq_false hroom
      rw [hb]
      clear hb hroom
      go_wp2
      go_ret
      exact ⟨rfl, Ext.trans hx0.out hX2.out⟩
  · have hb : (decide (ls.length ≤ 2147483647) && decide (l.length ≤ 2147483647)) = false := by
      rw [Bool.and_eq_false_iff]
      by_cases h : ls.length ≤ 2147483647
      · exact .inr (decide_eq_false (fun h' => hfit ⟨h, h'⟩))
      · exact .inl (decide_eq_false h)
    rw [hb]
    clear hb hfit
    go_wp2
    go_ret
    exact ⟨rfl, Ext.trans hx0.out hX1.out⟩
end Go.Proofs.YtkbadfljmbeciaaGreatDoor
