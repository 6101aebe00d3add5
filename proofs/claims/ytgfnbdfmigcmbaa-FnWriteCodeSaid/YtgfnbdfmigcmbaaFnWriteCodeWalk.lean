/- The walk of FnWriteCode: a code entry is written as the reference says. -/
import Derived.Test.YtgfnbdfmigcmbaaCodeFacts
import Derived.Test.YtgfnbdfmigcmbaaGivenCode
namespace Go.Proofs.Ytgfnbdfmigcmbaa
open Go.RowKit
theorem convW {lo : Nat} {w : World} {v : Value} {l : List UInt8} (h : OwnB lo w v l) : ∀ W, Ext w W → (convert 29 9 v).run Try.prog W = .ok (.string (strOf l)) W :=
  conv_str h.slice (fun _ hk => hk.2) _ _ 5 Try.underlying29 Try.underlying5 Try.underlying9
set_option maxRecDepth 100000 in
set_option maxHeartbeats 4000000 in
theorem FnWriteCode_calls (n : Nat) (ls : List (UInt32 × Int)) (l : List Ins) (a1 a2 : Option Addr) (n1 n2 c1 c2 : Nat) (w : World) (h1 : Lay.loc.slice.rd (fun k => k < w.heap.size) w [.slice a1 n1 c1] ls) (h2 : (Lay.ins n).slice.rd (fun k => k < w.heap.size) w [.slice a2 n2 c2] l) :
    Calls Try.prog 3 #[.agg #[.slice a1 n1 c1, .slice a2 n2 c2]] w fun e w' => e = .returned (.bool true) ∧ Ext w w' := by
  obtain ⟨a', c', e, hlc, hcm⟩ := Lay.slice_form h1
  obtain ⟨rfl, rfl, rfl⟩ : a1 = a' ∧ n1 = ls.length ∧ c1 = c' := by simpa using e
  clear e hlc hcm
  obtain ⟨a', c', e, hlc, hcm⟩ := Lay.slice_form h2
  obtain ⟨rfl, rfl, rfl⟩ : a2 = a' ∧ n2 = l.length ∧ c2 = c' := by simpa using e
  have HR := Lib.hid (fun W (h : Ext w W) => And.intro (Lay.fr h1 h (fun k hk => ⟨hk, fun h => h⟩)) (And.intro (Lay.fr h2 h (fun k hk => ⟨hk, fun h => h⟩)) (fun k (hk : k < w.heap.size) => Nat.lt_of_lt_of_le hk h.size)))
  clear h1 h2 hlc hcm e
  go_enter Try.func3, Try.ntmps3
  go_wp2_with fail
  have hx0 := Lib.hid (ext_alloc w (.cells #[.slice a1 ls.length c1, .slice a2 l.length c2] 25))
  have hB0 := Lib.hid (blk_new w #[.slice a1 ls.length c1, .slice a2 l.length c2] 25)
  generalize (w.alloc (.cells #[.slice a1 ls.length c1, .slice a2 l.length c2] 25)) = W0 at *
  refine (zzFits13_calls ls.length l.length c1 c2 a1 a2 W0).mono ?_
  rintro e w1 ⟨rfl, hx1⟩
  have hX1 := Lib.hid hx1
  have hcB := (hB0.out.ext hx1).cell
  clear hx1
  by_cases hfit : ls.length ≤ 2147483647 ∧ l.length ≤ 2147483647
  · have hb : (decide (ls.length ≤ 2147483647) && decide (l.length ≤ 2147483647)) = true := by simp [hfit.1, hfit.2]
    rw [hb]
    have hfit := Lib.hid hfit
    clear hb
    go_wp2_with fail
    obtain ⟨r1, r2, r3⟩ := HR.out _ (Ext.trans hx0.out hX1.out)
    refine (RoomCode_calls n l _ 65536 a2 l.length c2 _ w1 r2 r3 (by decide) (by decide)).mono ?_
    rintro e w2 ⟨rfl, hx2⟩
    have hX2 := Lib.hid (Ext.trans hX1.out hx2)
    clear hcB r1 r2 r3 hx2
    have hcB := (hB0.out.ext hX2.out).cell
    by_cases hroom : (countL l : Int) ≤ 65536
    · have hb : decide ((countL l : Int) ≤ 65536) = true := decide_eq_true hroom
      rw [hb]
      have hroom := Lib.hid (show countL l ≤ 65536 by omega)
      clear hb
      go_wp2_with fail
      obtain ⟨r1, r2, r3⟩ := HR.out _ (Ext.trans hx0.out hX2.out)
      refine (LegalCode_calls n ls l a1 a2 ls.length l.length c1 c2 _ w2 r1 r2 r3).mono ?_
      rintro e w3 ⟨rfl, hx3⟩
      have hX3 := Lib.hid (Ext.trans hX2.out hx3)
      clear hcB r1 r2 r3 hx3
      have hcB := (hB0.out.ext hX3.out).cell
      cases hleg : legalCode ls l with
      | true =>
        have hleg := Lib.hid hleg
        go_wp2_with fail
        obtain ⟨hty, hl0⟩ := legal_locs hleg.out
        obtain ⟨k1, k2⟩ := codeKey_len (ls := ls) hl0 hroom.out hfit.out.1
        obtain ⟨r1, r2, r3⟩ := HR.out _ (Ext.trans hx0.out hX3.out)
        refine (CodeKey_calls n ls l a1 a2 ls.length l.length c1 c2 _ w3 r1 r2 r3 k1).mono ?_
        rintro e w4 ⟨rfl, hx4⟩
        have hX4 := Lib.hid (Ext.trans hX3.out hx4)
        have HL := Lib.hid (And.intro hty (And.intro hl0 k2))
        clear hcB r1 r2 r3 hx4 hty hl0 k1 k2
        have hcB := (hB0.out.ext hX4.out).cell
        have hsk := strOf_size (codeKey ls l)
        generalize strOf (codeKey ls l) = sk at *
        clear hsk
        by_cases hlong : 65536 < sk.size
        · have hd : decide ((65536 : Int) < (sk.size : Int)) = true := decide_eq_true (by omega)
          go_wp2
          go_ret
          exact ⟨rfl, Ext.trans hx0.out hX4.out⟩
        · have hd : decide ((65536 : Int) < (sk.size : Int)) = false := decide_eq_false (by omega)
          go_wp2_with fail
          clear hd hlong
          obtain ⟨r1, r2, r3⟩ := HR.out _ (Ext.trans hx0.out hX4.out)
          obtain ⟨f1, f2, f3, f4, f5⟩ := legal_factsL l 0 HL.out.2.1 hroom.out
          have hcl := count_len l
          refine (givenCode_calls n ls l a1 a2 ls.length l.length c1 c2 _ w4 r1 r2 r3 (by have := hfit.out.1; omega) (by have := hroom.out; omega) f1).mono ?_
          rintro e w5 ⟨b1, m1, d1, b2, m2, d2, rfl, g1, g2, hx5⟩
          have hX5 := Lib.hid (Ext.trans hX4.out hx5)
          have HG := Lib.hid (And.intro g1 (And.intro g2 (And.intro f1 (And.intro f2 (codeEnc_eq (ls := ls) HL.out.2.1 hroom.out)))))
          have hcl := Lib.hid hcl
          clear hcB r1 r2 r3 hx5 g1 g2 f1 f2 f3 f4 f5
          have hcB := (hB0.out.ext hX5.out).cell
          go_wp2_with fail
          refine (WriteCode_calls n ls l b1 b2 m1 m2 d1 d2 _ w5 HG.out.1 HG.out.2.1 (fun k hk => hk.2) (by have := hfit.out.1; omega) HL.out.1 HG.out.2.2.2.1 (by have := hroom.out; have := hcl.out; omega) HG.out.2.2.1 (by rw [HG.out.2.2.2.2]; exact HL.out.2.2)).mono ?_
          rintro e w6 ⟨v, rfl, hv, hx6⟩
          rw [HG.out.2.2.2.2] at hv
          have hX6 := Lib.hid (Ext.trans hX5.out hx6)
          obtain ⟨v1, v2, v3, rfl⟩ := hv.shape
          have HV := Lib.hid hv
          clear hcB hx6 hv
          go_wp2_with fail
          refine region_items extFrm [(0, .take), (1, .take), (2, .take), (3, .take), (4, .take), (5, .run), (6, .take), (7, .take), (8, .take), (9, .take)] (by kernel_rfl) (by kernel_rfl) ?_
          simp only [itemsOf, List.getD_cons_zero, List.getD_cons_succ]
          have HC := Lib.hid (fun W' (h : Ext w6.drew W') => And.intro ((hB0.out.ext (Ext.trans hX6.out (Ext.trans (ext_drew _) h))).cell) (convW HV.out W' (Ext.trans (ext_drew _) h)))
          have hX7 := Lib.hid (Ext.trans hX6.out (ext_drew w6))
          generalize w6.drew = W7 at *
          repeat (apply item_take; rfl; rfl; rfl; rfl; exact fun _ _ _ _ h => h; (intro W hE K hK; have q := HC.out W hE; go_simp; exact hK))
          apply item_run; rfl; intro K hK; go_simp
          obtain ⟨r1, r2, r3⟩ := HR.out _ (Ext.trans hx0.out hX7.out)
          refine (CodeBytes_calls n ls l a1 a2 ls.length l.length c1 c2 _ W7 r1 r2 r3 HL.out.1 HL.out.2.2).mono ?_
          rintro e w8 ⟨u, rfl, hu, hx8⟩
          refine hK _ _ hx8 ?_
          have hX8 := Lib.hid (Ext.trans hX7.out hx8)
          have C8 := Lib.hid (convW hu)
          obtain ⟨u1, u2, u3, rfl⟩ := hu.shape
          clear hK K r1 r2 r3 hu hx8 HC
          repeat (apply item_take; rfl; rfl; rfl; rfl; exact fun _ _ _ _ h => h; (intro W hE K hK; have q := C8.out W hE; go_simp; exact hK))
          apply items_done
          go_wp2
          go_ret
          exact ⟨rfl, Ext.trans hx0.out hX8.out⟩
      | false =>
        go_wp2
        go_ret
        exact ⟨rfl, Ext.trans hx0.out hX3.out⟩
    · have hb : decide ((countL l : Int) ≤ 65536) = false := decide_eq_false hroom
      rw [hb]
      clear hb hroom
      go_wp2
      go_ret
      exact ⟨rfl, Ext.trans hx0.out hX2.out⟩
  · have hb : (decide (ls.length ≤ 2147483647) && decide (l.length ≤ 2147483647)) = false := by
      rw [Bool.and_eq_false_iff]
      by_cases h : ls.length ≤ 2147483647
      · exact .inr (decide_eq_false (fun h' => hfit ⟨h, h'⟩))
      · exact .inl (decide_eq_false h)
    rw [hb]
    clear hb hfit
    go_wp2
    go_ret
    exact ⟨rfl, Ext.trans hx0.out hX1.out⟩
end Go.Proofs.Ytgfnbdfmigcmbaa
