/- Texts of this proof, one behind the other. -/
import Derived.Test.YtejgninpjhcgnaaGreatDoorPart9
import Derived.Deep.Cut
import Derived.Deep.CutRange
namespace Go.Proofs.YtejgninpjhcgnaaGreatDoor
open Go.RowKit
set_option linter.unusedSimpArgs false
set_option linter.unusedVariables false
set_option maxRecDepth 100000
set_option maxHeartbeats 4000000
theorem zeK (n : Nat) : ∀ (l : List Ins) (d : Int) (aa : Option Addr) (m c : Nat) (A : Nat → Prop) (w : World), (Lay.ins n).slice.rd A w [.slice aa m c] l → (∀ k, A k → k < w.heap.size) → 0 ≤ d → d ≤ 101 →
 Calls Tryz.prog 69 #[.slice aa m c, .int .i64 d] w fun e w' => e = .returned (.bool (yi d l)) ∧ Ext w w' := by
 induction n using Nat.strongRecOn with
 | ind n ih =>
  intro l d aa m c A w hR hA h0 h1
  obtain ⟨a', c', e, ce, bh⟩ := Lay.slice_form hR
  obtain ⟨rfl, rfl, rfl⟩ : aa = a' ∧ m = l.length ∧ c = c' := by simpa using e
  have ao : (l.length : Int) ≤ 9223372036854775807 := by simp only [maxLen] at bh; omega
  have H := qh (anQ hR (anQ hA ih))
  clear hR hA ih ce bh e
  go_enter Tryz.func69, Tryz.ntmps69
  go_wp2_with fail
  go_loopw [14] (fun pM w' => ∃ (i : Nat), i ≤ l.length ∧ pM = .int .i64 i ∧ Hd (yi d (l.take i) = true) ∧ Hd (Ext w w')) (fun pM _ => l.length - (intOf pM).toNat)
  case atStart => exact ⟨0, nzQ _, rfl, by show _ = _; simp [yi], Fr.refl _ _⟩
  case round =>
   obtain ⟨i, hi, rfl, hL, hF⟩ := hrel
   by_cases ah : i < l.length
   ·obtain ⟨hR, hA, ih⟩ := H.o
    have eM := Lay.fr hR hF.o (fun k hk => ⟨hA k hk, fun h => h⟩)
    obtain ⟨k, b, o, a1, n1, c1, a2, n2, c2, rfl, rfl, eH, e0, e1, e2, e3, e4, em, el, aY, bi⟩ := Lay.ins_at eM i ah
    have eW := qh (fun h => zgz (d := d) ah h)
    have iS := qh (fun h => zeh (d := d) ah hL.o h)
    generalize l[i] = x at *
    obtain ⟨op, args, st, ty, body⟩ := x
    simp only [Ins.op, Ins.args, Ins.st, Ins.ty, Ins.body] at *
    obtain ⟨nF, og, iQ, gI, eI⟩ := Lay.slice_form aY
    obtain ⟨rfl, rfl, rfl⟩ : a1 = nF ∧ n1 = args.length ∧ c1 = og := by simpa using iQ
    obtain ⟨qF, pX, mM, km, ev⟩ := Lay.slice_form bi
    obtain ⟨rfl, rfl, rfl⟩ : a2 = qF ∧ n2 = body.length ∧ c2 = pX := by simpa using mM
    have HR := qh (anQ aY (anQ bi (anQ hA ih)))
    clear hR hA ih eM aY bi eH iQ mM gI eI km ev em el
    by_cases hS : op = 2 ∨ op = 3 ∨ op = 4
    ·by_cases hst : st = true
     ·subst hst
      by_cases hd : 100 < d
      ·have hN := qh (eW.o (zbf hd))
       have uk : decide (100 < d) = true := decide_eq_true hd
       clear eW iS HR
       rcases hS with rfl | rfl | rfl
       all_goals
        go_wp2
        go_ret
        exact ⟨by rw [hN.o]; rfl, hF.o.alloc _⟩
      ·have uk : decide (100 < d) = false := decide_eq_false hd
       have cZ := qh (zh0 (args := args) (ty := ty) (body := body) hS (by omega : d ≤ 100))
       by_cases ha : 0 < args.length
       ·have hN : Hd (yi d l = false) := eW.o (by rw [cZ.o, decide_eq_false (by omega : ¬ args.length = 0)]; rfl)
        have Ar : decide ((0:Int) < (args.length : Int)) = true := decide_eq_true (by omega)
        clear eW iS HR cZ
        rcases hS with rfl | rfl | rfl
        all_goals
         go_wp2
         go_ret
         exact ⟨by rw [hN.o]; rfl, hF.o.alloc _⟩
       ·have Ar : decide ((0:Int) < (args.length : Int)) = false := decide_eq_false (by omega)
        by_cases ht : ty < -1
        ·have hN : Hd (yi d l = false) := eW.o (by rw [cZ.o, decide_eq_false (by omega : ¬ -1 ≤ ty), Bool.and_false]; rfl)
         have AL : decide (ty < -1) = true := decide_eq_true ht
         clear eW iS HR cZ
         rcases hS with rfl | rfl | rfl
         all_goals
          go_wp2
          go_ret
          exact ⟨by rw [hN.o]; rfl, hF.o.alloc _⟩
        ·have AL : decide (ty < -1) = false := decide_eq_false ht
         by_cases ht3 : 3 < ty
         ·have hN : Hd (yi d l = false) := eW.o (by rw [cZ.o, decide_eq_false (by omega : ¬ ty ≤ 3), Bool.and_false]; rfl)
          have vX : decide (3 < ty) = true := decide_eq_true ht3
          clear eW iS HR cZ
          rcases hS with rfl | rfl | rfl
          all_goals
           go_wp2
           go_ret
           exact ⟨by rw [hN.o]; rfl, hF.o.alloc _⟩
         ·have vX : decide (3 < ty) = false := decide_eq_false ht3
          have fI : Hd (Jb d (.mk op args true ty body) = yi (d + 1) body) := by
           show _ = _
           rw [cZ.o, decide_eq_true (by omega : args.length = 0), decide_eq_true (by omega : -1 ≤ ty), decide_eq_true (by omega : ty ≤ 3)]; rfl
          clear cZ
          rcases hS with rfl | rfl | rfl
          all_goals
           go_wp2_with fail
           obtain ⟨aY, bi, hA, ih⟩ := HR.o
           refine (ih k (by omega) body (d + 1) a2 body.length c2 A _ (Lay.fr bi (za _ _) (fun k hk => ⟨nqQ (hA k hk) hF.o.size, fun h => h⟩)) (fun k hk => nqQ (hA k hk) (hF.o.alloc _).size) (by omega) (by omega)).mono ?_
           rintro e w2 ⟨rfl, hx⟩
           have lv := qh (Ext.trans (hF.o.alloc _) hx)
           clear aY bi hA ih hx
           cases hb : yi (d + 1) body with
           | true =>
            have hT := qh (iS.o (fI.o.trans hb))
            clear hb fI eW iS HR
            go_wp2
            go_roundw
            case rel => exact ⟨i + 1, by omega, by go_num, hT, lv⟩
            case measure => simp [intOf]; omega
           | false =>
            have hN := qh (eW.o (fI.o.trans hb))
            clear hb fI eW iS HR
            go_wp2
            go_ret
            exact ⟨by rw [hN.o]; rfl, lv.o⟩
     ·have hN := qh (eW.o (zdm (by rw [zei hS]; exact hst)))
      obtain rfl : st = false := by simpa using hst
      clear eW iS HR
      rcases hS with rfl | rfl | rfl
      all_goals
       go_wp2
       go_ret
       exact ⟨by rw [hN.o]; rfl, hF.o.alloc _⟩
    ·have q2 : (op == 2) = false := beq_eq_false_iff_ne.2 (fun h => hS (.inl h))
     have q3 : (op == 3) = false := beq_eq_false_iff_ne.2 (fun h => hS (.inr (.inl h)))
     have q4 : (op == 4) = false := beq_eq_false_iff_ne.2 (fun h => hS (.inr (.inr h)))
     by_cases hst : st = true
     ·have hN := qh (eW.o (zdm (by rw [ziN hS, hst]; decide)))
      subst hst
      clear eW iS HR hS
      go_wp2
      go_ret
      exact ⟨by rw [hN.o]; rfl, hF.o.alloc _⟩
     ·obtain rfl : st = false := by simpa using hst
      by_cases hd : 100 < d
      ·have hN := qh (eW.o (zbf hd))
       have uk : decide (100 < d) = true := decide_eq_true hd
       clear eW iS HR hS hst
       go_wp2
       go_ret
       exact ⟨by rw [hN.o]; rfl, hF.o.alloc _⟩
      ·have uk : decide (100 < d) = false := decide_eq_false hd
       have p7 := qh (fun hk => zek (args := args) (ty := ty) (body := body) hS (by omega : d ≤ 100) hk)
       have cZ := qh (fun ks hk => zej (ks := ks) (args := args) (ty := ty) (body := body) hS (by omega : d ≤ 100) hk)
       clear hS hst
       go_wp2_with fail
       refine (ZY op _).mono ?_
       rintro e w2 ⟨v, rfl, hv, hx⟩
       have lv := qh (Ext.trans (hF.o.alloc _) hx)
       have hB := (zk wr #[.int .i64 op, .slice a1 args.length c1, .bool false, .int .i64 ty, .slice a2 body.length c2] 76).ext hx
       have ag := hB.cell
       obtain ⟨a3, c3, rfl, -, -⟩ := Lay.slice_form hv
       cases hk : z4 op with
       | none =>
        have hN := qh (eW.o (p7.o hk))
        rw [hk] at hv
        clear eW iS HR p7 cZ hv hx hB hk
        go_wp2
        go_ret
        exact ⟨by rw [hN.o]; rfl, lv.o⟩
       | some ks =>
        rw [hk] at hv
        replace cZ := qh (cZ.o ks hk)
        clear p7
        simp only [Option.isSome_some, Option.getD_some] at *
        by_cases hl : ks.length = args.length
        ·have xQ := qh hl
         rw [hl] at hv ⊢
         clear hl
         have m6 := Lay.fr HR.o.1 (Ext.trans (za _ _) hx) (fun k hk => ⟨by have := HR.o.2.2.1 k hk; have := hF.o.size; omega, fun h => h⟩)
         have kQ := qh (fun k hk => nqQ (HR.o.2.2.1 k hk) lv.o.size)
         have HV := qh (anQ hv m6)
         clear hv m6 hx hk HR
         by_cases ht : ty = 0
         ·subst ht
          by_cases dG : 0 < body.length
          ·have hN : Hd (yi d l = false) := eW.o (by rw [cZ.o, decide_eq_false (by omega : ¬ body.length = 0), Bool.and_false])
           have kW : decide ((0:Int) < (body.length : Int)) = true := decide_eq_true (by omega)
           clear eW iS cZ
           go_wp2
           go_ret
           exact ⟨by rw [hN.o]; rfl, lv.o⟩
          ·have kW : decide ((0:Int) < (body.length : Int)) = false := decide_eq_false (by omega)
           have fI : Hd (Jb d (.mk op args false 0 body) = Jn ks args) := by
            show _ = _
            rw [cZ.o, decide_eq_true (by omega : body.length = 0)]; simp
           have qS : (args.length : Int) ≤ 9223372036854775807 := by
            obtain ⟨_, _, e, h1, h2⟩ := Lay.slice_form HV.o.2
            simp only [maxLen] at h2; omega
           clear cZ
           go_wp2_with fail
           go_loopw [92] (fun qP w' => ∃ (j : Nat), j ≤ args.length ∧ qP = .int .i64 j ∧ Hd (∀ (t : Nat) (h : t < ks.length) (h' : t < args.length), t < j → zaU ks[t] args[t] = true) ∧ Hd (Ext w2 w')) (fun qP _ => args.length - (intOf qP).toNat)
           case atStart => exact ⟨0, nzQ _, rfl, fun t _ _ h => absurd h (Nat.not_lt_zero _), Fr.refl _ _⟩
           case round =>
            obtain ⟨j, hj, rfl, hJ, hX⟩ := hrel
            by_cases ep : j < args.length
            ·have rn := xQ.o
             have ob : j < ks.length := by omega
             obtain ⟨b3, o3, rfl, mp, g0, g1, uB, uq⟩ := zdn (Lay.fr HV.o.2 hX.o (fun k hk => ⟨kQ.o k hk, fun h => h⟩)) j ep
             have gq := Lay.fr HV.o.1 hX.o (fun k hk => ⟨hk.2, fun h => h⟩)
             rw [← rn] at gq
             obtain ⟨b4, o4, rfl, D2, g2, Ec, CH⟩ := zbX gq j ob
             have ou : Hd (zaU ks[j] args[j] = true → ∀ (t : Nat) (h : t < ks.length) (h' : t < args.length), t < j + 1 → zaU ks[t] args[t] = true) := by
              intro h0 t h h' ht
              rcases Nat.lt_or_ge t j with h1 | h1
              ·exact hJ.o t h h' h1
              ·obtain rfl : t = j := by omega
               exact h0
             have nD : Hd (zaU ks[j] args[j] = false → yi d l = false) := fun h0 => eW.o (by
              rw [fI.o]
              cases h : Jn ks args with
              | false => rfl
              | true => rw [(Y3 ks args rn).1 h j ob ep] at h0; cases h0)
             have El := (hB.ext hX.o).cell
             have nG := qh (anQ hX.o lv.o)
             clear hX ag
             generalize args[j] = aq at *
             obtain ⟨av, ab⟩ := aq
             generalize ks[j] = kj at *
             simp only [] at g0 g1 uB uq
             have ck : Hd (zaU kj (av, ab) = (decide (av = kj) && !(decide (kj = 5) && decide (255 < ab.toNat)) && !((decide (kj = 0) || decide (kj = 2) || decide (kj = 3)) && decide (4294967295 < ab.toNat)))) := rfl
             generalize zaU kj (av, ab) = ok at *
             generalize ab.toNat = bits at *
             have g3 : ∀ o', (wr.alloc o').cell? ⟨b4, o4 + j, none⟩ = some (.int .i64 kj) := fun o' => (za wr o').cell g2 (fun h => h)
             clear gq hJ rn ob mp D2 uB uq Ec CH eW iS HV kQ xQ hB
             by_cases hkk : av = kj
             ·subst hkk
              have p1 : (av != av) = false := by simp
              by_cases h5 : av = 5
              ·subst h5
               by_cases lz : 255 < bits
               ·have p2 : decide ((255:Int) < (bits : Int)) = true := decide_eq_true (by omega)
                have hN : Hd (yi d l = false) := nD.o (by rw [ck.o, decide_eq_true lz]; rfl)
                clear ck ou nD
                go_wp2_with fail
                go_quiet (fail)
                go_wp2
                go_ret
                exact ⟨by rw [hN.o]; rfl, (Ext.trans nG.o.2 ((nG.o.1).alloc _)).drewN _⟩
               ·have p2 : decide ((255:Int) < (bits : Int)) = false := decide_eq_false (by omega)
                have hT := qh (ou.o (by rw [ck.o, decide_eq_false lz]; rfl))
                clear ck ou nD
                go_wp2_with fail
                go_quiet (fail)
                go_wp2
                go_roundw
                case rel => exact ⟨j + 1, by omega, by go_num, hT, ((nG.o.1).alloc _).drewN _⟩
                case measure => simp [intOf]; omega
              ·have p5 : (av == 5) = false := beq_eq_false_iff_ne.2 h5
               by_cases h023 : av = 0 ∨ av = 2 ∨ av = 3
               ·by_cases lz : 4294967295 < bits
                ·have p2 : decide ((4294967295:Int) < (bits : Int)) = true := decide_eq_true (by omega)
                 have hN : Hd (yi d l = false) := nD.o (by rw [ck.o, decide_eq_true lz, decide_eq_false h5]; rcases h023 with rfl | rfl | rfl <;> rfl)
                 clear ck ou nD
                 rcases h023 with rfl | rfl | rfl
                 all_goals
                  go_wp2_with fail
                  go_quiet (fail)
                  go_wp2
                  go_ret
                  exact ⟨by rw [hN.o]; rfl, (Ext.trans nG.o.2 ((nG.o.1).alloc _)).drewN _⟩
                ·have p2 : decide ((4294967295:Int) < (bits : Int)) = false := decide_eq_false (by omega)
                 have hT := qh (ou.o (by rw [ck.o, decide_eq_false lz, decide_eq_false h5]; rcases h023 with rfl | rfl | rfl <;> rfl))
                 clear ck ou nD
                 rcases h023 with rfl | rfl | rfl
                 all_goals
                  go_wp2_with fail
                  go_quiet (fail)
                  go_wp2
                  go_roundw
                  case rel => exact ⟨j + 1, by omega, by go_num, hT, ((nG.o.1).alloc _).drewN _⟩
                  case measure => simp [intOf]; omega
               ·have p0 : (av == 0) = false := beq_eq_false_iff_ne.2 (fun h => h023 (.inl h))
                have p2 : (av == 2) = false := beq_eq_false_iff_ne.2 (fun h => h023 (.inr (.inl h)))
                have p3 : (av == 3) = false := beq_eq_false_iff_ne.2 (fun h => h023 (.inr (.inr h)))
                have hT := qh (ou.o (by rw [ck.o, decide_eq_false h5, decide_eq_false (fun h => h023 (.inl h)), decide_eq_false (fun h => h023 (.inr (.inl h))), decide_eq_false (fun h => h023 (.inr (.inr h)))]; simp))
                clear ck ou nD h5 h023
                go_wp2_with fail
                go_quiet (fail)
                go_wp2
                go_roundw
                case rel => exact ⟨j + 1, by omega, by go_num, hT, ((nG.o.1).alloc _).drewN _⟩
                case measure => simp [intOf]; omega
             ·have p1 : (av != kj) = true := by simpa using hkk
              have hN : Hd (yi d l = false) := nD.o (by rw [ck.o, decide_eq_false hkk]; rfl)
              clear hkk ck ou nD
              go_wp2_with fail
              go_quiet (fail)
              go_wp2
              go_ret
              exact ⟨by rw [hN.o]; rfl, (Ext.trans nG.o.2 ((nG.o.1).alloc _)).drewN _⟩
            ·obtain rfl : j = args.length := by omega
             have hT : Hd (yi d (l.take (i + 1)) = true) := iS.o (by
              rw [fI.o]
              exact (Y3 ks args xQ.o).2 (fun t h h' => hJ.o t h h' h'))
             have De := qh (Ext.trans lv.o hX.o)
             go_wp2
             go_roundw
             case rel => exact ⟨i + 1, by omega, by go_num, hT, De⟩
             case measure => simp [intOf]; omega
         ·have AL : (ty != 0) = true := by simpa using ht
          have hN : Hd (yi d l = false) := eW.o (by rw [cZ.o, decide_eq_false ht, Bool.and_false]; rfl)
          clear eW iS cZ ht
          go_wp2
          go_ret
          exact ⟨by rw [hN.o]; rfl, lv.o⟩
        ·have hN : Hd (yi d l = false) := eW.o (by
          rw [cZ.o]
          cases h : Jn ks args with
          | false => rfl
          | true => exact absurd (zbZ h) hl)
         have Ce : (ks.length != args.length) = true := by simpa using hl
         clear eW iS HR cZ hv hx hB hk
         go_wp2
         go_ret
         exact ⟨by rw [hN.o]; rfl, lv.o⟩
   ·obtain rfl : i = l.length := by omega
    have hd : yi d l = true := by have := hL.o; rwa [tlQ] at this
    have hd := qh hd
    go_wp2
    go_ret
    exact ⟨by rw [hd.o]; rfl, hF.o⟩
def Ans (P : Prop) (w : World) (e : Ending) (w' : World) : Prop := ∃ b : Bool, e = .returned (.bool b) ∧ (b = true → P) ∧ Ext w w'
variable {P : Prop} {w w' : World}
theorem Ans.no (h : Ext w w') : Ans P w (.returned (.bool false)) w' := ⟨_, rfl, fun h => (by cases h), h⟩
theorem Ans.yes (p : P) (h : Ext w w') : Ans P w (.returned (.bool true)) w' := ⟨_, rfl, fun _ => p, h⟩
theorem ZI (l : List Int) (aa : Option Addr) (c : Nat) (A : Nat → Prop) (w : World) (h : Lay.int.slice.rd A w [.slice aa l.length c] l) (hA : ∀ k, A k → k < w.heap.size) :
 Calls Tryz.prog 40 #[.slice aa l.length c] w (Ans (l.all vtOk = true) w) := by
 have ao : (l.length : Int) ≤ 9223372036854775807 := by obtain ⟨_, _, _, h1, h2⟩ := Lay.slice_form h; simp only [maxLen] at h2; omega
 have H := qh (anQ h hA)
 clear h hA
 go_enter Tryz.func40, Tryz.ntmps40
 go_wp2_with fail
 go_loopw [4, 7] (fun s4 s7 w' => ∃ i : Nat, i ≤ l.length ∧ s7 = .int .i64 i ∧ Hd (Ext w w' ∧ (l.take i).all vtOk = true)) (fun s4 s7 _ => l.length - (intOf s7).toNat)
 case atStart => exact ⟨0, nzQ _, rfl, Fr.refl _ _, rfl⟩
 case round =>
  obtain ⟨i, hi, rfl, hX⟩ := hrel
  by_cases ah : i < l.length
  ·obtain ⟨b, o, rfl, -, e0, -, -⟩ := zbX (Lay.fr H.o.1 hX.o.1 (fun k hk => ⟨H.o.2 k hk, fun q => q⟩)) i ah
   have aX := qh (show l.take (i + 1) = _ from tsQ ah)
   generalize l[i] = x at *
   by_cases h1 : x < 0
   ·go_wp2
    go_ret
    exact Ans.no hX.o.1
   by_cases h2 : 3 < x
   ·go_wp2
    go_ret
    exact Ans.no hX.o.1
   have HN : Hd (Ext w wr ∧ (l.take (i + 1)).all vtOk = true) := by
    refine ⟨hX.o.1, ?_⟩
    rw [aX.o, List.all_append, hX.o.2]
    simp only [List.all_cons, List.all_nil, Bool.and_true, Bool.true_and, vtOk, Bool.and_eq_true, decide_eq_true_eq]
    omega
   go_wp2
   go_roundw
   case rel => exact ⟨i + 1, by omega, by go_num, HN⟩
   case measure => simp [intOf]; omega
  ·obtain rfl : i = l.length := by omega
   have ai := hX.o
   rw [tlQ] at ai
   have ai := qh ai
   go_wp2
   go_ret
   exact Ans.yes ai.o.2 ai.o.1
theorem YU (x : Lim) (w : World) :
 Calls Tryz.prog 41 #[.agg #[.int .u32 (x.min.toNat : Int), .bool x.bounded, .int .u32 (x.max.toNat : Int)]] w (Ans (ZR x = true) w) := by
 obtain ⟨min, bd, max⟩ := x
 simp only
 cases bd with
 | true =>
  go_enter Tryz.func41, Tryz.ntmps41
  go_wp2
  go_ret
  exact Ans.yes rfl (za _ _)
 | false =>
  have hz := qh (show (max.toNat : Int) = 0 → ZR ⟨min, false, max⟩ = true from fun h => by
   have : max = 0 := UInt32.toNat_inj.1 (show max.toNat = 0 from by omega)
   subst this
   rfl)
  generalize ZR ⟨min, false, max⟩ = L at *
  by_cases h : (max.toNat : Int) = 0
  ·have rT := qh (hz.o h)
   have d : ((max.toNat : Int) == 0) = true := beq_iff_eq.2 h
   clear h
   go_enter Tryz.func41, Tryz.ntmps41
   go_wp2
   go_ret
   exact Ans.yes rT.o (za _ _)
  ·have d : ((max.toNat : Int) == 0) = false := by rw [beq_eq_false_iff_ne]; exact h
   clear h
   go_enter Tryz.func41, Tryz.ntmps41
   go_wp2
   go_ret
   exact Ans.no (za _ _)
theorem zaO (x y : Nam) (w : World) :
 Calls Tryz.prog 43 #[.agg #[.int .u32 (x.fn.toNat : Int), .int .u32 (x.idx.toNat : Int), .string (zc x.name)], .agg #[.int .u32 (y.fn.toNat : Int), .int .u32 (y.idx.toNat : Int), .string (zc y.name)]] w (Ans (y5 x y = true) w) := by
 obtain ⟨f, i, s⟩ := x
 obtain ⟨g, j, t⟩ := y
 simp only
 have hB : y5 ⟨f, i, s⟩ ⟨g, j, t⟩ = (decide (g.toNat < f.toNat) || (decide (f.toNat = g.toNat) && decide (j.toNat < i.toNat))) := by
  unfold y5
  simp only
  have : decide (f = g) = decide (f.toNat = g.toNat) := decide_eq_decide.2 UInt32.toNat_inj.symm
  rw [this]
 have hB := qh hB
 generalize y5 ⟨f, i, s⟩ ⟨g, j, t⟩ = B at *
 generalize f.toNat = a at *
 generalize g.toNat = b at *
 generalize i.toNat = c at *
 generalize j.toNat = d at *
 by_cases h1 : b < a
 ·have hR : Hd (B = true) := by show _ = _; rw [hB.o, decide_eq_true h1, Bool.true_or]
  have d1 : decide (b < a) = true := decide_eq_true h1
  clear h1 hB
  go_enter Tryz.func43, Tryz.ntmps43
  go_wp2
  go_ret
  exact Ans.yes (by first | exact hR.o | exact True.intro) (Ext.trans (za _ _) (za _ _))
 have d1 : decide (b < a) = false := decide_eq_false h1
 by_cases h2 : a = b
 ·subst h2
  by_cases h3 : d < c
  ·have hR : Hd (B = true) := by show _ = _; rw [hB.o, decide_eq_true (rfl : a = a), decide_eq_true h3, Bool.and_self, Bool.or_true]
   have d3 : decide (d < c) = true := decide_eq_true h3
   clear h1 h3 hB
   go_enter Tryz.func43, Tryz.ntmps43
   go_wp2
   go_ret
   exact Ans.yes (by first | exact hR.o | exact True.intro) (Ext.trans (za _ _) (za _ _))
  ·have d3 : decide (d < c) = false := decide_eq_false h3
   clear h1 h3 hB
   go_enter Tryz.func43, Tryz.ntmps43
   go_wp2
   go_ret
   exact Ans.no (Ext.trans (za _ _) (za _ _))
 ·have d2 : ((a : Int) == (b : Int)) = false := by rw [beq_eq_false_iff_ne]; omega
  have d4 : (a == b) = false := by rw [beq_eq_false_iff_ne]; omega
  have d5 : decide (a = b) = false := decide_eq_false h2
  clear h1 h2 hB
  go_enter Tryz.func43, Tryz.ntmps43
  go_wp2
  go_ret
  exact Ans.no (Ext.trans (za _ _) (za _ _))
theorem zfN (op : Int) (w : World) : Calls Tryz.prog 68 #[.int .i64 op] w fun e w' => e = .returned (.bool (decide (op = 65 ∨ op = 66 ∨ op = 67 ∨ op = 68))) ∧ w' = w := by
 by_cases h : op = 65 ∨ op = 66 ∨ op = 67 ∨ op = 68
 ·rcases h with rfl | rfl | rfl | rfl
  all_goals
   go_enter Tryz.func68, Tryz.ntmps68
   go_wp2
   go_ret
   exact ⟨rfl, rfl⟩
 ·have hr := qh (decide_eq_false h)
  have hh : (op == 65) = false ∧ (op == 66) = false ∧ (op == 67) = false ∧ (op == 68) = false := by
   simp only [beq_eq_false_iff_ne]
   omega
  obtain ⟨h1, h2, h3, h4⟩ := hh
  clear h
  go_enter Tryz.func68, Tryz.ntmps68
  go_wp2
  go_ret
  exact ⟨by rw [hr.o]; rfl, rfl⟩
theorem zfO (a : UInt64) : wrap64 (a.toNat : Int) = sgn a := by
 unfold wrap64 sgn
 omega
theorem Ans.of (b : Bool) (p : b = true → P) (h : Ext w w') : Ans P w (.returned (.bool b)) w' := ⟨_, rfl, p, h⟩
def zg9 : List (Int × UInt64) → Bool
 | a :: _ => decide (-134217728 ≤ sgn a.2)
 | [] => true
theorem zha (a : Int × UInt64) : zg9 [a] = decide (-134217728 ≤ sgn a.2) := by rw [zg9]
theorem zhb (x : Ins) : jK [x] = (decide (x.op = 65 ∨ x.op = 66 ∨ x.op = 67 ∨ x.op = 68) && yi 0 [x] && (decide (x.op ≠ 66) || zg9 x.args)) := by
 unfold jK
 simp only
 congr 2
theorem leg66 {x : Ins} (h : yi 0 [x] = true) (e : x.op = 66) : ∃ a, x.args = [a] := by
 obtain ⟨op, args, st, ty, body⟩ := x
 have e : op = 66 := e
 subst e
 simp only [yi, Jb, Bool.and_eq_true, Bool.and_true] at h
 have hk : z4 66 = some [1] := by decide
 have hs : yU 66 = false := by decide
 rw [hk, hs] at h
 simp only [Bool.false_eq_true, if_false, Bool.and_eq_true] at h
 have h2 := h.2.1.1
 cases args with
 | nil => simp [Jn] at h2
 | cons a t => cases t with
  | nil => exact ⟨a, rfl⟩
  | cons b u => simp [Jn] at h2
theorem JJ (n : Nat) (l : List Ins) (aa : Option Addr) (c : Nat) (A : Nat → Prop) (w : World) (h : (Lay.ins n).slice.rd A w [.slice aa l.length c] l) (hA : ∀ k, A k → k < w.heap.size) :
 Calls Tryz.prog 42 #[.slice aa l.length c] w (Ans (jK l = true) w) := by
 by_cases hl : l.length = 1
 ·obtain ⟨x, rfl⟩ := List.length_eq_one_iff.1 hl
  obtain ⟨k, b, o, a1, n1, c1, a2, n2, c2, rfl, rfl, eH, e0, e1, e2, e3, e4, -, -, aY, -⟩ := Lay.ins_at h 0 Nat.zero_lt_one
  simp only [Nat.zero_mul, Nat.add_zero, List.getElem_cons_zero] at e0 e1 e2 e3 e4 aY
  have H := qh (anQ h (anQ hA aY))
  have gu := qh (zhb x)
  generalize hQ : (jK [x] = true) = Q
  have hQ := qh hQ
  have tE := qh (leg66 (x := x))
  obtain ⟨op, lk⟩ := exQ (x.op)
  obtain ⟨args, BR⟩ : ∃ a, x.args = a := ⟨_, rfl⟩
  rw [lk] at e0 gu tE
  rw [BR] at gu aY H tE
  clear h hA aY e2 e3 e4 hl lk BR
  simp only [List.length_cons, List.length_nil]
  go_enter Tryz.func42, Tryz.ntmps42
  go_wp2_with fail
  refine (zfN op w).mono ?_
  rintro e w1 ⟨rfl, rfl⟩
  by_cases h1 : op = 65 ∨ op = 66 ∨ op = 67 ∨ op = 68
  ·have hd := decide_eq_true h1
   rw [hd]
   have gu := qh (show jK [x] = (yi 0 [x] && (decide (op ≠ 66) || zg9 args)) from by rw [gu.o, hd, Bool.true_and])
   clear hd h1
   go_wp2_with fail
   refine (zeK (k + 1) [x] 0 (some ⟨b, o, none⟩) 1 c A w1 H.o.1 H.o.2.1 (by omega) (by omega)).mono ?_
   rintro e w2 ⟨rfl, hX⟩
   have EO := hX.cell e0 (fun q => q)
   have iQ := hX.cell e1 (fun q => q)
   have HA := qh (Lay.fr H.o.2.2 hX (fun k hk => ⟨H.o.2.1 k hk, fun q => q⟩))
   have hX := qh hX
   clear e0 e1
   cases hL : yi 0 [x] with
   | false =>
    go_wp2
    go_ret
    exact Ans.no hX.o
   | true =>
    have gu := qh (show jK [x] = (decide (op ≠ 66) || zg9 args) from by rw [gu.o, hL, Bool.true_and])
    by_cases h6 : op = 66
    ·obtain ⟨a, rfl⟩ := tE.o hL h6
     subst h6
     obtain rfl : n1 = 1 := by
      obtain ⟨_, _, e, -, -⟩ := Lay.slice_form HA.o
      simp only [List.cons.injEq, Value.slice.injEq, and_true] at e
      exact e.2.1
     obtain ⟨b', o', rfl, -, f0, f1, -, -⟩ := zdn HA.o 0 Nat.zero_lt_one
     simp only [Nat.zero_mul, Nat.add_zero, List.getElem_cons_zero] at f0 f1
     have gu := qh (show jK [x] = decide (-134217728 ≤ sgn a.2) from by rw [gu.o, zha, decide_eq_false (fun h => h rfl), Bool.false_or])
     clear hL
     have DG := qh (zfO a.2)
     have hY := qh (show decide (-134217728 ≤ wrap64 (a.2.toNat : Int)) = true → Q from fun h => by rw [← hQ.o, gu.o, ← DG.o]; exact h)
     go_wp2
     go_ret
     exact Ans.of _ hY.o hX.o
    ·have d6 : (op != 66) = true := by rw [bne_iff_ne]; exact h6
     have hY : Hd Q := by show Q; rw [← hQ.o, gu.o, decide_eq_true h6, Bool.true_or]
     clear h6 hL
     go_wp2
     go_ret
     exact Ans.yes hY.o hX.o
  ·have hd := decide_eq_false h1
   rw [hd]
   clear hd h1
   go_wp2
   go_ret
   exact Ans.no (Fr.refl _ _)
 ·have d := bfQ (a := (l.length : Int)) (b := 1) (by omega)
  clear h hA hl
  go_enter Tryz.func42, Tryz.ntmps42
  go_wp2
  go_ret
  exact Ans.no (Fr.refl _ _)
theorem strI (s : List UInt8) : ((zc s).size : Int) = (s.length : Int) := by rw [zB]
section
variable (w : World)
theorem zc1 (x : FT) (a1 a2 : Option Addr) (c1 c2 : Nat) : Calls Tryz.prog 62 #[.agg #[.slice a1 x.ps.length c1, .slice a2 x.rs.length c2]] w fun e w' => ∃ b : Bool, e = .returned (.bool b) ∧ Ext w w' := by
 go_enter Tryz.func62, Tryz.ntmps62
 go_wp2
 all_goals
  go_ret
  exact ⟨_, rfl, za _ _⟩
theorem zc2 (x : Imp) : Calls Tryz.prog 63 #[.agg #[.string (zc x.mdl), .string (zc x.name), .int .i64 x.kind, .int .u32 (x.index.toNat : Int), .int .u32 (x.lim.min.toNat : Int), .bool x.lim.bounded, .int .u32 (x.lim.max.toNat : Int), .int .i64 x.ty, .bool x.mtb]] w fun e w' => ∃ b : Bool, e = .returned (.bool b) ∧ Ext w w' := by
 go_enter Tryz.func63, Tryz.ntmps63
 go_wp2
 all_goals
  go_ret
  exact ⟨_, rfl, za _ _⟩
theorem zc3 (x : Expo) : Calls Tryz.prog 64 #[.agg #[.string (zc x.name), .int .i64 x.kind, .int .u32 (x.index.toNat : Int)]] w fun e w' => ∃ b : Bool, e = .returned (.bool b) ∧ Ext w w' := by
 go_enter Tryz.func64, Tryz.ntmps64
 go_wp2
 all_goals
  go_ret
  exact ⟨_, rfl, za _ _⟩
theorem zbS (x : Cus) (a2 : Option Addr) (c2 : Nat) : Calls Tryz.prog 65 #[.agg #[.string (zc x.name), .slice a2 x.data.length c2]] w fun e w' => ∃ b : Bool, e = .returned (.bool b) ∧ Ext w w' := by
 go_enter Tryz.func65, Tryz.ntmps65
 go_wp2
 all_goals
  go_ret
  exact ⟨_, rfl, za _ _⟩
theorem zbT (x : Nam) : Calls Tryz.prog 66 #[.agg #[.int .u32 (x.fn.toNat : Int), .int .u32 (x.idx.toNat : Int), .string (zc x.name)]] w fun e w' => ∃ b : Bool, e = .returned (.bool b) ∧ Ext w w' := by
 go_enter Tryz.func66, Tryz.ntmps66
 go_wp2
 all_goals
  go_ret
  exact ⟨_, rfl, za _ _⟩
theorem zc4 (l : List FT) (aa : Option Addr) (c : Nat) (A : Nat → Prop) (h : Lay.ft.slice.rd A w [.slice aa l.length c] l) (hA : ∀ k, A k → k < w.heap.size) : Calls Tryz.prog 32 #[.slice aa l.length c] w fun e w' => ∃ b : Bool, e = .returned (.bool b) ∧ Ext w w' := by
 have ao : (l.length : Int) ≤ 9223372036854775807 := by obtain ⟨_, _, _, h1, h2⟩ := Lay.slice_form h; simp only [maxLen] at h2; omega
 have H := qh (anQ h hA)
 clear h hA
 go_enter Tryz.func32, Tryz.ntmps32
 go_wp2_with fail
 ·go_ret
  exact ⟨_, rfl, Fr.refl _ _⟩
 go_loopw [10] (fun ey w' => ∃ i : Nat, i ≤ l.length ∧ ey = .int .i64 i ∧ Hd (Ext w w')) (fun ey _ => l.length - (intOf ey).toNat)
 case atStart => exact ⟨0, nzQ _, rfl, Fr.refl _ _⟩
 case round =>
  obtain ⟨i, hi, rfl, hX⟩ := hrel
  by_cases ah : i < l.length
  ·obtain ⟨b, o, a1, c1, a2, c2, rfl, e0, e1, -⟩ := Lay.ft_at2 (Lay.fr H.o.1 hX.o (fun k hk => ⟨H.o.2 k hk, fun q => q⟩)) i ah
   generalize l[i] = x at *
   go_wp2_with fail
   refine (zc1 _ x a1 a2 c1 c2).mono ?_
   rintro e w5 ⟨b5, rfl, k⟩
   have k := qh (Ext.trans hX.o (Ext.trans (za _ _) k))
   clear e0 e1
   cases b5
   ·go_wp2
    go_ret
    exact ⟨_, rfl, k.o⟩
   ·go_wp2
    go_roundw
    case rel => exact ⟨i + 1, by omega, by go_num, k⟩
    case measure => simp [intOf]; omega
  ·obtain rfl : i = l.length := by omega
   go_wp2
   go_ret
   exact ⟨_, rfl, hX.o⟩
theorem zc5 (l : List Imp) (aa : Option Addr) (c : Nat) (A : Nat → Prop) (h : Lay.imp.slice.rd A w [.slice aa l.length c] l) (hA : ∀ k, A k → k < w.heap.size) : Calls Tryz.prog 33 #[.slice aa l.length c] w fun e w' => ∃ b : Bool, e = .returned (.bool b) ∧ Ext w w' := by
 have ao : (l.length : Int) ≤ 9223372036854775807 := by obtain ⟨_, _, _, h1, h2⟩ := Lay.slice_form h; simp only [maxLen] at h2; omega
 have H := qh (anQ h hA)
 clear h hA
 go_enter Tryz.func33, Tryz.ntmps33
 go_wp2_with fail
 ·go_ret
  exact ⟨_, rfl, Fr.refl _ _⟩
 go_loopw [10] (fun ey w' => ∃ i : Nat, i ≤ l.length ∧ ey = .int .i64 i ∧ Hd (Ext w w')) (fun ey _ => l.length - (intOf ey).toNat)
 case atStart => exact ⟨0, nzQ _, rfl, Fr.refl _ _⟩
 case round =>
  obtain ⟨i, hi, rfl, hX⟩ := hrel
  by_cases ah : i < l.length
  ·obtain ⟨b, o, rfl, e0, e1, e2, e3, e4, e5, e6, e7, e8, -⟩ := Lay.imp_at2 (Lay.fr H.o.1 hX.o (fun k hk => ⟨H.o.2 k hk, fun q => q⟩)) i ah
   generalize l[i] = x at *
   go_wp2_with fail
   refine (zc2 _ x).mono ?_
   rintro e w5 ⟨b5, rfl, k⟩
   have k := qh (Ext.trans hX.o (Ext.trans (za _ _) k))
   clear e0 e1 e2 e3 e4 e5 e6 e7 e8
   cases b5
   ·go_wp2
    go_ret
    exact ⟨_, rfl, k.o⟩
   ·go_wp2
    go_roundw
    case rel => exact ⟨i + 1, by omega, by go_num, k⟩
    case measure => simp [intOf]; omega
  ·obtain rfl : i = l.length := by omega
   go_wp2
   go_ret
   exact ⟨_, rfl, hX.o⟩
theorem zc6 (l : List Expo) (aa : Option Addr) (c : Nat) (A : Nat → Prop) (h : Lay.expo.slice.rd A w [.slice aa l.length c] l) (hA : ∀ k, A k → k < w.heap.size) : Calls Tryz.prog 34 #[.slice aa l.length c] w fun e w' => ∃ b : Bool, e = .returned (.bool b) ∧ Ext w w' := by
 have ao : (l.length : Int) ≤ 9223372036854775807 := by obtain ⟨_, _, _, h1, h2⟩ := Lay.slice_form h; simp only [maxLen] at h2; omega
 have H := qh (anQ h hA)
 clear h hA
 go_enter Tryz.func34, Tryz.ntmps34
 go_wp2_with fail
 ·go_ret
  exact ⟨_, rfl, Fr.refl _ _⟩
 go_loopw [10] (fun ey w' => ∃ i : Nat, i ≤ l.length ∧ ey = .int .i64 i ∧ Hd (Ext w w')) (fun ey _ => l.length - (intOf ey).toNat)
 case atStart => exact ⟨0, nzQ _, rfl, Fr.refl _ _⟩
 case round =>
  obtain ⟨i, hi, rfl, hX⟩ := hrel
  by_cases ah : i < l.length
  ·obtain ⟨b, o, rfl, e0, e1, e2, -⟩ := Lay.expo_at2 (Lay.fr H.o.1 hX.o (fun k hk => ⟨H.o.2 k hk, fun q => q⟩)) i ah
   generalize l[i] = x at *
   go_wp2_with fail
   refine (zc3 _ x).mono ?_
   rintro e w5 ⟨b5, rfl, k⟩
   have k := qh (Ext.trans hX.o (Ext.trans (za _ _) k))
   clear e0 e1 e2
   cases b5
   ·go_wp2
    go_ret
    exact ⟨_, rfl, k.o⟩
   ·go_wp2
    go_roundw
    case rel => exact ⟨i + 1, by omega, by go_num, k⟩
    case measure => simp [intOf]; omega
  ·obtain rfl : i = l.length := by omega
   go_wp2
   go_ret
   exact ⟨_, rfl, hX.o⟩
theorem zc7 (l : List (List UInt8)) (aa : Option Addr) (c : Nat) (A : Nat → Prop) (h : Lay.u8.slice.slice.rd A w [.slice aa l.length c] l) (hA : ∀ k, A k → k < w.heap.size) : Calls Tryz.prog 35 #[.slice aa l.length c] w fun e w' => ∃ b : Bool, e = .returned (.bool b) ∧ Ext w w' := by
 have ao : (l.length : Int) ≤ 9223372036854775807 := by obtain ⟨_, _, _, h1, h2⟩ := Lay.slice_form h; simp only [maxLen] at h2; omega
 have H := qh (anQ h hA)
 clear h hA
 go_enter Tryz.func35, Tryz.ntmps35
 go_wp2_with fail
 ·go_ret
  exact ⟨_, rfl, Fr.refl _ _⟩
 go_loopw [10] (fun ey w' => ∃ i : Nat, i ≤ l.length ∧ ey = .int .i64 i ∧ Hd (Ext w w')) (fun ey _ => l.length - (intOf ey).toNat)
 case atStart => exact ⟨0, nzQ _, rfl, Fr.refl _ _⟩
 case round =>
  obtain ⟨i, hi, rfl, hX⟩ := hrel
  by_cases ah : i < l.length
  ·obtain ⟨b, o, a1, c1, rfl, e0, -⟩ := Lay.wraw_at (Lay.fr H.o.1 hX.o (fun k hk => ⟨H.o.2 k hk, fun q => q⟩)) i ah
   generalize l[i] = x at *
   go_wp2_with fail
   ·go_ret
    exact ⟨_, rfl, hX.o⟩
   ·go_roundw
    case rel => exact ⟨i + 1, by omega, by go_num, hX⟩
    case measure => simp [intOf]; omega
  ·obtain rfl : i = l.length := by omega
   go_wp2
   go_ret
   exact ⟨_, rfl, hX.o⟩
theorem zc8 (l : List Cus) (aa : Option Addr) (c : Nat) (A : Nat → Prop) (h : Lay.cus.slice.rd A w [.slice aa l.length c] l) (hA : ∀ k, A k → k < w.heap.size) : Calls Tryz.prog 36 #[.slice aa l.length c] w fun e w' => ∃ b : Bool, e = .returned (.bool b) ∧ Ext w w' := by
 have ao : (l.length : Int) ≤ 9223372036854775807 := by obtain ⟨_, _, _, h1, h2⟩ := Lay.slice_form h; simp only [maxLen] at h2; omega
 have H := qh (anQ h hA)
 clear h hA
 go_enter Tryz.func36, Tryz.ntmps36
 go_wp2_with fail
 ·go_ret
  exact ⟨_, rfl, Fr.refl _ _⟩
 go_loopw [10] (fun ey w' => ∃ i : Nat, i ≤ l.length ∧ ey = .int .i64 i ∧ Hd (Ext w w')) (fun ey _ => l.length - (intOf ey).toNat)
 case atStart => exact ⟨0, nzQ _, rfl, Fr.refl _ _⟩
 case round =>
  obtain ⟨i, hi, rfl, hX⟩ := hrel
  by_cases ah : i < l.length
  ·obtain ⟨b, o, a2, c2, rfl, e0, e1, -⟩ := Lay.cus_at2 (Lay.fr H.o.1 hX.o (fun k hk => ⟨H.o.2 k hk, fun q => q⟩)) i ah
   generalize l[i] = x at *
   go_wp2_with fail
   refine (zbS _ x a2 c2).mono ?_
   rintro e w5 ⟨b5, rfl, k⟩
   have k := qh (Ext.trans hX.o (Ext.trans (za _ _) k))
   clear e0 e1
   cases b5
   ·go_wp2
    go_ret
    exact ⟨_, rfl, k.o⟩
   ·go_wp2
    go_roundw
    case rel => exact ⟨i + 1, by omega, by go_num, k⟩
    case measure => simp [intOf]; omega
  ·obtain rfl : i = l.length := by omega
   go_wp2
   go_ret
   exact ⟨_, rfl, hX.o⟩
theorem Yn (l : List Nam) (aa : Option Addr) (c : Nat) (A : Nat → Prop) (h : Lay.nam.slice.rd A w [.slice aa l.length c] l) (hA : ∀ k, A k → k < w.heap.size) : Calls Tryz.prog 37 #[.slice aa l.length c] w fun e w' => ∃ b : Bool, e = .returned (.bool b) ∧ Ext w w' := by
 have ao : (l.length : Int) ≤ 9223372036854775807 := by obtain ⟨_, _, _, h1, h2⟩ := Lay.slice_form h; simp only [maxLen] at h2; omega
 have H := qh (anQ h hA)
 clear h hA
 go_enter Tryz.func37, Tryz.ntmps37
 go_wp2_with fail
 ·go_ret
  exact ⟨_, rfl, Fr.refl _ _⟩
 go_loopw [10] (fun ey w' => ∃ i : Nat, i ≤ l.length ∧ ey = .int .i64 i ∧ Hd (Ext w w')) (fun ey _ => l.length - (intOf ey).toNat)
 case atStart => exact ⟨0, nzQ _, rfl, Fr.refl _ _⟩
 case round =>
  obtain ⟨i, hi, rfl, hX⟩ := hrel
  by_cases ah : i < l.length
  ·obtain ⟨b, o, rfl, e0, e1, e2, -⟩ := Lay.nam_at2 (Lay.fr H.o.1 hX.o (fun k hk => ⟨H.o.2 k hk, fun q => q⟩)) i ah
   generalize l[i] = x at *
   go_wp2_with fail
   refine (zbT _ x).mono ?_
   rintro e w5 ⟨b5, rfl, k⟩
   have k := qh (Ext.trans hX.o (Ext.trans (za _ _) k))
   clear e0 e1 e2
   cases b5
   ·go_wp2
    go_ret
    exact ⟨_, rfl, k.o⟩
   ·go_wp2
    go_roundw
    case rel => exact ⟨i + 1, by omega, by go_num, k⟩
    case measure => simp [intOf]; omega
  ·obtain rfl : i = l.length := by omega
   go_wp2
   go_ret
   exact ⟨_, rfl, hX.o⟩
end
abbrev smc (m : Mod) (aA : Option Addr) (cA : Nat) (aB : Option Addr) (cB : Nat) (aC : Option Addr) (cC : Nat) (aD : Option Addr) (cD : Nat) (aE : Option Addr) (cE : Nat) (aF : Option Addr) (cF : Nat) (aG : Option Addr) (cG : Nat) (aH : Option Addr) (cH : Nat) (aI : Option Addr) (cI : Nat) (aJ : Option Addr) (cJ : Nat) (aK : Option Addr) (cK : Nat) (aL : Option Addr) (cL : Nat) (aM : Option Addr) (cM : Nat) : Array Value := (kmc m aA cA aB cB aC cC aD cD aE cE aF cF aG cG aH cH aI cI aJ cJ aK cK aL cL aM cM)
theorem zc9 {n : Nat} {m : Mod} {v : ModV} {A : Nat → Prop} (hM : ModAt n A w m v) (hA : ∀ k, A k → k < w.heap.size) :
 Calls Tryz.prog 11 #[.agg (zs m v)] w fun e w' => ∃ b : Bool, e = .returned (.bool b) ∧ Ext w w' := by
 obtain ⟨vA, vB, vC, vD, vE, vF, vG, vH, vI, vJ, vK, vL, vM⟩ := v
 obtain ⟨aA, cA, e, h1, h2⟩ := Lay.slice_form2 hM.types
 obtain rfl : vA = .slice aA m.types.length cA := by simpa using e
 have lA : (m.types.length : Int) ≤ 9223372036854775807 := by simp only [maxLen] at h2; omega
 clear e h1 h2
 obtain ⟨aB, cB, e, h1, h2⟩ := Lay.slice_form2 hM.imports
 obtain rfl : vB = .slice aB m.imports.length cB := by simpa using e
 have lB : (m.imports.length : Int) ≤ 9223372036854775807 := by simp only [maxLen] at h2; omega
 clear e h1 h2
 obtain ⟨aC, cC, e, h1, h2⟩ := Lay.slice_form2 hM.functions
 obtain rfl : vC = .slice aC m.functions.length cC := by simpa using e
 have lC : (m.functions.length : Int) ≤ 9223372036854775807 := by simp only [maxLen] at h2; omega
 clear e h1 h2
 obtain ⟨aD, cD, e, h1, h2⟩ := Lay.slice_form2 hM.tables
 obtain rfl : vD = .slice aD m.tables.length cD := by simpa using e
 have lD : (m.tables.length : Int) ≤ 9223372036854775807 := by simp only [maxLen] at h2; omega
 clear e h1 h2
 obtain ⟨aE, cE, e, h1, h2⟩ := Lay.slice_form2 hM.memories
 obtain rfl : vE = .slice aE m.memories.length cE := by simpa using e
 have lE : (m.memories.length : Int) ≤ 9223372036854775807 := by simp only [maxLen] at h2; omega
 clear e h1 h2
 obtain ⟨aF, cF, e, h1, h2⟩ := Lay.slice_form2 hM.elements
 obtain rfl : vF = .slice aF m.elements.length cF := by simpa using e
 have lF : (m.elements.length : Int) ≤ 9223372036854775807 := by simp only [maxLen] at h2; omega
 clear e h1 h2
 obtain ⟨aG, cG, e, h1, h2⟩ := Lay.slice_form2 hM.globals
 obtain rfl : vG = .slice aG m.globals.length cG := by simpa using e
 have lG : (m.globals.length : Int) ≤ 9223372036854775807 := by simp only [maxLen] at h2; omega
 clear e h1 h2
 obtain ⟨aH, cH, e, h1, h2⟩ := Lay.slice_form2 hM.exports
 obtain rfl : vH = .slice aH m.exports.length cH := by simpa using e
 have lH : (m.exports.length : Int) ≤ 9223372036854775807 := by simp only [maxLen] at h2; omega
 clear e h1 h2
 obtain ⟨aI, cI, e, h1, h2⟩ := Lay.slice_form2 hM.codes
 obtain rfl : vI = .slice aI m.codes.length cI := by simpa using e
 have lI : (m.codes.length : Int) ≤ 9223372036854775807 := by simp only [maxLen] at h2; omega
 clear e h1 h2
 obtain ⟨aJ, cJ, e, h1, h2⟩ := Lay.slice_form2 hM.datas
 obtain rfl : vJ = .slice aJ m.datas.length cJ := by simpa using e
 have lJ : (m.datas.length : Int) ≤ 9223372036854775807 := by simp only [maxLen] at h2; omega
 clear e h1 h2
 obtain ⟨aK, cK, e, h1, h2⟩ := Lay.slice_form2 hM.customs
 obtain rfl : vK = .slice aK m.customs.length cK := by simpa using e
 have lK : (m.customs.length : Int) ≤ 9223372036854775807 := by simp only [maxLen] at h2; omega
 clear e h1 h2
 obtain ⟨aL, cL, e, h1, h2⟩ := Lay.slice_form2 hM.funcs
 obtain rfl : vL = .slice aL m.funcs.length cL := by simpa using e
 have lL : (m.funcs.length : Int) ≤ 9223372036854775807 := by simp only [maxLen] at h2; omega
 clear e h1 h2
 obtain ⟨aM, cM, e, h1, h2⟩ := Lay.slice_form2 hM.locals
 obtain rfl : vM = .slice aM m.locals.length cM := by simpa using e
 have lM : (m.locals.length : Int) ≤ 9223372036854775807 := by simp only [maxLen] at h2; omega
 clear e h1 h2
 have H := qh (anQ hM hA)
 have hB := qh (zk w (smc m aA cA aB cB aC cC aD cD aE cE aF cF aG cG aH cH aI cI aJ cJ aK cK aL cL aM cM) 37)
 have hx := qh (za w (.cells (smc m aA cA aB cB aC cC aD cD aE cE aF cF aG cG aH cH aI cI aJ cJ aK cK aL cL aM cM) 37))
 clear hM hA
 unfold zs
 dsimp only
 go_enter Tryz.func11, Tryz.ntmps11
 go_upto_region 1 with fail
 obtain ⟨W1, gm, fC, eA⟩ : ∃ W1 gm, (w.alloc (.cells (smc m aA cA aB cB aC cC aD cD aE cE aF cF aG cG aH cH aI cI aJ cJ aK cK aL cL aM cM) 37)) = W1 ∧ w.heap.size = gm := ⟨_, _, rfl, rfl⟩
 rw [fC] at hB hx ⊢
 rw [eA] at hB ⊢
 clear fC eA
 have ag := hB.o.cell
 go_wp2_with fail
 refine (zc4 W1 m.types aA cA A (Lay.fr H.o.1.types hx.o (fun k hk => ⟨H.o.2 k hk, fun q => q⟩)) (fun k hk => nqQ (H.o.2 k hk) hx.o.size)).mono ?_
 rintro e w2 ⟨b2, rfl, k⟩
 have hB := qh (hB.o.ext k)
 have hx := qh (Ext.trans hx.o k)
 clear k ag
 have ag := hB.o.cell
 cases b2
 ·go_wp2
  go_ret
  exact ⟨_, rfl, hx.o⟩
 go_wp2_with fail
 refine (zc5 w2 m.imports aB cB A (Lay.fr H.o.1.imports hx.o (fun k hk => ⟨H.o.2 k hk, fun q => q⟩)) (fun k hk => nqQ (H.o.2 k hk) hx.o.size)).mono ?_
 rintro e w3 ⟨b3, rfl, k⟩
 have hB := qh (hB.o.ext k)
 have hx := qh (Ext.trans hx.o k)
 clear k ag
 have ag := hB.o.cell
 cases b3
 ·go_wp2
  go_ret
  exact ⟨_, rfl, hx.o⟩
 go_wp2_with fail
 ·go_ret
  exact ⟨_, rfl, hx.o⟩
 ·go_ret
  exact ⟨_, rfl, hx.o⟩
 ·go_ret
  exact ⟨_, rfl, hx.o⟩
 ·go_ret
  exact ⟨_, rfl, hx.o⟩
 ·go_ret
  exact ⟨_, rfl, hx.o⟩
 refine (zc6 w3 m.exports aH cH A (Lay.fr H.o.1.exports hx.o (fun k hk => ⟨H.o.2 k hk, fun q => q⟩)) (fun k hk => nqQ (H.o.2 k hk) hx.o.size)).mono ?_
 rintro e w4 ⟨b4, rfl, k⟩
 have hB := qh (hB.o.ext k)
 have hx := qh (Ext.trans hx.o k)
 clear k ag
 have ag := hB.o.cell
 cases b4
 ·go_wp2
  go_ret
  exact ⟨_, rfl, hx.o⟩
 go_wp2_with fail
 refine (zc7 w4 m.codes aI cI A (Lay.fr H.o.1.codes hx.o (fun k hk => ⟨H.o.2 k hk, fun q => q⟩)) (fun k hk => nqQ (H.o.2 k hk) hx.o.size)).mono ?_
 rintro e w5 ⟨b5, rfl, k⟩
 have hB := qh (hB.o.ext k)
 have hx := qh (Ext.trans hx.o k)
 clear k ag
 have ag := hB.o.cell
 cases b5
 ·go_wp2
  go_ret
  exact ⟨_, rfl, hx.o⟩
 go_wp2_with fail
 ·go_ret
  exact ⟨_, rfl, hx.o⟩
 refine (zc8 w5 m.customs aK cK A (Lay.fr H.o.1.customs hx.o (fun k hk => ⟨H.o.2 k hk, fun q => q⟩)) (fun k hk => nqQ (H.o.2 k hk) hx.o.size)).mono ?_
 rintro e w6 ⟨b6, rfl, k⟩
 have hB := qh (hB.o.ext k)
 have hx := qh (Ext.trans hx.o k)
 clear k ag
 have ag := hB.o.cell
 cases b6
 ·go_wp2
  go_ret
  exact ⟨_, rfl, hx.o⟩
 go_wp2_with fail
 ·go_ret
  exact ⟨_, rfl, hx.o⟩
 refine (Yn w6 m.funcs aL cL A (Lay.fr H.o.1.funcs hx.o (fun k hk => ⟨H.o.2 k hk, fun q => q⟩)) (fun k hk => nqQ (H.o.2 k hk) hx.o.size)).mono ?_
 rintro e w7 ⟨b7, rfl, k⟩
 have hB := qh (hB.o.ext k)
 have hx := qh (Ext.trans hx.o k)
 clear k ag
 have ag := hB.o.cell
 cases b7
 ·go_wp2
  go_ret
  exact ⟨_, rfl, hx.o⟩
 go_wp2_with fail
 refine (Yn w7 m.locals aM cM A (Lay.fr H.o.1.locals hx.o (fun k hk => ⟨H.o.2 k hk, fun q => q⟩)) (fun k hk => nqQ (H.o.2 k hk) hx.o.size)).mono ?_
 rintro e w8 ⟨b8, rfl, k⟩
 have hB := qh (hB.o.ext k)
 have hx := qh (Ext.trans hx.o k)
 clear k ag
 have ag := hB.o.cell
 cases b8
 ·go_wp2
  go_ret
  exact ⟨_, rfl, hx.o⟩
 go_wp2
 go_ret
 exact ⟨_, rfl, hx.o⟩
end Go.Proofs.YtejgninpjhcgnaaGreatDoor
