/- FunctionType.Equal and the thin package's Equal. -/
import Derived.Test.YtlnobgkgdklhoaaMem
import Derived.Test.YtlnobgkgdklhoaaProg
import Derived.KernelRfl
import Derived.Deep.QuietTactic
import Derived.BigQuiet
namespace Go.Proofs.Ytlnobgkgdklhoaa
open Go.RowKit
theorem infoVT : (Try.prog.info? 85).map (fun i => (i.zero, i.size, i.bytes)) = some (some (.int .i64 0), Lay.int.size, 8) := by kernel_rfl
abbrev OwnVT (lo : Nat) (w : World) (v : Value) (xs : List Int) : Prop := Own Lay.int 85 lo w v xs

set_option maxRecDepth 100000 in
set_option maxHeartbeats 400000 in
theorem kinds_calls (l : List Int) (v : Value) (A : Nat → Prop) (w : World) (hR : Lay.int.slice.rd A w [v] l) (hA : ∀ k, A k → k < w.heap.size) (hl : l.length ≤ 8796093022208) :
    Calls Try.prog 27 #[v] w fun e w' => ∃ v1, e = .returned v1 ∧ OwnVT w.heap.size w' v1 l ∧ Ext w w' := by
  obtain ⟨aa, cap, rfl, hlc, hcm⟩ := Lay.slice_form hR
  have hlen : (l.length : Int) ≤ 9223372036854775807 := by omega
  have H := Lib.hid (And.intro hR (And.intro hA hl))
  clear hR hA hl hlc hcm
  go_enter Try.func27, Try.ntmps27
  go_wp2_with fail
  go_loopw [3, 8] (fun s3 s8 w' => ∃ (i : Nat), i ≤ l.length ∧ s8 = .int .i64 i ∧ Hid (OwnVT w.heap.size w' s3 (l.take i)) ∧ Hid (Ext w w')) (fun _ s8 _ => l.length - (intOf s8).toNat)
  case atStart => exact ⟨0, Nat.zero_le _, rfl, own_nil _ _ _ _, Fr.refl _ _⟩
  case round =>
    obtain ⟨i, hi, rfl, hO, hX⟩ := hrel
    by_cases hlt : i < l.length
    · obtain ⟨hR, hA, hl⟩ := H.out
      have hRr := Lay.fr hR hX.out (fun k hk => ⟨hA k hk, fun h => h⟩)
      obtain ⟨b, o, rfl, hAb, hcell, hx1, hx2⟩ := int_at hRr i hlt
      have htk : Hid (l.take (i + 1) = l.take i ++ [l[i]]) := by rw [List.take_succ_eq_append_getElem hlt]; rfl
      generalize l[i] = x at *
      have HB := Lib.hid (And.intro hx1 hx2)
      clear hR hA hl hRr hAb hx1 hx2
      go_wp2_with (at_builtin; refine Hid.out ?_)
      refine own_append1 Lay.int w.heap.size rfl (.tmp 12) (.tmp 14) _ _ (.int .i64 0) 8 rfl Try.underlying55 infoVT rfl (by omega) (by decide) u3 (l.take i) x _ rfl rfl hO.out ⟨rfl, HB.out⟩ hX.out.size (by have := H.out.2.2; rw [List.length_take]; omega) ?_
      intro v1 w1 h1 h2 h3
      have hO1 : Hid (OwnVT w.heap.size w1 v1 (l.take (i + 1))) := by show Own _ _ _ _ _ _; rw [htk.out]; exact h1
      have hX1 : Hid (Ext w w1) := Fr.trans hX.out h2 (fun _ _ h => h) (fun k hk e => by have := hO.out.lt k e.symm; omega)
      clear h1 h2 h3
      go_wp2
      go_roundw
      case rel => exact ⟨i + 1, by omega, by go_num, hO1, hX1⟩
      case measure => simp [intOf]; omega
    · obtain rfl : i = l.length := by omega
      go_wp2
      go_ret
      have := hO.out
      rw [List.take_length] at this
      exact ⟨_, rfl, this, hX.out⟩
set_option maxRecDepth 100000 in
set_option maxHeartbeats 400000 in
theorem zzFits3_calls (a1 a2 : Option Addr) (n1 c1 n2 c2 : Nat) (w : World) :
    Calls Try.prog 10 #[.agg #[.slice a1 n1 c1, .slice a2 n2 c2]] w fun e w' => e = .returned (.bool (decide (n1 ≤ 2147483647 ∧ n2 ≤ 2147483647))) ∧ Ext w w' := by
  by_cases h1 : n1 ≤ 2147483647
  · have d1 : decide (2147483647 < (n1 : Int)) = false := by rw [decide_eq_false_iff_not]; omega
    by_cases h2 : n2 ≤ 2147483647
    · have d2 : decide (2147483647 < (n2 : Int)) = false := by rw [decide_eq_false_iff_not]; omega
      have e : Hid (decide (n1 ≤ 2147483647 ∧ n2 ≤ 2147483647) = true) := by show _ = _; simp [h1, h2]
      clear h1 h2
      go_enter Try.func10, Try.ntmps10
      go_wp2
      go_ret
      exact ⟨by rw [e.out]; rfl, ext_alloc _ _⟩
    · have d2 : decide (2147483647 < (n2 : Int)) = true := by rw [decide_eq_true_eq]; omega
      have e : Hid (decide (n1 ≤ 2147483647 ∧ n2 ≤ 2147483647) = false) := by show _ = _; simp [h2]
      clear h1 h2
      go_enter Try.func10, Try.ntmps10
      go_wp2
      go_ret
      exact ⟨by rw [e.out]; rfl, ext_alloc _ _⟩
  · have d1 : decide (2147483647 < (n1 : Int)) = true := by rw [decide_eq_true_eq]; omega
    have e : Hid (decide (n1 ≤ 2147483647 ∧ n2 ≤ 2147483647) = false) := by show _ = _; simp [h1]
    clear h1
    go_enter Try.func10, Try.ntmps10
    go_wp2
    go_ret
    exact ⟨by rw [e.out]; rfl, ext_alloc _ _⟩
theorem take_eq {l m : List Int} {i : Nat} (h1 : i < l.length) (h2 : i < m.length) (h : l.take i = m.take i) (he : l[i] = m[i]) : l.take (i + 1) = m.take (i + 1) := by
  rw [List.take_succ_eq_append_getElem h1, List.take_succ_eq_append_getElem h2, h, he]
set_option maxRecDepth 100000 in
set_option maxHeartbeats 2000000 in
theorem FunctionType_Equal_calls (x y : List Int × List Int) (v1 v2 v3 v4 : Value) (A : Nat → Prop) (w : World) (h1 : Lay.int.slice.rd A w [v1] x.1) (h2 : Lay.int.slice.rd A w [v2] x.2) (h3 : Lay.int.slice.rd A w [v3] y.1) (h4 : Lay.int.slice.rd A w [v4] y.2) (hA : ∀ k, A k → k < w.heap.size) :
    Calls Try.prog 28 #[.agg #[v1, v2], .agg #[v3, v4]] w fun e w' => e = .returned (.bool (decide (x = y))) ∧ Ext w w' := by
  obtain ⟨a1, c1, rfl, n1, m1⟩ := Lay.slice_form h1
  obtain ⟨a2, c2, rfl, n2, m2⟩ := Lay.slice_form h2
  obtain ⟨a3, c3, rfl, -, m3⟩ := Lay.slice_form h3
  obtain ⟨a4, c4, rfl, -, m4⟩ := Lay.slice_form h4
  obtain ⟨x1, x2⟩ := x
  obtain ⟨y1, y2⟩ := y
  dsimp only at *
  have key : ∀ W, W = ((w.alloc (.cells #[.slice a1 x1.length c1, .slice a2 x2.length c2] 58)).alloc (.cells #[.slice a3 y1.length c3, .slice a4 y2.length c4] 58)) →
      Ext w W ∧ Blk W w.heap.size #[.slice a1 x1.length c1, .slice a2 x2.length c2] 58 ∧ Blk W (w.heap.size + 1) #[.slice a3 y1.length c3, .slice a4 y2.length c4] 58 := by
    rintro W rfl
    refine ⟨(ext_alloc _ _).trans (ext_alloc _ _), (blk_new _ _ _).ext (ext_alloc _ _), ?_⟩
    have := blk_new (w.alloc (.cells #[.slice a1 x1.length c1, .slice a2 x2.length c2] 58)) #[.slice a3 y1.length c3, .slice a4 y2.length c4] 58
    simpa using this
  have b1 : (x1.length : Int) ≤ 9223372036854775807 := by simp only [maxLen] at m1; omega
  have b2 : (x2.length : Int) ≤ 9223372036854775807 := by simp only [maxLen] at m2; omega
  clear n1 n2 m1 m2 m3 m4
  by_cases hl1 : x1.length = y1.length
  · by_cases hl2 : x2.length = y2.length
    · have d1 : ((x1.length : Int) != (y1.length : Int)) = false := by rw [bne_eq_false_iff_eq]; omega
      have d2 : ((x2.length : Int) != (y2.length : Int)) = false := by rw [bne_eq_false_iff_eq]; omega
      have HL := Lib.hid (And.intro hl1 hl2)
      have H := Lib.hid (And.intro h1 (And.intro h2 (And.intro h3 (And.intro h4 hA))))
      have HK := Lib.hid key
      clear h1 h2 h3 h4 hA hl1 hl2 key
      go_enter Try.func28, Try.ntmps28
      go_wp2_with fail
      generalize hW : ((w.alloc (.cells #[.slice a1 x1.length c1, .slice a2 x2.length c2] 58)).alloc (.cells #[.slice a3 y1.length c3, .slice a4 y2.length c4] 58)) = W
      have HW := Lib.hid (HK.out W hW.symm)
      clear HK hW
      go_loopw [26] (fun s26 w' => ∃ (i : Nat), i ≤ x1.length ∧ s26 = .int .i64 i ∧ Hid (x1.take i = y1.take i) ∧ Hid (Ext W w')) (fun s26 _ => x1.length - (intOf s26).toNat)
      case atStart => exact ⟨0, Nat.zero_le _, rfl, rfl, Fr.refl _ _⟩
      case round =>
        obtain ⟨i, hi, rfl, hT, hX⟩ := hrel
        have hc0 := fun j => (HW.out.2.1.ext hX.out).cell j
        have hc1 := fun j => (HW.out.2.2.ext hX.out).cell j
        by_cases hlt : i < x1.length
        · obtain ⟨h1, h2, h3, h4, hA⟩ := H.out
          have hX2 := HW.out.1.trans hX.out
          have r1 := Lay.fr h1 hX2 (fun k hk => ⟨hA k hk, fun h => h⟩)
          have r3 := Lay.fr h3 hX2 (fun k hk => ⟨hA k hk, fun h => h⟩)
          have hlt3 : i < y1.length := by have := HL.out.1; omega
          obtain ⟨b, o, rfl, -, hcell, -, -⟩ := int_at r1 i hlt
          obtain ⟨b', o', rfl, -, hcell', -, -⟩ := int_at r3 i hlt3
          have hTS : Hid (x1[i] = y1[i] → x1.take (i + 1) = y1.take (i + 1)) := take_eq hlt hlt3 hT.out
          have hTN : Hid (x1[i] ≠ y1[i] → decide ((x1, x2) = (y1, y2)) = false) := by
            intro hn; rw [decide_eq_false_iff_not]; intro he; obtain ⟨rfl, rfl⟩ := Prod.mk.inj he; exact hn rfl
          generalize x1[i] = p at *
          generalize y1[i] = q at *
          clear h1 h2 h3 h4 hA hX2 r1 r3
          by_cases hpq : p = q
          · have d : (p != q) = false := by rw [bne_eq_false_iff_eq]; exact hpq
            have hT1 := Lib.hid (hTS.out hpq)
            clear hpq hTS hTN
            go_wp2
            go_quiet (fail)
            go_wp2
            go_roundw
            case rel => exact ⟨i + 1, by omega, by go_num, hT1, hX.out.drewN _⟩
            case measure => simp [intOf]; omega
          · have d : (p != q) = true := by rw [bne_iff_ne]; exact hpq
            have hN := Lib.hid (hTN.out hpq)
            clear hpq hTS hTN
            go_wp2
            go_quiet (fail)
            go_wp2
            go_ret
            exact ⟨by rw [hN.out]; rfl, HW.out.1.trans (hX.out.drewN _)⟩
        · obtain rfl : i = x1.length := by omega
          have hX1 := Lib.hid (And.intro hX.out hT.out)
          clear hX hT
          go_wp2
          clear hc0 hc1
          go_loopw [44] (fun s44 w' => ∃ (i : Nat), i ≤ x2.length ∧ s44 = .int .i64 i ∧ Hid (x2.take i = y2.take i) ∧ Hid (Ext W w')) (fun s44 _ => x2.length - (intOf s44).toNat)
          case atStart => exact ⟨0, Nat.zero_le _, rfl, rfl, hX1.out.1⟩
          case round =>
            obtain ⟨i, hi, rfl, hT, hX⟩ := hrel
            have hc0 := fun j => (HW.out.2.1.ext hX.out).cell j
            have hc1 := fun j => (HW.out.2.2.ext hX.out).cell j
            by_cases hlt : i < x2.length
            · obtain ⟨h1, h2, h3, h4, hA⟩ := H.out
              have hX2 := HW.out.1.trans hX.out
              have r1 := Lay.fr h2 hX2 (fun k hk => ⟨hA k hk, fun h => h⟩)
              have r3 := Lay.fr h4 hX2 (fun k hk => ⟨hA k hk, fun h => h⟩)
              have hlt3 : i < y2.length := by have := HL.out.2; omega
              obtain ⟨b, o, rfl, -, hcell, -, -⟩ := int_at r1 i hlt
              obtain ⟨b', o', rfl, -, hcell', -, -⟩ := int_at r3 i hlt3
              have hTS : Hid (x2[i] = y2[i] → x2.take (i + 1) = y2.take (i + 1)) := take_eq hlt hlt3 hT.out
              have hTN : Hid (x2[i] ≠ y2[i] → decide ((x1, x2) = (y1, y2)) = false) := by
                intro hn; rw [decide_eq_false_iff_not]; intro he; obtain ⟨rfl, rfl⟩ := Prod.mk.inj he; exact hn rfl
              generalize x2[i] = p at *
              generalize y2[i] = q at *
              clear h1 h2 h3 h4 hA hX2 r1 r3
              by_cases hpq : p = q
              · have d : (p != q) = false := by rw [bne_eq_false_iff_eq]; exact hpq
                have hT1 := Lib.hid (hTS.out hpq)
                clear hpq hTS hTN
                go_wp2
                go_quiet (fail)
                go_wp2
                go_roundw
                case rel => exact ⟨i + 1, by omega, by go_num, hT1, hX.out.drewN _⟩
                case measure => simp [intOf]; omega
              · have d : (p != q) = true := by rw [bne_iff_ne]; exact hpq
                have hN := Lib.hid (hTN.out hpq)
                clear hpq hTS hTN
                go_wp2
                go_quiet (fail)
                go_wp2
                go_ret
                exact ⟨by rw [hN.out]; rfl, HW.out.1.trans (hX.out.drewN _)⟩
            · obtain rfl : i = x2.length := by omega
              have hY : Hid (decide ((x1, x2) = (y1, y2)) = true) := by
                have e1 := hX1.out.2
                have e2 := hT.out
                rw [HL.out.1, List.take_length, ← HL.out.1, List.take_length] at e1
                rw [HL.out.2, List.take_length, ← HL.out.2, List.take_length] at e2
                show _ = _
                rw [e1, e2]; exact decide_eq_true rfl
              go_wp2
              go_ret
              exact ⟨by rw [hY.out]; rfl, HW.out.1.trans hX.out⟩
    · have d1 : ((x1.length : Int) != (y1.length : Int)) = false := by rw [bne_eq_false_iff_eq]; omega
      have d2 : ((x2.length : Int) != (y2.length : Int)) = true := by rw [bne_iff_ne]; omega
      have hN : Hid (decide ((x1, x2) = (y1, y2)) = false) := by
        show _ = _; rw [decide_eq_false_iff_not]; intro he; obtain ⟨rfl, rfl⟩ := Prod.mk.inj he; exact hl2 rfl
      have HK := Lib.hid key
      clear h1 h2 h3 h4 hA hl1 hl2 key
      go_enter Try.func28, Try.ntmps28
      go_wp2
      go_ret
      exact ⟨by rw [hN.out]; rfl, (HK.out _ rfl).1⟩
  · have d1 : ((x1.length : Int) != (y1.length : Int)) = true := by rw [bne_iff_ne]; omega
    have hN : Hid (decide ((x1, x2) = (y1, y2)) = false) := by
      show _ = _; rw [decide_eq_false_iff_not]; intro he; obtain ⟨rfl, rfl⟩ := Prod.mk.inj he; exact hl1 rfl
    have HK := Lib.hid key
    clear h1 h2 h3 h4 hA hl1 key
    go_enter Try.func28, Try.ntmps28
    go_wp2
    go_ret
    exact ⟨by rw [hN.out]; rfl, (HK.out _ rfl).1⟩
end Go.Proofs.Ytlnobgkgdklhoaa
