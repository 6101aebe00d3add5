/- Texts of this proof, one behind the other. -/
import Derived.Test.YtbdahjpdjamgiaaGreatDoorPart4
import Derived.Test.YtbdahjpdjamgiaaGreatDoorPart2
import Derived.Lib.AppendStr
/- spec.CodeKey, key.instrs: walked. -/
namespace Go.Proofs.YtbdahjpdjamgiaaGreatDoor
open Go.RowKit
theorem hold_alloc {S : Hold} {lo g : Nat} {bs : List UInt8} {w : World} (h : S.is lo g bs w) (o : Obj) : S.is lo g bs (w.alloc o) ∧ ¬ S.foot (w.alloc o) g w.heap.size := by
  obtain ⟨h1, h2⟩ := S.frame h (ext_alloc w o) (fun _ _ h => h)
  exact ⟨h1, fun h3 => by have := (S.lt h _ ((h2 _).1 h3)).2; omega⟩
theorem Wrote.blk {S : Hold} {lo g : Nat} {w W : World} {bs : List UInt8} (h : Wrote S lo g w bs W) {b : Nat} {cs : Array Value} {T : TypeId} (hb : Blk w b cs T) (hn : ¬ S.foot w g b) : Blk W b cs T := hb.fr h.fr hn
set_option maxRecDepth 100000 in
set_option maxHeartbeats 4000000 in
theorem key_instrs_calls (n : Nat) : ∀ (l : List Ins) (lo g : Nat) (aa : Option Addr) (m c : Nat) (A : Nat → Prop) (bs : List UInt8) (w : World), holdK.is lo g bs w → (Lay.ins n).slice.rd A w [.slice aa m c] l → (∀ k, A k → k < lo) → lo ≤ w.heap.size → bs.length + (keyIL l).length + 10 ≤ KeyCap →
    Calls Tryz.prog 31 #[.pointer (some ⟨g, 0, none⟩), .slice aa m c] w fun e w' => e = .returned (.tuple #[]) ∧ Wrote holdK lo g w (bs ++ keyIL l) w' := by
  induction n using Nat.strongRecOn with
  | ind n ih =>
    intro l lo g aa m c A bs w hS hR hA hlo hl
    obtain ⟨a', c', e, hlc, hcm⟩ := Lay.slice_form hR
    obtain ⟨rfl, rfl, rfl⟩ : aa = a' ∧ m = l.length ∧ c = c' := by simpa using e
    have hlen : (l.length : Int) ≤ 9223372036854775807 := by simp only [maxLen] at hcm; omega
    have hw1 : IntKind.u64.wrap (l.length : Int) = (l.length : Int) := by rw [IntKind.wrap_u64]; omega
    have hl1 : l.length < 18446744073709551616 := by omega
    have hl0 : Hid (bs.length + ((uleb l.length).length + (keyIs l).length) + 10 ≤ KeyCap) := by rw [keyIL, List.length_append] at hl; exact hl
    have H := Lib.hid (And.intro hS (And.intro hR (And.intro hA (And.intro hlo (And.intro hl1 ih)))))
    clear hS hR hA ih hlo hl hl1 hlc hcm e
    go_enter Tryz.func31, Tryz.ntmps31
    go_wp2_with fail
    obtain ⟨hS, hR, hA, hlo, hl1, ih⟩ := H.out
    refine (key_number_calls lo g l.length hl1 bs w hS hlo (by have := hl0.out; omega)).mono ?_
    rintro e w1 ⟨rfl, hW1⟩
    have hW1 := Lib.hid hW1
    clear hS hR hA hlo hl1 ih
    go_wp2_with fail
    go_loopw [15] (fun s15 w' => ∃ (i : Nat), i ≤ l.length ∧ s15 = .int .i64 i ∧ Hid (Wrote holdK lo g w (bs ++ (uleb l.length ++ keyIs (l.take i))) w')) (fun s15 _ => l.length - (intOf s15).toNat)
    case atStart => exact ⟨0, Nat.zero_le _, rfl, by show Wrote _ _ _ _ _ _; simpa [keyIs] using hW1.out⟩
    case round =>
      obtain ⟨i, hi, rfl, hW⟩ := hrel
      by_cases hlt : i < l.length
      · obtain ⟨hS, hR, hA, hlo, hl1, ih⟩ := H.out
        have hRr := Lay.fr hR (Wrote.below hS hW.out) (fun k hk => ⟨Nat.lt_of_lt_of_le (hA k hk) hlo, by have := hA k hk; omega⟩)
        obtain ⟨k, b, o, a1, n1, c1, a2, n2, c2, rfl, rfl, hAb, e0, e1, e2, e3, e4, hopb, htyb, hargs, hbody⟩ := Lay.ins_at hRr i hlt
        have htk := Lib.hid (keyIs_take hlt)
        obtain ⟨rest, hsp⟩ := keyIs_split hlt
        have hl2 := hl0.out
        rw [hsp, List.length_append, List.length_append] at hl2
        have hlow := Nat.le_trans hlo hW.out.fr.size
        generalize l[i] = x at *
        obtain ⟨op, args, st, ty, body⟩ := x
        simp only [Ins.op, Ins.args, Ins.st, Ins.ty, Ins.body] at e0 e1 e2 e3 e4 hopb htyb hargs hbody
        obtain ⟨a1', c1', e1', hlc1, hcm1⟩ := Lay.slice_form hargs
        obtain ⟨rfl, rfl, rfl⟩ : a1 = a1' ∧ n1 = args.length ∧ c1 = c1' := by simpa using e1'
        obtain ⟨a2', c2', e2', hlc2, hcm2⟩ := Lay.slice_form hbody
        obtain ⟨rfl, rfl, rfl⟩ : a2 = a2' ∧ n2 = body.length ∧ c2 = c2' := by simpa using e2'
        have hal : (args.length : Int) ≤ 9223372036854775807 := by simp only [maxLen] at hcm1; omega
        have hwa : IntKind.u64.wrap (args.length : Int) = (args.length : Int) := by rw [IntKind.wrap_u64]; omega
        have hbl : (body.length : Int) ≤ 9223372036854775807 := by simp only [maxLen] at hcm2; omega
        obtain ⟨mo, hmo, hmo1, hmo2⟩ := ulebI_num op
        obtain ⟨mt, ⟨hmt, hmt'⟩, hmt1, hmt2⟩ := ulebI_num1 ty
        obtain ⟨pre, hpre⟩ : ∃ pre, bs ++ (uleb l.length ++ keyIs (l.take i)) = pre := ⟨_, rfl⟩
        have hprel : pre.length = bs.length + ((uleb l.length).length + (keyIs (l.take i)).length) := by rw [← hpre]; simp
        have hfin : Hid (∀ W, Wrote holdK lo g w (pre ++ keyI1 (.mk op args st ty body)) W → Wrote holdK lo g w (bs ++ (uleb l.length ++ keyIs (l.take (i + 1)))) W) := fun W h => by
          rw [htk.out, ← List.append_assoc, ← List.append_assoc, List.append_assoc bs, hpre]; exact h
        rw [hpre] at hW
        have hcap : Hid (pre.length + (keyI1 (.mk op args st ty body)).length + 10 ≤ KeyCap) := by show _ ≤ _; omega
        clear hsp hl2 hprel hpre htk
        have HB := Lib.hid (And.intro hmo1 (And.intro hmo2 (And.intro hmt1 (And.intro hmt2 (And.intro hlow (And.intro hargs (And.intro hbody hAb)))))))
        clear hS hR hA hlo hl1 ih hRr hargs hbody hAb e1' e2' hlc1 hcm1 hlc2 hcm2 hopb htyb hmo1 hmo2 hmt1 hmt2 hlow
        have hcp := Lib.hid (show pre.length + ((uleb mo).length + ((uleb args.length).length + ((args.flatMap keyArg).length + (if st then uleb 1 ++ (uleb mt ++ keyIL body) else uleb 0).length))) + 10 ≤ KeyCap from by
          have := hcap.out
          rw [keyI1, HB.out.2.1, HB.out.2.2.2.1] at this
          simpa [keyIL] using this)
        have hfin2 : Hid (∀ W, Wrote holdK lo g w (pre ++ (uleb mo ++ (uleb args.length ++ (args.flatMap keyArg ++ (if st then uleb 1 ++ (uleb mt ++ keyIL body) else uleb 0))))) W → Wrote holdK lo g w (bs ++ (uleb l.length ++ keyIs (l.take (i + 1)))) W) := fun W h => hfin.out W (by
          rw [keyI1, HB.out.2.1, HB.out.2.2.2.1]
          exact h)
        clear hfin hcap
        have hal1 : args.length < 18446744073709551616 := by omega
        go_wp2_with fail
        obtain ⟨hS1, hn1⟩ := hold_alloc hW.out.is (.cells #[.int .i64 op, .slice a1 args.length c1, .bool st, .int .i64 ty, .slice a2 body.length c2] 138)
        have hB1 := blk_new wr #[.int .i64 op, .slice a1 args.length c1, .bool st, .int .i64 ty, .slice a2 body.length c2] 138
        have hx1 := ext_alloc wr (.cells #[.int .i64 op, .slice a1 args.length c1, .bool st, .int .i64 ty, .slice a2 body.length c2] 138)
        generalize (wr.alloc (.cells #[.int .i64 op, .slice a1 args.length c1, .bool st, .int .i64 ty, .slice a2 body.length c2] 138)) = W1 at *
        have hlow1 := Nat.le_trans HB.out.2.2.2.2.1 hx1.size
        refine (key_number_calls lo g mo HB.out.1 pre W1 hS1 hlow1 (by have := hcp.out; omega)).mono ?_
        rintro e w2 ⟨rfl, hR2⟩
        have hcB := (hR2.blk hB1 hn1).cell
        have H1 := Lib.hid (And.intro hS1 (And.intro hn1 (And.intro hB1 (And.intro hx1 (And.intro hlow1 hR2)))))
        clear hS1 hn1 hB1 hx1 hlow1 hR2
        go_wp2_with fail
        obtain ⟨hS1, hn1, hB1, hx1, hlow1, hR2⟩ := H1.out
        refine (key_number_calls lo g args.length hal1 _ w2 hR2.is (Nat.le_trans hlow1 hR2.fr.size) (by have := hcp.out; simp only [List.length_append]; omega)).mono ?_
        rintro e w3 ⟨rfl, hR3⟩
        replace hR3 := hR2.trans hR3
        clear hcB
        have hcB := (hR3.blk hB1 hn1).cell
        have H3 := Lib.hid hR3
        clear hS1 hn1 hB1 hx1 hlow1 hR2 hR3
        go_wp2_with fail
        obtain ⟨wo, rfl⟩ : ∃ wo : World, wo = wr := ⟨_, rfl⟩
        go_loopw [33] (fun s33 w' => ∃ (j : Nat), j ≤ args.length ∧ s33 = .int .i64 j ∧ Hid (Wrote holdK lo g W1 (pre ++ uleb mo ++ uleb args.length ++ (args.take j).flatMap keyArg) w')) (fun s33 _ => args.length - (intOf s33).toNat)
        case atStart => exact ⟨0, Nat.zero_le _, rfl, by show Wrote _ _ _ _ _ _; simpa using H3.out⟩
        case round =>
          obtain ⟨j, hj, rfl, hV⟩ := hrel
          clear hcB
          by_cases hjl : j < args.length
          · have hargs := Lay.fr (Lay.fr HB.out.2.2.2.2.2.1 H1.out.2.2.2.1 (fun k hk => ⟨Nat.lt_of_lt_of_le (H.out.2.2.1 k hk) HB.out.2.2.2.2.1, fun h => h⟩)) (Wrote.below H1.out.1 hV.out) (fun k hk => ⟨Nat.lt_of_lt_of_le (H.out.2.2.1 k hk) H1.out.2.2.2.2.1, by have := H.out.2.2.1 k hk; omega⟩)
            obtain ⟨b3, o3, rfl, hA3, g0, g1, -, -⟩ := arg_at hargs j hjl
            have htk := Lib.hid (keyArgs_take hjl)
            obtain ⟨arest, hasp⟩ := keyArgs_split hjl
            generalize args[j] = aq at *
            obtain ⟨ak, ab⟩ := aq
            simp only [] at g0 g1
            obtain ⟨mk, hmk, hmk1, hmk2⟩ := ulebI_num ak
            have hmb1 := ab.toNat_lt
            have hka := Lib.hid (show keyArg (ak, ab) = uleb mk ++ uleb ab.toNat from by rw [keyArg, hmk2])
            generalize keyArg (ak, ab) = kab at *
            generalize ab.toNat = mb at *
            have hcq := Lib.hid (show pre.length + ((uleb mo).length + ((uleb args.length).length + (((args.take j).flatMap keyArg).length + ((uleb mk).length + (uleb mb).length)))) + 10 ≤ KeyCap from by
              have := hcp.out
              rw [hasp, hka.out] at this
              simp only [List.length_append] at this
              omega)
            have HM := Lib.hid (And.intro hmk1 hmb1)
            clear hasp hargs hA3 hmk1 hmk2 hmb1
            go_wp2_with fail
            obtain ⟨hS4, hn4⟩ := hold_alloc hV.out.is (.cells #[.int .i64 ak, .int .u64 mb] 142)
            have hB4 := blk_new wr #[.int .i64 ak, .int .u64 mb] 142
            have hx4 := ext_alloc wr (.cells #[.int .i64 ak, .int .u64 mb] 142)
            generalize (wr.alloc (.cells #[.int .i64 ak, .int .u64 mb] 142)) = W4 at *
            have hlow4 := Nat.le_trans (Nat.le_trans H1.out.2.2.2.2.1 hV.out.fr.size) hx4.size
            refine (key_number_calls lo g mk HM.out.1 _ W4 hS4 hlow4 (by have := hcq.out; simp only [List.length_append]; omega)).mono ?_
            rintro e w5 ⟨rfl, hR5⟩
            have hcB := (hR5.blk hB4 hn4).cell
            have H4 := Lib.hid (And.intro hx4 (And.intro hlow4 hR5))
            clear hS4 hn4 hB4 hx4 hlow4 hR5
            go_wp2_with fail
            obtain ⟨hx4, hlow4, hR5⟩ := H4.out
            refine (key_number_calls lo g mb HM.out.2 _ w5 hR5.is (Nat.le_trans hlow4 hR5.fr.size) (by have := hcq.out; simp only [List.length_append]; omega)).mono ?_
            rintro e w6 ⟨rfl, hR6⟩
            have hV2 := Lib.hid (show Wrote holdK lo g W1 (pre ++ uleb mo ++ uleb args.length ++ (args.take (j + 1)).flatMap keyArg) w6 from by
              rw [htk.out, hka.out, ← List.append_assoc, ← List.append_assoc]
              exact hV.out.trans (Wrote.after hV.out.is hx4 (hR5.trans hR6)))
            clear hx4 hlow4 hR5 hR6 hcB
            go_wp2
            go_roundw
            case rel => exact ⟨j + 1, by omega, by go_num, hV2⟩
            case measure => simp [intOf]; omega
          · obtain rfl : j = args.length := by omega
            have hcB := (hV.out.blk H1.out.2.2.1 H1.out.2.1).cell
            have hV2 := Lib.hid (show Wrote holdK lo g W1 (pre ++ uleb mo ++ uleb args.length ++ args.flatMap keyArg) wr from by have := hV.out; rw [List.take_length] at this; exact this)
            clear hV
            go_wp2_with fail
            refine (key_flag_calls lo g st _ wr hV2.out.is (Nat.le_trans H1.out.2.2.2.2.1 hV2.out.fr.size) (by have := hcp.out; simp only [List.length_append]; omega)).mono ?_
            rintro e w5 ⟨rfl, hR5⟩
            replace hR5 := hV2.out.trans hR5
            clear hcB
            have hcB := (hR5.blk H1.out.2.2.1 H1.out.2.1).cell
            have H5 := Lib.hid hR5
            clear hR5 hV2
            cases st with
            | false =>
              have hfin := Lib.hid (show Wrote holdK lo g w (bs ++ (uleb l.length ++ keyIs (l.take (i + 1)))) w5 from
                hfin2.out w5 (hW.out.trans (Wrote.after hW.out.is H1.out.2.2.2.1 (by simpa using H5.out))))
              go_wp2
              go_roundw
              case rel => exact ⟨i + 1, by omega, by go_num, hfin⟩
              case measure => simp [intOf]; omega
            | true =>
              go_wp2_with fail
              refine (key_number_calls lo g mt HB.out.2.2.1 _ w5 H5.out.is (Nat.le_trans H1.out.2.2.2.2.1 H5.out.fr.size) (by have := hcp.out; simp only [if_true, List.length_append] at *; omega)).mono ?_
              rintro e w6 ⟨rfl, hR6⟩
              replace hR6 := H5.out.trans hR6
              clear hcB
              have hcB := (hR6.blk H1.out.2.2.1 H1.out.2.1).cell
              have H6 := Lib.hid hR6
              clear hR6 H5
              go_wp2_with fail
              have hbody := Lay.fr (Lay.fr HB.out.2.2.2.2.2.2.1 H1.out.2.2.2.1 (fun k hk => ⟨Nat.lt_of_lt_of_le (H.out.2.2.1 k hk) HB.out.2.2.2.2.1, fun h => h⟩)) (Wrote.below H1.out.1 H6.out) (fun k hk => ⟨Nat.lt_of_lt_of_le (H.out.2.2.1 k hk) H1.out.2.2.2.2.1, by have := H.out.2.2.1 k hk; omega⟩)
              refine (H.out.2.2.2.2.2 k (by omega) body lo g a2 body.length c2 A _ w6 H6.out.is hbody H.out.2.2.1 (Nat.le_trans H1.out.2.2.2.2.1 H6.out.fr.size) (by have := hcp.out; simp only [if_true, List.length_append] at *; omega)).mono ?_
              rintro e w7 ⟨rfl, hR7⟩
              replace hR7 := H6.out.trans hR7
              have hfin := Lib.hid (show Wrote holdK lo g w (bs ++ (uleb l.length ++ keyIs (l.take (i + 1)))) w7 from
                hfin2.out w7 (hW.out.trans (Wrote.after hW.out.is H1.out.2.2.2.1 (by simpa using hR7))))
              clear hcB hR7 hbody
              go_wp2
              go_roundw
              case rel => exact ⟨i + 1, by omega, by go_num, hfin⟩
              case measure => simp [intOf]; omega
      · obtain rfl : i = l.length := by omega
        go_wp2
        go_end0
        refine ⟨rfl, ?_⟩
        have := hW.out
        rw [List.take_length] at this
        exact this
theorem keyLocs_split {l : List (UInt32 × Int)} {i : Nat} (h : i < l.length) : ∃ m, l.flatMap keyLoc = (l.take i).flatMap keyLoc ++ (keyLoc l[i] ++ m) := by
  refine ⟨(l.drop (i + 1)).flatMap keyLoc, ?_⟩
  have : l = l.take i ++ (l[i] :: l.drop (i + 1)) := by rw [← List.drop_eq_getElem_cons h, List.take_append_drop]
  conv => lhs; rw [this]
  rw [List.flatMap_append, List.flatMap_cons]
theorem keyLocs_take {l : List (UInt32 × Int)} {i : Nat} (h : i < l.length) : (l.take (i + 1)).flatMap keyLoc = (l.take i).flatMap keyLoc ++ keyLoc l[i] := by
  rw [List.take_succ_eq_append_getElem h, List.flatMap_append]; simp
set_option maxRecDepth 100000 in
set_option maxHeartbeats 2000000 in
theorem CodeKey_calls (n : Nat) (ls : List (UInt32 × Int)) (l : List Ins) (a1 a2 : Option Addr) (n1 n2 c1 c2 : Nat) (A : Nat → Prop) (w : World) (h1 : Lay.loc.slice.rd A w [.slice a1 n1 c1] ls) (h2 : (Lay.ins n).slice.rd A w [.slice a2 n2 c2] l) (hA : ∀ k, A k → k < w.heap.size) (hl : (codeKey ls l).length + 10 ≤ KeyCap) :
    Calls Tryz.prog 11 #[.agg #[.slice a1 n1 c1, .slice a2 n2 c2]] w fun e w' => e = .returned (.string (strOf (codeKey ls l))) ∧ Ext w w' := by
  obtain ⟨a', c', e, hlc, hcm⟩ := Lay.slice_form h1
  obtain ⟨rfl, rfl, rfl⟩ : a1 = a' ∧ n1 = ls.length ∧ c1 = c' := by simpa using e
  have hlen : (ls.length : Int) ≤ 9223372036854775807 := by simp only [maxLen] at hcm; omega
  have hw1 : IntKind.u64.wrap (ls.length : Int) = (ls.length : Int) := by rw [IntKind.wrap_u64]; omega
  have hl1 := Lib.hid (show ls.length < 18446744073709551616 by omega)
  have hcp := Lib.hid (show (uleb ls.length).length + ((ls.flatMap keyLoc).length + (keyIL l).length) + 10 ≤ KeyCap from by simpa [codeKey] using hl)
  have H := Lib.hid (And.intro h1 (And.intro h2 hA))
  clear h1 h2 hA hcm hlc e hl
  go_enter Tryz.func11, Tryz.ntmps11
  go_wp2_with fail
  have hB := blk_new w #[.slice a1 ls.length c1, .slice a2 n2 c2] 40
  have hx0 := ext_alloc w (.cells #[.slice a1 ls.length c1, .slice a2 n2 c2] 40)
  have hS := isB_at 131 (w.alloc (.cells #[.slice a1 ls.length c1, .slice a2 n2 c2] 40)) (w.heap.size + 1) (by simp)
  refine (key_number_calls (w.heap.size + 1) (w.heap.size + 1) ls.length hl1.out [] _ hS (by simp) (by have := hcp.out; simp only [List.length_nil, KeyCap] at *; omega)).mono ?_
  rintro e w1 ⟨rfl, hW⟩
  rw [List.nil_append] at hW
  obtain ⟨_, -, -, hxa⟩ := wrote_at (by simp) hW
  have hcB := (hB.ext hxa).cell
  have H1 := Lib.hid (And.intro hx0 (And.intro hB (And.intro hS hW)))
  clear hB hx0 hS hW hxa
  go_wp2_with fail
  go_loopw [14] (fun s14 w' => ∃ (i : Nat), i ≤ ls.length ∧ s14 = .int .i64 i ∧ Hid (Wrote holdK (w.heap.size + 1) (w.heap.size + 1) ((w.alloc (.cells #[.slice a1 ls.length c1, .slice a2 n2 c2] 40)).alloc (.cells #[.slice none 0 0] 131)) (uleb ls.length ++ (ls.take i).flatMap keyLoc) w')) (fun s14 _ => ls.length - (intOf s14).toNat)
  case atStart => exact ⟨0, Nat.zero_le _, rfl, by show Wrote _ _ _ _ _ _; simpa using H1.out.2.2.2⟩
  case round =>
    obtain ⟨i, hi, rfl, hV⟩ := hrel
    obtain ⟨_, -, -, hxa⟩ := wrote_at (by simp) hV.out
    have hxw := Ext.trans H1.out.1 hxa
    clear hcB
    by_cases hlt : i < ls.length
    · obtain ⟨b, o, rfl, hA1, e0, e1, -, -⟩ := loc_at (Lay.fr H.out.1 hxw (fun k hk => ⟨H.out.2.2 k hk, fun h => h⟩)) i hlt
      have htk := Lib.hid (keyLocs_take hlt)
      obtain ⟨rest, hsp⟩ := keyLocs_split hlt
      generalize ls[i] = x at *
      obtain ⟨cn, ty⟩ := x
      simp only [] at e0 e1
      obtain ⟨mt, hmt, hmt1, hmt2⟩ := ulebI_num ty
      have hcn := cn.toNat_lt
      have hka := Lib.hid (show keyLoc (cn, ty) = uleb cn.toNat ++ uleb mt from by rw [keyLoc, hmt2])
      generalize keyLoc (cn, ty) = kab at *
      generalize cn.toNat = mc at *
      have hmc : IntKind.u64.wrap (mc : Int) = (mc : Int) := by rw [IntKind.wrap_u64]; omega
      have hcq := Lib.hid (show (uleb ls.length).length + (((ls.take i).flatMap keyLoc).length + ((uleb mc).length + (uleb mt).length)) + 10 ≤ KeyCap from by
        have := hcp.out
        rw [hsp, hka.out] at this
        simp only [List.length_append] at this
        omega)
      have HM := Lib.hid (And.intro hmt1 (show mc < 18446744073709551616 by omega))
      have hsz := Lib.hid (show w.heap.size + 1 ≤ wr.heap.size from by have := hxa.size; simpa using this)
      clear hsp hA1 hmt1 hmt2 hcn hxw hxa
      go_wp2_with fail
      obtain ⟨hS4, hn4⟩ := hold_alloc hV.out.is (.cells #[.int .u32 mc, .int .i64 ty] 73)
      have hB4 := blk_new wr #[.int .u32 mc, .int .i64 ty] 73
      have hx4 := ext_alloc wr (.cells #[.int .u32 mc, .int .i64 ty] 73)
      generalize (wr.alloc (.cells #[.int .u32 mc, .int .i64 ty] 73)) = W4 at *
      have hlow4 := Nat.le_trans hsz.out hx4.size
      refine (key_number_calls _ _ mc HM.out.2 _ W4 hS4 hlow4 (by have := hcq.out; simp only [List.length_append]; omega)).mono ?_
      rintro e w5 ⟨rfl, hR5⟩
      have hcB := (hR5.blk hB4 hn4).cell
      have H4 := Lib.hid (And.intro hx4 (And.intro hlow4 hR5))
      clear hS4 hn4 hB4 hx4 hlow4 hR5
      go_wp2_with fail
      obtain ⟨hx4, hlow4, hR5⟩ := H4.out
      refine (key_number_calls _ _ mt HM.out.1 _ w5 hR5.is (Nat.le_trans hlow4 hR5.fr.size) (by have := hcq.out; simp only [List.length_append]; omega)).mono ?_
      rintro e w6 ⟨rfl, hR6⟩
      have hV2 := Lib.hid (show Wrote holdK (w.heap.size + 1) (w.heap.size + 1) ((w.alloc (.cells #[.slice (some ⟨b, o, none⟩) ls.length c1, .slice a2 n2 c2] 40)).alloc (.cells #[.slice none 0 0] 131)) (uleb ls.length ++ (ls.take (i + 1)).flatMap keyLoc) w6 from by
        rw [htk.out, hka.out, ← List.append_assoc, ← List.append_assoc]
        exact hV.out.trans (Wrote.after hV.out.is hx4 (hR5.trans hR6)))
      clear hx4 hlow4 hR5 hR6 hcB
      go_wp2
      go_roundw
      case rel => exact ⟨i + 1, by omega, by go_num, hV2⟩
      case measure => simp [intOf]; omega
    · obtain rfl : i = ls.length := by omega
      have hcB := (H1.out.2.1.ext hxa).cell
      have hsz := Lib.hid (show w.heap.size + 1 ≤ wr.heap.size from by have := hxa.size; simpa using this)
      have hX := Lib.hid hxw
      clear hxa hxw
      go_wp2_with fail
      refine (key_instrs_calls n l _ _ a2 n2 c2 A _ wr hV.out.is (Lay.fr H.out.2.1 hX.out (fun k hk => ⟨H.out.2.2 k hk, fun h => h⟩)) (fun k hk => by have := H.out.2.2 k hk; omega) hsz.out (by have := hcp.out; rw [List.take_length, List.length_append]; omega)).mono ?_
      rintro e w2 ⟨rfl, hW2⟩
      have hW3 := hV.out.trans hW2
      rw [List.take_length] at hW3
      obtain ⟨v, hc, ho, hxb⟩ := wrote_at (by simp) hW3
      have hcv := conv_str ho.slice (fun _ hk => hk.2) 131 9 5 Tryz.underlying131 Tryz.underlying5 Tryz.underlying9 w2 (Fr.refl _ _)
      obtain ⟨aa, m, c, e1⟩ := ho.shape
      subst e1
      have HX := Lib.hid (Ext.trans H1.out.1 hxb)
      clear hcB hW2 hW3 ho hxb
      go_wp2
      go_ret
      exact ⟨by simp [codeKey], HX.out⟩
end Go.Proofs.YtbdahjpdjamgiaaGreatDoor
/- More on frames and appends. No program here. -/
namespace Go.Proofs.YtbdahjpdjamgiaaGreatDoor
section
variable {P : Program} {ops : Array Oper} {rest : List Oper} {o : Oper} {a : Act} {Q : Exit → Act → World → Prop} {K : Act → World → Prop}
/-- One element, in the block that the walk has just laid for it; its number spelled by the caller. -/
theorem own_append1n {α : Type} (l : Lay α) {W : World} (lo n : Nat) (hn : W.heap.size = n) (hgd : o.guard = none) (s x : Operand) (t e : TypeId) (z : Value) (bytes : Nat)
    (ho : o.op = .call { callee := .builtin .append, args := #[s, x], argTypes := #[t, t] })
    (ht : P.underlying t = some (.slice e)) (hinfo : (P.info? e).map (fun i => (i.zero, i.size, i.bytes)) = some (some z, l.size, bytes)) (hz : z.cells.size = l.size) (hb0 : 0 < bytes) (hl0 : 0 < l.size)
    (v : Value) (xs : List α) (y : α) (cs : Array Value) (hs : a.eval s = v) (hx : a.eval x = .slice (some ⟨n, 0, none⟩) 1 1)
    (HO : Own l e lo W v xs) (HY : l.rd (fun k => lo ≤ k ∧ k < W.heap.size ∧ some k ≠ v.ownBlock) W cs.toList y)
    (hlo : lo ≤ W.heap.size) (hl : (xs.length + 1) * bytes ≤ 140737488355328)
    (h : ∀ v1 w1, Own l e lo w1 v1 (xs ++ [y]) → Fr (fun k => some k = v.ownBlock) W w1 → (∀ k, v1.ownBlock = some k → v.ownBlock = some k ∨ W.heap.size ≤ k) → wpList P ops Q rest (a.put o.dst v1) w1) :
    wpList P ops Q (o :: rest) a (W.alloc (.cells cs e)) := by
  subst hn
  exact own_append1 l lo hgd s x t e z bytes ho ht hinfo hz hb0 hl0 v xs y cs hs hx HO HY hlo hl h
end
/-- What changes only from the heap's end on changes nothing. -/
theorem ext_up {w W : World} (h : Fr (fun k => w.heap.size ≤ k) w W) : Ext w W := h.mono (fun k hk h => absurd hk (by have h' : w.heap.size ≤ k := h; omega))
theorem Fr.new {w W : World} {S : Nat → Prop} (h : Fr S w W) (hS : ∀ k, S k → w.heap.size ≤ k) : Ext w W := h.mono (fun k hk h => absurd hk (by have := hS k h; omega))
theorem ofNat_cell (b : Nat) (hb : b < 256) : Value.int .u8 ((UInt8.ofNat b).toNat : Int) = Value.int .u8 (b : Int) := by rw [UInt8.toNat_ofNat', Nat.mod_eq_of_lt (by omega)]
end Go.Proofs.YtbdahjpdjamgiaaGreatDoor
/- append(bytes, string...) onto a row of bytes that the call owns: where the result lies. No program here. -/
namespace Go.Proofs.YtbdahjpdjamgiaaGreatDoor
open Go.RowKit
theorem strCells_bytes (s : ByteArray) : Lib.strCells s = s.data.toList.map fun b => Value.int .u8 (b.toNat : Int) := rfl
theorem run_appstr_at {P : Program} (W : World) (base : Nat) (t u ty e : TypeId) (i : TypeInfo) (ht : P.underlying t = some (.slice e)) (hu : P.underlying u = some .string) (hi : P.info? e = some i) (hz : i.zero = some (.int .u8 0))
    (hsize : i.size = 1) (hby : i.bytes = 1) (v : Value) (n : Nat) (xs : List Value) (hown : W.ownsRow base e 1 v n xs) (s : ByteArray) (hbytes : n + s.size ≤ 140737488355328) (hbase : base ≤ W.heap.size) :
    ∃ v' w', (Builtin.append_ #[t, u] ty #[v, .string s]).run P W = .ok v' w' ∧ w'.ownsRow base e 1 v' (n + s.size) (xs ++ Lib.strCells s) ∧ W.grownBy w' v.ownBlock ∧ (v'.ownBlock = v.ownBlock ∨ v'.ownBlock = some W.heap.size) := by
  have h63 : n + s.size ≤ maxLen := by simp only [maxLen]; omega
  obtain ⟨v', w', hr, h1, h2, h3⟩ := Lib.run_append_own_string (P := P) W base t u ty e i ht hu hi hz hsize hby v n xs hown s h63 hbytes hbase
  refine ⟨v', w', hr, h1, h2, ?_⟩
  rcases hown.2 with ⟨rfl, rfl⟩ | ⟨g, cap, cur, rfl, hbg, hg, hnc, hcm, hcs, htake⟩
  · by_cases hm : s.size = 0
    · rw [h3.2 ⟨rfl, hm⟩]; exact .inl rfl
    · have hq := run_append_nil_string (P := P) W t u ty e i (.int .u8 0) ht hu hi hz s (by omega) (by omega) (by rw [hby]; omega)
      have := hr.symm.trans hq
      simp only [Result.ok.injEq] at this
      rw [this.1]
      exact .inr rfl
  · by_cases hroom : n + s.size ≤ cap
    · have hcs' : cur.size = cap := by simpa using hcs
      have hq := Lib.run_append_room_string (P := P) W t u ty e i ht hu hi hsize g n cap cur hg s hroom (by omega)
      have := hr.symm.trans hq
      simp only [Result.ok.injEq] at this
      rw [this.1]
      exact .inl rfl
    · have hxl : xs.length = n := by simpa using hown.1
      have hq := Lib.run_append_grow_string (P := P) W t u ty e i (.int .u8 0) ht hu hi hz ⟨g, 0, none⟩ n cap xs (by rw [hsize]; simpa using hxl) (hown.cells (g := g) rfl) s (by omega) (by omega) (by rw [hby]; exact growslice_fits (by omega) (by omega))
      have := hr.symm.trans hq
      simp only [Result.ok.injEq] at this
      rw [this.1]
      exact .inr rfl
section
variable {P : Program} {ops : Array Oper} {rest : List Oper} {o : Oper} {a : Act} {Q : Exit → Act → World → Prop} {K : Act → World → Prop}
theorem own_appstr_wp {W : World} (lo : Nat) (s x : Operand) (t u e : TypeId)
    (ho : o.op = .call { callee := .builtin .append, args := #[s, x], argTypes := #[t, u] })
    (ht : P.underlying t = some (.slice e)) (hu : P.underlying u = some .string) (hinfo : (P.info? e).map (fun i => (i.zero, i.size, i.bytes)) = some (some (.int .u8 0), 1, 1))
    (v : Value) (xs : List UInt8) (st : ByteArray) (hs : a.eval s = v) (hx : a.eval x = .string st)
    (HO : Own Lay.u8 e lo W v xs) (hlo : lo ≤ W.heap.size) (hl : xs.length + st.size ≤ 140737488355328)
    (h : ∀ v1 w1, Own Lay.u8 e lo w1 v1 (xs ++ st.data.toList) → Fr (fun k => some k = v.ownBlock) W w1 → (∀ k, v1.ownBlock = some k → v.ownBlock = some k ∨ W.heap.size ≤ k) → K (a.put o.dst v1) w1) :
    o.wp P a W K Q := by
  obtain ⟨i0, hi, hzz⟩ := Option.map_eq_some_iff.1 hinfo
  simp only [Prod.mk.injEq] at hzz
  obtain ⟨hz0, hz1, hz2⟩ := hzz
  obtain ⟨flat, HO, HF⟩ := HO
  have HO' : W.ownsRow lo e 1 v xs.length flat := HO
  obtain ⟨v1, w1, hr, h1, h2, h3⟩ := run_appstr_at (P := P) W lo t u o.type e i0 ht hu hi hz0 hz1 hz2 v xs.length flat HO' st hl hlo
  unfold Oper.wp execOp
  simp only [ho, resolve, invoke, builtin, Sem.run_bind, Sem.run_pure, Result.andThen_ok, List.map_toArray, List.map_cons, List.map_nil, hs, hx, hr]
  show K _ _
  refine h v1 w1 ⟨flat ++ Lib.strCells st, ?_, ?_⟩ (grown_fr h2) (fun k hk => ?_)
  · rw [List.length_append]; exact h1
  · rw [strCells_bytes]
    exact Lay.all_append (Lay.all_flat Lay.flat_u8 HF) (u8_all _)
  · rcases h3 with h3 | h3
    · exact .inl (h3 ▸ hk)
    · rw [h3] at hk; injection hk with hk; exact .inr (Nat.le_of_eq hk)
theorem own_appstr {W : World} (lo : Nat) (hgd : o.guard = none) (s x : Operand) (t u e : TypeId)
    (ho : o.op = .call { callee := .builtin .append, args := #[s, x], argTypes := #[t, u] })
    (ht : P.underlying t = some (.slice e)) (hu : P.underlying u = some .string) (hinfo : (P.info? e).map (fun i => (i.zero, i.size, i.bytes)) = some (some (.int .u8 0), 1, 1))
    (v : Value) (xs : List UInt8) (st : ByteArray) (hs : a.eval s = v) (hx : a.eval x = .string st)
    (HO : Own Lay.u8 e lo W v xs) (hlo : lo ≤ W.heap.size) (hl : xs.length + st.size ≤ 140737488355328)
    (h : ∀ v1 w1, Own Lay.u8 e lo w1 v1 (xs ++ st.data.toList) → Fr (fun k => some k = v.ownBlock) W w1 → (∀ k, v1.ownBlock = some k → v.ownBlock = some k ∨ W.heap.size ≤ k) → wpList P ops Q rest (a.put o.dst v1) w1) :
    wpList P ops Q (o :: rest) a W :=
  wpList_plain hgd fun _ hK => own_appstr_wp lo s x t u e ho ht hu hinfo v xs st hs hx HO hlo hl fun v1 w1 h1 h2 h3 => hK _ _ (h v1 w1 h1 h2 h3)
end
end Go.Proofs.YtbdahjpdjamgiaaGreatDoor
