/- Texts of this proof, one behind the other. -/
import Derived.Test.YtejgninpjhcgnaaGreatDoorPart10
namespace Go.Proofs.YtejgninpjhcgnaaGreatDoor
open Go.RowKit
set_option linter.unusedSimpArgs false
set_option linter.unusedVariables false
set_option maxRecDepth 100000
set_option maxHeartbeats 4000000
theorem ZJ : ∀ (l m : List Ins), z5 (l ++ m) = z5 l + z5 m
 | [], m => by simp [z5]
 | x :: l, m => by simp only [List.cons_append, z5, ZJ l m]; omega
theorem zhf (x : Ins) : ziK x = 1 + z5 x.body := by cases x; rfl
variable {l : List Ins} {i : Nat}
theorem zeM (h : i < l.length) : z5 (l.take (i + 1)) = z5 (l.take i) + (1 + z5 l[i].body) := by
 rw [tsQ h, ZJ, ← zhf]; simp [z5]
theorem zhg (i : Nat) : z5 (l.take i) ≤ z5 l := by
 have := ZJ (l.take i) (l.drop i)
 rw [List.take_append_drop] at this
 omega
theorem zag (n : Nat) : ∀ (l : List Ins) (left : Int) (aa : Option Addr) (m c : Nat) (A : Nat → Prop) (g : Nat) (w : World), (Lay.ins n).slice.rd A w [.slice aa m c] l → (∀ k, A k → k < w.heap.size ∧ k ≠ g) → Blk w g #[.int .i64 left] 3 → 0 ≤ left → left ≤ 2147483647 →
 Calls Tryz.prog 67 #[.slice aa m c, .pointer (some ⟨g, 0, none⟩)] w fun e w' => e = .returned (.bool (decide ((z5 l : Int) ≤ left))) ∧ Fr (fun k => k = g) w w' ∧ ((z5 l : Int) ≤ left → Blk w' g #[.int .i64 (left - z5 l)] 3) := by
 induction n using Nat.strongRecOn with
 | ind n ih =>
  intro l left aa m c A g w hR hA hB h0 h1
  obtain ⟨a', c', e, ce, bh⟩ := Lay.slice_form hR
  obtain ⟨rfl, rfl, rfl⟩ : aa = a' ∧ m = l.length ∧ c = c' := by simpa using e
  have ao : (l.length : Int) ≤ 9223372036854775807 := by simp only [maxLen] at bh; omega
  have H := qh (anQ hR (anQ hA (anQ hB ih)))
  clear hR hA hB ih ce bh e
  go_enter Tryz.func67, Tryz.ntmps67
  go_wp2_with fail
  go_loopw [6, 9] (fun _ s9 w' => ∃ (i : Nat), i ≤ l.length ∧ s9 = .int .i64 i ∧ (z5 (l.take i) : Int) ≤ left ∧ Hd (Blk w' g #[.int .i64 (left - z5 (l.take i))] 3) ∧ Hd (Fr (fun k => k = g) w w')) (fun _ s9 _ => l.length - (intOf s9).toNat)
  case atStart => exact ⟨0, nzQ _, rfl, by simp [z5]; omega, by show Blk _ _ _ _; simpa [z5] using H.o.2.2.1, Fr.refl _ _⟩
  case round =>
   obtain ⟨i, hi, rfl, dh, fg, hF⟩ := hrel
   by_cases ah : i < l.length
   ·obtain ⟨hR, hA, hB, ih⟩ := H.o
    have eM := Lay.fr hR hF.o (fun k hk => ⟨(hA k hk).1, fun e => (hA k hk).2 e⟩)
    obtain ⟨k, b, o, a1, n1, c1, a2, n2, c2, rfl, rfl, eH, e0, e1, e2, e3, e4, -, -, -, bi⟩ := Lay.ins_at eM i ah
    have aX := zeM ah
    have kg := zhg (l := l) (i + 1)
    generalize l[i] = x at *
    have en := fg.o.cell 0
    have lU := fg.o.frz 0
    have cj := fg.o.lt
    have Em : g ≠ wr.heap.size := by omega
    simp only [List.getElem?_toArray, List.getElem?_cons_zero] at en
    have HR := qh (anQ eM (anQ bi (anQ eH (anQ aX (anQ kg (anQ hA (anQ ih fg.o)))))))
    clear hR hA hB ih eM bi eH aX kg fg
    generalize hq : left - (z5 (l.take i) : Int) = q at *
    have mC : 0 ≤ q := by omega
    have dH : q ≤ 2147483647 := by omega
    by_cases m5 : q - 1 < 0
    ·have d0 : decide (q - 1 < 0) = true := decide_eq_true m5
     have hN : Hd (decide ((z5 l : Int) ≤ left) = false ∧ ¬ (z5 l : Int) ≤ left) := by
      have := HR.o.2.2.2.1
      have := HR.o.2.2.2.2.1
      exact ⟨decide_eq_false (by omega), by omega⟩
     clear m5 hq
     go_wp2
     go_ret
     refine ⟨by rw [hN.o.1]; rfl, ?_, fun h => by have := hN.o.2; omega⟩
     exact (Fr.setCell hF.o (.inl rfl) _).alloc _
    ·have d0 : decide (q - 1 < 0) = false := decide_eq_false m5
     go_wp2_with fail
     obtain ⟨eM, bi, eH, aX, kg, hA, ih, hB⟩ := HR.o
     have cY : Blk ((wr.setCell ⟨g, 0, none⟩ (.int .i64 (q - 1))).alloc (.cells #[.int .i64 x.op, .slice a1 n1 c1, .bool x.st, .int .i64 x.ty, .slice a2 n2 c2] 76)) g #[.int .i64 (q - 1)] 3 := (hB.set 0 (.int .i64 (q - 1))).ext (za _ _)
     have kB : Fr (fun k => k = g) wr ((wr.setCell ⟨g, 0, none⟩ (.int .i64 (q - 1))).alloc (.cells #[.int .i64 x.op, .slice a1 n1 c1, .bool x.st, .int .i64 x.ty, .slice a2 n2 c2] 76)) := (Fr.setCell (S := fun k => k = g) (p := ⟨g, 0, none⟩) (Fr.refl _ wr) (.inl rfl) _).alloc _
     generalize ((wr.setCell ⟨g, 0, none⟩ (.int .i64 (q - 1))).alloc (.cells #[.int .i64 x.op, .slice a1 n1 c1, .bool x.st, .int .i64 x.ty, .slice a2 n2 c2] 76)) = w1 at *
     have oy : ∀ k, A k → k < w1.heap.size ∧ k ≠ g := fun k hk => ⟨by have := (hA k hk).1; have := hF.o.size; have := kB.size; omega, (hA k hk).2⟩
     refine (ih k (by omega) x.body (q - 1) a2 n2 c2 A g w1 (Lay.fr bi kB (fun k hk => ⟨by have := (hA k hk).1; have := hF.o.size; omega, (hA k hk).2⟩)) oy cY (by omega) (by omega)).mono ?_
     rintro e w2 ⟨rfl, kI, bN⟩
     have lv : Hd (Fr (fun k => k = g) w w2) := (hF.o.trans kB (fun _ _ h => h) (fun _ _ h => h)).trans kI (fun _ _ h => h) (fun _ _ h => h)
     by_cases dK : (z5 x.body : Int) ≤ q - 1
     ·have hd : decide ((z5 x.body : Int) ≤ q - 1) = true := decide_eq_true dK
      rw [hd]
      have wF : (z5 (l.take (i + 1)) : Int) ≤ left := by omega
      have qU : Hd (Blk w2 g #[.int .i64 (left - z5 (l.take (i + 1)))] 3) := by
       have := bN dK
       rw [show q - 1 - (z5 x.body : Int) = left - z5 (l.take (i + 1)) from by omega] at this
       exact this
      clear hd dK bN kI oy kB cY eM bi eH aX kg hA ih hB
      go_wp2
      go_roundw
      case rel => exact ⟨i + 1, by omega, by go_num, wF, qU, lv⟩
      case measure => simp [intOf]; omega
     ·have hd : decide ((z5 x.body : Int) ≤ q - 1) = false := decide_eq_false dK
      rw [hd]
      have hN : Hd (decide ((z5 l : Int) ≤ left) = false ∧ ¬ (z5 l : Int) ≤ left) := ⟨decide_eq_false (by omega), by omega⟩
      clear hd dK bN kI oy kB cY eM bi eH aX kg hA ih hB
      go_wp2
      go_ret
      exact ⟨by rw [hN.o.1]; rfl, lv.o, fun h => by have := hN.o.2; omega⟩
   ·obtain rfl : i = l.length := by omega
    have hd : decide ((z5 l : Int) ≤ left) = true := by rw [tlQ] at dh; exact decide_eq_true dh
    have CG : Hd (Blk wr g #[.int .i64 (left - z5 l)] 3) := by have := fg.o; rw [tlQ] at this; exact this
    go_wp2
    go_ret
    exact ⟨by rw [hd]; rfl, hF.o, fun _ => CG.o⟩
theorem yj (n : Nat) (h : n < 18446744073709551616) : IntKind.u64.wrap (n : Int) = (n : Int) := by rw [IntKind.wrap_u64]; omega
theorem zkr {A : Nat → Prop} {w : World} {a : Option Addr} {n cap : Nat} {xs : List UInt32} (h : Lay.u32.slice.rd A w [.slice a n cap] xs) (i : Nat) (hi : i < xs.length) :
 ∃ (b o : Nat), a = some ⟨b, o, none⟩ ∧ w.cell? ⟨b, o + i, none⟩ = some (.int .u32 (xs[i].toNat : Int)) := by
 have hn : xs.length = n := by obtain ⟨_, _, e, _⟩ := h; simp only [List.cons.injEq, Value.slice.injEq, and_true] at e; exact e.2.1.symm
 obtain ⟨b, o, es, er, e, hA, _, hr, hc⟩ := Lay.slice_at h i (by omega)
 have := hc 0 (by decide)
 rw [show es = _ from hr, show o + i * Lay.u32.size + 0 = o + i from by show o + i * 1 + 0 = o + i; omega] at this
 exact ⟨b, o, e, this⟩
theorem Zu (lo g : Nat) (l : List UInt32) (aa : Option Addr) (m c : Nat) (A : Nat → Prop) (bs : List UInt8) (w : World) (hS : yx.is lo g bs w) (hR : Lay.u32.slice.rd A w [.slice aa m c] l) (hA : Away yx g w A) (ap : lo ≤ w.heap.size) (hl : bs.length + (Zl l).length + 40 ≤ zH) :
 Calls Tryz.prog 26 #[.pointer (some ⟨g, 0, none⟩), .slice aa m c] w fun e w' => e = .returned (.tuple #[]) ∧ Wrote yx lo g w (bs ++ Zl l) w' := by
 obtain ⟨a', c', e, ce, bh⟩ := Lay.slice_form hR
 obtain ⟨rfl, rfl, rfl⟩ : aa = a' ∧ m = l.length ∧ c = c' := by simpa using e
 have ao : (l.length : Int) ≤ 9223372036854775807 := by simp only [maxLen] at bh; omega
 have dN := yj l.length (by omega)
 have aj := qh (show bs.length + (uleb l.length).length + (l.flatMap jW).length + 40 ≤ zH from by have := hl; simp only [Zl, laQ] at this; omega)
 have H := qh (anQ hS (anQ hR (anQ hA ap)))
 clear hS hR hA ap hl ce bh e
 go_enter Tryz.func26, Tryz.ntmps26
 go_wp2_with fail
 refine (zg lo g l.length (by omega) bs w H.o.1 H.o.2.2.2 (by have := aj.o; omega)).mono ?_
 rintro e w1 ⟨rfl, hW⟩
 have HW := qh (show Wrote yx lo g w (bs ++ uleb l.length ++ (l.take 0).flatMap jW) w1 from by simpa using hW)
 clear hW
 go_wp2_with fail
 go_loopw [5, 13] (fun s5 fX w' => ∃ (i : Nat), i ≤ l.length ∧ fX = .int .i64 i ∧ Hd (Wrote yx lo g w (bs ++ uleb l.length ++ (l.take i).flatMap jW) w')) (fun _ fX _ => l.length - (intOf fX).toNat)
 case atStart => exact ⟨0, nzQ _, rfl, HW.o⟩
 case round =>
  obtain ⟨i, hi, rfl, hV⟩ := hrel
  by_cases ah : i < l.length
  ·obtain ⟨b, o, rfl, e0⟩ := zkr (Lay.fr H.o.2.1 hV.o.fr H.o.2.2.1) i ah
   have aX := qh (yr (f := jW) ah)
   obtain ⟨rest, dL⟩ := jv (f := jW) ah
   generalize l[i] = x at *
   have cX := qh (show bs.length + (uleb l.length).length + ((l.take i).flatMap jW).length + (jW x).length + 40 ≤ zH from by have := aj.o; rw [dL] at this; simp only [laQ] at this; omega)
   clear dL
   have fd := x.toNat_lt
   have BE := yj x.toNat (by omega)
   have mq := qh (show x.toNat < 18446744073709551616 by omega)
   go_wp2_with fail
   refine (zg lo g x.toNat mq.o _ wr hV.o.is (nlQ H.o.2.2.2 hV.o.fr.size) (by have := cX.o; simp only [jW, laQ] at *; omega)).mono ?_
   rintro e w5 ⟨rfl, hR⟩
   have bf := qh (show Wrote yx lo g w (bs ++ uleb l.length ++ (l.take (i + 1)).flatMap jW) w5 from by
    have h := hV.o.trans hR
    rw [aX.o, jW, ← List.append_assoc]
    exact h)
   clear hR
   go_wp2
   go_roundw
   case rel => exact ⟨i + 1, by omega, by go_num, bf⟩
   case measure => simp [intOf]; omega
  ·obtain rfl : i = l.length := by omega
   go_wp2
   go_end0
   have := hV.o
   rw [tlQ] at this
   exact ⟨rfl, by rw [Zl, ← List.append_assoc]; exact this⟩
theorem Jk (lo g : Nat) (l : List Lim) (aa : Option Addr) (m c : Nat) (A : Nat → Prop) (bs : List UInt8) (w : World) (hS : yx.is lo g bs w) (hR : Lay.lim.slice.rd A w [.slice aa m c] l) (hA : Away yx g w A) (ap : lo ≤ w.heap.size) (hl : bs.length + (jD l).length + 40 ≤ zH) :
 Calls Tryz.prog 25 #[.pointer (some ⟨g, 0, none⟩), .slice aa m c] w fun e w' => e = .returned (.tuple #[]) ∧ Wrote yx lo g w (bs ++ jD l) w' := by
 obtain ⟨a', c', e, ce, bh⟩ := Lay.slice_form hR
 obtain ⟨rfl, rfl, rfl⟩ : aa = a' ∧ m = l.length ∧ c = c' := by simpa using e
 have ao : (l.length : Int) ≤ 9223372036854775807 := by simp only [maxLen] at bh; omega
 have dN := yj l.length (by omega)
 have aj := qh (show bs.length + (uleb l.length).length + (l.flatMap yQ).length + 40 ≤ zH from by have := hl; simp only [jD, laQ] at this; omega)
 have H := qh (anQ hS (anQ hR (anQ hA ap)))
 clear hS hR hA ap hl ce bh e
 go_enter Tryz.func25, Tryz.ntmps25
 go_wp2_with fail
 refine (zg lo g l.length (by omega) bs w H.o.1 H.o.2.2.2 (by have := aj.o; omega)).mono ?_
 rintro e w1 ⟨rfl, hW⟩
 have HW := qh (show Wrote yx lo g w (bs ++ uleb l.length ++ (l.take 0).flatMap yQ) w1 from by simpa using hW)
 clear hW
 go_wp2_with fail
 go_loopw [5, 13] (fun s5 fX w' => ∃ (i : Nat), i ≤ l.length ∧ fX = .int .i64 i ∧ Hd (Wrote yx lo g w (bs ++ uleb l.length ++ (l.take i).flatMap yQ) w')) (fun _ fX _ => l.length - (intOf fX).toNat)
 case atStart => exact ⟨0, nzQ _, rfl, HW.o⟩
 case round =>
  obtain ⟨i, hi, rfl, hV⟩ := hrel
  by_cases ah : i < l.length
  ·obtain ⟨b, o, rfl, e0, e1, e2⟩ := Lay.lim_at (Lay.fr H.o.2.1 hV.o.fr H.o.2.2.1) i ah
   have aX := qh (yr (f := yQ) ah)
   obtain ⟨rest, dL⟩ := jv (f := yQ) ah
   generalize l[i] = x at *
   have cX := qh (show bs.length + (uleb l.length).length + ((l.take i).flatMap yQ).length + (yQ x).length + 40 ≤ zH from by have := aj.o; rw [dL] at this; simp only [laQ] at this; omega)
   clear dL
   have fd := x.min.toNat_lt
   have Dx := x.max.toNat_lt
   have BE := yj x.min.toNat (by omega)
   have Do := yj x.max.toNat (by omega)
   have mq := qh (show x.min.toNat < 18446744073709551616 by omega)
   have qR := qh (show x.max.toNat < 18446744073709551616 by omega)
   go_wp2_with fail
   have np := qh (Zk hV.o.is (.cells #[.int .u32 (x.min.toNat : Int), .bool x.bounded, .int .u32 (x.max.toNat : Int)] 63))
   have ni := qh (zk wr #[.int .u32 (x.min.toNat : Int), .bool x.bounded, .int .u32 (x.max.toNat : Int)] 63)
   have fF := qh (za wr (.cells #[.int .u32 (x.min.toNat : Int), .bool x.bounded, .int .u32 (x.max.toNat : Int)] 63))
   have eR := qh (nlQ H.o.2.2.2 hV.o.fr.size)
   generalize (wr.alloc (.cells #[.int .u32 (x.min.toNat : Int), .bool x.bounded, .int .u32 (x.max.toNat : Int)] 63)) = W2 at *
   obtain ⟨ge, aZ⟩ := exQ (wr.heap.size)
   rw [aZ] at np ni ⊢
   clear aZ
   have ag := ni.o.cell
   have HB := qh (anQ ni.o np.o.2)
   have HQ := qh (Wrote.refl np.o.1)
   have iT := qh (nlQ eR.o fF.o.size)
   refine (zg lo g x.min.toNat mq.o _ W2 HQ.o.is (nlQ iT.o HQ.o.fr.size) (by have := cX.o; simp only [yQ, zw, laQ, zB] at *; omega)).mono ?_
   rintro e w5 ⟨rfl, hR⟩
   replace HQ := qh (HQ.o.trans hR)
   replace HB := qh (Yd hR HB.o.1 HB.o.2)
   clear hR ag
   have ag := HB.o.1.cell
   go_wp2_with fail
   refine (jq lo g x.bounded _ w5 HQ.o.is (nlQ iT.o HQ.o.fr.size) (by have := cX.o; simp only [yQ, j0, zw, laQ, zB] at *; omega)).mono ?_
   rintro e w6 ⟨rfl, hR⟩
   replace HQ := qh (HQ.o.trans hR)
   replace HB := qh (Yd hR HB.o.1 HB.o.2)
   clear hR ag
   have ag := HB.o.1.cell
   cases ci : x.bounded with
   | true =>
    rw [ci] at ag HQ
    have xV := qh (show bs.length + (uleb l.length).length + ((l.take i).flatMap yQ).length + ((uleb x.min.toNat).length + ((uleb 1).length + (uleb x.max.toNat).length)) + 40 ≤ zH from by have := cX.o; simp only [yQ, j0, ci, if_true, laQ] at this; omega)
    go_wp2_with fail
    refine (zg lo g x.max.toNat qR.o _ w6 HQ.o.is (nlQ iT.o HQ.o.fr.size) (by have := xV.o; simp only [laQ, if_true] at *; omega)).mono ?_
    rintro e w7 ⟨rfl, hR⟩
    have bf := qh (show Wrote yx lo g w (bs ++ uleb l.length ++ (l.take (i + 1)).flatMap yQ) w7 from by
     have h := hV.o.trans (Wrote.after hV.o.is fF.o (HQ.o.trans hR))
     rw [aX.o, yQ, ci]
     simpa [j0, List.append_assoc] using h)
    clear ag HQ HB hR
    go_wp2
    go_roundw
    case rel => exact ⟨i + 1, by omega, by go_num, bf⟩
    case measure => simp [intOf]; omega
   | false =>
    rw [ci] at ag HQ
    have bf := qh (show Wrote yx lo g w (bs ++ uleb l.length ++ (l.take (i + 1)).flatMap yQ) w6 from by
     have h := hV.o.trans (Wrote.after hV.o.is fF.o HQ.o)
     rw [aX.o, yQ, ci]
     simpa [j0, List.append_assoc] using h)
    clear HQ HB
    go_wp2
    go_roundw
    case rel => exact ⟨i + 1, by omega, by go_num, bf⟩
    case measure => simp [intOf]; omega
  ·obtain rfl : i = l.length := by omega
   go_wp2
   go_end0
   have := hV.o
   rw [tlQ] at this
   exact ⟨rfl, by rw [jD, ← List.append_assoc]; exact this⟩
theorem Z5 (lo g : Nat) (l : List Nam) (aa : Option Addr) (m c : Nat) (A : Nat → Prop) (bs : List UInt8) (w : World) (hS : yx.is lo g bs w) (hR : Lay.nam.slice.rd A w [.slice aa m c] l) (hA : Away yx g w A) (ap : lo ≤ w.heap.size) (hl : bs.length + (jX l).length + 40 ≤ zH) :
 Calls Tryz.prog 28 #[.pointer (some ⟨g, 0, none⟩), .slice aa m c] w fun e w' => e = .returned (.tuple #[]) ∧ Wrote yx lo g w (bs ++ jX l) w' := by
 obtain ⟨a', c', e, ce, bh⟩ := Lay.slice_form hR
 obtain ⟨rfl, rfl, rfl⟩ : aa = a' ∧ m = l.length ∧ c = c' := by simpa using e
 have ao : (l.length : Int) ≤ 9223372036854775807 := by simp only [maxLen] at bh; omega
 have dN := yj l.length (by omega)
 have aj := qh (show bs.length + (uleb l.length).length + (l.flatMap yM).length + 40 ≤ zH from by have := hl; simp only [jX, laQ] at this; omega)
 have H := qh (anQ hS (anQ hR (anQ hA ap)))
 clear hS hR hA ap hl ce bh e
 go_enter Tryz.func28, Tryz.ntmps28
 go_wp2_with fail
 refine (zg lo g l.length (by omega) bs w H.o.1 H.o.2.2.2 (by have := aj.o; omega)).mono ?_
 rintro e w1 ⟨rfl, hW⟩
 have HW := qh (show Wrote yx lo g w (bs ++ uleb l.length ++ (l.take 0).flatMap yM) w1 from by simpa using hW)
 clear hW
 go_wp2_with fail
 go_loopw [5, 13] (fun s5 fX w' => ∃ (i : Nat), i ≤ l.length ∧ fX = .int .i64 i ∧ Hd (Wrote yx lo g w (bs ++ uleb l.length ++ (l.take i).flatMap yM) w')) (fun _ fX _ => l.length - (intOf fX).toNat)
 case atStart => exact ⟨0, nzQ _, rfl, HW.o⟩
 case round =>
  obtain ⟨i, hi, rfl, hV⟩ := hrel
  by_cases ah : i < l.length
  ·obtain ⟨b, o, rfl, e0, e1, e2, -⟩ := Lay.nam_at (Lay.fr H.o.2.1 hV.o.fr H.o.2.2.1) i ah
   have aX := qh (yr (f := yM) ah)
   obtain ⟨rest, dL⟩ := jv (f := yM) ah
   generalize l[i] = x at *
   have cX := qh (show bs.length + (uleb l.length).length + ((l.take i).flatMap yM).length + (yM x).length + 40 ≤ zH from by have := aj.o; rw [dL] at this; simp only [laQ] at this; omega)
   clear dL
   have fd := x.fn.toNat_lt
   have Dx := x.idx.toNat_lt
   have BE := yj x.fn.toNat (by omega)
   have Do := yj x.idx.toNat (by omega)
   have mq := qh (show x.fn.toNat < 18446744073709551616 by omega)
   have qR := qh (show x.idx.toNat < 18446744073709551616 by omega)
   go_wp2_with fail
   have np := qh (Zk hV.o.is (.cells #[.int .u32 (x.fn.toNat : Int), .int .u32 (x.idx.toNat : Int), .string (zc x.name)] 120))
   have ni := qh (zk wr #[.int .u32 (x.fn.toNat : Int), .int .u32 (x.idx.toNat : Int), .string (zc x.name)] 120)
   have fF := qh (za wr (.cells #[.int .u32 (x.fn.toNat : Int), .int .u32 (x.idx.toNat : Int), .string (zc x.name)] 120))
   have eR := qh (nlQ H.o.2.2.2 hV.o.fr.size)
   generalize (wr.alloc (.cells #[.int .u32 (x.fn.toNat : Int), .int .u32 (x.idx.toNat : Int), .string (zc x.name)] 120)) = W2 at *
   obtain ⟨ge, aZ⟩ := exQ (wr.heap.size)
   rw [aZ] at np ni ⊢
   clear aZ
   have ag := ni.o.cell
   have HB := qh (anQ ni.o np.o.2)
   have HQ := qh (Wrote.refl np.o.1)
   have iT := qh (nlQ eR.o fF.o.size)
   refine (zg lo g x.fn.toNat mq.o _ W2 HQ.o.is (nlQ iT.o HQ.o.fr.size) (by have := cX.o; simp only [yM, zw, laQ, zB] at *; omega)).mono ?_
   rintro e w5 ⟨rfl, hR⟩
   replace HQ := qh (HQ.o.trans hR)
   replace HB := qh (Yd hR HB.o.1 HB.o.2)
   clear hR ag
   have ag := HB.o.1.cell
   go_wp2_with fail
   refine (zg lo g x.idx.toNat qR.o _ w5 HQ.o.is (nlQ iT.o HQ.o.fr.size) (by have := cX.o; simp only [yM, zw, laQ, zB] at *; omega)).mono ?_
   rintro e w6 ⟨rfl, hR⟩
   replace HQ := qh (HQ.o.trans hR)
   replace HB := qh (Yd hR HB.o.1 HB.o.2)
   clear hR ag
   have ag := HB.o.1.cell
   go_wp2_with fail
   refine (yc lo g (zc x.name) _ w6 HQ.o.is (nlQ iT.o HQ.o.fr.size) (by have := cX.o; simp only [yM, zw, laQ, zB] at *; omega)).mono ?_
   rintro e w7 ⟨rfl, hR⟩
   replace HQ := qh (HQ.o.trans hR)
   replace HB := qh (Yd hR HB.o.1 HB.o.2)
   clear hR ag
   have ag := HB.o.1.cell
   have bf := qh (show Wrote yx lo g w (bs ++ uleb l.length ++ (l.take (i + 1)).flatMap yM) w7 from by
    have h := hV.o.trans (Wrote.after hV.o.is fF.o HQ.o)
    rw [aX.o, yM]
    simpa [zA, List.append_assoc] using h)
   clear ag HQ HB
   go_wp2
   go_roundw
   case rel => exact ⟨i + 1, by omega, by go_num, bf⟩
   case measure => simp [intOf]; omega
  ·obtain rfl : i = l.length := by omega
   go_wp2
   go_end0
   have := hV.o
   rw [tlQ] at this
   exact ⟨rfl, by rw [jX, ← List.append_assoc]; exact this⟩
theorem DD (bP : List Nam) (n : Nam) : (insN bP n).length = bP.length + 1 := by
 unfold insN
 rw [laQ, List.length_cons, ltQ, ldQ]
 omega
theorem zdS (l : List Nam) : (Jw l).length = l.length := by
 have key : ∀ (l bz : List Nam), (l.foldl insN bz).length = bz.length + l.length := by
  intro l
  induction l with
  | nil => intro bz; simp
  | cons x xs ih => intro bz; rw [List.foldl_cons, ih, DD, List.length_cons]; omega
 have := key l []
 simpa [Jw] using this
theorem zfR {l : List Nam} (h : i < l.length) : Jw (l.take (i + 1)) = insN (Jw (l.take i)) l[i] := by
 unfold Jw
 rw [tsQ h, List.foldl_append]
 rfl
theorem zah : (Tryz.prog.info? 120).map (fun i => (i.zero, i.size, i.bytes)) = some (some (.agg #[.int .u32 0, .int .u32 0, .string ⟨#[]⟩]), Lay.nam.size, 24) := by kernel_rfl
theorem Yf : Lay.nam.flat := Lay.flat_via (Lay.flat_pair Lay.flat_u32 (Lay.flat_pair Lay.flat_u32 Lay.flat_strB)) _
theorem zdT (l : List Nam) (aa : Option Addr) (m c : Nat) (A : Nat → Prop) (w : World) (hR : Lay.nam.slice.rd A w [.slice aa m c] l) (hA : ∀ k, A k → k < w.heap.size) (hl : l.length ≤ 4294967296) :
 Calls Tryz.prog 29 #[.slice aa m c] w fun e w' => ∃ v, e = .returned v ∧ Own Lay.nam 120 w.heap.size w' v (Jw l) ∧ Ext w w' := by
 obtain ⟨a', c', e, ce, bh⟩ := Lay.slice_form hR
 obtain ⟨rfl, rfl, rfl⟩ : aa = a' ∧ m = l.length ∧ c = c' := by simpa using e
 have ao : (l.length : Int) ≤ 9223372036854775807 := by omega
 have H := qh (anQ hR (anQ hA hl))
 clear hR hA hl ce bh e
 go_enter Tryz.func29, Tryz.ntmps29
 go_wp2_with fail
 go_loopw [3, 5, 6, 9] (fun s3 s5 s6 s9 w' => ∃ (i : Nat), i ≤ l.length ∧ s9 = .int .i64 i ∧ Hd (Own Lay.nam 120 w.heap.size w' s3 (Jw (l.take i)) ∧ Ext w w')) (fun _ _ _ s9 _ => l.length - (intOf s9).toNat)
 case atStart => exact ⟨0, nzQ _, rfl, jz _ _ _ _, Fr.refl _ _⟩
 case round =>
  obtain ⟨i, hi, rfl, hV⟩ := hrel
  obtain ⟨u1, cu, rfl, uA, sQ⟩ := hV.o.1.form
  have n8 := zdS (l.take i)
  rw [ltQ, Nat.min_eq_left hi] at n8
  rw [n8] at hV uA ⊢
  by_cases ah : i < l.length
  ·obtain ⟨b, o, rfl, e0, e1, e2, hst⟩ := Lay.nam_at (Lay.fr H.o.1 hV.o.2 (fun k hk => ⟨H.o.2.1 k hk, fun h => h⟩)) i ah
   have hst := qh hst
   have vY := qh (zfR ah)
   generalize l[i] = x at *
   have fc := qh n8
   have fw := qh (anQ uA sQ)
   have CA : (cu : Int) ≤ 9223372036854775807 := by simp only [maxLen] at sQ; omega
   clear n8
   generalize Jw (l.take i) = bP at *
   go_wp2_with fail
   have iF := zk wr #[.int .u32 (x.fn.toNat : Int), .int .u32 (x.idx.toNat : Int), .string (zc x.name)] 120
   have cU := za wr (.cells #[.int .u32 (x.fn.toNat : Int), .int .u32 (x.idx.toNat : Int), .string (zc x.name)] 120)
   generalize (wr.alloc (.cells #[.int .u32 (x.fn.toNat : Int), .int .u32 (x.idx.toNat : Int), .string (zc x.name)] 120)) = W2 at *
   obtain ⟨ge, aZ⟩ := exQ (wr.heap.size)
   rw [aZ] at iF ⊢
   clear aZ
   have HB := qh (anQ iF (anQ cU (hV.o.1.ext cU)))
   clear iF cU e0 e1 e2
   generalize wr = wq at *
   go_loopw [6] (fun s6 w' => ∃ (at' : Nat), at' ≤ i ∧ s6 = .int .i64 at' ∧ Hd (JO bP x.fn i = JO bP x.fn at' ∧ Ext W2 w')) (fun s6 _ => (intOf s6).toNat)
   case atStart => exact ⟨i, Nat.le_refl _, rfl, rfl, Fr.refl _ _⟩
   case round =>
    obtain ⟨at', fo, rfl, hQ⟩ := hrel
    have hO := qh (HB.o.2.2.ext hQ.o.2)
    have ag := (HB.o.1.ext hQ.o.2).cell
    cases at' with
    | zero =>
     have me := qh (show JO bP x.fn i = 0 from hQ.o.1)
     have iH := hQ.o.2
     clear hO
     go_wp2_with fail
     go_quiet (fail)
     have cT := qh (show Ext W2 (wr.drewN nq) from Ext.trans iH ((Fr.refl _ wr).drewN _))
     generalize wr.drewN nq = W4 at *
     clear ag iH hQ
     go_wp2_with fail
     have qo := qh (show 0 ≤ bP.length from by have := fc.o; omega)
     have hU := qh (show insN bP x = bP.take 0 ++ x :: bP.drop 0 from by unfold insN; rw [fc.o, me.o])
     have En : (0 : Int) ≤ (cu : Int) := by have := fw.o.1; omega
     have lN : 0 ≤ cu := by have := fw.o.1; omega
     have re := qh (show ge < W4.heap.size from nqQ HB.o.1.lt cT.o.size)
     refine zi (y4 (fun k => W4.heap.size ≤ k)) [(0, .take), (1, .take), (2, .take), (3, .take), (4, .take), (6, .take), (7, .take), (8, .take), (5, .run), (9, .run), (10, .run), (11, .take)] (by kernel_rfl) (by kernel_rfl) ?_
     simp only [zy, gzQ, gsQ]
     have HC := qh (fun W' (h : Fr (fun k => W4.heap.size ≤ k) W4.drew W') => ((HB.o.1.ext (Ext.trans cT.o (zb _))).fr h (by have := re.o; omega)).cell)
     have uJ := qh (show W4.heap.size = W4.drew.heap.size from rfl)
     have bQ := qh (Ext.trans cT.o (zb W4))
     have ns := qh (HB.o.2.2.ext bQ.o)
     generalize W4.drew = W5 at *
     repeat (apply item_take; rfl; rfl; rfl; rfl; exact fun _ _ _ _ h => h; (intro W e _ k; have q := HC.o W e; go_simp; exact k))
     apply ze; rfl; intro K hK; go_simp
     refine hK _ _ (za _ _).to ?_
     have lc := qh (za W5 (.cells #[.int .u32 (x.fn.toNat : Int), .int .u32 (x.idx.toNat : Int), .string (zc x.name)] 120))
     have it := qh (Ext.trans bQ.o (za W5 (.cells #[.int .u32 (x.fn.toNat : Int), .int .u32 (x.idx.toNat : Int), .string (zc x.name)] 120)))
     have ne := qh (zk W5 #[.int .u32 (x.fn.toNat : Int), .int .u32 (x.idx.toNat : Int), .string (zc x.name)] 120)
     obtain ⟨W6, g6, mN, hH⟩ : ∃ W6 g6, (W5.alloc (.cells #[.int .u32 (x.fn.toNat : Int), .int .u32 (x.idx.toNat : Int), .string (zc x.name)] 120)) = W6 ∧ W5.heap.size = g6 := ⟨_, _, rfl, rfl⟩
     rw [mN] at it lc ne ⊢
     rw [hH] at ne ⊢
     have hH := qh hH
     clear mN hK K
     have sE := qh (HB.o.2.2.ext it.o)
     have rr : w.heap.size ≤ g6 := by have := bQ.o.size; have := HB.o.2.1.size; have := hV.o.2.size; have := hH.o; omega
     have vP := Lay.rd_take sE.o.slice qo.o (Nat.le_refl 0) (nlQ lN fw.o.2)
     have kK : Own Lay.nam 120 w.heap.size W6 (.slice (some ⟨g6, 0, none⟩) 1 1) [x] := ⟨[.int .u32 (x.fn.toNat : Int), .int .u32 (x.idx.toNat : Int), .string (zc x.name)], ⟨rfl, .inr ⟨g6, 1, _, rfl, rr, ne.o, Nat.le_refl _, by decide, rfl, rfl⟩⟩, Lay.all_single ⟨[_], [_, _], rfl, rfl, [_], [_], rfl, rfl, rfl, hst.o⟩⟩
     apply ze; rfl; intro K hK
     refine y2 Lay.nam w.heap.size (.tmp 35) (.tmp 38) _ _ _ 24 rfl Tryz.underlying35 zah rfl (by omega) (by decide) (.slice (some ⟨g6, 0, none⟩) 1 1) [x] (bP.drop 0) u1 i cu rfl rfl kK (A := fun k => k < W6.heap.size) ?_ (fun _ hf => Lay.all_flat Yf hf) (by have := ne.o.lt; omega) (by rw [ldQ]; have := fc.o; have := H.o.2.2; simp only [List.length_cons, List.length_nil]; omega) ?_
     ·rw [List.drop_zero]
      exact Lay.mono _ sE.o.slice (fun k hk => hk.2)
     ·intro v1 w1 h1 h2 h3
      refine hK _ _ (h2.mono (fun k _ e => by have e' : some k = some g6 := e; have := Option.some.inj e'; have := hH.o; have := uJ.o; show W4.heap.size ≤ k; omega)) ?_
      clear hK K
      have kB := qh (show Ext wq w1 from Fr.new (Ext.fr (Ext.trans HB.o.2.1 it.o) h2) (fun k e => by have e' : some k = some g6 := e; have := Option.some.inj e'; have := hH.o; have := bQ.o.size; have := HB.o.2.1.size; omega))
      have kI := qh (show Ext W5 w1 from Fr.new (Ext.fr lc.o h2) (fun k e => by have e' : some k = some g6 := e; have := Option.some.inj e'; have := hH.o; omega))
      obtain ⟨q1, q2, e3, dH, lT⟩ := h1.form
      subst e3
      have h1 := qh h1
      have ml := qh (Lay.fr (Lay.rd_take ns.o.slice qo.o (Nat.le_refl 0) (nlQ lN fw.o.2)) kI.o (fun k hk => ⟨hk.2, fun h => h⟩))
      apply ze; rfl; intro K hK
      refine jp Lay.nam Yf w.heap.size (.tmp 33) (.tmp 39) _ _ _ 24 rfl Tryz.underlying35 zah rfl (by omega) (bP.take 0) ([x] ++ bP.drop 0) u1 q1 0 _ q2 rfl rfl ml.o h1.o.slice (by simp) (by have := kB.o.size; have := hV.o.2.size; omega) (by rw [laQ, ltQ, ldQ]; have := fc.o; have := H.o.2.2; simp only [List.length_cons, List.length_nil]; omega) ?_
      intro v2 w2 k1 k2
      refine hK _ _ k2.to ?_
      have bf : Hd (Own Lay.nam 120 w.heap.size w2 v2 (Jw (l.take (i + 1))) ∧ Ext w w2) := by
       refine ⟨?_, Ext.trans hV.o.2 (Ext.trans kB.o k2)⟩
       rw [vY.o, hU.o]
       exact k1
      obtain ⟨z1, z2, z3, rfl⟩ := k1.shape
      clear hK K k1 k2 HC
      repeat (apply item_take; rfl; rfl; rfl; rfl; exact fun _ _ _ _ h => h; (intro _ _ _ k; go_simp; exact k))
      apply zl
      go_wp2
      go_roundw
      case rel => exact ⟨i + 1, by omega, by go_num, bf⟩
      case measure => simp [intOf]; omega
    | succ k' =>
     obtain ⟨p, hp⟩ := exQ (k' + 1)
     rw [hp] at hQ fo ⊢
     obtain ⟨k, wg⟩ : ∃ k, p = k + 1 := ⟨k', hp.symm⟩
     clear hp
     have wT : k < bP.length := by have := fc.o; omega
     obtain ⟨b, o, rfl, e0, e1, e2, -⟩ := Lay.nam_at hO.o.slice k wT
     have wy : bP[k]? = some bP[k] := List.getElem?_eq_getElem wT
     have vj : JO bP x.fn (k + 1) = if x.fn.toNat < bP[k].fn.toNat then JO bP x.fn k else k + 1 := by conv => lhs; unfold JO; rw [wy]
     generalize bP[k] = y at *
     have qQ : wrap64 ((p : Int) - 1) = (k : Int) := by unfold wrap64; omega
     have kH : IntKind.i64.wrap ((p : Int) - 1) = (k : Int) := by rw [IntKind.wrap_i64]; omega
     have d0 : decide ((0 : Int) < (p : Int)) = true := decide_eq_true (by omega)
     by_cases kD : x.fn.toNat < y.fn.toNat
     ·have xu := qh (show JO bP x.fn i = JO bP x.fn k from by rw [hQ.o.1, wg, vj, if_pos kD])
      have dg : decide ((x.fn.toNat : Int) < (y.fn.toNat : Int)) = true := decide_eq_true (by omega)
      have iH := qh hQ.o.2
      clear vj wy hO
      go_wp2_with fail
      go_quiet (fail)
      have cT := qh (show Ext W2 (wr.drewN nq) from Ext.trans iH.o ((Fr.refl _ wr).drewN _))
      generalize wr.drewN nq = W4 at *
      clear e0 e1 e2 ag hQ iH
      go_wp2
      go_roundw
      case rel => exact ⟨k, by omega, by go_num, xu.o, cT.o⟩
      case measure => simp [intOf]; omega
     ·have me := qh (show JO bP x.fn i = p from by rw [hQ.o.1, wg, vj, if_neg kD])
      have dg : decide ((x.fn.toNat : Int) < (y.fn.toNat : Int)) = false := decide_eq_false (by omega)
      have iH := qh hQ.o.2
      clear vj wy hO
      go_wp2_with fail
      go_quiet (fail)
      have cT := qh (show Ext W2 (wr.drewN nq) from Ext.trans iH.o ((Fr.refl _ wr).drewN _))
      generalize wr.drewN nq = W4 at *
      clear e0 e1 e2 ag hQ iH dg kD d0 qQ kH wg wT
      go_wp2_with fail
      have qo := qh (show p ≤ bP.length from by have := fc.o; omega)
      have hU := qh (show insN bP x = bP.take p ++ x :: bP.drop p from by unfold insN; rw [fc.o, me.o])
      have En : (p : Int) ≤ (cu : Int) := by have := fw.o.1; omega
      have lN : p ≤ cu := by have := fw.o.1; omega
      have re := qh (show ge < W4.heap.size from nqQ HB.o.1.lt cT.o.size)
      refine zi (y4 (fun k => W4.heap.size ≤ k)) [(0, .take), (1, .take), (2, .take), (3, .take), (4, .take), (6, .take), (7, .take), (8, .take), (5, .run), (9, .run), (10, .run), (11, .take)] (by kernel_rfl) (by kernel_rfl) ?_
      simp only [zy, gzQ, gsQ]
      have HC := qh (fun W' (h : Fr (fun k => W4.heap.size ≤ k) W4.drew W') => ((HB.o.1.ext (Ext.trans cT.o (zb _))).fr h (by have := re.o; omega)).cell)
      have uJ := qh (show W4.heap.size = W4.drew.heap.size from rfl)
      have bQ := qh (Ext.trans cT.o (zb W4))
      have ns := qh (HB.o.2.2.ext bQ.o)
      generalize W4.drew = W5 at *
      repeat (apply item_take; rfl; rfl; rfl; rfl; exact fun _ _ _ _ h => h; (intro W e _ k; have q := HC.o W e; go_simp; exact k))
      apply ze; rfl; intro K hK; go_simp
      refine hK _ _ (za _ _).to ?_
      have lc := qh (za W5 (.cells #[.int .u32 (x.fn.toNat : Int), .int .u32 (x.idx.toNat : Int), .string (zc x.name)] 120))
      have it := qh (Ext.trans bQ.o (za W5 (.cells #[.int .u32 (x.fn.toNat : Int), .int .u32 (x.idx.toNat : Int), .string (zc x.name)] 120)))
      have ne := qh (zk W5 #[.int .u32 (x.fn.toNat : Int), .int .u32 (x.idx.toNat : Int), .string (zc x.name)] 120)
      obtain ⟨W6, g6, mN, hH⟩ : ∃ W6 g6, (W5.alloc (.cells #[.int .u32 (x.fn.toNat : Int), .int .u32 (x.idx.toNat : Int), .string (zc x.name)] 120)) = W6 ∧ W5.heap.size = g6 := ⟨_, _, rfl, rfl⟩
      rw [mN] at it lc ne ⊢
      rw [hH] at ne ⊢
      have hH := qh hH
      clear mN hK K
      have sE := qh (HB.o.2.2.ext it.o)
      have rr : w.heap.size ≤ g6 := by have := bQ.o.size; have := HB.o.2.1.size; have := hV.o.2.size; have := hH.o; omega
      have uE := Lay.rd_dropG sE.o.slice qo.o
      have vP := Lay.rd_take sE.o.slice qo.o (Nat.le_refl p) (nlQ lN fw.o.2)
      have kK : Own Lay.nam 120 w.heap.size W6 (.slice (some ⟨g6, 0, none⟩) 1 1) [x] := ⟨[.int .u32 (x.fn.toNat : Int), .int .u32 (x.idx.toNat : Int), .string (zc x.name)], ⟨rfl, .inr ⟨g6, 1, _, rfl, rr, ne.o, Nat.le_refl _, by decide, rfl, rfl⟩⟩, Lay.all_single ⟨[_], [_, _], rfl, rfl, [_], [_], rfl, rfl, rfl, hst.o⟩⟩
      apply ze; rfl; intro K hK
      by_cases lf : cu = p
      ·rw [if_pos lf]
       refine y2 Lay.nam w.heap.size (.tmp 35) (.tmp 38) _ _ _ 24 rfl Tryz.underlying35 zah rfl (by omega) (by decide) (.slice (some ⟨g6, 0, none⟩) 1 1) [x] (bP.drop p) (some ⟨b, o, none⟩) _ (cu - p) rfl rfl kK (A := fun k => k < W6.heap.size) ?_ (fun _ hf => Lay.all_flat Yf hf) (by have := ne.o.lt; omega) (by rw [ldQ]; have := fc.o; have := H.o.2.2; simp only [List.length_cons, List.length_nil]; omega) ?_
       ·have hz : bP.drop p = [] := List.eq_nil_of_length_eq_zero (by rw [ldQ]; have := fw.o.1; have := fc.o; omega)
        have dC : i - p = 0 := by have := fw.o.1; omega
        rw [hz, dC]
        exact Lay.rd_end (by have := fw.o.2; omega)
       ·intro v1 w1 h1 h2 h3
        refine hK _ _ (h2.mono (fun k _ e => by have e' : some k = some g6 := e; have := Option.some.inj e'; have := hH.o; have := uJ.o; show W4.heap.size ≤ k; omega)) ?_
        clear hK K
        have kB := qh (show Ext wq w1 from Fr.new (Ext.fr (Ext.trans HB.o.2.1 it.o) h2) (fun k e => by have e' : some k = some g6 := e; have := Option.some.inj e'; have := hH.o; have := bQ.o.size; have := HB.o.2.1.size; omega))
        have kI := qh (show Ext W5 w1 from Fr.new (Ext.fr lc.o h2) (fun k e => by have e' : some k = some g6 := e; have := Option.some.inj e'; have := hH.o; omega))
        obtain ⟨q1, q2, e3, dH, lT⟩ := h1.form
        subst e3
        have h1 := qh h1
        have ml := qh (Lay.fr (Lay.rd_take ns.o.slice qo.o (Nat.le_refl p) (nlQ lN fw.o.2)) kI.o (fun k hk => ⟨hk.2, fun h => h⟩))
        apply ze; rfl; intro K hK
        refine jp Lay.nam Yf w.heap.size (.tmp 33) (.tmp 39) _ _ _ 24 rfl Tryz.underlying35 zah rfl (by omega) (bP.take p) ([x] ++ bP.drop p) (some ⟨b, o, none⟩) q1 p _ q2 rfl rfl ml.o h1.o.slice (by simp) (by have := kB.o.size; have := hV.o.2.size; omega) (by rw [laQ, ltQ, ldQ]; have := fc.o; have := H.o.2.2; simp only [List.length_cons, List.length_nil]; omega) ?_
        intro v2 w2 k1 k2
        refine hK _ _ k2.to ?_
        have bf : Hd (Own Lay.nam 120 w.heap.size w2 v2 (Jw (l.take (i + 1))) ∧ Ext w w2) := by
         refine ⟨?_, Ext.trans hV.o.2 (Ext.trans kB.o k2)⟩
         rw [vY.o, hU.o]
         exact k1
        obtain ⟨z1, z2, z3, rfl⟩ := k1.shape
        clear hK K k1 k2 HC
        repeat (apply item_take; rfl; rfl; rfl; rfl; exact fun _ _ _ _ h => h; (intro _ _ _ k; go_simp; exact k))
        apply zl
        go_wp2
        go_roundw
        case rel => exact ⟨i + 1, by omega, by go_num, bf⟩
        case measure => simp [intOf]; omega
      ·rw [if_neg lf]
       refine y2 Lay.nam w.heap.size (.tmp 35) (.tmp 38) _ _ _ 24 rfl Tryz.underlying35 zah rfl (by omega) (by decide) (.slice (some ⟨g6, 0, none⟩) 1 1) [x] (bP.drop p) _ _ _ rfl rfl kK (A := fun k => k < W6.heap.size) ?_ (fun _ hf => Lay.all_flat Yf hf) (by have := ne.o.lt; omega) (by rw [ldQ]; have := fc.o; have := H.o.2.2; simp only [List.length_cons, List.length_nil]; omega) ?_
       ·rw [fc.o, Option.map_some, jL] at uE
        exact Lay.mono _ uE (fun _ hk => hk.2)
       ·intro v1 w1 h1 h2 h3
        refine hK _ _ (h2.mono (fun k _ e => by have e' : some k = some g6 := e; have := Option.some.inj e'; have := hH.o; have := uJ.o; show W4.heap.size ≤ k; omega)) ?_
        clear hK K
        have kB := qh (show Ext wq w1 from Fr.new (Ext.fr (Ext.trans HB.o.2.1 it.o) h2) (fun k e => by have e' : some k = some g6 := e; have := Option.some.inj e'; have := hH.o; have := bQ.o.size; have := HB.o.2.1.size; omega))
        have kI := qh (show Ext W5 w1 from Fr.new (Ext.fr lc.o h2) (fun k e => by have e' : some k = some g6 := e; have := Option.some.inj e'; have := hH.o; omega))
        obtain ⟨q1, q2, e3, dH, lT⟩ := h1.form
        subst e3
        have h1 := qh h1
        have ml := qh (Lay.fr (Lay.rd_take ns.o.slice qo.o (Nat.le_refl p) (nlQ lN fw.o.2)) kI.o (fun k hk => ⟨hk.2, fun h => h⟩))
        apply ze; rfl; intro K hK
        refine jp Lay.nam Yf w.heap.size (.tmp 33) (.tmp 39) _ _ _ 24 rfl Tryz.underlying35 zah rfl (by omega) (bP.take p) ([x] ++ bP.drop p) (some ⟨b, o, none⟩) q1 p _ q2 rfl rfl ml.o h1.o.slice (by simp) (by have := kB.o.size; have := hV.o.2.size; omega) (by rw [laQ, ltQ, ldQ]; have := fc.o; have := H.o.2.2; simp only [List.length_cons, List.length_nil]; omega) ?_
        intro v2 w2 k1 k2
        refine hK _ _ k2.to ?_
        have bf : Hd (Own Lay.nam 120 w.heap.size w2 v2 (Jw (l.take (i + 1))) ∧ Ext w w2) := by
         refine ⟨?_, Ext.trans hV.o.2 (Ext.trans kB.o k2)⟩
         rw [vY.o, hU.o]
         exact k1
        obtain ⟨z1, z2, z3, rfl⟩ := k1.shape
        clear hK K k1 k2 HC
        repeat (apply item_take; rfl; rfl; rfl; rfl; exact fun _ _ _ _ h => h; (intro _ _ _ k; go_simp; exact k))
        apply zl
        go_wp2
        go_roundw
        case rel => exact ⟨i + 1, by omega, by go_num, bf⟩
        case measure => simp [intOf]; omega
  ·obtain rfl : i = l.length := by omega
   have bk := hV.o
   rw [tlQ] at bk
   have lS := qh bk
   clear hV bk
   go_wp2
   go_ret
   exact ⟨_, rfl, lS.o.1, lS.o.2⟩
end Go.Proofs.YtejgninpjhcgnaaGreatDoor
