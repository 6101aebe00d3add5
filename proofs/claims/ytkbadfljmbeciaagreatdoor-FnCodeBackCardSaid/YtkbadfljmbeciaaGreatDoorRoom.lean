/- spec.room, RoomCode. -/
import Derived.Test.YtkbadfljmbeciaaGreatDoorLibA
import Derived.Test.YtkbadfljmbeciaaGreatDoorProg
import Derived.KernelRfl
import Derived.Deep.QuietTactic
import Derived.BigQuiet
namespace Go.Proofs.YtkbadfljmbeciaaGreatDoor
open Go.RowKit
theorem countL_append : ∀ (l m : List Ins), countL (l ++ m) = countL l + countL m
  | [], m => by simp [countL]
  | x :: l, m => by simp only [List.cons_append, countL, countL_append l m]; omega
theorem count1_eq (x : Ins) : count1 x = 1 + countL x.body := by cases x; rfl
theorem countL_take {l : List Ins} {i : Nat} (h : i < l.length) : countL (l.take (i + 1)) = countL (l.take i) + (1 + countL l[i].body) := by
  rw [List.take_succ_eq_append_getElem h, countL_append, ← count1_eq]; simp [countL]
theorem countL_le {l : List Ins} (i : Nat) : countL (l.take i) ≤ countL l := by
  have := countL_append (l.take i) (l.drop i)
  rw [List.take_append_drop] at this
  omega
set_option maxRecDepth 100000 in
set_option maxHeartbeats 1000000 in
theorem room_calls (n : Nat) : ∀ (l : List Ins) (left : Int) (aa : Option Addr) (m c : Nat) (A : Nat → Prop) (g : Nat) (w : World), (Lay.ins n).slice.rd A w [.slice aa m c] l → (∀ k, A k → k < w.heap.size ∧ k ≠ g) → Blk w g #[.int .i64 left] 3 → 0 ≤ left → left ≤ 2147483647 →
    Calls Tryz.prog 18 #[.slice aa m c, .pointer (some ⟨g, 0, none⟩)] w fun e w' => e = .returned (.bool (decide ((countL l : Int) ≤ left))) ∧ Fr (fun k => k = g) w w' ∧ ((countL l : Int) ≤ left → Blk w' g #[.int .i64 (left - countL l)] 3) := by
  induction n using Nat.strongRecOn with
  | ind n ih =>
    intro l left aa m c A g w hR hA hB h0 h1
    obtain ⟨a', c', e, hlc, hcm⟩ := Lay.slice_form hR
    obtain ⟨rfl, rfl, rfl⟩ : aa = a' ∧ m = l.length ∧ c = c' := by simpa using e
    have hlen : (l.length : Int) ≤ 9223372036854775807 := by simp only [maxLen] at hcm; omega
    have H := Lib.hid (And.intro hR (And.intro hA (And.intro hB ih)))
    clear hR hA hB ih hlc hcm e
    go_enter Tryz.func18, Tryz.ntmps18
    go_wp2_with fail
    go_loopw [6, 9] (fun _ s9 w' => ∃ (i : Nat), i ≤ l.length ∧ s9 = .int .i64 i ∧ (countL (l.take i) : Int) ≤ left ∧ Hid (Blk w' g #[.int .i64 (left - countL (l.take i))] 3) ∧ Hid (Fr (fun k => k = g) w w')) (fun _ s9 _ => l.length - (intOf s9).toNat)
    case atStart => exact ⟨0, Nat.zero_le _, rfl, by simp [countL]; omega, by show Blk _ _ _ _; simpa [countL] using H.out.2.2.1, Fr.refl _ _⟩
    case round =>
      obtain ⟨i, hi, rfl, hcl, hBg, hF⟩ := hrel
      by_cases hlt : i < l.length
      · obtain ⟨hR, hA, hB, ih⟩ := H.out
        have hRr := Lay.fr hR hF.out (fun k hk => ⟨(hA k hk).1, fun e => (hA k hk).2 e⟩)
        obtain ⟨k, b, o, a1, n1, c1, a2, n2, c2, rfl, rfl, hAb, e0, e1, e2, e3, e4, -, -, -, hbody⟩ := Lay.ins_at hRr i hlt
        have htk := countL_take hlt
        have hle := countL_le (l := l) (i + 1)
        generalize l[i] = x at *
        have hc0 := hBg.out.cell 0
        have hf0 := hBg.out.frz 0
        have hgl := hBg.out.lt
        have hgne : g ≠ wr.heap.size := by omega
        simp only [List.getElem?_toArray, List.getElem?_cons_zero] at hc0
        have HR := Lib.hid (And.intro hRr (And.intro hbody (And.intro hAb (And.intro htk (And.intro hle (And.intro hA (And.intro ih hBg.out)))))))
        clear hR hA hB ih hRr hbody hAb htk hle hBg
        generalize hq : left - (countL (l.take i) : Int) = q at *
        have hq0 : 0 ≤ q := by omega
        have hq1 : q ≤ 2147483647 := by omega
        by_cases hneg : q - 1 < 0
        · have d0 : decide (q - 1 < 0) = true := decide_eq_true hneg
          have hN : Hid (decide ((countL l : Int) ≤ left) = false ∧ ¬ (countL l : Int) ≤ left) := by
            have := HR.out.2.2.2.1
            have := HR.out.2.2.2.2.1
            exact ⟨decide_eq_false (by omega), by omega⟩
          clear hneg hq
          go_wp2
          go_ret
          refine ⟨by rw [hN.out.1]; rfl, ?_, fun h => by have := hN.out.2; omega⟩
          exact (Fr.setCell hF.out (.inl rfl) _).alloc _
        · have d0 : decide (q - 1 < 0) = false := decide_eq_false hneg
          go_wp2_with fail
          obtain ⟨hRr, hbody, hAb, htk, hle, hA, ih, hB⟩ := HR.out
          have hB1 : Blk ((wr.setCell ⟨g, 0, none⟩ (.int .i64 (q - 1))).alloc (.cells #[.int .i64 x.op, .slice a1 n1 c1, .bool x.st, .int .i64 x.ty, .slice a2 n2 c2] 162)) g #[.int .i64 (q - 1)] 3 := (hB.set 0 (.int .i64 (q - 1))).ext (ext_alloc _ _)
          have hF1 : Fr (fun k => k = g) wr ((wr.setCell ⟨g, 0, none⟩ (.int .i64 (q - 1))).alloc (.cells #[.int .i64 x.op, .slice a1 n1 c1, .bool x.st, .int .i64 x.ty, .slice a2 n2 c2] 162)) := (Fr.setCell (S := fun k => k = g) (p := ⟨g, 0, none⟩) (Fr.refl _ wr) (.inl rfl) _).alloc _
          generalize ((wr.setCell ⟨g, 0, none⟩ (.int .i64 (q - 1))).alloc (.cells #[.int .i64 x.op, .slice a1 n1 c1, .bool x.st, .int .i64 x.ty, .slice a2 n2 c2] 162)) = w1 at *
          have hAw : ∀ k, A k → k < w1.heap.size ∧ k ≠ g := fun k hk => ⟨by have := (hA k hk).1; have := hF.out.size; have := hF1.size; omega, (hA k hk).2⟩
          refine (ih k (by omega) x.body (q - 1) a2 n2 c2 A g w1 (Lay.fr hbody hF1 (fun k hk => ⟨by have := (hA k hk).1; have := hF.out.size; omega, (hA k hk).2⟩)) hAw hB1 (by omega) (by omega)).mono ?_
          rintro e w2 ⟨rfl, hF2, hB2⟩
          have hF3 : Hid (Fr (fun k => k = g) w w2) := (hF.out.trans hF1 (fun _ _ h => h) (fun _ _ h => h)).trans hF2 (fun _ _ h => h) (fun _ _ h => h)
          by_cases hok : (countL x.body : Int) ≤ q - 1
          · have hd : decide ((countL x.body : Int) ≤ q - 1) = true := decide_eq_true hok
            rw [hd]
            have hcl2 : (countL (l.take (i + 1)) : Int) ≤ left := by omega
            have hB3 : Hid (Blk w2 g #[.int .i64 (left - countL (l.take (i + 1)))] 3) := by
              have := hB2 hok
              rw [show q - 1 - (countL x.body : Int) = left - countL (l.take (i + 1)) from by omega] at this
              exact this
            clear hd hok hB2 hF2 hAw hF1 hB1 hRr hbody hAb htk hle hA ih hB
            go_wp2
            go_roundw
            case rel => exact ⟨i + 1, by omega, by go_num, hcl2, hB3, hF3⟩
            case measure => simp [intOf]; omega
          · have hd : decide ((countL x.body : Int) ≤ q - 1) = false := decide_eq_false hok
            rw [hd]
            have hN : Hid (decide ((countL l : Int) ≤ left) = false ∧ ¬ (countL l : Int) ≤ left) := ⟨decide_eq_false (by omega), by omega⟩
            clear hd hok hB2 hF2 hAw hF1 hB1 hRr hbody hAb htk hle hA ih hB
            go_wp2
            go_ret
            exact ⟨by rw [hN.out.1]; rfl, hF3.out, fun h => by have := hN.out.2; omega⟩
      · obtain rfl : i = l.length := by omega
        have hd : decide ((countL l : Int) ≤ left) = true := by rw [List.take_length] at hcl; exact decide_eq_true hcl
        have hBe : Hid (Blk wr g #[.int .i64 (left - countL l)] 3) := by have := hBg.out; rw [List.take_length] at this; exact this
        go_wp2
        go_ret
        exact ⟨by rw [hd]; rfl, hF.out, fun _ => hBe.out⟩
end Go.Proofs.YtkbadfljmbeciaaGreatDoor
