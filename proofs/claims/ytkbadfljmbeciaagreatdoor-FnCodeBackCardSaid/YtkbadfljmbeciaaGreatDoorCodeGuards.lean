/- zzFits13, RoomCode, LegalCode. -/
import Derived.Test.YtkbadfljmbeciaaGreatDoorLegalWalk
import Derived.Test.YtkbadfljmbeciaaGreatDoorRoom
namespace Go.Proofs.YtkbadfljmbeciaaGreatDoor
open Go.RowKit
set_option maxRecDepth 100000 in
set_option maxHeartbeats 1000000 in
theorem zzFits13_calls (n1 n2 c1 c2 : Nat) (a1 a2 : Option Addr) (w : World) :
    Calls Tryz.prog 14 #[.agg #[.slice a1 n1 c1, .slice a2 n2 c2]] w fun e w' => e = .returned (.bool (decide (n1 ≤ 2147483647) && decide (n2 ≤ 2147483647))) ∧ Ext w w' := by
  by_cases h1 : 2147483647 < n1
  · have hp := Lib.hid (decide_eq_false (by omega : ¬ n1 ≤ 2147483647))
    have h1' : decide ((2147483647:Int) < (n1:Int)) = true := decide_eq_true (by omega)
    go_enter Tryz.func14, Tryz.ntmps14
    go_wp2
    go_ret
    exact ⟨by rw [hp.out]; rfl, ext_alloc _ _⟩
  · have hp := Lib.hid (decide_eq_true (by omega : n1 ≤ 2147483647))
    have h1' : decide ((2147483647:Int) < (n1:Int)) = false := decide_eq_false (by omega)
    by_cases h2 : 2147483647 < n2
    · have hq := Lib.hid (decide_eq_false (by omega : ¬ n2 ≤ 2147483647))
      have h2' : decide ((2147483647:Int) < (n2:Int)) = true := decide_eq_true (by omega)
      go_enter Tryz.func14, Tryz.ntmps14
      go_wp2
      go_ret
      exact ⟨by rw [hp.out, hq.out]; rfl, ext_alloc _ _⟩
    · have hq := Lib.hid (decide_eq_true (by omega : n2 ≤ 2147483647))
      have h2' : decide ((2147483647:Int) < (n2:Int)) = false := decide_eq_false (by omega)
      go_enter Tryz.func14, Tryz.ntmps14
      go_wp2
      go_ret
      exact ⟨by rw [hp.out, hq.out]; rfl, ext_alloc _ _⟩
set_option maxRecDepth 100000 in
set_option maxHeartbeats 1000000 in
theorem RoomCode_calls (n : Nat) (l : List Ins) (v1 : Value) (most : Int) (aa : Option Addr) (m c : Nat) (A : Nat → Prop) (w : World) (h2 : (Lay.ins n).slice.rd A w [.slice aa m c] l) (hA : ∀ k, A k → k < w.heap.size) (h0 : 0 ≤ most) (h1 : most ≤ 2147483647) :
    Calls Tryz.prog 5 #[.agg #[v1, .slice aa m c], .int .i64 most] w fun e w' => e = .returned (.bool (decide ((countL l : Int) ≤ most))) ∧ Ext w w' := by
  have H := Lib.hid (And.intro h2 hA)
  clear h2 hA
  go_enter Tryz.func5, Tryz.ntmps5
  go_wp2_with fail
  have hx0 := Ext.trans (ext_alloc w (.cells #[v1, .slice aa m c] 40)) (ext_alloc _ (.cells #[.int .i64 most] 3))
  refine (room_calls n l most aa m c A (w.heap.size + 1) _ (Lay.fr H.out.1 hx0 (fun k hk => ⟨H.out.2 k hk, fun h => h⟩)) (fun k hk => ⟨by have := H.out.2 k hk; simp; omega, by have := H.out.2 k hk; omega⟩) (by have := blk_new (w.alloc (.cells #[v1, .slice aa m c] 40)) #[.int .i64 most] 3; simpa using this) h0 h1).mono ?_
  rintro e w1 ⟨rfl, hF, -⟩
  have hX : Hid (Ext w w1) := (Ext.fr hx0 hF).mono (fun k hk (e : k = w.heap.size + 1) => by omega)
  clear hF hx0
  go_wp2
  go_ret
  exact ⟨rfl, hX.out⟩
set_option maxRecDepth 100000 in
set_option maxHeartbeats 1000000 in
theorem LegalCode_calls (n : Nat) (ls : List (UInt32 × Int)) (l : List Ins) (a1 a2 : Option Addr) (n1 n2 c1 c2 : Nat) (A : Nat → Prop) (w : World) (h1 : Lay.loc.slice.rd A w [.slice a1 n1 c1] ls) (h2 : (Lay.ins n).slice.rd A w [.slice a2 n2 c2] l) (hA : ∀ k, A k → k < w.heap.size) :
    Calls Tryz.prog 6 #[.agg #[.slice a1 n1 c1, .slice a2 n2 c2]] w fun e w' => e = .returned (.bool (legalCode ls l)) ∧ Ext w w' := by
  obtain ⟨a', c', e, hlc, hcm⟩ := Lay.slice_form h1
  obtain ⟨rfl, rfl, rfl⟩ : a1 = a' ∧ n1 = ls.length ∧ c1 = c' := by simpa using e
  have hlen : (ls.length : Int) ≤ 9223372036854775807 := by simp only [maxLen] at hcm; omega
  have H := Lib.hid (And.intro h1 (And.intro h2 hA))
  clear h1 h2 hA hcm hlc e
  go_enter Tryz.func6, Tryz.ntmps6
  go_wp2_with fail
  have hB := Lib.hid (blk_new w #[.slice a1 ls.length c1, .slice a2 n2 c2] 40)
  go_loopw [8] (fun s8 w' => ∃ (i : Nat), i ≤ ls.length ∧ s8 = .int .i64 i ∧ Hid (∀ (t : Nat) (h : t < ls.length), t < i → localOk ls[t] = true) ∧ Hid (Ext (w.alloc (.cells #[.slice a1 ls.length c1, .slice a2 n2 c2] 40)) w')) (fun s8 _ => ls.length - (intOf s8).toNat)
  case atStart => exact ⟨0, Nat.zero_le _, rfl, fun t _ h => absurd h (Nat.not_lt_zero _), Fr.refl _ _⟩
  case round =>
    obtain ⟨i, hi, rfl, hJ, hF⟩ := hrel
    by_cases hlt : i < ls.length
    · obtain ⟨b, o, rfl, hA1, e0, e1, -, -⟩ := loc_at (Lay.fr H.out.1 (Ext.trans (ext_alloc _ _) hF.out) (fun k hk => ⟨H.out.2.2 k hk, fun h => h⟩)) i hlt
      have hJ2 : Hid (localOk ls[i] = true → ∀ (t : Nat) (h : t < ls.length), t < i + 1 → localOk ls[t] = true) := by
        intro h0 t h ht
        rcases Nat.lt_or_ge t i with h1 | h1
        · exact hJ.out t h h1
        · obtain rfl : t = i := by omega
          exact h0
      have hJN : Hid (localOk ls[i] = false → legalCode ls l = false) := fun h0 => by
        show (ls.all localOk && _) = false
        rw [(List.all_eq_false.2 ⟨ls[i], List.getElem_mem _, by rw [h0]; decide⟩ : ls.all localOk = false)]; rfl
      generalize ls[i] = x at *
      obtain ⟨cn, ty⟩ := x
      simp only [] at e0 e1
      have hun : Hid (localOk (cn, ty) = (decide (0 ≤ ty) && decide (ty ≤ 3))) := rfl
      generalize localOk (cn, ty) = ok at *
      clear hJ hA1
      by_cases h0 : ty < 0
      · have hN : Hid (legalCode ls l = false) := hJN.out (by rw [hun.out, decide_eq_false (by omega)]; rfl)
        clear hun hJ2 hJN
        go_wp2
        go_ret
        exact ⟨by rw [hN.out]; rfl, Ext.trans (ext_alloc _ _) (hF.out.alloc _)⟩
      · by_cases h3 : 3 < ty
        · have hN : Hid (legalCode ls l = false) := hJN.out (by rw [hun.out, decide_eq_false (by omega : ¬ ty ≤ 3), Bool.and_false])
          clear hun hJ2 hJN
          go_wp2
          go_ret
          exact ⟨by rw [hN.out]; rfl, Ext.trans (ext_alloc _ _) (hF.out.alloc _)⟩
        · have hT := Lib.hid (hJ2.out (by rw [hun.out, decide_eq_true (by omega), decide_eq_true (by omega)]; rfl))
          clear hun hJ2 hJN
          go_wp2
          go_roundw
          case rel => exact ⟨i + 1, by omega, by go_num, hT, hF.out.alloc _⟩
          case measure => simp [intOf]; omega
    · obtain rfl : i = ls.length := by omega
      have hcB := (hB.out.ext hF.out).cell
      go_wp2_with fail
      refine (legal_calls n l 0 a2 n2 c2 A _ (Lay.fr H.out.2.1 (Ext.trans (ext_alloc _ _) hF.out) (fun k hk => ⟨H.out.2.2 k hk, fun h => h⟩)) (fun k hk => Nat.lt_of_lt_of_le (H.out.2.2 k hk) (Ext.trans (ext_alloc _ _) hF.out).size) (by omega) (by omega)).mono ?_
      rintro e w2 ⟨rfl, hx⟩
      have hX := Lib.hid (Ext.trans (Ext.trans (ext_alloc _ _) hF.out) hx)
      have hL : Hid (legalCode ls l = legalL 0 l) := by
        show (ls.all localOk && _) = _
        rw [List.all_eq_true.2 (fun x hx => by obtain ⟨t, ht, rfl⟩ := List.getElem_of_mem hx; exact hJ.out t ht ht)]; rfl
      clear hx hcB
      go_wp2
      go_ret
      exact ⟨by rw [hL.out]; rfl, hX.out⟩
end Go.Proofs.YtkbadfljmbeciaaGreatDoor
