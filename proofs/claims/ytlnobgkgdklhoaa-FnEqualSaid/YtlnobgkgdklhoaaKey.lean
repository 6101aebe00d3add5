/- The reference's keys: numbers, lists of numbers, function types. -/
import Derived.Test.YtlnobgkgdklhoaaSink
namespace Go.Proofs.Ytlnobgkgdklhoaa
open Go.RowKit
abbrev holdK : Hold := holdB 60
/-- uint64(n) of an int, written. -/
def ulebI (n : Int) : List UInt8 := uleb (n % 18446744073709551616).toNat
theorem ulebI_len (n : Int) : (ulebI n).length ≤ 10 := uleb_len64 _ (by omega)
def keyNums (l : List Int) : List UInt8 := uleb l.length ++ l.flatMap ulebI
theorem flat_len (l : List Int) : (l.flatMap ulebI).length ≤ 10 * l.length := by
  induction l with
  | nil => simp
  | cons a l ih =>
    have := ulebI_len a
    simp only [List.flatMap_cons, List.length_append, List.length_cons]
    omega
/-- A contract's bounds: bytes there, and to come. -/
abbrev KeyCap : Nat := 70368744177664

set_option maxRecDepth 100000 in
set_option maxHeartbeats 400000 in
theorem key_number_calls (lo g n : Nat) (hn : n < 18446744073709551616) (bs : List UInt8) (w : World) (hS : holdK.is lo g bs w) (hlo : lo ≤ w.heap.size) (hl : bs.length + 10 ≤ KeyCap) :
    Calls Try.prog 39 #[.pointer (some ⟨g, 0, none⟩), .int .u64 n] w fun e w' => e = .returned (.tuple #[]) ∧ Wrote holdK lo g w (bs ++ uleb n) w' := by
  obtain ⟨hg, v, hb, ho, hne⟩ := hS
  have hc := hb.cell 0
  simp only [List.getElem?_toArray, List.getElem?_cons_zero] at hc
  have H := Lib.hid (And.intro hg (And.intro hb (And.intro ho (And.intro hne (And.intro hlo (And.intro hn hl))))))
  clear hg hb ho hne hlo hl hn
  go_enter Try.func39, Try.ntmps39
  go_wp2_with (go_at_call 14; refine Hid.out ?_)
  obtain ⟨hg, hb, ho, hne, hlo, hn, hl⟩ := H.out
  refine (specAppendUnsigned_calls n hn lo v bs w ho hlo (by simp only [KeyCap] at hl; omega)).mono ?_
  rintro e w1 ⟨v1, rfl, h1, h2, h3⟩
  clear hc
  have hb1 := hb.fr h2 (fun e => hne e.symm)
  have hc1 := hb1.cell 0
  have hf1 := hb1.frz 0
  simp only [List.getElem?_toArray, List.getElem?_cons_zero] at hc1
  obtain ⟨aa1, n1, cap1, e1⟩ := h1.shape
  subst e1
  have H1 := Lib.hid (And.intro h1 (And.intro h2 h3))
  clear hg hb ho hne hlo hn hl h1 h2 h3 hb1
  go_wp2
  go_end0
  obtain ⟨hg, hb, ho, hne, hlo, hn, hl⟩ := H.out
  obtain ⟨h1, h2, h3⟩ := H1.out
  exact ⟨rfl, isB_step hg hb hne h1 h2 h3⟩

set_option maxRecDepth 100000 in
set_option maxHeartbeats 400000 in
theorem key_numbers_calls (lo g : Nat) (l : List Int) (v : Value) (A : Nat → Prop) (bs : List UInt8) (w : World) (hS : holdK.is lo g bs w) (hR : Lay.int.slice.rd A w [v] l) (hA : ∀ k, A k → k < lo) (hlo : lo ≤ w.heap.size) (hl : bs.length + 10 * l.length + 20 ≤ KeyCap) :
    Calls Try.prog 29 #[.pointer (some ⟨g, 0, none⟩), v] w fun e w' => e = .returned (.tuple #[]) ∧ Wrote holdK lo g w (bs ++ keyNums l) w' := by
  obtain ⟨aa, cap, rfl, hlc, hcm⟩ := Lay.slice_form hR
  have hlm : l.length < 18446744073709551616 := by simp only [maxLen] at hcm; omega
  have e1 : IntKind.u64.wrap (l.length : Int) = (l.length : Int) := by rw [IntKind.wrap_u64]; omega
  have hlen : (l.length : Int) ≤ 9223372036854775807 := by simp only [maxLen] at hcm; omega
  have H := Lib.hid (And.intro hS (And.intro hR (And.intro hA (And.intro hlo (And.intro hl hlm)))))
  clear hS hR hA hlo hl hlm hlc hcm
  go_enter Try.func29, Try.ntmps29
  go_wp2_with (go_at_call 39; refine Hid.out ?_)
  obtain ⟨hS, hR, hA, hlo, hl, hlm⟩ := H.out
  refine (key_number_calls lo g l.length hlm bs w hS hlo (by simp only [KeyCap] at *; omega)).mono ?_
  rintro e w1 ⟨rfl, hW1⟩
  have hW1 := Lib.hid hW1
  clear hS hR hA hlo hl hlm
  go_wp2_with fail
  go_loopw [13] (fun s13 w' => ∃ (i : Nat), i ≤ l.length ∧ s13 = .int .i64 i ∧ Hid (Wrote holdK lo g w (bs ++ uleb l.length ++ (l.take i).flatMap ulebI) w')) (fun s13 _ => l.length - (intOf s13).toNat)
  case atStart => exact ⟨0, Nat.zero_le _, rfl, (by rw [List.take_zero, List.flatMap_nil, List.append_nil]; exact hW1.out)⟩
  case round =>
    obtain ⟨i, hi, rfl, hW⟩ := hrel
    by_cases hlt : i < l.length
    · obtain ⟨hS, hR, hA, hlo, hl, hlm⟩ := H.out
      have hfr := Wrote.below hS hW.out
      have hRr := Lay.fr hR hfr (fun k hk => ⟨Nat.lt_of_lt_of_le (hA k hk) hlo, by have := hA k hk; omega⟩)
      obtain ⟨b, o, rfl, hAb, hcell, hx1, hx2⟩ := int_at hRr i hlt
      have htk : Hid (l.take (i + 1) = l.take i ++ [l[i]]) := by rw [List.take_succ_eq_append_getElem hlt]; rfl
      generalize l[i] = x at *
      have hmI : Hid (ulebI x = uleb (x % 18446744073709551616).toNat) := rfl
      obtain ⟨m, hm⟩ : ∃ m : Nat, (x % 18446744073709551616).toNat = m := ⟨_, rfl⟩
      rw [hm] at hmI
      have e2 : IntKind.u64.wrap x = (m : Int) := by rw [IntKind.wrap_u64]; omega
      have hub : Hid (m < 18446744073709551616) := by show _ < _; omega
      have hfl := Lib.hid (flat_len (l.take i))
      clear hS hR hA hlo hl hlm hfr hRr hAb hx1 hx2 hm
      go_wp2_with (go_at_call 39; refine Hid.out ?_)
      obtain ⟨hS, hR, hA, hlo, hl, hlm⟩ := H.out
      refine (key_number_calls lo g _ hub.out _ wr hW.out.is (Nat.le_trans hlo hW.out.fr.size) ?_).mono ?_
      · have h1 := hfl.out
        have h2 := uleb_len64 l.length hlm
        simp only [KeyCap, List.length_append] at *
        rw [List.length_take] at h1
        omega
      rintro e w2 ⟨rfl, hW2⟩
      have hW3 : Hid (Wrote holdK lo g w (bs ++ uleb l.length ++ (l.take (i + 1)).flatMap ulebI) w2) := by
        show Wrote _ _ _ _ _ _
        rw [htk.out, List.flatMap_append, ← List.append_assoc]
        exact hW.out.trans (by simpa [hmI.out] using hW2)
      clear hS hR hA hlo hl hlm hW2
      go_wp2
      go_roundw
      case rel => exact ⟨i + 1, by omega, by go_num, hW3⟩
      case measure => simp [intOf]; omega
    · obtain rfl : i = l.length := by omega
      go_wp2
      go_end0
      refine ⟨rfl, ?_⟩
      have := hW.out
      rw [List.take_length, List.append_assoc] at this
      exact this
def typeKey (x : List Int × List Int) : List UInt8 := keyNums x.1 ++ keyNums x.2
theorem keyNums_len (l : List Int) (h : l.length < 18446744073709551616) : (keyNums l).length ≤ 10 * l.length + 10 := by
  have h1 := flat_len l
  have h2 := uleb_len64 l.length h
  simp only [keyNums, List.length_append]
  omega
set_option maxRecDepth 100000 in
set_option maxHeartbeats 400000 in
theorem TypeKey_calls (x : List Int × List Int) (v1 v2 : Value) (A : Nat → Prop) (w : World) (h1 : Lay.int.slice.rd A w [v1] x.1) (h2 : Lay.int.slice.rd A w [v2] x.2) (hA : ∀ k, A k → k < w.heap.size) (hl : x.1.length + x.2.length ≤ 4294967296) :
    Calls Try.prog 12 #[.agg #[v1, v2]] w fun e w' => e = .returned (.string (strOf (typeKey x))) ∧ Ext w w' := by
  obtain ⟨a1, c1, rfl, -, -⟩ := Lay.slice_form h1
  obtain ⟨a2, c2, rfl, -, -⟩ := Lay.slice_form h2
  generalize hn1 : x.1.length = n1 at *
  generalize hn2 : x.2.length = n2 at *
  have H := Lib.hid (And.intro h1 (And.intro h2 (And.intro hA (And.intro hl (And.intro hn1 hn2)))))
  clear h1 h2 hA hl hn1 hn2
  go_enter Try.func12, Try.ntmps12
  go_wp2_with (go_at_call 29; refine Hid.out ?_)
  obtain ⟨h1, h2, hA, hl, hn1, hn2⟩ := H.out
  have hx0 := ext_alloc w (.cells #[.slice a1 n1 c1, .slice a2 n2 c2] 24)
  have hx1 := hx0.trans (ext_alloc _ (.cells #[.slice none 0 0] 60))
  have hlen1 := keyNums_len x.1 (by omega)
  refine (key_numbers_calls (w.heap.size + 1) (w.heap.size + 1) x.1 _ A [] _ (isB_at _ _ _ (by simp)) (by exact Lay.fr h1 hx1 (fun k hk => ⟨hA k hk, fun h => h⟩)) (fun k hk => by have := hA k hk; omega) (by simp) (by simp only [KeyCap, List.length_nil]; omega)).mono ?_
  rintro e w1 ⟨rfl, hW⟩
  rw [List.nil_append] at hW
  obtain ⟨_, -, -, hxa⟩ := wrote_at (by simp) hW
  have hB1 := (blk_new w _ _).ext hxa
  have hc1 := hB1.cell
  have H1 := Lib.hid (And.intro hW hxa)
  clear h1 h2 hA hl hn1 hn2 hx0 hx1 hlen1 hW hB1 hxa
  go_wp2_with (go_at_call 29; refine Hid.out ?_)
  obtain ⟨h1, h2, hA, hl, hn1, hn2⟩ := H.out
  obtain ⟨hW, hxa⟩ := H1.out
  have hx1 := (ext_alloc w (.cells #[.slice a1 n1 c1, .slice a2 n2 c2] 24)).trans hxa
  have hlen1 := keyNums_len x.1 (by omega)
  have hlen2 := keyNums_len x.2 (by omega)
  refine (key_numbers_calls (w.heap.size + 1) (w.heap.size + 1) x.2 _ A _ _ hW.is (by exact Lay.fr h2 hx1 (fun k hk => ⟨hA k hk, fun h => h⟩)) (fun k hk => by have := hA k hk; omega) (by have := hxa.size; simpa using this) (by simp only [KeyCap]; omega)).mono ?_
  rintro e w2 ⟨rfl, hW2⟩
  have hW3 := hW.trans hW2
  obtain ⟨v, hc, ho, hxb⟩ := wrote_at (by simp) hW3
  have hcv := conv_str ho.slice (fun _ hk => hk.2) 60 9 5 Try.underlying60 Try.underlying5 Try.underlying9 w2 (Fr.refl _ _)
  obtain ⟨aa, m, c, e1⟩ := ho.shape
  subst e1
  have HX := Lib.hid ((ext_alloc w (.cells #[.slice a1 n1 c1, .slice a2 n2 c2] 24)).trans hxb)
  clear h1 h2 hA hl hn1 hn2 hx1 hlen1 hlen2 hW hW2 hW3 ho hxb hxa hc1
  go_wp2
  go_ret
  exact ⟨rfl, HX.out⟩
end Go.Proofs.Ytlnobgkgdklhoaa
