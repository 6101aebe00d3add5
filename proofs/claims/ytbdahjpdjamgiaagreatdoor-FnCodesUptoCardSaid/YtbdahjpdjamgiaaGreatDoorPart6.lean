/- Texts of this proof, one behind the other. -/
import Derived.Test.YtbdahjpdjamgiaaGreatDoorPart5
import Derived.Deep.WholeRow
import Derived.Deep.MidRow
/- spec.key.text; the keys of nothing. -/
namespace Go.Proofs.YtbdahjpdjamgiaaGreatDoor
open Go.RowKit
/-- A text, behind its length. -/
def keyText (s : List UInt8) : List UInt8 := uleb s.length ++ s
set_option maxRecDepth 100000 in
set_option maxHeartbeats 400000 in
theorem key_text_calls (lo g : Nat) (st : ByteArray) (bs : List UInt8) (w : World) (hS : holdK.is lo g bs w) (hlo : lo ≤ w.heap.size) (hl : bs.length + st.size + 20 ≤ KeyCap) :
    Calls Tryz.prog 41 #[.pointer (some ⟨g, 0, none⟩), .string st] w fun e w' => e = .returned (.tuple #[]) ∧ Wrote holdK lo g w (bs ++ keyText st.data.toList) w' := by
  have hsz : st.data.toList.length = st.size := by simp
  have hst : st.size < 18446744073709551616 := by simp only [KeyCap] at hl; omega
  have hst2 : (st.size : Int) ≤ 9223372036854775807 := by simp only [KeyCap] at hl; omega
  have hw1 : IntKind.u64.wrap (st.size : Int) = (st.size : Int) := by rw [IntKind.wrap_u64]; omega
  have hul := uleb_len64 st.size hst
  have H := Lib.hid (And.intro hS (And.intro hlo (And.intro hl (And.intro hst (And.intro hul hsz)))))
  clear hS hlo hl hst hsz hul
  go_enter Tryz.func41, Tryz.ntmps41
  go_wp2_with fail
  refine (key_number_calls lo g st.size H.out.2.2.2.1 bs w H.out.1 H.out.2.1 (by have := H.out.2.2.1; omega)).mono ?_
  rintro e w1 ⟨rfl, hW⟩
  obtain ⟨hg, v, hb, ho, hne⟩ := hW.is
  have hc := hb.cell 0
  have hf := hb.frz 0
  simp only [List.getElem?_toArray, List.getElem?_cons_zero] at hc
  obtain ⟨aa, n, cap, rfl⟩ := ho.shape
  have H1 := Lib.hid (And.intro hW (And.intro hg (And.intro hb (And.intro ho hne))))
  clear hW hg hb ho hne
  go_wp2_with (at_builtin; refine Hid.out ?_)
  refine own_appstr lo rfl (.tmp 12) (.tmp 13) _ _ _ rfl Tryz.underlying131 Tryz.underlying9 infoB (.slice aa n cap) (bs ++ uleb st.size) st rfl rfl H1.out.2.2.2.1 (Nat.le_trans H.out.2.1 H1.out.1.fr.size) (by have := H.out.2.2.1; have := H.out.2.2.2.2.1; rw [List.length_append]; simp only [KeyCap] at *; omega) ?_
  intro v1 w2 h1 h2 h3
  have hb2 := H1.out.2.2.1.fr h2 (fun e => H1.out.2.2.2.2 e.symm)
  have hf2 := hb2.frz 0
  have hc2 := hb2.cell 0
  simp only [List.getElem?_toArray, List.getElem?_cons_zero] at hc2
  have H2 := Lib.hid (And.intro h1 (And.intro h2 h3))
  obtain ⟨aa1, n1, cap1, rfl⟩ := h1.shape
  clear h1 h2 h3 hb2 hc hf
  go_wp2
  go_end0
  refine ⟨rfl, H1.out.1.trans ?_⟩
  have := isB_step H1.out.2.1 H1.out.2.2.1 H1.out.2.2.2.2 H2.out.1 H2.out.2.1 H2.out.2.2
  rw [keyText, ← List.append_assoc, H.out.2.2.2.2.2]
  exact this
set_option maxRecDepth 100000 in
set_option maxHeartbeats 400000 in
theorem key_indices0_calls (lo g : Nat) (bs : List UInt8) (w : World) (hS : holdK.is lo g bs w) (hlo : lo ≤ w.heap.size) (hl : bs.length + 10 ≤ KeyCap) :
    Calls Tryz.prog 44 #[.pointer (some ⟨g, 0, none⟩), .slice none 0 0] w fun e w' => e = .returned (.tuple #[]) ∧ Wrote holdK lo g w (bs ++ uleb 0) w' := by
  have H := Lib.hid (And.intro hS (And.intro hlo hl))
  clear hS hlo hl
  go_enter Tryz.func44, Tryz.ntmps44
  go_wp2_with fail
  refine (key_number_calls lo g 0 (by decide) bs w H.out.1 H.out.2.1 H.out.2.2).mono ?_
  rintro e w1 ⟨rfl, hW⟩
  have hW := Lib.hid hW
  go_wp2_with fail
  refine wp_loop_rounds 1 ?_
  rw [rounds_succ]
  go_wp2
  go_end0
  exact ⟨rfl, hW.out⟩
set_option maxRecDepth 100000 in
set_option maxHeartbeats 400000 in
theorem key_limits0_calls (lo g : Nat) (bs : List UInt8) (w : World) (hS : holdK.is lo g bs w) (hlo : lo ≤ w.heap.size) (hl : bs.length + 10 ≤ KeyCap) :
    Calls Tryz.prog 43 #[.pointer (some ⟨g, 0, none⟩), .slice none 0 0] w fun e w' => e = .returned (.tuple #[]) ∧ Wrote holdK lo g w (bs ++ uleb 0) w' := by
  have H := Lib.hid (And.intro hS (And.intro hlo hl))
  clear hS hlo hl
  go_enter Tryz.func43, Tryz.ntmps43
  go_wp2_with fail
  refine (key_number_calls lo g 0 (by decide) bs w H.out.1 H.out.2.1 H.out.2.2).mono ?_
  rintro e w1 ⟨rfl, hW⟩
  have hW := Lib.hid hW
  go_wp2_with fail
  refine wp_loop_rounds 1 ?_
  rw [rounds_succ]
  go_wp2
  go_end0
  exact ⟨rfl, hW.out⟩
set_option maxRecDepth 100000 in
set_option maxHeartbeats 400000 in
theorem key_names0_calls (lo g : Nat) (bs : List UInt8) (w : World) (hS : holdK.is lo g bs w) (hlo : lo ≤ w.heap.size) (hl : bs.length + 10 ≤ KeyCap) :
    Calls Tryz.prog 45 #[.pointer (some ⟨g, 0, none⟩), .slice none 0 0] w fun e w' => e = .returned (.tuple #[]) ∧ Wrote holdK lo g w (bs ++ uleb 0) w' := by
  have H := Lib.hid (And.intro hS (And.intro hlo hl))
  clear hS hlo hl
  go_enter Tryz.func45, Tryz.ntmps45
  go_wp2_with fail
  refine (key_number_calls lo g 0 (by decide) bs w H.out.1 H.out.2.1 H.out.2.2).mono ?_
  rintro e w1 ⟨rfl, hW⟩
  have hW := Lib.hid hW
  go_wp2_with fail
  refine wp_loop_rounds 1 ?_
  rw [rounds_succ]
  go_wp2
  go_end0
  exact ⟨rfl, hW.out⟩
set_option maxRecDepth 100000 in
set_option maxHeartbeats 400000 in
theorem sorted0_calls (w : World) : Calls Tryz.prog 46 #[.slice none 0 0] w fun e w' => e = .returned (.slice none 0 0) ∧ w' = w := by
  go_enter Tryz.func46, Tryz.ntmps46
  go_wp2_with fail
  refine wp_loop_rounds 1 ?_
  rw [rounds_succ]
  go_wp2
  go_ret
  exact ⟨rfl, rfl⟩
end Go.Proofs.YtbdahjpdjamgiaaGreatDoor
/- spec.Key at a module that has code entries alone (gen_keymod.py). -/
namespace Go.Proofs.YtbdahjpdjamgiaaGreatDoor
open Go.RowKit
set_option linter.unusedSimpArgs false
/-- The value of a module that has code entries alone. -/
abbrev modC (v : Value) : Value := .agg #[.int .u32 0, .bool false, .int .u32 0, .slice none 0 0, .slice none 0 0, .slice none 0 0, .slice none 0 0, .slice none 0 0, .slice none 0 0, .slice none 0 0, .slice none 0 0, v, .slice none 0 0, .slice none 0 0, .string ⟨#[]⟩, .slice none 0 0, .slice none 0 0]
theorem u0len : (uleb 0).length = 1 := by rw [uleb_small (by decide)]; rfl
theorem keyTexts_take {cs : List (List UInt8)} {i : Nat} (h : i < cs.length) : (cs.take (i + 1)).flatMap keyText = (cs.take i).flatMap keyText ++ keyText cs[i] := by
  rw [List.take_succ_eq_append_getElem h, List.flatMap_append]; simp
theorem keyTexts_len {cs : List (List UInt8)} {i : Nat} (h : i < cs.length) : ((cs.take i).flatMap keyText).length + (keyText cs[i]).length ≤ (cs.flatMap keyText).length := by
  have : cs = cs.take i ++ (cs[i] :: cs.drop (i + 1)) := by rw [← List.drop_eq_getElem_cons h, List.take_append_drop]
  have h2 := congrArg (fun l : List (List UInt8) => (l.flatMap keyText).length) this
  simp only [List.flatMap_append, List.flatMap_cons, List.length_append] at h2
  omega
set_option maxRecDepth 100000 in
set_option maxHeartbeats 4000000 in
theorem Key_calls (cs : List (List UInt8)) (aa : Option Addr) (n c : Nat) (A : Nat → Prop) (w : World) (h : Lay.u8.slice.slice.rd A w [.slice aa n c] cs) (hA : ∀ k, A k → k < w.heap.size) (hl : (cs.flatMap keyText).length + 40 ≤ 35184372088832) :
    Calls Tryz.prog 24 #[modC (.slice aa n c)] w fun e w' => ∃ kk : List UInt8, e = .returned (.string (strOf kk)) ∧ (cs.flatMap keyText).length ≤ kk.length ∧ Ext w w' := by
  obtain ⟨a', c', e, hlc, hcm⟩ := Lay.slice_form h
  obtain ⟨rfl, rfl, rfl⟩ : aa = a' ∧ n = cs.length ∧ c = c' := by simpa using e
  have hlen : (cs.length : Int) ≤ 9223372036854775807 := by simp only [maxLen] at hcm; omega
  have hw1 : IntKind.u64.wrap (cs.length : Int) = (cs.length : Int) := by rw [IntKind.wrap_u64]; omega
  have hl1 := Lib.hid (show cs.length < 18446744073709551616 by omega)
  have hu0 := Lib.hid u0len
  have hun := Lib.hid (uleb_len64 cs.length hl1.out)
  have H := Lib.hid (And.intro h (And.intro hA hl))
  have he0 : (⟨#[]⟩ : ByteArray).size = 0 := rfl
  clear h hA hcm hlc e hl
  unfold modC
  go_enter Tryz.func24, Tryz.ntmps24
  go_wp2_with fail
  have hx0 := Lib.hid (ext_alloc w (.cells #[.int .u32 0, .bool false, .int .u32 0, .slice none 0 0, .slice none 0 0, .slice none 0 0, .slice none 0 0, .slice none 0 0, .slice none 0 0, .slice none 0 0, .slice none 0 0, .slice aa cs.length c, .slice none 0 0, .slice none 0 0, .string ⟨#[]⟩, .slice none 0 0, .slice none 0 0] 36))
  have hB := Lib.hid (blk_new w #[.int .u32 0, .bool false, .int .u32 0, .slice none 0 0, .slice none 0 0, .slice none 0 0, .slice none 0 0, .slice none 0 0, .slice none 0 0, .slice none 0 0, .slice none 0 0, .slice aa cs.length c, .slice none 0 0, .slice none 0 0, .string ⟨#[]⟩, .slice none 0 0, .slice none 0 0] 36)
  have hn1 := Lib.hid (show (w.alloc (.cells #[.int .u32 0, .bool false, .int .u32 0, .slice none 0 0, .slice none 0 0, .slice none 0 0, .slice none 0 0, .slice none 0 0, .slice none 0 0, .slice none 0 0, .slice none 0 0, .slice aa cs.length c, .slice none 0 0, .slice none 0 0, .string ⟨#[]⟩, .slice none 0 0, .slice none 0 0] 36)).heap.size = w.heap.size + 1 by simp)
  generalize (w.alloc (.cells #[.int .u32 0, .bool false, .int .u32 0, .slice none 0 0, .slice none 0 0, .slice none 0 0, .slice none 0 0, .slice none 0 0, .slice none 0 0, .slice none 0 0, .slice none 0 0, .slice aa cs.length c, .slice none 0 0, .slice none 0 0, .string ⟨#[]⟩, .slice none 0 0, .slice none 0 0] 36)) = W0 at *
  have hS := isB_at 131 W0 (w.heap.size + 1) hn1.out
  have hlo : w.heap.size + 1 ≤ (W0.alloc (.cells #[.slice none 0 0] 131)).heap.size := Nat.le_trans (Nat.le_of_eq hn1.out.symm) (ext_alloc W0 _).size
  have HK := Lib.hid (Wrote.refl hS)
  have HS := Lib.hid hlo
  clear hS hlo
  refine (key_flag_calls _ _ false _ _ HK.out.is HS.out (by have := hu0.out; have := H.out.2.2; simp only [List.length_append, List.length_nil, KeyCap, Bool.false_eq_true, if_false] at *; omega)).mono ?_
  rintro e w1 ⟨rfl, hW⟩
  replace hW := HK.out.trans hW
  clear HK HS
  obtain ⟨_, -, -, hxa⟩ := wrote_at hn1.out hW
  have hcB := (hB.out.ext hxa).cell
  have HS := Lib.hid (show w.heap.size + 1 ≤ w1.heap.size from by rw [← hn1.out]; exact hxa.size)
  have HK := Lib.hid hW
  clear hW hxa
  go_wp2_with fail
  refine (key_number_calls _ _ 0 (by decide) _ _ HK.out.is HS.out (by have := hu0.out; have := H.out.2.2; simp only [List.length_append, List.length_nil, KeyCap, Bool.false_eq_true, if_false] at *; omega)).mono ?_
  rintro e w2 ⟨rfl, hW⟩
  replace hW := HK.out.trans hW
  clear HK HS hcB
  obtain ⟨_, -, -, hxa⟩ := wrote_at hn1.out hW
  have hcB := (hB.out.ext hxa).cell
  have HS := Lib.hid (show w.heap.size + 1 ≤ w2.heap.size from by rw [← hn1.out]; exact hxa.size)
  have HK := Lib.hid hW
  clear hW hxa
  go_wp2_with fail
  refine wp_loop_rounds 1 ?_
  rw [rounds_succ]
  go_wp2_with fail
  refine (key_number_calls _ _ 0 (by decide) _ _ HK.out.is HS.out (by have := hu0.out; have := H.out.2.2; simp only [List.length_append, List.length_nil, KeyCap, Bool.false_eq_true, if_false] at *; omega)).mono ?_
  rintro e w3 ⟨rfl, hW⟩
  replace hW := HK.out.trans hW
  clear HK HS hcB
  obtain ⟨_, -, -, hxa⟩ := wrote_at hn1.out hW
  have hcB := (hB.out.ext hxa).cell
  have HS := Lib.hid (show w.heap.size + 1 ≤ w3.heap.size from by rw [← hn1.out]; exact hxa.size)
  have HK := Lib.hid hW
  clear hW hxa
  go_wp2_with fail
  refine wp_loop_rounds 1 ?_
  rw [rounds_succ]
  go_wp2_with fail
  refine (key_indices0_calls _ _ _ _ HK.out.is HS.out (by have := hu0.out; have := H.out.2.2; simp only [List.length_append, List.length_nil, KeyCap, Bool.false_eq_true, if_false] at *; omega)).mono ?_
  rintro e w4 ⟨rfl, hW⟩
  replace hW := HK.out.trans hW
  clear HK HS hcB
  obtain ⟨_, -, -, hxa⟩ := wrote_at hn1.out hW
  have hcB := (hB.out.ext hxa).cell
  have HS := Lib.hid (show w.heap.size + 1 ≤ w4.heap.size from by rw [← hn1.out]; exact hxa.size)
  have HK := Lib.hid hW
  clear hW hxa
  go_wp2_with fail
  refine (key_limits0_calls _ _ _ _ HK.out.is HS.out (by have := hu0.out; have := H.out.2.2; simp only [List.length_append, List.length_nil, KeyCap, Bool.false_eq_true, if_false] at *; omega)).mono ?_
  rintro e w5 ⟨rfl, hW⟩
  replace hW := HK.out.trans hW
  clear HK HS hcB
  obtain ⟨_, -, -, hxa⟩ := wrote_at hn1.out hW
  have hcB := (hB.out.ext hxa).cell
  have HS := Lib.hid (show w.heap.size + 1 ≤ w5.heap.size from by rw [← hn1.out]; exact hxa.size)
  have HK := Lib.hid hW
  clear hW hxa
  go_wp2_with fail
  refine (key_limits0_calls _ _ _ _ HK.out.is HS.out (by have := hu0.out; have := H.out.2.2; simp only [List.length_append, List.length_nil, KeyCap, Bool.false_eq_true, if_false] at *; omega)).mono ?_
  rintro e w6 ⟨rfl, hW⟩
  replace hW := HK.out.trans hW
  clear HK HS hcB
  obtain ⟨_, -, -, hxa⟩ := wrote_at hn1.out hW
  have hcB := (hB.out.ext hxa).cell
  have HS := Lib.hid (show w.heap.size + 1 ≤ w6.heap.size from by rw [← hn1.out]; exact hxa.size)
  have HK := Lib.hid hW
  clear hW hxa
  go_wp2_with fail
  refine (key_number_calls _ _ 0 (by decide) _ _ HK.out.is HS.out (by have := hu0.out; have := H.out.2.2; simp only [List.length_append, List.length_nil, KeyCap, Bool.false_eq_true, if_false] at *; omega)).mono ?_
  rintro e w7 ⟨rfl, hW⟩
  replace hW := HK.out.trans hW
  clear HK HS hcB
  obtain ⟨_, -, -, hxa⟩ := wrote_at hn1.out hW
  have hcB := (hB.out.ext hxa).cell
  have HS := Lib.hid (show w.heap.size + 1 ≤ w7.heap.size from by rw [← hn1.out]; exact hxa.size)
  have HK := Lib.hid hW
  clear hW hxa
  go_wp2_with fail
  refine wp_loop_rounds 1 ?_
  rw [rounds_succ]
  go_wp2_with fail
  refine (key_number_calls _ _ 0 (by decide) _ _ HK.out.is HS.out (by have := hu0.out; have := H.out.2.2; simp only [List.length_append, List.length_nil, KeyCap, Bool.false_eq_true, if_false] at *; omega)).mono ?_
  rintro e w8 ⟨rfl, hW⟩
  replace hW := HK.out.trans hW
  clear HK HS hcB
  obtain ⟨_, -, -, hxa⟩ := wrote_at hn1.out hW
  have hcB := (hB.out.ext hxa).cell
  have HS := Lib.hid (show w.heap.size + 1 ≤ w8.heap.size from by rw [← hn1.out]; exact hxa.size)
  have HK := Lib.hid hW
  clear hW hxa
  go_wp2_with fail
  refine wp_loop_rounds 1 ?_
  rw [rounds_succ]
  go_wp2_with fail
  refine (key_number_calls _ _ 0 (by decide) _ _ HK.out.is HS.out (by have := hu0.out; have := H.out.2.2; simp only [List.length_append, List.length_nil, KeyCap, Bool.false_eq_true, if_false] at *; omega)).mono ?_
  rintro e w9 ⟨rfl, hW⟩
  replace hW := HK.out.trans hW
  clear HK HS hcB
  obtain ⟨_, -, -, hxa⟩ := wrote_at hn1.out hW
  have hcB := (hB.out.ext hxa).cell
  have HS := Lib.hid (show w.heap.size + 1 ≤ w9.heap.size from by rw [← hn1.out]; exact hxa.size)
  have HK := Lib.hid hW
  clear hW hxa
  go_wp2_with fail
  refine wp_loop_rounds 1 ?_
  rw [rounds_succ]
  go_wp2_with fail
  refine (key_number_calls _ _ cs.length hl1.out _ _ HK.out.is HS.out (by have := hu0.out; have := H.out.2.2; simp only [List.length_append, List.length_nil, KeyCap, Bool.false_eq_true, if_false] at *; omega)).mono ?_
  rintro e w10 ⟨rfl, hW⟩
  replace hW := HK.out.trans hW
  clear HK HS hcB
  obtain ⟨_, -, -, hxa⟩ := wrote_at hn1.out hW
  have hcB := (hB.out.ext hxa).cell
  have HS := Lib.hid (show w.heap.size + 1 ≤ w10.heap.size from by rw [← hn1.out]; exact hxa.size)
  have HK := Lib.hid hW
  clear hW hxa
  go_wp2_with fail
  obtain ⟨pre, hpre⟩ : ∃ pre, [] ++ uleb (if false then 1 else 0) ++ uleb 0 ++ uleb 0 ++ uleb 0 ++ uleb 0 ++ uleb 0 ++ uleb 0 ++ uleb 0 ++ uleb 0 ++ uleb cs.length = pre := ⟨_, rfl⟩
  have hprel : pre.length ≤ 30 := by rw [← hpre]; have := hu0.out; have := hun.out; simp only [List.length_append, List.length_nil] at *; simp only [Bool.false_eq_true, if_false] at *; omega
  rw [hpre] at HK
  have hprel := Lib.hid hprel
  clear hpre
  have HW0 := Lib.hid (show Ext W0 w10 from by obtain ⟨_, -, -, hxa⟩ := wrote_at hn1.out HK.out; exact hxa)
  go_loopw [170] (fun s170 w' => ∃ (i : Nat), i ≤ cs.length ∧ s170 = .int .i64 i ∧ Hid (Wrote holdK (w.heap.size + 1) (w.heap.size + 1) (W0.alloc (.cells #[.slice none 0 0] 131)) (pre ++ (cs.take i).flatMap keyText) w')) (fun s170 _ => cs.length - (intOf s170).toNat)
  case atStart => exact ⟨0, Nat.zero_le _, rfl, by show Wrote _ _ _ _ _ _; simpa using HK.out⟩
  case round =>
    obtain ⟨i, hi, rfl, hV⟩ := hrel
    obtain ⟨_, -, -, hxa⟩ := wrote_at hn1.out hV.out
    have hxw := Lib.hid (Ext.trans hx0.out hxa)
    have HSr := Lib.hid (show w.heap.size + 1 ≤ wr.heap.size from by rw [← hn1.out]; exact hxa.size)
    have hcR := Lib.hid (hB.out.ext hxa).cell
    clear hcB hxa HK HS HW0
    by_cases hlt : i < cs.length
    · obtain ⟨b, o, es, hi', rfl, hA1, -, hr, hc⟩ := Lay.slice_at (Lay.fr H.out.1 hxw.out (fun k hk => ⟨H.out.2.1 k hk, fun h => h⟩)) i hlt
      have htk := Lib.hid (keyTexts_take hlt)
      have hkl := Lib.hid (keyTexts_len hlt)
      generalize cs[i] = x at *
      obtain ⟨ax, kx, rfl, hx1, hx2, -⟩ := id hr
      have e0 : wr.cell? ⟨b, o + i, none⟩ = some (.slice ax x.length kx) := by have := hc 0 (by decide); rw [show o + i * Lay.u8.slice.size + 0 = o + i from by show o + i * 1 + 0 = o + i; omega] at this; exact this
      have hcv := conv_str hr (fun k hk => Nat.lt_of_lt_of_le (H.out.2.1 k hk) hxw.out.size) 43 9 5 Tryz.underlying43 Tryz.underlying5 Tryz.underlying9 wr (Fr.refl _ _)
      clear hr hc hA1 hi' hx1 hx2
      go_wp2_with fail
      refine (key_text_calls _ _ (strOf x) _ _ hV.out.is HSr.out (by have := hprel.out; have := hkl.out; have := H.out.2.2; rw [strOf_size]; simp only [keyText, List.length_append, KeyCap] at *; omega)).mono ?_
      rintro e w20 ⟨rfl, hR⟩
      have hV2 := Lib.hid (show Wrote holdK (w.heap.size + 1) (w.heap.size + 1) (W0.alloc (.cells #[.slice none 0 0] 131)) (pre ++ (cs.take (i + 1)).flatMap keyText) w20 from by
        rw [htk.out, ← List.append_assoc]
        exact hV.out.trans hR)
      clear hR hcv
      go_wp2
      go_roundw
      case rel => exact ⟨i + 1, by omega, by go_num, hV2⟩
      case measure => simp [intOf]; omega
    · obtain rfl : i = cs.length := by omega
      have HK := Lib.hid (show Wrote holdK (w.heap.size + 1) (w.heap.size + 1) (W0.alloc (.cells #[.slice none 0 0] 131)) (pre ++ cs.flatMap keyText) wr from by have := hV.out; rw [List.take_length] at this; exact this)
      have HS := HSr
      have hcB := hcR.out
      clear hcR hV HSr hxw
      go_wp2_with fail
      refine (key_number_calls _ _ 0 (by decide) _ _ HK.out.is HS.out (by have := hprel.out; have := hu0.out; have := H.out.2.2; simp only [keyText, List.length_append, List.length_nil, KeyCap] at *; omega)).mono ?_
      rintro e w31 ⟨rfl, hW⟩
      replace hW := HK.out.trans hW
      clear HK HS hcB
      obtain ⟨_, -, -, hxa⟩ := wrote_at hn1.out hW
      have hcB := (hB.out.ext hxa).cell
      have HS := Lib.hid (show w.heap.size + 1 ≤ w31.heap.size from by rw [← hn1.out]; exact hxa.size)
      have HK := Lib.hid hW
      clear hW hxa
      go_wp2_with fail
      refine wp_loop_rounds 1 ?_
      rw [rounds_succ]
      go_wp2_with fail
      refine (key_number_calls _ _ 0 (by decide) _ _ HK.out.is HS.out (by have := hprel.out; have := hu0.out; have := H.out.2.2; simp only [keyText, List.length_append, List.length_nil, KeyCap] at *; omega)).mono ?_
      rintro e w32 ⟨rfl, hW⟩
      replace hW := HK.out.trans hW
      clear HK HS hcB
      obtain ⟨_, -, -, hxa⟩ := wrote_at hn1.out hW
      have hcB := (hB.out.ext hxa).cell
      have HS := Lib.hid (show w.heap.size + 1 ≤ w32.heap.size from by rw [← hn1.out]; exact hxa.size)
      have HK := Lib.hid hW
      clear hW hxa
      go_wp2_with fail
      refine wp_loop_rounds 1 ?_
      rw [rounds_succ]
      go_wp2_with fail
      refine (key_text_calls _ _ ⟨#[]⟩ _ _ HK.out.is HS.out (by have := hprel.out; have := hu0.out; have := H.out.2.2; rw [he0]; simp only [keyText, List.length_append, List.length_nil, KeyCap] at *; omega)).mono ?_
      rintro e w33 ⟨rfl, hW⟩
      replace hW := HK.out.trans hW
      clear HK HS hcB
      obtain ⟨_, -, -, hxa⟩ := wrote_at hn1.out hW
      have hcB := (hB.out.ext hxa).cell
      have HS := Lib.hid (show w.heap.size + 1 ≤ w33.heap.size from by rw [← hn1.out]; exact hxa.size)
      have HK := Lib.hid hW
      clear hW hxa
      go_wp2_with fail
      refine (key_names0_calls _ _ _ _ HK.out.is HS.out (by have := hprel.out; have := hu0.out; have := H.out.2.2; simp only [keyText, List.length_append, List.length_nil, KeyCap] at *; omega)).mono ?_
      rintro e w34 ⟨rfl, hW⟩
      replace hW := HK.out.trans hW
      clear HK HS hcB
      obtain ⟨_, -, -, hxa⟩ := wrote_at hn1.out hW
      have hcB := (hB.out.ext hxa).cell
      have HS := Lib.hid (show w.heap.size + 1 ≤ w34.heap.size from by rw [← hn1.out]; exact hxa.size)
      have HK := Lib.hid hW
      clear hW hxa
      go_wp2_with fail
      refine (sorted0_calls _).mono ?_
      rintro e wx ⟨rfl, rfl⟩
      go_wp2_with fail
      refine (key_names0_calls _ _ _ _ HK.out.is HS.out (by have := hprel.out; have := hu0.out; have := H.out.2.2; simp only [keyText, List.length_append, List.length_nil, KeyCap] at *; omega)).mono ?_
      rintro e w40 ⟨rfl, hW⟩
      replace hW := HK.out.trans hW
      obtain ⟨v, hc, ho, hxb⟩ := wrote_at hn1.out hW
      have hcv := conv_str ho.slice (fun _ hk => hk.2) 131 9 5 Tryz.underlying131 Tryz.underlying5 Tryz.underlying9 w40 (Fr.refl _ _)
      obtain ⟨ax, m, cx, e1⟩ := ho.shape
      subst e1
      have HX := Lib.hid (Ext.trans hx0.out hxb)
      clear hcB hW ho hxb
      go_wp2
      go_ret
      exact ⟨_, rfl, by simp only [List.length_append]; omega, HX.out⟩
end Go.Proofs.YtbdahjpdjamgiaaGreatDoor
/- spec.Room, laws.small at a module that has code entries alone. -/
namespace Go.Proofs.YtbdahjpdjamgiaaGreatDoor
open Go.RowKit
/-- All cells of a block, read off at once. -/
theorem Blk.load {P : Program} {w : World} {g : Nat} {cs : Array Value} {T : TypeId} (h : Blk w g cs T) (n : Nat) (hn : cs.size = n) : (loadCellsFrom ⟨g, 0, none⟩ 0 n #[]).run P w = .ok cs w := by
  subst hn
  have := run_loadCells_list (P := P) w ⟨g, 0, none⟩ cs.toList (fun j v hv => by rw [addr_add, Nat.zero_add, h.cell j]; simpa using hv)
  simpa [loadCells] using this
theorem Blk.loadAt {P : Program} {w : World} {g : Nat} {cs : Array Value} {T ty : TypeId} (h : Blk w g cs T) (d : TypeDesc) (hu : P.underlying ty = some d) (hd : d.isRow = true) (hi : (P.info? ty).map (·.size) = some cs.size) :
    (Instr.loadAt ty (.pointer (some ⟨g, 0, none⟩))).run P w = .ok (.agg cs) w :=
  run_loadAt_mid w g 0 ty cs.toList d (fun j v hv => by rw [Nat.zero_add, h.cell j]; simpa using hv) hu hd (by simpa using hi)
theorem Blk.loadVar {P : Program} {w : World} {g : Nat} {cs : Array Value} {T ty : TypeId} (h : Blk w g cs T) (d : TypeDesc) (hu : P.underlying ty = some d) (hd : d.isRow = true) (hi : (P.info? ty).map (·.size) = some cs.size) :
    (loadVar ty ⟨g, 0, none⟩).run P w = .ok (.agg cs) w :=
  run_loadVar_mid w g 0 ty cs.toList d (fun j v hv => by rw [Nat.zero_add, h.cell j]; simpa using hv) hu hd (by simpa using hi)
set_option maxRecDepth 100000 in
set_option maxHeartbeats 400000 in
theorem Room0_calls (v : Value) (w : World) :
    Calls Tryz.prog 23 #[modC v, .int .i64 65536] w fun e w' => e = .returned (.bool true) ∧ Ext w w' := by
  unfold modC
  go_enter Tryz.func23, Tryz.ntmps23
  go_wp2_with fail
  refine wp_loop_rounds 1 ?_
  rw [rounds_succ]
  go_wp2_with fail
  refine wp_loop_rounds 1 ?_
  rw [rounds_succ]
  go_wp2_with fail
  refine wp_loop_rounds 1 ?_
  rw [rounds_succ]
  go_wp2
  go_ret
  exact ⟨rfl, Ext.trans (ext_alloc _ _) (ext_alloc _ _)⟩
set_option maxRecDepth 100000 in
set_option maxHeartbeats 400000 in
theorem small_calls (cs : List (List UInt8)) (aa : Option Addr) (n c : Nat) (A : Nat → Prop) (w : World) (h : Lay.u8.slice.slice.rd A w [.slice aa n c] cs) (hA : ∀ k, A k → k < w.heap.size) (hl : (cs.flatMap keyText).length + 40 ≤ 35184372088832) :
    Calls Tryz.prog 8 #[modC (.slice aa n c)] w fun e w' => ∃ b : Bool, e = .returned (.bool b) ∧ (b = true → (cs.flatMap keyText).length ≤ 65536) ∧ Ext w w' := by
  have H := Lib.hid (And.intro h (And.intro hA hl))
  clear h hA hl
  have hl0 := (blk_new w #[.int .u32 0, .bool false, .int .u32 0, .slice none 0 0, .slice none 0 0, .slice none 0 0, .slice none 0 0, .slice none 0 0, .slice none 0 0, .slice none 0 0, .slice none 0 0, .slice aa n c, .slice none 0 0, .slice none 0 0, .string ⟨#[]⟩, .slice none 0 0, .slice none 0 0] 36).load (P := Tryz.prog) 17 rfl
  unfold modC
  go_enter Tryz.func8, Tryz.ntmps8
  go_wp2_with fail
  clear hl0
  have hx0 := Lib.hid (ext_alloc w (.cells #[.int .u32 0, .bool false, .int .u32 0, .slice none 0 0, .slice none 0 0, .slice none 0 0, .slice none 0 0, .slice none 0 0, .slice none 0 0, .slice none 0 0, .slice none 0 0, .slice aa n c, .slice none 0 0, .slice none 0 0, .string ⟨#[]⟩, .slice none 0 0, .slice none 0 0] 36))
  have hB := Lib.hid (blk_new w #[.int .u32 0, .bool false, .int .u32 0, .slice none 0 0, .slice none 0 0, .slice none 0 0, .slice none 0 0, .slice none 0 0, .slice none 0 0, .slice none 0 0, .slice none 0 0, .slice aa n c, .slice none 0 0, .slice none 0 0, .string ⟨#[]⟩, .slice none 0 0, .slice none 0 0] 36)
  generalize (w.alloc (.cells #[.int .u32 0, .bool false, .int .u32 0, .slice none 0 0, .slice none 0 0, .slice none 0 0, .slice none 0 0, .slice none 0 0, .slice none 0 0, .slice none 0 0, .slice none 0 0, .slice aa n c, .slice none 0 0, .slice none 0 0, .string ⟨#[]⟩, .slice none 0 0, .slice none 0 0] 36)) = W0 at *
  refine (Room0_calls (.slice aa n c) W0).mono ?_
  rintro e w1 ⟨rfl, hx1⟩
  have hcB := (hB.out.ext hx1).cell
  have hx1 := Lib.hid (Ext.trans hx0.out hx1)
  go_wp2_with fail
  refine (Key_calls cs aa n c A w1 (Lay.fr H.out.1 hx1.out (fun k hk => ⟨H.out.2.1 k hk, fun h => h⟩)) (fun k hk => Nat.lt_of_lt_of_le (H.out.2.1 k hk) hx1.out.size) H.out.2.2).mono ?_
  rintro e w2 ⟨kk, rfl, hk, hx2⟩
  have hsz : ((strOf kk).size : Int) = kk.length := by rw [strOf_size]
  have hk := Lib.hid hk
  have hx2 := Lib.hid (Ext.trans hx1.out hx2)
  by_cases h6 : kk.length ≤ 65536
  · have d0 : decide (((strOf kk).size : Int) ≤ 65536) = true := decide_eq_true (by omega)
    generalize strOf kk = sk at *
    go_wp2
    go_ret
    exact ⟨_, rfl, fun _ => Nat.le_trans hk.out h6, hx2.out⟩
  · have d0 : decide (((strOf kk).size : Int) ≤ 65536) = false := decide_eq_false (by omega)
    generalize strOf kk = sk at *
    go_wp2
    go_ret
    exact ⟨_, rfl, fun h => absurd (of_decide_eq_true h) (by omega), hx2.out⟩
end Go.Proofs.YtbdahjpdjamgiaaGreatDoor
