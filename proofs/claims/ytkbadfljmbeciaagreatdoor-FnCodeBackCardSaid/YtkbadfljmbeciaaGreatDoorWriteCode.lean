/- encoding.WriteCodeEntry, impl.WriteCode. -/
import Derived.Test.YtkbadfljmbeciaaGreatDoorEncInstrs
namespace Go.Proofs.YtkbadfljmbeciaaGreatDoor
open Go.RowKit
theorem hold_new {S : Hold} {lo g : Nat} {bs : List UInt8} {w : World} (h : S.is lo g bs w) (o : Obj) : S.is lo g bs (w.alloc o) ∧ ¬ S.foot (w.alloc o) g w.heap.size := by
  obtain ⟨h1, h2⟩ := S.frame h (ext_alloc w o) (fun _ _ h => h)
  exact ⟨h1, fun h3 => by have := (S.lt h _ ((h2 _).1 h3)).2; omega⟩
def locBytes (x : UInt32 × Int) : List UInt8 := uleb x.1.toNat ++ [UInt8.ofNat (127 - x.2).toNat]
def codeEnc (ls : List (UInt32 × Int)) (l : List Ins) : List UInt8 := uleb ls.length ++ (ls.flatMap locBytes ++ (encBL l ++ [11]))
theorem locB_split {l : List (UInt32 × Int)} {i : Nat} (h : i < l.length) : ∃ m, l.flatMap locBytes = (l.take i).flatMap locBytes ++ (locBytes l[i] ++ m) := by
  refine ⟨(l.drop (i + 1)).flatMap locBytes, ?_⟩
  have : l = l.take i ++ (l[i] :: l.drop (i + 1)) := by rw [← List.drop_eq_getElem_cons h, List.take_append_drop]
  conv => lhs; rw [this]
  rw [List.flatMap_append, List.flatMap_cons]
theorem locB_take {l : List (UInt32 × Int)} {i : Nat} (h : i < l.length) : (l.take (i + 1)).flatMap locBytes = (l.take i).flatMap locBytes ++ locBytes l[i] := by
  rw [List.take_succ_eq_append_getElem h, List.flatMap_append]; simp
set_option maxRecDepth 100000 in
set_option maxHeartbeats 2000000 in
theorem WriteCodeEntry_calls (S : Sink) (n : Nat) (ls : List (UInt32 × Int)) (l : List Ins) (lo g ge : Nat) (T : TypeId) (a1 a2 : Option Addr) (n1 n2 c1 c2 : Nat) (A : Nat → Prop) (bs : List UInt8) (w : World) (hS : S.is lo g bs w) (hE : Blk w ge #[.slice a1 n1 c1, .slice a2 n2 c2] T) (hge : ¬ S.foot w g ge)
    (h1 : Lay.loc.slice.rd A w [.slice a1 n1 c1] ls) (h2 : (Lay.own n).slice.rd A w [.slice a2 n2 c2] l) (hA : Away S.toHold g w A) (hlo : lo ≤ w.heap.size) (hln : ls.length < 4294967296) (hty : ∀ x ∈ ls, 0 ≤ x.2 ∧ x.2 ≤ 3) (hto : tyOkA l) (hl : bs.length + (codeEnc ls l).length + 20 ≤ 70368744177664) :
    Calls Tryz.prog 38 #[.iface S.T (.pointer (some ⟨g, 0, none⟩)), .pointer (some ⟨ge, 0, none⟩)] w fun e w' => e = .returned .nilIface ∧ Wrote S.toHold lo g w (bs ++ codeEnc ls l) w' := by
  obtain ⟨a', c', e, hlc, hcm⟩ := Lay.slice_form h1
  obtain ⟨rfl, rfl, rfl⟩ : a1 = a' ∧ n1 = ls.length ∧ c1 = c' := by simpa using e
  have hlen : (ls.length : Int) ≤ 9223372036854775807 := by omega
  have hw1 : (ls.length : Int) % 4294967296 = (ls.length : Int) := by omega
  have hw2 : IntKind.u32.wrap (ls.length : Int) = (ls.length : Int) := by rw [IntKind.wrap_u32]; omega
  have hcE := hE.cell
  have hcap := Lib.hid (show bs.length + ((uleb ls.length).length + ((ls.flatMap locBytes).length + ((encBL l).length + 1))) + 20 ≤ 70368744177664 from by simpa [codeEnc] using hl)
  have H := Lib.hid (And.intro h1 (And.intro h2 (And.intro hA (And.intro hty (And.intro hto hln)))))
  have HE := Lib.hid (And.intro hE hge)
  have hS := Lib.hid hS
  have hlo := Lib.hid hlo
  clear h1 h2 hA hcm hlc e hl hE hge hty hto hln
  go_enter Tryz.func38, Tryz.ntmps38
  go_wp2_with fail
  refine (WriteVarUint32_calls S lo g ls.length H.out.2.2.2.2.2 bs w hS.out hlo.out (by have := hcap.out; omega)).mono ?_
  rintro e w1 ⟨rfl, hW1⟩
  clear hcE
  have hcE := (HE.out.1.fr hW1.fr HE.out.2).cell
  have hW1 := Lib.hid hW1
  go_wp2_with fail
  go_loopw [28] (fun s28 w' => ∃ (i : Nat), i ≤ ls.length ∧ s28 = .int .i64 i ∧ Hid (Wrote S.toHold lo g w (bs ++ (uleb ls.length ++ (ls.take i).flatMap locBytes)) w')) (fun s28 _ => ls.length - (intOf s28).toNat)
  case atStart => exact ⟨0, Nat.zero_le _, rfl, by show Wrote _ _ _ _ _ _; simpa using hW1.out⟩
  case round =>
    obtain ⟨i, hi, rfl, hV⟩ := hrel
    clear hcE
    by_cases hlt : i < ls.length
    · obtain ⟨b, o, rfl, hA1, e0, e1, -, -⟩ := loc_at (Lay.fr H.out.1 hV.out.fr H.out.2.2.1) i hlt
      have htk := Lib.hid (locB_take hlt)
      obtain ⟨rest, hsp⟩ := locB_split hlt
      have hx := H.out.2.2.2.1 ls[i] (List.getElem_mem _)
      generalize ls[i] = x at *
      obtain ⟨cn, ty⟩ := x
      simp only [] at e0 e1 hx
      have hcn := cn.toNat_lt
      have hka := Lib.hid (show locBytes (cn, ty) = uleb cn.toNat ++ [UInt8.ofNat (127 - ty).toNat] from rfl)
      generalize locBytes (cn, ty) = kab at *
      generalize cn.toNat = mc at *
      have hcq := Lib.hid (show bs.length + ((uleb ls.length).length + (((ls.take i).flatMap locBytes).length + ((uleb mc).length + 1))) + 20 ≤ 70368744177664 from by
        have := hcap.out
        rw [hsp, hka.out] at this
        simp only [List.length_append, List.length_cons, List.length_nil] at this
        omega)
      have HM := Lib.hid (And.intro hx (show mc < 4294967296 by omega))
      clear hsp hA1 hx hcn
      go_wp2_with fail
      obtain ⟨hS4, hn4⟩ := hold_new hV.out.is (.cells #[.int .u32 mc, .int .i64 ty] 259)
      have hB4 := blk_new wr #[.int .u32 mc, .int .i64 ty] 259
      have hx4 := ext_alloc wr (.cells #[.int .u32 mc, .int .i64 ty] 259)
      generalize (wr.alloc (.cells #[.int .u32 mc, .int .i64 ty] 259)) = W4 at *
      have hlow4 := Nat.le_trans (Nat.le_trans hlo.out hV.out.fr.size) hx4.size
      refine (WriteVarUint32_calls S lo g mc HM.out.2 _ W4 hS4 hlow4 (by have := hcq.out; simp only [List.length_append]; omega)).mono ?_
      rintro e w5 ⟨rfl, hR5⟩
      have hcB := (hB4.fr hR5.fr hn4).cell
      have H4 := Lib.hid (And.intro hx4 (And.intro hlow4 hR5))
      clear hS4 hn4 hB4 hx4 hlow4 hR5
      go_wp2_with fail
      obtain ⟨hx4, hlow4, hR5⟩ := H4.out
      refine (writeValueType_calls S lo g ty HM.out.1 _ w5 hR5.is (Nat.le_trans hlow4 hR5.fr.size) (by have := hcq.out; simp only [List.length_append]; omega)).mono ?_
      rintro e w6 ⟨rfl, hR6⟩
      have hV2 := Lib.hid (show Wrote S.toHold lo g w (bs ++ (uleb ls.length ++ (ls.take (i + 1)).flatMap locBytes)) w6 from by
        rw [htk.out, hka.out]
        have := hV.out.trans (Wrote.after hV.out.is hx4 (hR5.trans hR6))
        simpa using this)
      clear hx4 hlow4 hR5 hR6 hcB
      go_wp2
      go_roundw
      case rel => exact ⟨i + 1, by omega, by go_num, hV2⟩
      case measure => simp [intOf]; omega
    · obtain rfl : i = ls.length := by omega
      have hcE := (HE.out.1.fr hV.out.fr HE.out.2).cell
      go_wp2_with fail
      refine (writeInstructions_calls S n l lo g a2 n2 c2 A _ wr hV.out.is (Lay.fr H.out.2.1 hV.out.fr H.out.2.2.1) (H.out.2.2.1.step hV.out) (Nat.le_trans hlo.out hV.out.fr.size) H.out.2.2.2.2.1 (by have := hcap.out; rw [List.take_length]; simp only [List.length_append]; omega)).mono ?_
      rintro e w2 ⟨rfl, hR⟩
      have hfin := Lib.hid (show Wrote S.toHold lo g w (bs ++ codeEnc ls l) w2 from by
        have := hV.out.trans hR
        rw [List.take_length] at this
        simpa [codeEnc] using this)
      clear hR hcE
      go_wp2
      go_ret
      exact ⟨rfl, hfin.out⟩
set_option maxRecDepth 100000 in
set_option maxHeartbeats 2000000 in
theorem WriteCode_calls (n : Nat) (ls : List (UInt32 × Int)) (l : List Ins) (a1 a2 : Option Addr) (n1 n2 c1 c2 : Nat) (A : Nat → Prop) (w : World) (h1 : Lay.loc.slice.rd A w [.slice a1 n1 c1] ls) (h2 : (Lay.ins n).slice.rd A w [.slice a2 n2 c2] l) (hA : ∀ k, A k → k < w.heap.size)
    (hln : ls.length < 4294967296) (hty : ∀ x ∈ ls, 0 ≤ x.2 ∧ x.2 ≤ 3) (hto : tyOkA l) (hll : l.length ≤ 1048576) (hfa : fitA l) (hl : (codeEnc ls l).length + 20 ≤ 70368744177664) :
    Calls Tryz.prog 15 #[.agg #[.slice a1 n1 c1, .slice a2 n2 c2]] w fun e w' => ∃ v, e = .returned (.tuple #[v, .bool true]) ∧ OwnB w.heap.size w' v (codeEnc ls l) ∧ Ext w w' := by
  have H := Lib.hid (And.intro h1 (And.intro h2 (And.intro hA (And.intro hln (And.intro hty (And.intro hto (And.intro hll (And.intro hfa hl))))))))
  clear h1 h2 hA hln hty hto hll hfa hl
  go_enter Tryz.func15, Tryz.ntmps15
  go_wp2_with fail
  have hB := blk_new w #[.slice a1 n1 c1, .slice a2 n2 c2] 68
  have hx0 := ext_alloc w (.cells #[.slice a1 n1 c1, .slice a2 n2 c2] 68)
  have hS := isB_at 143 (w.alloc (.cells #[.slice a1 n1 c1, .slice a2 n2 c2] 68)) (w.heap.size + 1) (by simp)
  have hx1 := ext_alloc (w.alloc (.cells #[.slice a1 n1 c1, .slice a2 n2 c2] 68)) (.cells #[.slice none 0 0] 143)
  have hsz : ((w.alloc (.cells #[.slice a1 n1 c1, .slice a2 n2 c2] 68)).alloc (.cells #[.slice none 0 0] 143)).heap.size = w.heap.size + 2 := by simp
  have HS := Lib.hid (And.intro hx0 (And.intro hS (And.intro hx1 (And.intro hsz (hB.ext hx1)))))
  refine region_items (frFrm (sinkW.foot ((w.alloc (.cells #[.slice a1 n1 c1, .slice a2 n2 c2] 68)).alloc (.cells #[.slice none 0 0] 143)) (w.heap.size + 1))) [(0, .take), (1, .take), (2, .take), (3, .take), (5, .take), (6, .take), (4, .run), (7, .run), (8, .take), (9, .take), (10, .take), (11, .run), (12, .run), (13, .take)] (by kernel_rfl) (by kernel_rfl) ?_
  simp only [itemsOf, List.getD_cons_zero, List.getD_cons_succ]
  clear hB hx0 hS hx1 hsz
  generalize hW2 : ((w.alloc (.cells #[.slice a1 n1 c1, .slice a2 n2 c2] 68)).alloc (.cells #[.slice none 0 0] 143)) = W2 at *
  have hW2 := Lib.hid hW2
  have hfoot := Lib.hid (fun k hk => show k = w.heap.size + 1 from by have := sinkW.lt HS.out.2.1 k hk; have h' := HS.out.2.2.2.1; omega)
  have HC := Lib.hid (fun W' (h : Fr (sinkW.foot W2 (w.heap.size + 1)) W2.drew W') => (HS.out.2.2.2.2.fr ((ext_drew W2).fr h) (fun e => by have := hfoot.out _ e; omega)).cell)
  have hxd := Lib.hid (ext_drew W2)
  have hXw := Lib.hid (Ext.trans HS.out.1 (Ext.trans HS.out.2.2.1 hxd.out))
  generalize W2.drew = W3 at *
  repeat (apply item_take; rfl; rfl; rfl; rfl; exact fun _ _ _ _ h => h; (intro W hE K hK; have q := HC.out W hE; go_simp; exact hK))
  apply item_run; rfl; intro K hK; go_simp
  refine (locals_calls ls a1 n1 c1 A W3 (Lay.fr H.out.1 hXw.out (fun k hk => ⟨H.out.2.2.1 k hk, fun h => h⟩)) (fun k hk => Nat.lt_of_lt_of_le (H.out.2.2.1 k hk) hXw.out.size) (by have := H.out.2.2.2.1; omega)).mono ?_
  rintro e w4 ⟨v1, rfl, ho1, hx4⟩
  refine hK _ _ hx4.to ?_
  clear hK K
  obtain ⟨b1, b2, b3, rfl⟩ := ho1.shape
  have H4 := Lib.hid (And.intro ho1 hx4)
  have HC4 := Lib.hid (fun W' (h : Fr (sinkW.foot W2 (w.heap.size + 1)) w4 W') => HC.out W' (hx4.fr h))
  clear ho1 hx4 HC
  repeat (apply item_take; rfl; rfl; rfl; rfl; exact fun _ _ _ _ h => h; (intro W hE K hK; have q := HC4.out W hE; go_simp; exact hK))
  apply item_run; rfl; intro K hK; go_simp
  refine (instrs_calls n l a2 n2 c2 A w4 (Lay.fr H.out.2.1 (Ext.trans hXw.out H4.out.2) (fun k hk => ⟨H.out.2.2.1 k hk, fun h => h⟩)) (fun k hk => Nat.lt_of_lt_of_le (H.out.2.2.1 k hk) (Ext.trans hXw.out H4.out.2).size) H.out.2.2.2.2.2.2.1 H.out.2.2.2.2.2.2.2.1).mono ?_
  rintro e w5 ⟨v2, rfl, ho2, hx5⟩
  refine hK _ _ hx5.to ?_
  clear hK K HC4
  obtain ⟨d1, d2, d3, rfl⟩ := ho2.shape
  have H5 := Lib.hid (And.intro ho2 hx5)
  clear ho2 hx5
  repeat (apply item_take; rfl; rfl; rfl; rfl; exact fun _ _ _ _ h => h; (intro W hE K hK; go_simp; exact hK))
  apply item_run; rfl; intro K hK; go_simp
  refine hK _ _ (ext_alloc _ _).to ?_
  clear hK K
  repeat (apply item_take; rfl; rfl; rfl; rfl; exact fun _ _ _ _ h => h; (intro W hE K hK; go_simp; exact hK))
  have hB6 := blk_new w5 #[.slice b1 b2 b3, .slice d1 d2 d3] 154
  have hx6 := ext_alloc w5 (.cells #[.slice b1 b2 b3, .slice d1 d2 d3] 154)
  generalize (w5.alloc (.cells #[.slice b1 b2 b3, .slice d1 d2 d3] 154)) = W6 at *
  have H6 := Lib.hid (And.intro hB6 hx6)
  clear hB6 hx6
  have hX26 := Lib.hid (Ext.trans hxd.out (Ext.trans H4.out.2 (Ext.trans H5.out.2 H6.out.2)))
  apply item_run; rfl; intro K hK; go_simp
  have hS6 := sinkW.frame HS.out.2.1 hX26.out (fun _ _ h => h)
  have hs1 := HS.out.2.2.2.1
  have hs2 := hxd.out.size
  have hs3 := H4.out.2.size
  have hs4 := H5.out.2.size
  have hs5 := H6.out.2.size
  refine (WriteCodeEntry_calls sinkW n ls l (w.heap.size + 1) (w.heap.size + 1) w5.heap.size _ b1 d1 b2 d2 b3 d3 (fun k => w.heap.size + 1 < k ∧ k < w5.heap.size) [] W6 hS6.1 H6.out.1 (fun e => by have := hfoot.out _ ((hS6.2 _).1 e); omega)
    (Lay.mono _ (Lay.fr H4.out.1.slice (Ext.trans H5.out.2 H6.out.2) (fun k hk => ⟨hk.2, fun h => h⟩)) (fun k hk => ⟨by omega, by omega⟩)) (Lay.mono _ (Lay.fr H5.out.1.slice H6.out.2 (fun k hk => ⟨hk.2, fun h => h⟩)) (fun k hk => ⟨by omega, hk.2⟩))
    (fun k hk => ⟨by omega, fun e => by have := hfoot.out _ ((hS6.2 _).1 e); omega⟩) (by omega) H.out.2.2.2.1 H.out.2.2.2.2.1 H.out.2.2.2.2.2.1 (by have := H.out.2.2.2.2.2.2.2.2; simp only [List.length_nil]; omega)).mono ?_
  rintro e w7 ⟨rfl, hW7⟩
  rw [List.nil_append] at hW7
  refine hK _ _ (hW7.fr.mono fun k _ hk => (hS6.2 k).1 hk) ?_
  clear hK K hs1 hs2 hs3 hs4 hs5
  have hW8 := Wrote.after HS.out.2.1 hX26.out hW7
  rw [← hW2.out] at hW8
  obtain ⟨v, hc, ho, hxb⟩ := wrote_at (by simp) hW8
  obtain ⟨f1, f2, f3, rfl⟩ := ho.shape
  have HR := Lib.hid (And.intro (ho.lower (Nat.le_succ _)) (Ext.trans HS.out.1 hxb))
  clear hW8 hW7 ho hxb hS6
  repeat (apply item_take; rfl; rfl; rfl; rfl; exact fun _ _ _ _ h => h; (intro W hE K hK; go_simp; exact hK))
  apply items_done
  go_wp2_with fail
  go_quiet (fail)
  go_wp2
  go_ret2
  exact ⟨_, rfl, HR.out.1.ext ((Fr.refl _ _).drewN _), HR.out.2.drewN _⟩
end Go.Proofs.YtkbadfljmbeciaaGreatDoor
