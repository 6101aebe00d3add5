/- laws.givenCode. -/
import Derived.Test.YtkbadfljmbeciaaGreatDoorGiven
namespace Go.Proofs.YtkbadfljmbeciaaGreatDoor
open Go.RowKit
theorem infoLoc' : (Tryz.prog.info? 140).map (fun i => (i.zero, i.size, i.bytes)) = some (some (.agg #[.int .u32 0, .int .i64 0]), Lay.loc.size, 16) := by kernel_rfl
set_option maxRecDepth 100000 in
set_option maxHeartbeats 2000000 in
theorem givenCode_calls (n : Nat) (ls : List (UInt32 × Int)) (l : List Ins) (a1 a2 : Option Addr) (n1 n2 c1 c2 : Nat) (A : Nat → Prop) (w : World) (h1 : Lay.loc.slice.rd A w [.slice a1 n1 c1] ls) (h2 : (Lay.ins n).slice.rd A w [.slice a2 n2 c2] l) (hA : ∀ k, A k → k < w.heap.size)
    (hln : ls.length ≤ 4294967296) (hll : l.length ≤ 1048576) (hfa : fitA l) :
    Calls Tryz.prog 16 #[.agg #[.slice a1 n1 c1, .slice a2 n2 c2]] w fun e w' => ∃ b1 m1 d1 b2 m2 d2, e = .returned (.agg #[.slice b1 m1 d1, .slice b2 m2 d2]) ∧ Lay.loc.slice.rd (fun k => w.heap.size ≤ k ∧ k < w'.heap.size) w' [.slice b1 m1 d1] ls ∧ (Lay.ins n).slice.rd (fun k => w.heap.size ≤ k ∧ k < w'.heap.size) w' [.slice b2 m2 d2] l ∧ Ext w w' := by
  obtain ⟨a', c', e, hlc, hcm⟩ := Lay.slice_form h1
  obtain ⟨rfl, rfl, rfl⟩ : a1 = a' ∧ n1 = ls.length ∧ c1 = c' := by simpa using e
  have hlen : (ls.length : Int) ≤ 9223372036854775807 := by omega
  have H := Lib.hid (And.intro h1 (And.intro h2 (And.intro hA (And.intro hln (And.intro hll hfa)))))
  clear h1 h2 hA hln hll hfa hlc hcm e
  go_enter Tryz.func16, Tryz.ntmps16
  go_wp2_with fail
  have hB0 : Blk ((w.alloc (.cells #[.slice a1 ls.length c1, .slice a2 n2 c2] 40)).alloc (.cells #[.slice none 0 0, .slice none 0 0] 68)) w.heap.size #[.slice a1 ls.length c1, .slice a2 n2 c2] 40 := (blk_new _ _ _).ext (ext_alloc _ _)
  have hR0 : Blk ((w.alloc (.cells #[.slice a1 ls.length c1, .slice a2 n2 c2] 40)).alloc (.cells #[.slice none 0 0, .slice none 0 0] 68)) (w.heap.size + 1) #[.slice none 0 0, .slice none 0 0] 68 := by
    have := blk_new (w.alloc (.cells #[.slice a1 ls.length c1, .slice a2 n2 c2] 40)) #[.slice none 0 0, .slice none 0 0] 68
    simpa using this
  have hsz0 : w.heap.size + 2 ≤ ((w.alloc (.cells #[.slice a1 ls.length c1, .slice a2 n2 c2] 40)).alloc (.cells #[.slice none 0 0, .slice none 0 0] 68)).heap.size := by simp
  have hx0 : Ext w ((w.alloc (.cells #[.slice a1 ls.length c1, .slice a2 n2 c2] 40)).alloc (.cells #[.slice none 0 0, .slice none 0 0] 68)) := Ext.trans (ext_alloc _ _) (ext_alloc _ _)
  generalize ((w.alloc (.cells #[.slice a1 ls.length c1, .slice a2 n2 c2] 40)).alloc (.cells #[.slice none 0 0, .slice none 0 0] 68)) = W0 at *
  refine (givenInstrs_calls n l a2 n2 c2 A W0 (Lay.fr H.out.2.1 hx0 (fun k hk => ⟨H.out.2.2.1 k hk, fun h => h⟩)) (fun k hk => Nat.lt_of_lt_of_le (H.out.2.2.1 k hk) hx0.size) H.out.2.2.2.2.1 H.out.2.2.2.2.2).mono ?_
  rintro e w1 ⟨v2, rfl, o2, x2⟩
  obtain ⟨b2, m2, d2, rfl⟩ := o2.shape
  have hcB := (hB0.ext x2).cell
  have hcBa := fun o => ((hB0.ext x2).ext (ext_alloc w1 o)).cell
  have H1 := Lib.hid (And.intro hx0 (And.intro (hB0.ext x2) (And.intro (hR0.ext x2) (And.intro x2 (And.intro o2 hsz0)))))
  clear hB0 hR0 hx0 x2 o2 hsz0
  go_wp2_with fail
  have hG := blk_new w1 #[.slice none 0 0, .slice b2 m2 d2] 68
  have hxg := ext_alloc w1 (.cells #[.slice none 0 0, .slice b2 m2 d2] 68)
  generalize (w1.alloc (.cells #[.slice none 0 0, .slice b2 m2 d2] 68)) = W1 at *
  obtain ⟨g, hg⟩ : ∃ g, w1.heap.size = g := ⟨_, rfl⟩
  rw [hg] at hG ⊢
  have HG := Lib.hid (And.intro hG (And.intro hxg hg))
  clear hG hxg hg hcB hcBa
  go_loopw [13] (fun s13 w' => ∃ (i : Nat) (va : Value), i ≤ ls.length ∧ s13 = .int .i64 i ∧ Hid (Blk w' g #[va, .slice b2 m2 d2] 68 ∧ Own Lay.loc 140 W1.heap.size w' va (ls.take i) ∧ Fr (fun k => k = g) W1 w')) (fun s13 _ => ls.length - (intOf s13).toNat)
  case atStart => exact ⟨0, _, Nat.zero_le _, rfl, HG.out.1, own_nil _ _ _ _, Fr.refl _ _⟩
  case round =>
    obtain ⟨i, va, hi, rfl, hV⟩ := hrel
    have hgs := HG.out.1.lt
    have hX0 : Ext w W1 := Ext.trans H1.out.1 (Ext.trans H1.out.2.2.2.1 HG.out.2.1)
    have hsw : w.heap.size < w1.heap.size := by have := H1.out.2.1.lt; exact this
    have hgw : w.heap.size < g := by have := HG.out.2.2; omega
    obtain ⟨va1, va2, va3, rfl⟩ := hV.out.2.1.shape
    by_cases hlt : i < ls.length
    · obtain ⟨b, o, rfl, hA1, e0, e1, hb0, hb1⟩ := loc_at (Lay.fr H.out.1 (Ext.fr hX0 hV.out.2.2) (fun k hk => ⟨H.out.2.2.1 k hk, fun e => by have := H.out.2.2.1 k hk; have e' : k = g := e; omega⟩)) i hlt
      have hab := Lib.hid (And.intro hb0 hb1)
      have htk := Lib.hid (show ls.take (i + 1) = ls.take i ++ [ls[i]] from List.take_succ_eq_append_getElem hlt)
      generalize ls[i] = x at *
      obtain ⟨cn, ty⟩ := x
      simp only [] at e0 e1
      have hcg := hV.out.1.cell
      have hfg := hV.out.1.frz
      have hgwr := hV.out.1.lt
      clear hA1 hb0 hb1
      go_wp2_with (at_builtin; refine Hid.out ?_)
      have hxv := ext_alloc wr (.cells #[.int .u32 cn.toNat, .int .i64 ty] 78)
      refine own_append1n Lay.loc W1.heap.size (wr.heap.size + 1) (by simp) rfl (.tmp 18) (.tmp 24) _ _ _ 16 rfl Tryz.underlying65 infoLoc' rfl (by omega) (by decide) (.slice va1 va2 va3) (ls.take i) (cn, ty) _ rfl rfl (hV.out.2.1.ext hxv) ⟨[_], [_], rfl, rfl, rfl, hab.out⟩ (Nat.le_trans hV.out.2.2.size hxv.size) (by have := H.out.2.2.2.1; rw [List.length_take]; omega) ?_
      intro v1 w4 h1 h2 h3
      have hne : ∀ k', k' = g → ¬ some k' = (Value.slice va1 va2 va3).ownBlock := fun k' e h => by have := (hV.out.2.1.lt k' h.symm).1; omega
      have hB5 := (hV.out.1.ext hxv).fr h2 (hne g rfl)
      have hc5 := hB5.cell
      have hf5 := hB5.frz
      have hO5 : Own Lay.loc 140 W1.heap.size w4 v1 (ls.take (i + 1)) := by rw [htk.out]; exact h1
      have hF5 : Fr (fun k => k = g) W1 w4 := Fr.trans (hV.out.2.2.ext hxv) h2 (fun _ _ h => h) (fun k hk e => absurd hk (by have := (hV.out.2.1.lt k e.symm).1; omega))
      obtain ⟨vb1, vb2, vb3, rfl⟩ := h1.shape
      have H5 := Lib.hid (And.intro hB5 (And.intro hO5 hF5))
      clear h1 h2 h3 hB5 hO5 hF5 hcg hfg hxv hne hX0
      go_wp2_with fail
      have hV2 : Hid (Blk (w4.setCell ⟨g, 0, none⟩ (.slice vb1 vb2 vb3)) g #[.slice vb1 vb2 vb3, .slice b2 m2 d2] 68 ∧ Own Lay.loc 140 W1.heap.size (w4.setCell ⟨g, 0, none⟩ (.slice vb1 vb2 vb3)) (.slice vb1 vb2 vb3) (ls.take (i + 1)) ∧ Fr (fun k => k = g) W1 (w4.setCell ⟨g, 0, none⟩ (.slice vb1 vb2 vb3))) := by
        refine ⟨?_, Own.only flat_loc H5.out.2.1 (fr_setCell _ _ _) (fun k' h e => by have := (H5.out.2.1.lt k' h).1; have e' : k' = g := e; omega), H5.out.2.2.setCell (.inl rfl) _⟩
        have := H5.out.1.set 0 (.slice vb1 vb2 vb3)
        simpa using this
      clear hc5 hf5
      go_roundw
      case rel => exact ⟨i + 1, _, by omega, by go_num, hV2⟩
      case measure => simp [intOf]; omega
    · obtain rfl : i = ls.length := by omega
      have hcg := hV.out.1.cell
      have hRB := (H1.out.2.2.1.ext HG.out.2.1).fr hV.out.2.2 (fun e => by have e' : w.heap.size + 1 = g := e; have := H1.out.2.2.1.lt; have := HG.out.2.2; omega)
      have hcr := hRB.cell
      have hfr := hRB.frz
      have HR := Lib.hid hRB
      clear hRB
      go_wp2
      have hset : Fr (fun k => k = w.heap.size + 1) wr ((wr.setCell ⟨w.heap.size + 1, 0, none⟩ (.slice va1 va2 va3)).setCell ⟨w.heap.size + 1, 1, none⟩ (.slice b2 m2 d2)) := Fr.setCell (Fr.setCell (Fr.refl (fun k => k = w.heap.size + 1) wr) (p := ⟨w.heap.size + 1, 0, none⟩) (.inl rfl) _) (p := ⟨w.heap.size + 1, 1, none⟩) (.inl rfl) _
      have hbl := ((HR.out.set 0 (.slice va1 va2 va3)).set 1 (.slice b2 m2 d2)).cell
      have HF := Lib.hid (And.intro hset hX0)
      have hsz := hset.size
      have hne : ¬ g = w.heap.size + 1 := fun e => by have := H1.out.2.2.1.lt; have := HG.out.2.2; omega
      have hfin := Lib.hid (show Lay.loc.slice.rd (fun k => w.heap.size ≤ k ∧ k < ((wr.setCell ⟨w.heap.size + 1, 0, none⟩ (.slice va1 va2 va3)).setCell ⟨w.heap.size + 1, 1, none⟩ (.slice b2 m2 d2)).heap.size) ((wr.setCell ⟨w.heap.size + 1, 0, none⟩ (.slice va1 va2 va3)).setCell ⟨w.heap.size + 1, 1, none⟩ (.slice b2 m2 d2)) [.slice va1 va2 va3] ls ∧
          (Lay.ins n).slice.rd (fun k => w.heap.size ≤ k ∧ k < ((wr.setCell ⟨w.heap.size + 1, 0, none⟩ (.slice va1 va2 va3)).setCell ⟨w.heap.size + 1, 1, none⟩ (.slice b2 m2 d2)).heap.size) ((wr.setCell ⟨w.heap.size + 1, 0, none⟩ (.slice va1 va2 va3)).setCell ⟨w.heap.size + 1, 1, none⟩ (.slice b2 m2 d2)) [.slice b2 m2 d2] l ∧ Ext w ((wr.setCell ⟨w.heap.size + 1, 0, none⟩ (.slice va1 va2 va3)).setCell ⟨w.heap.size + 1, 1, none⟩ (.slice b2 m2 d2)) from by
        have hls := hV.out.2.1.slice
        rw [List.take_length] at hls
        have hs1 := H1.out.2.1.lt
        have hs2 := HG.out.2.1.size
        have hs3 := hV.out.2.2.size
        have hs4 := H1.out.2.2.1.lt
        have hs5 := H1.out.2.2.2.1.size
        have hs6 := H1.out.1.size
        have hW0 : w.heap.size + 2 ≤ W0.heap.size := by have := H1.out.2.2.2.2.2; exact this
        refine ⟨Lay.mono _ (Lay.fr hls hset (fun k hk => ⟨hk.2, fun e => by have e' : k = w.heap.size + 1 := e; omega⟩)) (fun k hk => ⟨by omega, by omega⟩), ?_, ?_⟩
        · refine Lay.mono _ (Lay.fr (Lay.fr H1.out.2.2.2.2.1.slice (Ext.fr HG.out.2.1 hV.out.2.2) (fun k hk => ⟨hk.2, fun e => by have e' : k = g := e; have := HG.out.2.2; omega⟩)) hset (fun k hk => ⟨by omega, fun e => by have e' : k = w.heap.size + 1 := e; omega⟩)) (fun k hk => ⟨by omega, by omega⟩)
        · exact Fr.new (Ext.fr (Fr.new (Ext.fr hX0 hV.out.2.2) (fun k e => by have e' : k = g := e; omega)) hset) (fun k e => by have e' : k = w.heap.size + 1 := e; omega))
      clear hset hcr hfr hcg hne hsz
      exact bodyPost_ret (v := .agg #[.slice va1 va2 va3, .slice b2 m2 d2]) (by simp [results, Tryz.results16, go_sem, hbl]) rfl ⟨_, _, _, _, _, _, rfl, hfin.out⟩
end Go.Proofs.YtkbadfljmbeciaaGreatDoor
