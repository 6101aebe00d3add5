/- impl.plainCode. -/
import Derived.Test.YtkbadfljmbeciaaGreatDoorPlainInstrs
namespace Go.Proofs.YtkbadfljmbeciaaGreatDoor
open Go.RowKit
theorem infoLocP : (Tryz.prog.info? 140).map (fun i => (i.zero, i.size, i.bytes)) = some (some (.agg #[.int .u32 0, .int .i64 0]), Lay.loc.size, 16) := by kernel_rfl
set_option maxRecDepth 100000 in
set_option maxHeartbeats 2000000 in
theorem plainCode_calls (n ge : Nat) (ls : List (UInt32 × Int)) (l : List RI) (a1 a2 : Option Addr) (n1 n2 c1 c2 : Nat) (A : Nat → Prop) (w : World) (hB : Blk w ge #[.slice a1 n1 c1, .slice a2 n2 c2] 154) (h1 : Lay.loc.slice.rd A w [.slice a1 n1 c1] ls) (h2 : (Lay.ri n).slice.rd A w [.slice a2 n2 c2] l) (hA : ∀ k, A k → k < w.heap.size)
    (hln : ls.length ≤ 4294967296) (hll : l.length ≤ 1048576) (hfa : fitRL l) :
    Calls Tryz.prog 32 #[.pointer (some ⟨ge, 0, none⟩)] w fun e w' => ∃ b1 m1 d1 b2 m2 d2, e = .returned (.agg #[.slice b1 m1 d1, .slice b2 m2 d2]) ∧ Lay.loc.slice.rd (fun k => w.heap.size ≤ k ∧ k < w'.heap.size) w' [.slice b1 m1 d1] ls ∧ (Lay.ins n).slice.rd (fun k => w.heap.size ≤ k ∧ k < w'.heap.size) w' [.slice b2 m2 d2] (toIL l) ∧ Ext w w' := by
  obtain ⟨a', c', e, hlc, hcm⟩ := Lay.slice_form h1
  obtain ⟨rfl, rfl, rfl⟩ : a1 = a' ∧ n1 = ls.length ∧ c1 = c' := by simpa using e
  have hlen : (ls.length : Int) ≤ 9223372036854775807 := by omega
  have H := Lib.hid (And.intro h1 (And.intro h2 (And.intro hA (And.intro hln (And.intro hll (And.intro hfa hB))))))
  obtain ⟨W1, g, hW1, hg, H1⟩ : ∃ W1 g, Hid (((w.alloc (.cells #[.slice none 0 0, .slice none 0 0] 68)).alloc (.cells #[.slice none 0 0, .slice none 0 0] 68)) = W1) ∧ Hid (w.heap.size + 1 = g) ∧ Hid (Blk W1 g #[.slice none 0 0, .slice none 0 0] 68 ∧ Blk W1 w.heap.size #[.slice none 0 0, .slice none 0 0] 68 ∧ Ext w W1 ∧ w.heap.size + 1 = g) := by
    have := blk_new (w.alloc (.cells #[.slice none 0 0, .slice none 0 0] 68)) #[.slice none 0 0, .slice none 0 0] 68
    exact ⟨_, _, rfl, rfl, by simpa using this, (blk_new w _ _).ext (ext_alloc _ _), Ext.trans (ext_alloc _ _) (ext_alloc _ _), rfl⟩
  have hcE := fun o o' => ((hB.ext (ext_alloc w o)).ext (ext_alloc _ o')).cell
  clear h1 h2 hA hln hll hfa hlc hcm e hB
  go_enter Tryz.func32, Tryz.ntmps32
  go_wp2_with fail
  rw [hW1.out, hg.out]
  clear hcE hW1 hg
  go_loopw [12] (fun s12 w' => ∃ (i : Nat) (va : Value), i ≤ ls.length ∧ s12 = .int .i64 i ∧ Hid (Blk w' g #[va, .slice none 0 0] 68 ∧ Own Lay.loc 140 W1.heap.size w' va (ls.take i) ∧ Fr (fun k => k = g) W1 w')) (fun s12 _ => ls.length - (intOf s12).toNat)
  case atStart => exact ⟨0, _, Nat.zero_le _, rfl, H1.out.1, own_nil _ _ _ _, Fr.refl _ _⟩
  case round =>
    obtain ⟨i, va, hi, rfl, hV⟩ := hrel
    have hgs := H1.out.1.lt
    have hgw : w.heap.size < g := by have := H1.out.2.2.2; omega
    obtain ⟨va1, va2, va3, rfl⟩ := hV.out.2.1.shape
    by_cases hlt : i < ls.length
    · obtain ⟨b, o, rfl, hA1, e0, e1, hb0, hb1⟩ := loc_at (Lay.fr H.out.1 (Ext.fr H1.out.2.2.1 hV.out.2.2) (fun k hk => ⟨H.out.2.2.1 k hk, fun e => by have := H.out.2.2.1 k hk; have e' : k = g := e; omega⟩)) i hlt
      have hab := Lib.hid (And.intro hb0 hb1)
      have htk := Lib.hid (show ls.take (i + 1) = ls.take i ++ [ls[i]] from List.take_succ_eq_append_getElem hlt)
      generalize ls[i] = x at *
      obtain ⟨cn, ty⟩ := x
      simp only [] at e0 e1
      have hcg := hV.out.1.cell
      have hfg := hV.out.1.frz
      have hgwr := hV.out.1.lt
      clear hA1 hb0 hb1
      go_wp2_with (at_builtin; refine Hid.out ?_)
      have hxv := ext_alloc wr (.cells #[.int .u32 cn.toNat, .int .i64 ty] 259)
      refine own_append1n Lay.loc W1.heap.size (wr.heap.size + 1) (by simp) rfl (.tmp 17) (.tmp 23) _ _ _ 16 rfl Tryz.underlying65 infoLocP rfl (by omega) (by decide) (.slice va1 va2 va3) (ls.take i) (cn, ty) _ rfl rfl (hV.out.2.1.ext hxv) ⟨[_], [_], rfl, rfl, rfl, hab.out⟩ (Nat.le_trans hV.out.2.2.size hxv.size) (by have := H.out.2.2.2.1; rw [List.length_take]; omega) ?_
      intro v1 w4 h1 h2 h3
      have hne : ∀ k', k' = g → ¬ some k' = (Value.slice va1 va2 va3).ownBlock := fun k' e h => by have := (hV.out.2.1.lt k' h.symm).1; omega
      have hB5 := (hV.out.1.ext hxv).fr h2 (hne g rfl)
      have hc5 := hB5.cell
      have hf5 := hB5.frz
      have hO5 : Own Lay.loc 140 W1.heap.size w4 v1 (ls.take (i + 1)) := by rw [htk.out]; exact h1
      have hF5 : Fr (fun k => k = g) W1 w4 := Fr.trans (hV.out.2.2.ext hxv) h2 (fun _ _ h => h) (fun k hk e => absurd hk (by have := (hV.out.2.1.lt k e.symm).1; omega))
      obtain ⟨vb1, vb2, vb3, rfl⟩ := h1.shape
      have H5 := Lib.hid (And.intro hB5 (And.intro hO5 hF5))
      clear h1 h2 h3 hB5 hO5 hF5 hcg hfg hxv hne
      go_wp2_with fail
      have hV2 : Hid (Blk (w4.setCell ⟨g, 0, none⟩ (.slice vb1 vb2 vb3)) g #[.slice vb1 vb2 vb3, .slice none 0 0] 68 ∧ Own Lay.loc 140 W1.heap.size (w4.setCell ⟨g, 0, none⟩ (.slice vb1 vb2 vb3)) (.slice vb1 vb2 vb3) (ls.take (i + 1)) ∧ Fr (fun k => k = g) W1 (w4.setCell ⟨g, 0, none⟩ (.slice vb1 vb2 vb3))) := by
        refine ⟨?_, Own.only flat_loc H5.out.2.1 (fr_setCell _ _ _) (fun k' h e => by have := (H5.out.2.1.lt k' h).1; have e' : k' = g := e; omega), H5.out.2.2.setCell (.inl rfl) _⟩
        have := H5.out.1.set 0 (.slice vb1 vb2 vb3)
        simpa using this
      clear hc5 hf5
      go_roundw
      case rel => exact ⟨i + 1, _, by omega, by go_num, hV2⟩
      case measure => simp [intOf]; omega
    · obtain rfl : i = ls.length := by omega
      have hV' := hV.out
      rw [List.take_length] at hV'
      have hVf := Lib.hid hV'
      have hXr := Lib.hid (show Ext w wr from Fr.new (Ext.fr H1.out.2.2.1 hV'.2.2) (fun k e => by have e' : k = g := e; omega))
      have hce := (H.out.2.2.2.2.2.2.ext hXr.out).cell
      clear hV hV'
      go_wp2_with fail
      refine (plainInstrs_calls n l a2 n2 c2 A wr (Lay.fr H.out.2.1 hXr.out (fun k hk => ⟨H.out.2.2.1 k hk, fun h => h⟩)) (fun k hk => Nat.lt_of_lt_of_le (H.out.2.2.1 k hk) hXr.out.size) H.out.2.2.2.2.1 H.out.2.2.2.2.2.1).mono ?_
      rintro e w6 ⟨v6, rfl, o6, x6⟩
      obtain ⟨y1, y2, y3, rfl⟩ := o6.shape
      have hBg := hVf.out.1.ext x6
      have hBr := (H1.out.2.1.fr hVf.out.2.2 (fun e => by have e' : w.heap.size = g := e; omega)).ext x6
      have hcg := hBg.cell
      have hfg := hBg.frz
      have hcr := hBr.cell
      have hfr := hBr.frz
      have H6 := Lib.hid (And.intro hBg (And.intro hBr (And.intro o6 x6)))
      clear hBg hBr o6 x6 hce
      go_wp2
      have hset : Fr (fun k => k = g ∨ k = w.heap.size) w6 (((w6.setCell ⟨g, 1, none⟩ (.slice y1 y2 y3)).setCell ⟨w.heap.size, 0, none⟩ (.slice va1 va2 va3)).setCell ⟨w.heap.size, 1, none⟩ (.slice y1 y2 y3)) := Fr.setCell (Fr.setCell (Fr.setCell (Fr.refl (fun k => k = g ∨ k = w.heap.size) w6) (p := ⟨g, 1, none⟩) (.inl (.inl rfl)) _) (p := ⟨w.heap.size, 0, none⟩) (.inl (.inr rfl)) _) (p := ⟨w.heap.size, 1, none⟩) (.inl (.inr rfl)) _
      have hbl := (((H6.out.2.1.fr (fr_setCell w6 ⟨g, 1, none⟩ (.slice y1 y2 y3)) (fun e => by have e' : w.heap.size = g := e; omega)).set 0 (.slice va1 va2 va3)).set 1 (.slice y1 y2 y3)).cell
      have hfin := Lib.hid (show Lay.loc.slice.rd (fun k => w.heap.size ≤ k ∧ k < (((w6.setCell ⟨g, 1, none⟩ (.slice y1 y2 y3)).setCell ⟨w.heap.size, 0, none⟩ (.slice va1 va2 va3)).setCell ⟨w.heap.size, 1, none⟩ (.slice y1 y2 y3)).heap.size) (((w6.setCell ⟨g, 1, none⟩ (.slice y1 y2 y3)).setCell ⟨w.heap.size, 0, none⟩ (.slice va1 va2 va3)).setCell ⟨w.heap.size, 1, none⟩ (.slice y1 y2 y3)) [.slice va1 va2 va3] ls ∧ (Lay.ins n).slice.rd (fun k => w.heap.size ≤ k ∧ k < (((w6.setCell ⟨g, 1, none⟩ (.slice y1 y2 y3)).setCell ⟨w.heap.size, 0, none⟩ (.slice va1 va2 va3)).setCell ⟨w.heap.size, 1, none⟩ (.slice y1 y2 y3)).heap.size) (((w6.setCell ⟨g, 1, none⟩ (.slice y1 y2 y3)).setCell ⟨w.heap.size, 0, none⟩ (.slice va1 va2 va3)).setCell ⟨w.heap.size, 1, none⟩ (.slice y1 y2 y3)) [.slice y1 y2 y3] (toIL l) ∧ Ext w (((w6.setCell ⟨g, 1, none⟩ (.slice y1 y2 y3)).setCell ⟨w.heap.size, 0, none⟩ (.slice va1 va2 va3)).setCell ⟨w.heap.size, 1, none⟩ (.slice y1 y2 y3)) from by
        have hs1 := hset.size
        have hs2 := H6.out.2.2.2.size
        have hs3 := hXr.out.size
        have hs4 := H1.out.2.2.1.size
        have hgr := hVf.out.1.lt
        refine ⟨Lay.mono _ (Lay.fr (hVf.out.2.1.ext H6.out.2.2.2).slice hset (fun k hk => ⟨hk.2, fun e => by have := hk.1; rcases e with e | e <;> omega⟩)) (fun k hk => ⟨by omega, by omega⟩), Lay.mono _ (Lay.fr H6.out.2.2.1.slice hset (fun k hk => ⟨hk.2, fun e => by have := hk.1; rcases e with e | e <;> omega⟩)) (fun k hk => ⟨by omega, by omega⟩), ?_⟩
        exact (Ext.fr (Ext.trans hXr.out H6.out.2.2.2) hset).mono (fun k hk e => by rcases e with e | e <;> omega))
      clear hset hcr hfr hcg hfg
      exact bodyPost_ret (v := .agg #[.slice va1 va2 va3, .slice y1 y2 y3]) (by simp [results, Tryz.results32, go_sem, hbl]) rfl ⟨_, _, _, _, _, _, rfl, hfin.out⟩
end Go.Proofs.YtkbadfljmbeciaaGreatDoor
