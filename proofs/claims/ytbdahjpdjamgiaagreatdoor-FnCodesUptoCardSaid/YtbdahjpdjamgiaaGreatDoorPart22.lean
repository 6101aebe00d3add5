/- spec.ReadCode. -/
import Derived.Test.YtbdahjpdjamgiaaGreatDoorPart21
namespace Go.Proofs.YtbdahjpdjamgiaaGreatDoor
open Go.RowKit
theorem rLocals_snoc : ∀ (i : Nat) (s : St), rLocals (i + 1) s = ((rLocals i s).1 ++ [(UInt32.ofNat (rNumber (rLocals i s).2).1, (rValueType (rNumber (rLocals i s).2).2).1)], (rValueType (rNumber (rLocals i s).2).2).2)
  | 0, _ => rfl
  | i + 1, s => by
    conv => lhs; unfold rLocals
    rw [rLocals_snoc i]
    simp only [rLocals, List.cons_append]
theorem rValueType_len (s : St) : (rValueType s).2.b.length ≤ s.b.length := by
  have := rByte_len s
  unfold rValueType
  show (if _ then _ else _ : St).b.length ≤ _
  split
  · exact Nat.zero_le _
  · exact this
theorem rLocals_len : ∀ (i : Nat) (s : St), (rLocals i s).2.b.length ≤ s.b.length
  | 0, _ => Nat.le_refl _
  | i + 1, s => by
    have := rLocals_len i s
    have h1 := rNumber_len (rLocals i s).2
    have h2 := rValueType_len (rNumber (rLocals i s).2).2
    rw [rLocals_snoc]
    show (rValueType (rNumber (rLocals i s).2).2).2.b.length ≤ _
    omega
theorem rLocals_n : ∀ (i : Nat) (s : St), (rLocals i s).1.length = i
  | 0, _ => rfl
  | i + 1, s => by simp only [rLocals, List.length_cons, rLocals_n i]
theorem rCount_le (s : St) : (rCount s).1 ≤ s.b.length ∧ (rCount s).2.b.length ≤ s.b.length := by
  have := rNumber_len s
  unfold rCount
  split
  · refine ⟨Nat.zero_le _, ?_⟩
    show (if _ then _ else _ : St).b.length ≤ _
    split <;> exact Nat.zero_le _
  · omega
theorem infoLocS : (Tryz.prog.info? 73).map (fun i => (i.zero, i.size, i.bytes)) = some (some (.agg #[.int .u32 0, .int .i64 0]), Lay.loc.size, 16) := by kernel_rfl
set_option maxRecDepth 100000 in
set_option maxHeartbeats 4000000 in
theorem ReadCode_calls (D : Nat → Prop) (aa : Option Addr) (cap : Nat) (b : List UInt8) (w : World) (hR : Lay.u8.slice.rd D w [.slice aa b.length cap] b) (hD : ∀ k, D k → k < w.heap.size) (hl : b.length ≤ 33554432) :
    Calls Tryz.prog 7 #[.slice aa b.length cap] w fun e w' => ∃ a1 n1 c1 a2 n2 c2, e = .returned (.tuple #[.agg #[.slice a1 n1 c1, .slice a2 n2 c2], .int .i64 ((rCode b).2 : Int)]) ∧
      Lay.loc.slice.rd (fun k => w.heap.size ≤ k ∧ k < w'.heap.size) w' [.slice a1 n1 c1] (rCode b).1.1 ∧ (Lay.ins (b.length + 1)).slice.rd (fun k => w.heap.size ≤ k ∧ k < w'.heap.size) w' [.slice a2 n2 c2] (rCode b).1.2 ∧ Ext w w' := by
  have H := Lib.hid (And.intro hR (And.intro hD hl))
  clear hR hD
  go_enter Tryz.func7, Tryz.ntmps7
  go_wp2_with fail
  obtain ⟨W2, g, gc, hW2, hg, hgc, H2⟩ : ∃ W2 g gc, ((w.alloc (.cells #[.slice none 0 0, .slice none 0 0] 40)).alloc (.cells #[.slice aa b.length cap, .int .i64 0, .bool false] 80)) = W2 ∧ w.heap.size + 1 = g ∧ w.heap.size = gc ∧
      Hid (Ext w W2 ∧ Blk W2 gc #[.slice none 0 0, .slice none 0 0] 40 ∧ SpR D g false ⟨b, 0⟩ W2 ∧ gc + 1 = g ∧ g < W2.heap.size ∧ w.heap.size = gc) := by
    have hx := Ext.trans (ext_alloc w (.cells #[.slice none 0 0, .slice none 0 0] 40)) (ext_alloc _ (.cells #[.slice aa b.length cap, .int .i64 0, .bool false] 80))
    have hbn := blk_new (w.alloc (.cells #[.slice none 0 0, .slice none 0 0] 40)) #[.slice aa b.length cap, .int .i64 0, .bool false] 80
    have e1 : (w.alloc (.cells #[.slice none 0 0, .slice none 0 0] 40)).heap.size = w.heap.size + 1 := by simp
    rw [e1] at hbn
    exact ⟨_, _, _, rfl, rfl, rfl, hx, (blk_new w _ _).ext (ext_alloc _ _), ⟨aa, cap, hbn, Lay.fr H.out.1 hx (fun k hk => ⟨H.out.2.1 k hk, fun h => h⟩), fun k hk => by have := H.out.2.1 k hk; have := hx.size; omega⟩, rfl, hbn.lt, rfl⟩
  rw [hW2, hg, hgc]
  clear hW2 hg hgc
  refine (count_calls D g false ⟨b, 0⟩ W2 H2.out.2.2.1 (by show b.length ≤ _; omega)).mono ?_
  rintro e w3 ⟨rfl, k1, k2⟩
  have hcl := rCount_le ⟨b, 0⟩
  obtain ⟨n, hn⟩ : ∃ n, n = (rCount ⟨b, 0⟩).1 := ⟨_, rfl⟩
  obtain ⟨s0, hs0⟩ : ∃ s0, s0 = (rCount ⟨b, 0⟩).2 := ⟨_, rfl⟩
  have hrc := Lib.hid (show rCode b = (((rLocals (rCount ⟨b, 0⟩).1 (rCount ⟨b, 0⟩).2).1, (rBody ((rLocals (rCount ⟨b, 0⟩).1 (rCount ⟨b, 0⟩).2).2.b.length + 1) 0 [] (rLocals (rCount ⟨b, 0⟩).1 (rCount ⟨b, 0⟩).2).2).1),
    if (rBody ((rLocals (rCount ⟨b, 0⟩).1 (rCount ⟨b, 0⟩).2).2.b.length + 1) 0 [] (rLocals (rCount ⟨b, 0⟩).1 (rCount ⟨b, 0⟩).2).2).2.v = 3 then 1 else if (rBody ((rLocals (rCount ⟨b, 0⟩).1 (rCount ⟨b, 0⟩).2).2.b.length + 1) 0 [] (rLocals (rCount ⟨b, 0⟩).1 (rCount ⟨b, 0⟩).2).2).2.v = 0 ∧ 0 < (rBody ((rLocals (rCount ⟨b, 0⟩).1 (rCount ⟨b, 0⟩).2).2.b.length + 1) 0 [] (rLocals (rCount ⟨b, 0⟩).1 (rCount ⟨b, 0⟩).2).2).2.b.length then 2 else (rBody ((rLocals (rCount ⟨b, 0⟩).1 (rCount ⟨b, 0⟩).2).2.b.length + 1) 0 [] (rLocals (rCount ⟨b, 0⟩).1 (rCount ⟨b, 0⟩).2).2).2.v) from rfl)
  rw [← hn, ← hs0] at hrc
  rw [← hn, ← hs0] at hcl
  rw [← hs0] at k1
  rw [← hn]
  have H3 := Lib.hid (And.intro k1 k2)
  obtain ⟨hcn, hcb⟩ := hcl
  have hcn : n ≤ b.length := hcn
  have hcb : s0.b.length ≤ b.length := hcb
  clear k1 k2 hn hs0
  go_wp2_with fail
  go_loopw [10] (fun s10 w' => ∃ (i : Nat) (va : Value), i ≤ n ∧ s10 = .int .i64 i ∧ Hid (Blk w' gc #[va, .slice none 0 0] 40 ∧ Own Lay.loc 73 W2.heap.size w' va (rLocals i s0).1 ∧ SpR D g false (rLocals i s0).2 w' ∧ Fr (fun k => k = g ∨ k = gc) W2 w')) (fun s10 _ => n - (intOf s10).toNat)
  case atStart => exact ⟨0, _, Nat.zero_le _, rfl, H2.out.2.1.fr H3.out.2 (fun e => by have e' : gc = g := e; have := H2.out.2.2.2; omega), own_nil _ _ _ _, H3.out.1, H3.out.2.mono (fun _ _ h => .inl h)⟩
  case round =>
    obtain ⟨i, va, hi, rfl, hV⟩ := hrel
    obtain ⟨va1, va2, va3, rfl⟩ := hV.out.2.1.shape
    have hgg : Hid (gc + 1 = g ∧ g < W2.heap.size ∧ ∀ k, D k → k < gc) := ⟨H2.out.2.2.2.1, H2.out.2.2.2.2.1, fun k hk => by have := H.out.2.1 k hk; have := H2.out.2.2.2.2.2; omega⟩
    by_cases hlt : i < n
    · have hsn := Lib.hid (rLocals_snoc i s0)
      have hln := Lib.hid (rLocals_n i s0)
      have hbl := rLocals_len i s0
      generalize hr2 : rLocals (i + 1) s0 = r2 at *
      have hr2 := Lib.hid hr2
      generalize rLocals i s0 = r1 at *
      have hcg := hV.out.1.cell
      go_wp2_with fail
      refine region_items (frFrm (fun k => k = g)) [(0, .take), (1, .take), (2, .take), (4, .take), (3, .run), (5, .run), (6, .take), (7, .run), (8, .last), (9, .take), (10, .last)] (by kernel_rfl) (by kernel_rfl) ?_
      simp only [itemsOf, List.getD_cons_zero, List.getD_cons_succ]
      have HC := Lib.hid (fun W' (h : Fr (fun k => k = g) wr.drew W') => (hV.out.1.fr ((ext_drew _).fr h) (fun e => by have e' : gc = g := e; have := hgg.out; omega)).cell)
      have hVd : Hid (Blk wr.drew gc #[.slice va1 va2 va3, .slice none 0 0] 40 ∧ Own Lay.loc 73 W2.heap.size wr.drew (.slice va1 va2 va3) r1.1 ∧ SpR D g false r1.2 wr.drew ∧ Fr (fun k => k = g ∨ k = gc) W2 wr.drew) := ⟨hV.out.1.ext (ext_drew _), hV.out.2.1.ext (ext_drew _), hV.out.2.2.1.ext (ext_drew _), hV.out.2.2.2.ext (ext_drew _)⟩
      clear hcg hV
      generalize wr.drew = W3 at *
      repeat (apply item_take; rfl; rfl; rfl; rfl; exact fun _ _ _ _ h => h; (intro W hE K hK; have q := HC.out W hE; go_simp; exact hK))
      apply item_run; rfl; intro K hK; go_simp
      refine (number_calls D g false r1.2 W3 hVd.out.2.2.1 (by omega)).mono ?_
      rintro e w5 ⟨rfl, k1, k2⟩
      refine hK _ _ k2 ?_
      have hnl := rNumber_lt r1.2
      have hnb := rNumber_len r1.2
      have hsn2 := hsn.out
      generalize rNumber r1.2 = rn at *
      have hK5 := Lib.hid (And.intro k1 k2)
      clear hK K k1 k2 hsn
      apply item_run; rfl; intro K hK; go_simp
      refine (valueType_calls D g false rn.2 w5 hK5.out.1).mono ?_
      rintro e w6 ⟨rfl, k1, k2⟩
      refine hK _ _ k2 ?_
      have hvb : -1000 ≤ (rValueType rn.2).1 ∧ (rValueType rn.2).1 ≤ 1000 := by
        have := rByte_lt rn.2
        show -1000 ≤ 127 - ((rByte rn.2).1 : Int) ∧ 127 - ((rByte rn.2).1 : Int) ≤ 1000
        omega
      generalize rValueType rn.2 = rv at *
      have hsn2 := Lib.hid hsn2
      have h6 : Hid (Blk w6 gc #[.slice va1 va2 va3, .slice none 0 0] 40 ∧ Own Lay.loc 73 W2.heap.size w6 (.slice va1 va2 va3) r1.1 ∧ SpR D g false rv.2 w6 ∧ Fr (fun k => k = g ∨ k = gc) W2 w6) := by
        have hF := hK5.out.2.trans k2 (fun _ _ h => h) (fun _ _ h => h)
        have hgo := hgg.out
        exact ⟨hVd.out.1.fr hF (fun e => by have e' : gc = g := e; omega), hVd.out.2.1.fr hF (fun k h1 h2 e => by have e' : k = g := e; omega), k1, hVd.out.2.2.2.trans hF (fun _ _ h => h) (fun _ _ h => .inl h)⟩
      clear hK K k1 k2 HC hK5 hVd
      repeat (apply item_take; rfl; rfl; rfl; rfl; exact fun _ _ _ _ h => h; (intro W hE K hK; go_simp; exact hK))
      apply item_run; rfl; intro K hK; go_simp
      refine hK _ _ (ext_alloc _ _).to ?_
      clear hK K
      apply item_last; rfl; intro K hK
      refine own_append1_wp Lay.loc W2.heap.size (.tmp 13) (.tmp 19) _ _ _ 16 rfl Tryz.underlying37 infoLocS rfl (by omega) (by decide) (.slice va1 va2 va3) r1.1 (UInt32.ofNat rn.1, rv.1) _ rfl rfl h6.out.2.1 ⟨[_], [_], rfl, by show [Value.int .u32 (rn.1 : Int)] = [Value.int .u32 ((UInt32.ofNat rn.1).toNat : Int)]; rw [show (UInt32.ofNat rn.1).toNat = rn.1 from Nat.mod_eq_of_lt hnl], ⟨rfl, by omega, by omega⟩⟩ h6.out.2.2.2.size (by rw [hln.out]; omega) ?_
      intro v1 w7 h1 h2 h3
      refine hK _ _ ?_
      clear hK K
      obtain ⟨vb1, vb2, vb3, rfl⟩ := h1.shape
      have hnog : Hid (∀ k, some k = (Value.slice va1 va2 va3).ownBlock → W2.heap.size ≤ k) := fun k hk => (h6.out.2.1.lt k hk.symm).1
      have h7 : Hid (Blk w7 gc #[.slice va1 va2 va3, .slice none 0 0] 40 ∧ Own Lay.loc 73 W2.heap.size w7 (.slice vb1 vb2 vb3) r2.1 ∧ SpR D g false r2.2 w7 ∧ Fr (fun k => k = g ∨ k = gc) W2 w7) := by
        have hgo := hgg.out
        rw [hsn2.out]
        exact ⟨h6.out.1.fr h2 (fun e => by have := hnog.out gc e; omega), h1, h6.out.2.2.1.fr h2 (fun e => by have := hnog.out g e; omega) (fun k hk e => by have := hnog.out k e; have := hgo.2.2 k hk; omega), Fr.trans h6.out.2.2.2 h2 (fun _ _ h => h) (fun k hk e => absurd hk (by have := hnog.out k e; omega))⟩
      clear h1 h2 h3 h6 hnog
      have hc7 := h7.out.1.cell
      have hf7 := h7.out.1.frz
      repeat (apply item_take; rfl; rfl; rfl; rfl; exact fun _ _ _ _ h => h; (intro W hE K hK; go_simp; exact hK))
      apply item_last; rfl; intro K hK; go_simp
      refine hK _ _ ?_
      clear hK K hc7 hf7
      apply items_done
      have hV2 : Hid (Blk (w7.setCell ⟨gc, 0, none⟩ (.slice vb1 vb2 vb3)) gc #[.slice vb1 vb2 vb3, .slice none 0 0] 40 ∧ Own Lay.loc 73 W2.heap.size (w7.setCell ⟨gc, 0, none⟩ (.slice vb1 vb2 vb3)) (.slice vb1 vb2 vb3) r2.1 ∧ SpR D g false r2.2 (w7.setCell ⟨gc, 0, none⟩ (.slice vb1 vb2 vb3)) ∧ Fr (fun k => k = g ∨ k = gc) W2 (w7.setCell ⟨gc, 0, none⟩ (.slice vb1 vb2 vb3))) := by
        have hgo := hgg.out
        refine ⟨?_, Own.only flat_loc h7.out.2.1 (fr_setCell _ _ _) (fun k' h e => by have := (h7.out.2.1.lt k' h).1; have e' : k' = gc := e; omega), h7.out.2.2.1.fr (fr_setCell _ _ _) (fun e => by have e' : g = gc := e; omega) (fun k hk e => by have e' : k = gc := e; have := hgo.2.2 k hk; omega), h7.out.2.2.2.setCell (.inl (.inr rfl)) _⟩
        have := h7.out.1.set 0 (.slice vb1 vb2 vb3)
        simpa using this
      go_wp2
      go_roundw
      case rel => exact ⟨i + 1, _, by omega, by go_num, by rw [hr2.out]; exact hV2⟩
      case measure => simp [intOf]; omega
    · obtain rfl : i = n := by omega
      have hbl := rLocals_len i s0
      have hrc2 := hrc.out
      generalize rLocals i s0 = r1 at *
      obtain ⟨ls, s1⟩ := r1
      dsimp only at hbl hrc2 hV
      go_wp2_with fail
      refine (body_calls D g false (s1.b.length + 1) 0 s1 _ (by omega) hV.out.2.2.1 (by omega) (by omega)).mono ?_
      rintro e w5 ⟨v5, rfl, o5, k1, k2⟩
      rw [show ((0 : Nat) : Int) = 0 from rfl] at o5 k1
      obtain ⟨f1, f2, f3, rfl⟩ := o5.shape
      generalize rBody (s1.b.length + 1) 0 [] s1 = rb at *
      obtain ⟨ib, s2⟩ := rb
      dsimp only at hrc2 o5 k1
      have hgo := hgg.out
      have H5 : Hid (Blk w5 gc #[.slice va1 va2 va3, .slice none 0 0] 40 ∧ Own Lay.loc 73 W2.heap.size w5 (.slice va1 va2 va3) ls ∧ SpR D g false s2 w5 ∧ Fr (fun k => k = g ∨ k = gc) W2 w5 ∧ Own (Lay.ins (s1.b.length + 1)) 138 W2.heap.size w5 (.slice f1 f2 f3) ib) :=
        ⟨hV.out.1.fr k2 (fun e => by have e' : gc = g := e; omega), hV.out.2.1.fr k2 (fun k h1 h2 e => by have e' : k = g := e; omega), k1, hV.out.2.2.2.trans k2 (fun _ _ h => h) (fun _ _ h => .inl h), o5.lower (by have := hV.out.2.2.2.size; omega)⟩
      have hc5 := H5.out.1.cell
      have hf5 := H5.out.1.frz
      obtain ⟨aa2, cap2, hbr, hrd, hDD⟩ := H5.out.2.2.1
      have hs0 := fr_setCell w5 ⟨gc, 1, none⟩ (.slice f1 f2 f3)
      have hbr6 := hbr.fr hs0 (fun e => by have e' : g = gc := e; omega)
      have H6 : Hid (Blk (w5.setCell ⟨gc, 1, none⟩ (.slice f1 f2 f3)) gc #[.slice va1 va2 va3, .slice f1 f2 f3] 40 ∧ Own Lay.loc 73 W2.heap.size (w5.setCell ⟨gc, 1, none⟩ (.slice f1 f2 f3)) (.slice va1 va2 va3) ls ∧ SpR D g false s2 (w5.setCell ⟨gc, 1, none⟩ (.slice f1 f2 f3)) ∧ Fr (fun k => k = g ∨ k = gc) W2 (w5.setCell ⟨gc, 1, none⟩ (.slice f1 f2 f3)) ∧ Own (Lay.ins (s1.b.length + 1)) 138 W2.heap.size (w5.setCell ⟨gc, 1, none⟩ (.slice f1 f2 f3)) (.slice f1 f2 f3) ib) := by
        refine ⟨?_, H5.out.2.1.fr hs0 (fun k h1 h2 e => by have e' : k = gc := e; omega), H5.out.2.2.1.fr hs0 (fun e => by have e' : g = gc := e; omega) (fun k hk e => by have e' : k = gc := e; have := hgo.2.2 k hk; omega), H5.out.2.2.2.1.setCell (.inl (.inr rfl)) _, H5.out.2.2.2.2.fr hs0 (fun k h1 h2 e => by have e' : k = gc := e; omega)⟩
        have := H5.out.1.set 1 (.slice f1 f2 f3)
        simpa using this
      have hc6 := hbr6.cell
      have hf6 := hbr6.frz
      have hcR6 := Lib.hid hbr6
      clear k1 k2 o5 hV hbr hrd hDD hs0 hbr6 hgo
      have hvv : ((s2.v : Int) == 3) = decide (s2.v = 3) := by by_cases h : s2.v = 3 <;> simp [h] <;> omega
      by_cases hv3 : s2.v = 3
      · have hrc3 : Hid (rCode b = ((ls, ib), 1)) := by show _ = _; rw [hrc2, if_pos hv3]
        rw [decide_eq_true hv3] at hvv
        clear hrc2
        go_wp2_with fail
        have hs1 := fr_setCell (w5.setCell ⟨gc, 1, none⟩ (.slice f1 f2 f3)) ⟨g, 1, none⟩ (.int .i64 1)
        have hb7 : Blk ((w5.setCell ⟨gc, 1, none⟩ (.slice f1 f2 f3)).setCell ⟨g, 1, none⟩ (.int .i64 1)) g #[.slice aa2 s2.b.length cap2, .int .i64 1, .bool false] 80 := by
          have := hcR6.out.set 1 (.int .i64 1)
          simpa using this
        have hgo := hgg.out
        have Hf : Hid (Blk ((w5.setCell ⟨gc, 1, none⟩ (.slice f1 f2 f3)).setCell ⟨g, 1, none⟩ (.int .i64 1)) gc #[.slice va1 va2 va3, .slice f1 f2 f3] 40 ∧ Own Lay.loc 73 W2.heap.size ((w5.setCell ⟨gc, 1, none⟩ (.slice f1 f2 f3)).setCell ⟨g, 1, none⟩ (.int .i64 1)) (.slice va1 va2 va3) ls ∧ Own (Lay.ins (s1.b.length + 1)) 138 W2.heap.size ((w5.setCell ⟨gc, 1, none⟩ (.slice f1 f2 f3)).setCell ⟨g, 1, none⟩ (.int .i64 1)) (.slice f1 f2 f3) ib ∧ Fr (fun k => k = g ∨ k = gc) W2 ((w5.setCell ⟨gc, 1, none⟩ (.slice f1 f2 f3)).setCell ⟨g, 1, none⟩ (.int .i64 1))) :=
          ⟨H6.out.1.fr hs1 (fun e => by have e' : gc = g := e; omega), H6.out.2.1.fr hs1 (fun k h1 h2 e => by have e' : k = g := e; omega), H6.out.2.2.2.2.fr hs1 (fun k h1 h2 e => by have e' : k = g := e; omega), H6.out.2.2.2.1.setCell (.inl (.inl rfl)) _⟩
        have hS7 : SpR D g false ⟨s2.b, 1⟩ ((w5.setCell ⟨gc, 1, none⟩ (.slice f1 f2 f3)).setCell ⟨g, 1, none⟩ (.int .i64 1)) := by
          obtain ⟨aa3, cap3, hbr, hrd, hDD⟩ := H6.out.2.2.1
          have hbr0 := (hbr.cell 0).symm.trans (hcR6.out.cell 0)
          simp only [List.getElem?_toArray, List.getElem?_cons_zero, Option.some.injEq, Value.slice.injEq] at hbr0
          obtain ⟨rfl, -, rfl⟩ := hbr0
          exact SpR.mk (s := ⟨s2.b, 1⟩) hb7 hrd hDD hs1
        have hcR := Lib.hid hb7
        clear hs1 hb7 hgo hc5 hf5 hc6 hf6 hcR6
        refine (ok_calls D g false ⟨s2.b, 1⟩ _ hS7).mono ?_
        rintro e w7 ⟨rfl, rfl⟩
        clear hS7
        rw [show decide ((⟨s2.b, 1⟩ : St).v = 0) = false from rfl]
        go_wp2_with fail
        refine region_items (frFrm (fun k => k = gc)) [(1, .take), (2, .take), (3, .take), (4, .take), (0, .run), (5, .run), (6, .take)] (by kernel_rfl) (by kernel_rfl) ?_
        simp only [itemsOf, List.getD_cons_zero, List.getD_cons_succ]
        have HC := Lib.hid (fun W' (h : Fr (fun k => k = gc) ((w5.setCell ⟨gc, 1, none⟩ (.slice f1 f2 f3)).setCell ⟨g, 1, none⟩ (.int .i64 1)).drew W') => (hcR.out.fr (Ext.fr (ext_drew _) h) (fun e => by have e' : g = gc := e; have := hgg.out; omega)).cell)
        have hxd := Lib.hid (ext_drew ((w5.setCell ⟨gc, 1, none⟩ (.slice f1 f2 f3)).setCell ⟨g, 1, none⟩ (.int .i64 1)))
        generalize hWd : ((w5.setCell ⟨gc, 1, none⟩ (.slice f1 f2 f3)).setCell ⟨g, 1, none⟩ (.int .i64 1)).drew = Wd at *
        have HQ := Lib.hid (Hf.out.1.ext hxd.out)
        repeat (apply item_take; rfl; rfl; rfl; rfl; exact fun _ _ _ _ h => h; (intro W hE K hK; have q := HC.out W hE; go_simp; exact hK))
        have hq1 := HQ.out.cell
        have hq2 := HQ.out.frz
        apply item_run; rfl; intro K hK; go_simp
        refine hK _ _ (Fr.refl _ _) ?_
        clear hK K
        apply item_run; rfl; intro K hK; go_simp
        refine hK _ _ (Fr.setCell (Fr.setCell (Fr.refl (fun k => k = gc) Wd) (p := ⟨gc, 0, none⟩) (.inl rfl) _) (p := ⟨gc, 1, none⟩) (.inl rfl) _) ?_
        clear hK K HC HQ hq1 hq2
        repeat (apply item_take; rfl; rfl; rfl; rfl; exact fun _ _ _ _ h => h; (intro W hE K hK; go_simp; exact hK))
        apply items_done
        have hset : Fr (fun k => k = gc) Wd ((Wd.setCell ⟨gc, 0, none⟩ (.slice va1 va2 va3)).setCell ⟨gc, 1, none⟩ (.slice f1 f2 f3)) := Fr.setCell (Fr.setCell (Fr.refl (fun k => k = gc) Wd) (p := ⟨gc, 0, none⟩) (.inl rfl) _) (p := ⟨gc, 1, none⟩) (.inl rfl) _
        have hbl := (((Hf.out.1.ext hxd.out).set 0 (.slice va1 va2 va3)).set 1 (.slice f1 f2 f3)).cell
        have hfin := Lib.hid (show Lay.loc.slice.rd (fun k => w.heap.size ≤ k ∧ k < ((Wd.setCell ⟨gc, 0, none⟩ (.slice va1 va2 va3)).setCell ⟨gc, 1, none⟩ (.slice f1 f2 f3)).heap.size) ((Wd.setCell ⟨gc, 0, none⟩ (.slice va1 va2 va3)).setCell ⟨gc, 1, none⟩ (.slice f1 f2 f3)) [.slice va1 va2 va3] ls ∧ (Lay.ins (b.length + 1)).slice.rd (fun k => w.heap.size ≤ k ∧ k < ((Wd.setCell ⟨gc, 0, none⟩ (.slice va1 va2 va3)).setCell ⟨gc, 1, none⟩ (.slice f1 f2 f3)).heap.size) ((Wd.setCell ⟨gc, 0, none⟩ (.slice va1 va2 va3)).setCell ⟨gc, 1, none⟩ (.slice f1 f2 f3)) [.slice f1 f2 f3] ib ∧ Ext w ((Wd.setCell ⟨gc, 0, none⟩ (.slice va1 va2 va3)).setCell ⟨gc, 1, none⟩ (.slice f1 f2 f3)) from by
          have hgo := hgg.out
          have h2 := H2.out.2.2.2
          have hs1 := hxd.out.size
          have hs2 := hset.size
          have hs3 := H2.out.1.size
          have hF := Hf.out.2.2.2
          have hx := hxd.out
          refine ⟨Lay.mono _ (Lay.fr ((Hf.out.2.1.ext hx).slice) hset (fun k hk => ⟨hk.2, fun e => by have e' : k = gc := e; omega⟩)) (fun k hk => ⟨by omega, by omega⟩), ?_, ?_⟩
          · exact Lay.slice_imp (fun cs x h => Lay.ins_le (by omega) h) (Lay.mono _ (Lay.fr ((Hf.out.2.2.1.ext hx).slice) hset (fun k hk => ⟨hk.2, fun e => by have e' : k = gc := e; omega⟩)) (fun k hk => ⟨by omega, by omega⟩))
          · have hFa : Fr (fun k => k = g ∨ k = gc) W2 _ := Fr.trans (hF.ext hx) hset (fun _ _ h => h) (fun _ _ h => .inr h)
            exact (Ext.fr H2.out.1 hFa).mono (fun k hk e => by rcases e with e | e <;> omega))
        clear hset hcR Hf hxd hWd
        go_wp2
        refine bodyPost_ret (v := .tuple #[.agg #[.slice va1 va2 va3, .slice f1 f2 f3], .int .i64 ((1 : Nat) : Int)]) (by simp [results, Tryz.results7, go_sem, hbl]) rfl ⟨va1, va2, va3, f1, f2, f3, by rw [hrc3.out], ?_⟩
        rw [hrc3.out]
        exact hfin.out
      · rw [decide_eq_false hv3] at hvv
        rw [if_neg hv3] at hrc2
        have hrc2 := Lib.hid hrc2
        go_wp2_with fail
        refine (ok_calls D g false s2 _ H6.out.2.2.1).mono ?_
        rintro e w7 ⟨rfl, rfl⟩
        have Hg : Hid (Blk (w5.setCell ⟨gc, 1, none⟩ (.slice f1 f2 f3)) gc #[.slice va1 va2 va3, .slice f1 f2 f3] 40 ∧ Own Lay.loc 73 W2.heap.size (w5.setCell ⟨gc, 1, none⟩ (.slice f1 f2 f3)) (.slice va1 va2 va3) ls ∧ Own (Lay.ins (s1.b.length + 1)) 138 W2.heap.size (w5.setCell ⟨gc, 1, none⟩ (.slice f1 f2 f3)) (.slice f1 f2 f3) ib ∧ Fr (fun k => k = g ∨ k = gc) W2 (w5.setCell ⟨gc, 1, none⟩ (.slice f1 f2 f3))) := ⟨H6.out.1, H6.out.2.1, H6.out.2.2.2.2, H6.out.2.2.2.1⟩
        by_cases hv0 : s2.v = 0
        · rw [decide_eq_true hv0]
          by_cases hlen : 0 < s2.b.length
          · have hrc3 : Hid (rCode b = ((ls, ib), 2)) := by show _ = _; rw [hrc2.out, if_pos ⟨hv0, hlen⟩]
            clear hrc2
            go_wp2_with fail
            refine (fail_calls D g false s2 2 _ H6.out.2.2.1).mono ?_
            rintro e w8 ⟨rfl, k1, k2⟩
            have hgo := hgg.out
            have Hf : Hid (Blk w8 gc #[.slice va1 va2 va3, .slice f1 f2 f3] 40 ∧ Own Lay.loc 73 W2.heap.size w8 (.slice va1 va2 va3) ls ∧ Own (Lay.ins (s1.b.length + 1)) 138 W2.heap.size w8 (.slice f1 f2 f3) ib ∧ Fr (fun k => k = g ∨ k = gc) W2 w8) :=
              ⟨Hg.out.1.fr k2 (fun e => by have e' : gc = g := e; omega), Hg.out.2.1.fr k2 (fun k h1 h2 e => by have e' : k = g := e; omega), Hg.out.2.2.1.fr k2 (fun k h1 h2 e => by have e' : k = g := e; omega), Hg.out.2.2.2.trans k2 (fun _ _ h => h) (fun _ _ h => .inl h)⟩
            obtain ⟨aa3, cap3, hbr, -, -⟩ := k1
            have hcR := Lib.hid hbr
            have hvf : (s2.fail 2).v = 2 := by simp [St.fail, hv0]
            rw [hvf] at hcR
            clear hbr k2 hgo hc5 hf5 hc6 hf6 hcR6 Hg H6 hvf
            go_wp2_with fail
            refine region_items (frFrm (fun k => k = gc)) [(1, .take), (2, .take), (3, .take), (4, .take), (0, .run), (5, .run), (6, .take)] (by kernel_rfl) (by kernel_rfl) ?_
            simp only [itemsOf, List.getD_cons_zero, List.getD_cons_succ]
            have HC := Lib.hid (fun W' (h : Fr (fun k => k = gc) (w8).drew W') => (hcR.out.fr (Ext.fr (ext_drew _) h) (fun e => by have e' : g = gc := e; have := hgg.out; omega)).cell)
            have hxd := Lib.hid (ext_drew (w8))
            generalize hWd : (w8).drew = Wd at *
            have HQ := Lib.hid (Hf.out.1.ext hxd.out)
            repeat (apply item_take; rfl; rfl; rfl; rfl; exact fun _ _ _ _ h => h; (intro W hE K hK; have q := HC.out W hE; go_simp; exact hK))
            have hq1 := HQ.out.cell
            have hq2 := HQ.out.frz
            apply item_run; rfl; intro K hK; go_simp
            refine hK _ _ (Fr.refl _ _) ?_
            clear hK K
            apply item_run; rfl; intro K hK; go_simp
            refine hK _ _ (Fr.setCell (Fr.setCell (Fr.refl (fun k => k = gc) Wd) (p := ⟨gc, 0, none⟩) (.inl rfl) _) (p := ⟨gc, 1, none⟩) (.inl rfl) _) ?_
            clear hK K HC HQ hq1 hq2
            repeat (apply item_take; rfl; rfl; rfl; rfl; exact fun _ _ _ _ h => h; (intro W hE K hK; go_simp; exact hK))
            apply items_done
            have hset : Fr (fun k => k = gc) Wd ((Wd.setCell ⟨gc, 0, none⟩ (.slice va1 va2 va3)).setCell ⟨gc, 1, none⟩ (.slice f1 f2 f3)) := Fr.setCell (Fr.setCell (Fr.refl (fun k => k = gc) Wd) (p := ⟨gc, 0, none⟩) (.inl rfl) _) (p := ⟨gc, 1, none⟩) (.inl rfl) _
            have hbl := (((Hf.out.1.ext hxd.out).set 0 (.slice va1 va2 va3)).set 1 (.slice f1 f2 f3)).cell
            have hfin := Lib.hid (show Lay.loc.slice.rd (fun k => w.heap.size ≤ k ∧ k < ((Wd.setCell ⟨gc, 0, none⟩ (.slice va1 va2 va3)).setCell ⟨gc, 1, none⟩ (.slice f1 f2 f3)).heap.size) ((Wd.setCell ⟨gc, 0, none⟩ (.slice va1 va2 va3)).setCell ⟨gc, 1, none⟩ (.slice f1 f2 f3)) [.slice va1 va2 va3] ls ∧ (Lay.ins (b.length + 1)).slice.rd (fun k => w.heap.size ≤ k ∧ k < ((Wd.setCell ⟨gc, 0, none⟩ (.slice va1 va2 va3)).setCell ⟨gc, 1, none⟩ (.slice f1 f2 f3)).heap.size) ((Wd.setCell ⟨gc, 0, none⟩ (.slice va1 va2 va3)).setCell ⟨gc, 1, none⟩ (.slice f1 f2 f3)) [.slice f1 f2 f3] ib ∧ Ext w ((Wd.setCell ⟨gc, 0, none⟩ (.slice va1 va2 va3)).setCell ⟨gc, 1, none⟩ (.slice f1 f2 f3)) from by
              have hgo := hgg.out
              have h2 := H2.out.2.2.2
              have hs1 := hxd.out.size
              have hs2 := hset.size
              have hs3 := H2.out.1.size
              have hF := Hf.out.2.2.2
              have hx := hxd.out
              refine ⟨Lay.mono _ (Lay.fr ((Hf.out.2.1.ext hx).slice) hset (fun k hk => ⟨hk.2, fun e => by have e' : k = gc := e; omega⟩)) (fun k hk => ⟨by omega, by omega⟩), ?_, ?_⟩
              · exact Lay.slice_imp (fun cs x h => Lay.ins_le (by omega) h) (Lay.mono _ (Lay.fr ((Hf.out.2.2.1.ext hx).slice) hset (fun k hk => ⟨hk.2, fun e => by have e' : k = gc := e; omega⟩)) (fun k hk => ⟨by omega, by omega⟩))
              · have hFa : Fr (fun k => k = g ∨ k = gc) W2 _ := Fr.trans (hF.ext hx) hset (fun _ _ h => h) (fun _ _ h => .inr h)
                exact (Ext.fr H2.out.1 hFa).mono (fun k hk e => by rcases e with e | e <;> omega))
            clear hset hcR Hf hxd hWd
            go_wp2
            refine bodyPost_ret (v := .tuple #[.agg #[.slice va1 va2 va3, .slice f1 f2 f3], .int .i64 ((2 : Nat) : Int)]) (by simp [results, Tryz.results7, go_sem, hbl]) rfl ⟨va1, va2, va3, f1, f2, f3, by rw [hrc3.out], ?_⟩
            rw [hrc3.out]
            exact hfin.out
          · have hrc3 : Hid (rCode b = ((ls, ib), 0)) := by show _ = _; rw [hrc2.out, if_neg (fun h => hlen h.2), hv0]
            have hcR : Hid (Blk (w5.setCell ⟨gc, 1, none⟩ (.slice f1 f2 f3)) g #[.slice aa2 s2.b.length cap2, .int .i64 0, .bool false] 80) := by
              have := hcR6.out
              rw [hv0] at this
              exact this
            have Hf := Hg
            clear hrc2 Hg hc5 hf5 hcR6
            go_wp2_with fail
            clear hc6 hf6
            refine region_items (frFrm (fun k => k = gc)) [(1, .take), (2, .take), (3, .take), (4, .take), (0, .run), (5, .run), (6, .take)] (by kernel_rfl) (by kernel_rfl) ?_
            simp only [itemsOf, List.getD_cons_zero, List.getD_cons_succ]
            have HC := Lib.hid (fun W' (h : Fr (fun k => k = gc) (w5.setCell ⟨gc, 1, none⟩ (.slice f1 f2 f3)).drew W') => (hcR.out.fr (Ext.fr (ext_drew _) h) (fun e => by have e' : g = gc := e; have := hgg.out; omega)).cell)
            have hxd := Lib.hid (ext_drew (w5.setCell ⟨gc, 1, none⟩ (.slice f1 f2 f3)))
            generalize hWd : (w5.setCell ⟨gc, 1, none⟩ (.slice f1 f2 f3)).drew = Wd at *
            have HQ := Lib.hid (Hf.out.1.ext hxd.out)
            repeat (apply item_take; rfl; rfl; rfl; rfl; exact fun _ _ _ _ h => h; (intro W hE K hK; have q := HC.out W hE; go_simp; exact hK))
            have hq1 := HQ.out.cell
            have hq2 := HQ.out.frz
            apply item_run; rfl; intro K hK; go_simp
            refine hK _ _ (Fr.refl _ _) ?_
            clear hK K
            apply item_run; rfl; intro K hK; go_simp
            refine hK _ _ (Fr.setCell (Fr.setCell (Fr.refl (fun k => k = gc) Wd) (p := ⟨gc, 0, none⟩) (.inl rfl) _) (p := ⟨gc, 1, none⟩) (.inl rfl) _) ?_
            clear hK K HC HQ hq1 hq2
            repeat (apply item_take; rfl; rfl; rfl; rfl; exact fun _ _ _ _ h => h; (intro W hE K hK; go_simp; exact hK))
            apply items_done
            have hset : Fr (fun k => k = gc) Wd ((Wd.setCell ⟨gc, 0, none⟩ (.slice va1 va2 va3)).setCell ⟨gc, 1, none⟩ (.slice f1 f2 f3)) := Fr.setCell (Fr.setCell (Fr.refl (fun k => k = gc) Wd) (p := ⟨gc, 0, none⟩) (.inl rfl) _) (p := ⟨gc, 1, none⟩) (.inl rfl) _
            have hbl := (((Hf.out.1.ext hxd.out).set 0 (.slice va1 va2 va3)).set 1 (.slice f1 f2 f3)).cell
            have hfin := Lib.hid (show Lay.loc.slice.rd (fun k => w.heap.size ≤ k ∧ k < ((Wd.setCell ⟨gc, 0, none⟩ (.slice va1 va2 va3)).setCell ⟨gc, 1, none⟩ (.slice f1 f2 f3)).heap.size) ((Wd.setCell ⟨gc, 0, none⟩ (.slice va1 va2 va3)).setCell ⟨gc, 1, none⟩ (.slice f1 f2 f3)) [.slice va1 va2 va3] ls ∧ (Lay.ins (b.length + 1)).slice.rd (fun k => w.heap.size ≤ k ∧ k < ((Wd.setCell ⟨gc, 0, none⟩ (.slice va1 va2 va3)).setCell ⟨gc, 1, none⟩ (.slice f1 f2 f3)).heap.size) ((Wd.setCell ⟨gc, 0, none⟩ (.slice va1 va2 va3)).setCell ⟨gc, 1, none⟩ (.slice f1 f2 f3)) [.slice f1 f2 f3] ib ∧ Ext w ((Wd.setCell ⟨gc, 0, none⟩ (.slice va1 va2 va3)).setCell ⟨gc, 1, none⟩ (.slice f1 f2 f3)) from by
              have hgo := hgg.out
              have h2 := H2.out.2.2.2
              have hs1 := hxd.out.size
              have hs2 := hset.size
              have hs3 := H2.out.1.size
              have hF := Hf.out.2.2.2
              have hx := hxd.out
              refine ⟨Lay.mono _ (Lay.fr ((Hf.out.2.1.ext hx).slice) hset (fun k hk => ⟨hk.2, fun e => by have e' : k = gc := e; omega⟩)) (fun k hk => ⟨by omega, by omega⟩), ?_, ?_⟩
              · exact Lay.slice_imp (fun cs x h => Lay.ins_le (by omega) h) (Lay.mono _ (Lay.fr ((Hf.out.2.2.1.ext hx).slice) hset (fun k hk => ⟨hk.2, fun e => by have e' : k = gc := e; omega⟩)) (fun k hk => ⟨by omega, by omega⟩))
              · have hFa : Fr (fun k => k = g ∨ k = gc) W2 _ := Fr.trans (hF.ext hx) hset (fun _ _ h => h) (fun _ _ h => .inr h)
                exact (Ext.fr H2.out.1 hFa).mono (fun k hk e => by rcases e with e | e <;> omega))
            clear hset hcR Hf hxd hWd
            go_wp2
            refine bodyPost_ret (v := .tuple #[.agg #[.slice va1 va2 va3, .slice f1 f2 f3], .int .i64 ((0 : Nat) : Int)]) (by simp [results, Tryz.results7, go_sem, hbl]) rfl ⟨va1, va2, va3, f1, f2, f3, by rw [hrc3.out], ?_⟩
            rw [hrc3.out]
            exact hfin.out
        · rw [decide_eq_false hv0]
          have hrc3 : Hid (rCode b = ((ls, ib), s2.v)) := by show _ = _; rw [hrc2.out, if_neg (fun h => hv0 h.1)]
          have hcR := hcR6
          have Hf := Hg
          clear hrc2 Hg hc5 hf5 hc6 hf6 hcR6
          go_wp2_with fail
          refine region_items (frFrm (fun k => k = gc)) [(1, .take), (2, .take), (3, .take), (4, .take), (0, .run), (5, .run), (6, .take)] (by kernel_rfl) (by kernel_rfl) ?_
          simp only [itemsOf, List.getD_cons_zero, List.getD_cons_succ]
          have HC := Lib.hid (fun W' (h : Fr (fun k => k = gc) (w5.setCell ⟨gc, 1, none⟩ (.slice f1 f2 f3)).drew W') => (hcR.out.fr (Ext.fr (ext_drew _) h) (fun e => by have e' : g = gc := e; have := hgg.out; omega)).cell)
          have hxd := Lib.hid (ext_drew (w5.setCell ⟨gc, 1, none⟩ (.slice f1 f2 f3)))
          generalize hWd : (w5.setCell ⟨gc, 1, none⟩ (.slice f1 f2 f3)).drew = Wd at *
          have HQ := Lib.hid (Hf.out.1.ext hxd.out)
          repeat (apply item_take; rfl; rfl; rfl; rfl; exact fun _ _ _ _ h => h; (intro W hE K hK; have q := HC.out W hE; go_simp; exact hK))
          have hq1 := HQ.out.cell
          have hq2 := HQ.out.frz
          apply item_run; rfl; intro K hK; go_simp
          refine hK _ _ (Fr.refl _ _) ?_
          clear hK K
          apply item_run; rfl; intro K hK; go_simp
          refine hK _ _ (Fr.setCell (Fr.setCell (Fr.refl (fun k => k = gc) Wd) (p := ⟨gc, 0, none⟩) (.inl rfl) _) (p := ⟨gc, 1, none⟩) (.inl rfl) _) ?_
          clear hK K HC HQ hq1 hq2
          repeat (apply item_take; rfl; rfl; rfl; rfl; exact fun _ _ _ _ h => h; (intro W hE K hK; go_simp; exact hK))
          apply items_done
          have hset : Fr (fun k => k = gc) Wd ((Wd.setCell ⟨gc, 0, none⟩ (.slice va1 va2 va3)).setCell ⟨gc, 1, none⟩ (.slice f1 f2 f3)) := Fr.setCell (Fr.setCell (Fr.refl (fun k => k = gc) Wd) (p := ⟨gc, 0, none⟩) (.inl rfl) _) (p := ⟨gc, 1, none⟩) (.inl rfl) _
          have hbl := (((Hf.out.1.ext hxd.out).set 0 (.slice va1 va2 va3)).set 1 (.slice f1 f2 f3)).cell
          have hfin := Lib.hid (show Lay.loc.slice.rd (fun k => w.heap.size ≤ k ∧ k < ((Wd.setCell ⟨gc, 0, none⟩ (.slice va1 va2 va3)).setCell ⟨gc, 1, none⟩ (.slice f1 f2 f3)).heap.size) ((Wd.setCell ⟨gc, 0, none⟩ (.slice va1 va2 va3)).setCell ⟨gc, 1, none⟩ (.slice f1 f2 f3)) [.slice va1 va2 va3] ls ∧ (Lay.ins (b.length + 1)).slice.rd (fun k => w.heap.size ≤ k ∧ k < ((Wd.setCell ⟨gc, 0, none⟩ (.slice va1 va2 va3)).setCell ⟨gc, 1, none⟩ (.slice f1 f2 f3)).heap.size) ((Wd.setCell ⟨gc, 0, none⟩ (.slice va1 va2 va3)).setCell ⟨gc, 1, none⟩ (.slice f1 f2 f3)) [.slice f1 f2 f3] ib ∧ Ext w ((Wd.setCell ⟨gc, 0, none⟩ (.slice va1 va2 va3)).setCell ⟨gc, 1, none⟩ (.slice f1 f2 f3)) from by
            have hgo := hgg.out
            have h2 := H2.out.2.2.2
            have hs1 := hxd.out.size
            have hs2 := hset.size
            have hs3 := H2.out.1.size
            have hF := Hf.out.2.2.2
            have hx := hxd.out
            refine ⟨Lay.mono _ (Lay.fr ((Hf.out.2.1.ext hx).slice) hset (fun k hk => ⟨hk.2, fun e => by have e' : k = gc := e; omega⟩)) (fun k hk => ⟨by omega, by omega⟩), ?_, ?_⟩
            · exact Lay.slice_imp (fun cs x h => Lay.ins_le (by omega) h) (Lay.mono _ (Lay.fr ((Hf.out.2.2.1.ext hx).slice) hset (fun k hk => ⟨hk.2, fun e => by have e' : k = gc := e; omega⟩)) (fun k hk => ⟨by omega, by omega⟩))
            · have hFa : Fr (fun k => k = g ∨ k = gc) W2 _ := Fr.trans (hF.ext hx) hset (fun _ _ h => h) (fun _ _ h => .inr h)
              exact (Ext.fr H2.out.1 hFa).mono (fun k hk e => by rcases e with e | e <;> omega))
          clear hset hcR Hf hxd hWd
          go_wp2
          refine bodyPost_ret (v := .tuple #[.agg #[.slice va1 va2 va3, .slice f1 f2 f3], .int .i64 ((s2.v : Nat) : Int)]) (by simp [results, Tryz.results7, go_sem, hbl]) rfl ⟨va1, va2, va3, f1, f2, f3, by rw [hrc3.out], ?_⟩
          rw [hrc3.out]
          exact hfin.out
end Go.Proofs.YtbdahjpdjamgiaaGreatDoor
