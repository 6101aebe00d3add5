/- The walk of FnReadCode. -/
import Derived.Test.YtfpikpbolgodcaaDoorReadLaw
import Derived.Test.YtfpikpbolgodcaaDoorSpecReadCode
import Derived.Test.YtfpikpbolgodcaaDoorCodeKeyWalk
import Derived.Test.YtfpikpbolgodcaaDoorLawsPlainCode
namespace Go.Proofs.YtfpikpbolgodcaaDoor
open Go.RowKit
mutual
def cntR1 : RI → Nat
  | .blk _ b => 1 + cntRL b
  | .i32 _ => 1
  | .i64 _ => 1
  | .eqz => 1
  | .idx _ _ => 1
  | .ci _ _ => 1
  | .ret => 1
def cntRL : List RI → Nat
  | [] => 0
  | x :: xs => cntR1 x + cntRL xs
end
theorem cntR1_pos : ∀ x : RI, 1 ≤ cntR1 x
  | .blk _ _ => by rw [cntR1]; omega
  | .i32 _ | .i64 _ | .eqz | .idx _ _ | .ci _ _ | .ret => by rw [cntR1]; omega
theorem pIns_cnt : ∀ (f : Nat) (bs : List UInt8) {l : List RI} {r : List UInt8}, pIns f bs = .ok l r → cntRL l + r.length ≤ bs.length
  | 0, _, _, _, h => by cases h
  | _ + 1, [], _, _, h => by cases h
  | f + 1, c :: r0, l, r, h => by
    have app : ∀ {x : RI} {bs : List UInt8} {k : Nat}, (pIns f bs).app [x] = .ok l r → bs.length + k ≤ r0.length → cntR1 x ≤ k + 1 → cntRL l + r.length ≤ r0.length + 1 := fun {x bs k} h hb hx => by
      cases hp : pIns f bs with
      | ok l' r' =>
        rw [hp] at h
        simp only [PO.app, PO.ok.injEq, List.singleton_append] at h
        obtain ⟨rfl, rfl⟩ := h
        have := pIns_cnt f bs hp
        rw [cntRL]
        omega
      | bad => rw [hp] at h; cases h
      | odd => rw [hp] at h; cases h
    simp only [List.length_cons]
    unfold pIns at h
    split at h
    · split at h
      · cases h
      · have := readS_shorter _ _ _ ‹_›; exact app (k := 0) h (by omega) (by rw [cntR1]; omega)
    · split at h
      · split at h
        · cases h
        · have := readS_shorter _ _ _ ‹_›; exact app (k := 0) h (by omega) (by rw [cntR1]; omega)
      · split at h
        · exact app (k := 0) h (by omega) (by rw [cntR1]; omega)
        · split at h
          · split at h
            · cases h
            · have := readU_shorter _ _ _ ‹_›; exact app (k := 0) h (by omega) (by rw [cntR1]; omega)
          · split at h
            · split at h
              · cases h
              · cases h
              · have h2 := readU_shorter _ _ _ ‹_›; simp only [List.length_cons] at h2; exact app (k := 0) h (by omega) (by rw [cntR1]; omega)
            · split at h
              · exact app (k := 0) h (by omega) (by rw [cntR1]; omega)
              · split at h
                · split at h
                  · cases h
                  · split at h
                    · cases h
                    · split at h
                      · rename_i b r1 hb64 l1 r2 hp1
                        have h2 := pIns_cnt f _ hp1
                        exact app (k := cntRL l1) h (by simp only [List.length_cons]; omega) (by rw [cntR1]; omega)
                      · cases h
                      · cases h
                · split at h
                  · simp only [PO.ok.injEq] at h; obtain ⟨rfl, rfl⟩ := h; rw [cntRL]; omega
                  · cases h
theorem keyArg_len (a : Int × UInt64) : (keyArg a).length ≤ 20 := by
  unfold keyArg
  have h1 := ulebI_len a.1
  have h2 := uleb_len64 a.2.toNat a.2.toNat_lt
  rw [List.length_append]; omega
theorem uleb_short (n : Nat) : (uleb n).length ≤ n + 1 := by
  induction n using Nat.strongRecOn with
  | ind n ih =>
    by_cases h : n < 128
    · rw [uleb_small h]; simp
    · rw [uleb_big (by omega), List.length_cons]
      have := ih (n / 128) (by omega)
      omega
theorem key_plain (op : Int) (args : List (Int × UInt64)) (ha : args.length ≤ 2) : (keyI1 (.mk op args false (-1) [])).length ≤ 60 := by
  have h1 := ulebI_len op
  have h2 := uleb_short args.length
  have h3 : (args.flatMap keyArg).length ≤ 40 := by
    match args, ha with
    | [], _ => simp
    | [a], _ => have := keyArg_len a; simp; omega
    | [a, b], _ => have := keyArg_len a; have := keyArg_len b; simp; omega
  have h4 := uleb_short 0
  unfold keyI1
  simp only [List.length_append, Bool.false_eq_true, if_false]
  omega
mutual
theorem keyI1_len : ∀ x : RI, (keyI1 (toI1 x)).length + 1 ≤ 101 * cntR1 x
  | .blk lp b => by
    have ih := keyIs_len b
    rw [toI1, cntR1]
    have h1 := ulebI_len (if lp then 3 else 2)
    have h2 := ulebI_len (-1 + 1)
    have h3 := uleb_short (toIL b).length
    have h4 := uleb_short 0
    have h5 := uleb_short 1
    rw [toIL_len] at h3
    unfold keyI1
    simp only [List.length_append, if_true, List.length_nil, List.flatMap_nil, toIL_len]
    omega
  | .i32 v => by rw [toI1, cntR1]; have := key_plain 65 [(0, bits64 (v % 4294967296))] (by simp); omega
  | .i64 v => by rw [toI1, cntR1]; have := key_plain 66 [(1, bits64 v)] (by simp); omega
  | .eqz => by rw [toI1, cntR1]; have := key_plain 69 [] (by simp); omega
  | .idx o n => by rw [toI1, cntR1]; have := key_plain o [(2, bits64 (n : Int))] (by simp); omega
  | .ci n r => by rw [toI1, cntR1]; have := key_plain 17 [(2, bits64 (n : Int)), (5, bits64 (r : Int))] (by simp); omega
  | .ret => by rw [toI1, cntR1]; have := key_plain 15 [] (by simp); omega
theorem keyIs_len : ∀ l : List RI, (keyIs (toIL l)).length + l.length ≤ 101 * cntRL l
  | [] => by rw [toIL, cntRL]; simp [keyIs]
  | x :: xs => by
    have h1 := keyI1_len x
    have h2 := keyIs_len xs
    rw [toIL, keyIs, List.length_append, cntRL, List.length_cons]
    omega
end
theorem locs_klen : ∀ ls : List (UInt32 × Int), (ls.flatMap keyLoc).length ≤ 20 * ls.length
  | [] => by simp
  | x :: xs => by
    have ih := locs_klen xs
    have h1 := uleb_len64 x.1.toNat (Nat.lt_trans x.1.toNat_lt (by decide))
    have h2 := ulebI_len x.2
    rw [List.flatMap_cons, List.length_append, List.length_cons]
    unfold keyLoc at *
    rw [List.length_append]
    omega
theorem read_key_len {b : List UInt8} {ls : List (UInt32 × Int)} {l : List RI} {rest : List UInt8} (h : pCode b = some (ls, l, rest)) : (codeKey ls (toIL l)).length ≤ 1000 * b.length + 1000 := by
  unfold pCode at h
  split at h
  · cases h
  · rename_i ls' r' hpl
    have hs := pLoc_shorter hpl
    split at h
    · rename_i l' rest' hpi
      simp only [Option.some.injEq, Prod.mk.injEq] at h
      obtain ⟨rfl, rfl, rfl⟩ := h
      have h1 := pIns_cnt _ _ hpi
      have h2 := keyIs_len l'
      have h3 := uleb_short ls'.length
      have h4 := locs_klen ls'
      have h5 := uleb_short l'.length
      unfold codeKey keyIL
      simp only [List.length_append, toIL_len]
      omega
    · cases h
theorem u8_two (w : World) : Lay.u8.slice.rd (fun k => k < (w.alloc (.cells #[.int .u8 0, .int .u8 11] 5)).heap.size) (w.alloc (.cells #[.int .u8 0, .int .u8 11] 5)) [.slice (some ⟨w.heap.size, 0, none⟩) 2 2] [0, 11] :=
  ⟨_, 2, rfl, Nat.le_refl _, by decide, fun _ => ⟨w.heap.size, 0, _, _, _, [.int .u8 0, .int .u8 11], rfl, by simp, blk_new w _ _, ⟨[_], _, rfl, rfl, Lay.all_single rfl⟩, fun j hj => by simp⟩⟩
theorem two_code : (∃ ls l rest, pCode [0, 11] = some (ls, l, rest)) ∧ pEven [0, 11] := by
  have h1 : pLoc [0, 11] = some ([], [11]) := by rfl
  have h2 : pIns 2 [11] = .ok [] [] := by rfl
  refine ⟨⟨[], [], [], by unfold pCode; rw [h1]; simp only []; rw [show ([11] : List UInt8).length + 1 = 2 from rfl, h2]⟩, fun ls r h => ?_⟩
  rw [h1] at h
  simp only [Option.some.injEq, Prod.mk.injEq] at h
  rw [← h.2, show ([11] : List UInt8).length + 1 = 2 from rfl, h2]
  exact fun q => by cases q
theorem rd_len {A : Nat → Prop} {w : World} {aa : Option Addr} {m cap : Nat} {bs : List UInt8} (h : Lay.u8.slice.rd A w [.slice aa m cap] bs) : m = bs.length := by
  obtain ⟨_, _, e, _⟩ := h
  simp only [List.cons.injEq, Value.slice.injEq, and_true] at e
  exact e.2.1
theorem toIL_fit : ∀ {l : List RI}, fitRL l → fitA (toIL l)
  | [], _ => by rw [toIL]; trivial
  | .blk lp b :: xs, h => by
    rw [fitRL, fitR1] at h
    rw [toIL, toI1]
    exact ⟨⟨Nat.zero_le _, by rw [toIL_len]; exact h.1.1, toIL_fit h.1.2⟩, toIL_fit h.2⟩
  | .i32 _ :: xs, h => by rw [fitRL] at h; rw [toIL, toI1]; exact ⟨⟨by simp, by simp, trivial⟩, toIL_fit h.2⟩
  | .i64 _ :: xs, h => by rw [fitRL] at h; rw [toIL, toI1]; exact ⟨⟨by simp, by simp, trivial⟩, toIL_fit h.2⟩
  | .eqz :: xs, h => by rw [fitRL] at h; rw [toIL, toI1]; exact ⟨⟨by simp, by simp, trivial⟩, toIL_fit h.2⟩
  | .idx _ _ :: xs, h => by rw [fitRL] at h; rw [toIL, toI1]; exact ⟨⟨by simp, by simp, trivial⟩, toIL_fit h.2⟩
  | .ci _ _ :: xs, h => by rw [fitRL] at h; rw [toIL, toI1]; exact ⟨⟨by simp, by simp, trivial⟩, toIL_fit h.2⟩
  | .ret :: xs, h => by rw [fitRL] at h; rw [toIL, toI1]; exact ⟨⟨by simp, by simp, trivial⟩, toIL_fit h.2⟩
theorem pCode_fit {b : List UInt8} {ls : List (UInt32 × Int)} {l : List RI} {rest : List UInt8} (h : pCode b = some (ls, l, rest)) (hb : b.length ≤ 1048576) : ls.length ≤ b.length ∧ l.length ≤ b.length ∧ fitRL l := by
  unfold pCode at h
  split at h
  · cases h
  · rename_i ls' r' hpl
    have hs := pLoc_shorter hpl
    split at h
    · rename_i l' rest' hpi
      simp only [Option.some.injEq, Prod.mk.injEq] at h
      obtain ⟨rfl, rfl, rfl⟩ := h
      have := pIns_fit _ _ hpi (by omega)
      exact ⟨hs.2, by omega, this.2⟩
    · cases h
set_option maxRecDepth 100000 in
set_option maxHeartbeats 4000000 in
theorem FnReadCode_calls (aa : Option Addr) (m cap : Nat) (bs : List UInt8) (pe : Addr) (w : World) (hR : Lay.u8.slice.rd (fun k => k < w.heap.size) w [.slice aa m cap] bs) (hE : w.cell? eofAt = some (eofV pe)) :
    Calls Tryd.prog 3 #[.slice aa m cap] w fun e w' => e = .returned (.bool true) ∧ Ext w w' := by
  obtain rfl := rd_len hR
  have hlen : (bs.length : Int) ≤ 9223372036854775807 := by
    obtain ⟨a', c', e, hlc, hcm⟩ := Lay.slice_form hR
    simp only [maxLen] at hcm; omega
  by_cases h64 : 65536 < bs.length
  · by_cases h31 : 2147483647 < bs.length
    · have d1 : decide ((2147483647 : Int) < (bs.length : Int)) = true := decide_eq_true (by omega)
      clear hR hE
      go_enter Tryd.func3, Tryd.ntmps3
      go_wp2
      go_ret
      exact ⟨rfl, Fr.refl _ _⟩
    · have d1 : decide ((2147483647 : Int) < (bs.length : Int)) = false := decide_eq_false (by omega)
      have d2 : decide ((65536 : Int) < (bs.length : Int)) = true := decide_eq_true (by omega)
      clear hR hE
      go_enter Tryd.func3, Tryd.ntmps3
      go_wp2
      go_ret
      exact ⟨rfl, Fr.refl _ _⟩
  · have d1 : decide ((2147483647 : Int) < (bs.length : Int)) = false := decide_eq_false (by omega)
    have d2 : decide ((65536 : Int) < (bs.length : Int)) = false := decide_eq_false (by omega)
    have hL := code_law bs
    have HS := Lib.hid (ReadCode_calls _ aa cap bs w hR (fun _ h => h) (by omega))
    have HI := Lib.hid (fun W (h : Ext w W) (hev : pEven bs) => implReadCode_rd (fun k => k < w.heap.size) aa cap bs pe W (Lay.fr hR h (fun k hk => ⟨hk, fun h => h⟩)) (fun k hk => Nat.lt_of_lt_of_le hk h.size) (eof_frame hE h (fun h => h)) (by omega) hev)
    have HE := Lib.hid (fun W (h : Ext w W) => eof_frame hE h (fun h => h))
    have hb64 := Lib.hid (show bs.length ≤ 65536 by omega)
    clear hR hE
    go_enter Tryd.func3, Tryd.ntmps3
    go_wp2_with fail
    refine HS.out.mono ?_
    rintro e w1 ⟨a1, n1, c1, a2, n2, c2, rfl, r1, r2, hx1⟩
    have hk2 := Lib.hid hL
    have hv2 := hL.2.2
    obtain ⟨ls0, ib0, v0, hrc⟩ : ∃ ls0 ib0 v0, rCode bs = ((ls0, ib0), v0) := ⟨_, _, _, rfl⟩
    rw [hrc] at hv2 hk2 r1 r2
    rw [hrc]
    dsimp only at hv2 hk2 r1 r2
    clear hL hrc
    have hx2 := ext_alloc w1 (.cells #[.slice a1 n1 c1, .slice a2 n2 c2] 26)
    have H1 : Hid (Blk (w1.alloc (.cells #[.slice a1 n1 c1, .slice a2 n2 c2] 26)) w1.heap.size #[.slice a1 n1 c1, .slice a2 n2 c2] 26 ∧ Ext w (w1.alloc (.cells #[.slice a1 n1 c1, .slice a2 n2 c2] 26)) ∧ Lay.loc.slice.rd (fun k => k < w1.heap.size) w1 [.slice a1 n1 c1] ls0 ∧ (Lay.ins (bs.length + 1)).slice.rd (fun k => k < w1.heap.size) w1 [.slice a2 n2 c2] ib0) := ⟨blk_new _ _ _, Ext.trans hx1 hx2, Lay.mono _ r1 (fun k hk => hk.2), Lay.mono _ r2 (fun k hk => hk.2)⟩
    clear r1 r2 hx1 hx2
    by_cases hw : v0 = 2
    · subst hw
      go_wp2
      go_ret
      exact ⟨rfl, H1.out.2.1⟩
    · have hbw : ((v0 : Int) == 2) = false := by rw [beq_eq_false_iff_ne]; omega
      obtain ⟨W1, gs, hW1, hgs, H1⟩ : ∃ W1 gs, Hid ((w1.alloc (.cells #[.slice a1 n1 c1, .slice a2 n2 c2] 26)) = W1) ∧ Hid (w1.heap.size = gs) ∧ Hid (Blk W1 gs #[.slice a1 n1 c1, .slice a2 n2 c2] 26 ∧ Ext w W1 ∧ Lay.loc.slice.rd (fun k => k < gs) w1 [.slice a1 n1 c1] ls0 ∧ (Lay.ins (bs.length + 1)).slice.rd (fun k => k < gs) w1 [.slice a2 n2 c2] ib0 ∧ Ext w1 W1 ∧ w1.heap.size = gs) := ⟨_, _, rfl, rfl, H1.out.1, H1.out.2.1, H1.out.2.2.1, H1.out.2.2.2, ext_alloc _ _, rfl⟩
      by_cases h1 : v0 = 1
      · subst h1
        obtain ⟨hev, hnone⟩ := hk2.out.2.1 rfl
        have hev := Lib.hid hev
        have hnone := Lib.hid hnone
        clear hk2 hw hv2
        go_wp2_with fail
        rw [hW1.out, hgs.out]
        refine (HI.out W1 H1.out.2.1 hev.out).mono ?_
        rintro e w3 (⟨ls, l, rest, n, b1, m1, d1, b2, m2, d2, hp, -⟩ | ⟨-, rfl, hx3⟩)
        · rw [hnone.out] at hp; cases hp
        have hx4 := ext_alloc w3 (.cells #[.slice none 0 0, .slice none 0 0] 32)
        obtain ⟨W4, hW4, H4⟩ : ∃ W4, Hid ((w3.alloc (.cells #[.slice none 0 0, .slice none 0 0] 32)) = W4) ∧ Hid (Ext w W4) := ⟨_, rfl, Ext.trans H1.out.2.1 (Ext.trans hx3 hx4)⟩
        have hx5 := Lib.hid (ext_alloc W4 (.cells #[.int .u8 0, .int .u8 11] 5))
        have HT := Lib.hid (implReadCode_rd _ (some ⟨W4.heap.size, 0, none⟩) 2 [0, 11] pe (W4.alloc (.cells #[.int .u8 0, .int .u8 11] 5)) (u8_two W4) (fun _ h => h) (HE.out _ (Ext.trans H4.out hx5.out)) (by decide) two_code.2)
        clear hx3 hx4
        go_wp2_with fail
        rw [show w3.heap.size + 1 = W4.heap.size from by rw [← hW4.out]; simp, hW4.out]
        refine HT.out.mono ?_
        rintro e w6 (⟨ls, l, rest, n, b1, m1, d1, b2, m2, d2, hp, rfl, -, -, hx6⟩ | ⟨hp, -⟩)
        · have hx6 := Lib.hid (Ext.trans (Ext.trans H4.out hx5.out) hx6)
          clear hp HT hx5
          go_wp2
          go_ret
          exact ⟨rfl, Ext.trans hx6.out (ext_alloc _ _)⟩
        · obtain ⟨ls, l, rest, h⟩ := two_code.1
          rw [hp] at h; cases h
      · obtain rfl : v0 = 0 := by omega
        obtain ⟨hev, l, rest, hp, hkey⟩ := hk2.out.1 rfl
        have hfit := pCode_fit hp (by have := hb64.out; omega)
        have hkl := read_key_len hp
        have HK := Lib.hid (And.intro hev (And.intro hp (And.intro hkey (And.intro hfit (And.intro hkl hb64.out)))))
        clear hk2 hw h1 hv2 hev hp hkey hfit hkl
        go_wp2_with fail
        rw [hW1.out, hgs.out]
        refine (HI.out W1 H1.out.2.1 HK.out.1).mono ?_
        rintro e w3 (⟨ls', l', rest', n, b1, m1, d1, b2, m2, d2, hp', rfl, r3, r4, hx3⟩ | ⟨hp', -, -⟩)
        · obtain ⟨rfl, rfl, rfl⟩ : ls' = ls0 ∧ l' = l ∧ rest' = rest := by
            have := hp'.symm.trans HK.out.2.1
            simpa using this
          have hx4 := ext_alloc w3 (.cells #[.slice b1 m1 d1, .slice b2 m2 d2] 32)
          obtain ⟨W4, g4, hW4, hg4, H4⟩ : ∃ W4 g4, Hid ((w3.alloc (.cells #[.slice b1 m1 d1, .slice b2 m2 d2] 32)) = W4) ∧ Hid (w3.heap.size = g4) ∧ Hid (Blk W4 g4 #[.slice b1 m1 d1, .slice b2 m2 d2] 32 ∧ Ext W1 W4 ∧ Ext w W4 ∧ Lay.loc.slice.rd (fun k => k < W4.heap.size) W4 [.slice b1 m1 d1] ls' ∧ (Lay.ins n).slice.rd (fun k => k < W4.heap.size) W4 [.slice b2 m2 d2] (toIL l')) :=
            ⟨_, _, rfl, rfl, blk_new _ _ _, Ext.trans hx3 hx4, Ext.trans H1.out.2.1 (Ext.trans hx3 hx4), Lay.mono _ (Lay.fr r3 hx4 (fun k hk => ⟨hk.2, fun h => h⟩)) (fun k hk => by have := hk.2; simp; omega), Lay.mono _ (Lay.fr r4 hx4 (fun k hk => ⟨hk.2, fun h => h⟩)) (fun k hk => by have := hk.2; simp; omega)⟩
          clear hx3 hx4 r3 r4 hp'
          go_wp2_with fail
          rw [hW4.out, hg4.out]
          refine region_items extFrm [(0, .take), (1, .take), (2, .take), (5, .take), (3, .run), (4, .run), (6, .run), (7, .take), (8, .take), (9, .take)] (by kernel_rfl) (by kernel_rfl) ?_
          simp only [itemsOf, List.getD_cons_zero, List.getD_cons_succ]
          have HC := Lib.hid (fun W' (h : Ext W4.drew W') => And.intro (H4.out.1.ext (Ext.trans (ext_drew _) h)).cell (H1.out.1.ext (Ext.trans H4.out.2.1 (Ext.trans (ext_drew _) h))).cell)
          have hxd := Lib.hid (ext_drew W4)
          generalize W4.drew = W5 at *
          repeat (apply item_take; rfl; rfl; rfl; rfl; exact fun _ _ _ _ h => h; (intro W hE K hK; have q := HC.out W hE; go_simp; exact hK))
          apply item_run; rfl; intro K hK; go_simp
          have hfit := HK.out.2.2.2.1
          have hb6 := HK.out.2.2.2.2.2
          refine (lawsPlainCode_calls n ls' (toIL l') b1 b2 m1 m2 d1 d2 (fun k => k < W4.heap.size) W5 (Lay.fr H4.out.2.2.2.1 hxd.out (fun k hk => ⟨hk, fun h => h⟩)) (Lay.fr H4.out.2.2.2.2 hxd.out (fun k hk => ⟨hk, fun h => h⟩)) (fun k hk => Nat.lt_of_lt_of_le hk hxd.out.size) (by omega) (by rw [toIL_len]; omega) (toIL_fit hfit.2.2)).mono ?_
          rintro e w6 ⟨f1, f2, f3, g1, g2, g3, rfl, r1, r2, hx6⟩
          refine hK _ _ hx6 ?_
          have H6 := Lib.hid (And.intro r1 (And.intro r2 (Ext.trans hxd.out hx6)))
          clear hK K r1 r2 hx6
          apply item_run; rfl; intro K hK; go_simp
          have hkl := HK.out.2.2.2.2.1
          refine (CodeKey_calls n ls' (toIL l') f1 g1 f2 g2 f3 g3 _ w6 H6.out.1 H6.out.2.1 (fun k hk => hk.2) (by show _ ≤ 70368744177664; omega)).mono ?_
          rintro e w7 ⟨rfl, hx7⟩
          refine hK _ _ hx7 ?_
          have H7 := Lib.hid (Ext.trans H6.out.2.2 hx7)
          clear hK K hx7
          apply item_run; rfl; intro K hK; go_simp
          have hk3 := HK.out.2.2.1
          have hXs := Ext.trans (Ext.trans H1.out.2.2.2.2.1 H4.out.2.1) H7.out
          have hgw := H1.out.2.2.2.2.2
          refine (CodeKey_calls (bs.length + 1) ls' ib0 a1 a2 n1 n2 c1 c2 (fun k => k < gs) w7 (Lay.fr H1.out.2.2.1 hXs (fun k hk => ⟨by omega, fun h => h⟩)) (Lay.fr H1.out.2.2.2.1 hXs (fun k hk => ⟨by omega, fun h => h⟩)) (fun k hk => Nat.lt_of_lt_of_le (show k < w1.heap.size from by omega) hXs.size) (by show _ ≤ 70368744177664; rw [← hk3]; omega)).mono ?_
          rintro e w8 ⟨rfl, hx8⟩
          refine hK _ _ hx8 ?_
          rw [hk3]
          have H8 := Lib.hid (Ext.trans (Ext.trans H4.out.2.2.1 H7.out) hx8)
          clear hK K hx8 hXs hgw hk3 hkl hfit hb6 HC
          repeat (apply item_take; rfl; rfl; rfl; rfl; exact fun _ _ _ _ h => h; (intro W hE K hK; go_simp; exact hK))
          apply items_done
          go_wp2
          go_ret
          exact ⟨rfl, H8.out⟩
        · rw [HK.out.2.1] at hp'; cases hp'
end Go.Proofs.YtfpikpbolgodcaaDoor
