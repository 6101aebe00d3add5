/- spec.read, reader.bits, reader.instr. -/
import Derived.Test.YtbdahjpdjamgiaaGreatDoorPart19
import Derived.Test.YtbdahjpdjamgiaaGreatDoorPart4
import Derived.Test.YtbdahjpdjamgiaaGreatDoorPart14
namespace Go.Proofs.YtbdahjpdjamgiaaGreatDoor
open Go.RowKit
theorem rByte_lt (s : St) : (rByte s).1 < 256 := by
  unfold rByte
  cases s.b with
  | nil => show (0 : Nat) < 256; omega
  | cons c r => exact c.toNat_lt
set_option maxRecDepth 100000 in
set_option maxHeartbeats 1000000 in
theorem read_calls (op : Nat) (hop : op < 256) (w : World) : Calls Tryz.prog 38 #[.int .i64 (op : Int)] w fun e w' => e = .returned (.bool (readOp op)) ∧ w' = w := by
  by_cases h : op = 13 ∨ op = 15 ∨ op = 16 ∨ op = 17 ∨ op = 32 ∨ op = 33 ∨ op = 65 ∨ op = 66 ∨ op = 69
  · rcases h with rfl | rfl | rfl | rfl | rfl | rfl | rfl | rfl | rfl
    all_goals
      go_enter Tryz.func38, Tryz.ntmps38
      go_wp2
      go_ret
      exact ⟨rfl, rfl⟩
  · have hr := Lib.hid (show readOp op = false from by
      simp only [readOp, Bool.or_eq_false_iff, decide_eq_false_iff_not]
      omega)
    have hh : ((op : Int) == 13) = false ∧ ((op : Int) == 15) = false ∧ ((op : Int) == 16) = false ∧ ((op : Int) == 17) = false ∧ ((op : Int) == 32) = false ∧ ((op : Int) == 33) = false ∧ ((op : Int) == 65) = false ∧ ((op : Int) == 66) = false ∧ ((op : Int) == 69) = false := by
      simp only [beq_eq_false_iff_ne]
      omega
    obtain ⟨h1, h2, h3, h4, h5, h6, h7, h8, h9⟩ := hh
    clear h
    go_enter Tryz.func38, Tryz.ntmps38
    go_wp2
    go_ret
    exact ⟨by rw [hr.out]; rfl, rfl⟩
theorem rSigned_lt (bb : Nat) (s : St) : (rSigned bb s).1 < 18446744073709551616 := by
  have := sig_lt bb s.b
  unfold rSigned
  split
  · show (0 : Nat) < _; omega
  · show (if _ then _ else _) < _
    split
    · exact Nat.lt_of_le_of_lt (Nat.mod_le _ _) this
    · exact this
theorem rSigned_len (bb : Nat) (s : St) : (rSigned bb s).2.b.length ≤ s.b.length := by
  unfold rSigned St.fail
  split
  · exact Nat.zero_le _
  · simp
set_option maxRecDepth 100000 in
set_option maxHeartbeats 1000000 in
theorem bits_calls (k : Int) (hk : k = 0 ∨ k = 1 ∨ k = 2 ∨ k = 5) (D : Nat → Prop) (g : Nat) (lo : Bool) (s : St) (w : World) (h : SpR D g lo s w) (hl : s.b.length ≤ 140737488355328) :
    Calls Tryz.prog 56 #[.pointer (some ⟨g, 0, none⟩), .int .i64 k] w fun e w' => e = .returned (.int .u64 ((rBits k s).1 : Int)) ∧ SpR D g lo (rBits k s).2 w' ∧ Fr (fun k => k = g) w w' := by
  have hS := Lib.hid h
  rcases hk with rfl | rfl | rfl | rfl
  · have HC := Lib.hid (signed_calls 32 (.inl rfl) D g lo s w h hl)
    clear h
    go_enter Tryz.func56, Tryz.ntmps56
    go_wp2_with fail
    refine HC.out.mono ?_
    rintro e w1 ⟨rfl, k1, k2⟩
    have HK := Lib.hid (And.intro k1 k2)
    clear k1 k2
    go_wp2
    go_ret
    exact ⟨rfl, HK.out.1, HK.out.2⟩
  · have HC := Lib.hid (signed_calls 64 (.inr rfl) D g lo s w h hl)
    have hR := Lib.hid (show rBits 1 s = ((rSigned 64 s).1, if 9223372036854775808 ≤ (rSigned 64 s).1 ∧ 4 + (rSigned 64 s).2.b.length < s.b.length then (rSigned 64 s).2.fail 2 else (rSigned 64 s).2) from rfl)
    have hlt := rSigned_lt 64 s
    have hle := rSigned_len 64 s
    generalize rSigned 64 s = r at *
    obtain ⟨v, s1⟩ := r
    dsimp only at *
    obtain ⟨aa, cap, hb, h1, h2⟩ := h
    have hc := hb.cell
    clear hb h1 h2
    go_enter Tryz.func56, Tryz.ntmps56
    go_wp2_with fail
    refine HC.out.mono ?_
    rintro e w1 ⟨rfl, k1, k2⟩
    have HK := Lib.hid (And.intro k1 k2)
    obtain ⟨aa1, cap1, hb1, h11, h21⟩ := k1
    have hc1 := hb1.cell
    clear k2 hb1 h11 h21 hc HC
    have e64 := IntKind.wrap_i64 (v : Int)
    by_cases hv : 9223372036854775808 ≤ v
    · have ew : IntKind.i64.wrap (v : Int) = (v : Int) - 18446744073709551616 := by rw [e64]; omega
      have hneg : decide ((v : Int) - 18446744073709551616 < 0) = true := decide_eq_true (by omega)
      clear e64
      by_cases h4 : 4 + s1.b.length < s.b.length
      · have hR1 := Lib.hid (hR.out.trans (by rw [if_pos ⟨hv, h4⟩]))
        clear hR
        go_wp2_with fail
        refine (fail_calls D g lo s1 2 _ HK.out.1).mono ?_
        rintro e w2 ⟨rfl, k1, k2⟩
        have HK2 := Lib.hid (And.intro k1 (HK.out.2.trans k2 (fun _ _ h => h) (fun _ _ h => h)))
        clear k1 k2
        go_wp2
        go_ret
        rw [hR1.out]
        exact ⟨rfl, HK2.out.1, HK2.out.2⟩
      · have hR1 := Lib.hid (hR.out.trans (by rw [if_neg (fun h => h4 h.2)]))
        clear hR
        go_wp2
        go_ret
        rw [hR1.out]
        exact ⟨rfl, HK.out.1, HK.out.2⟩
    · have ew : IntKind.i64.wrap (v : Int) = (v : Int) := by rw [e64]; omega
      have hneg : decide ((v : Int) < 0) = false := decide_eq_false (by omega)
      have hR1 := Lib.hid (hR.out.trans (by rw [if_neg (fun h => hv h.1)]))
      clear e64 hR
      go_wp2
      go_ret
      rw [hR1.out]
      exact ⟨rfl, HK.out.1, HK.out.2⟩
  · have HC := Lib.hid (number_calls D g lo s w h hl)
    have hlt := rNumber_lt s
    clear h
    go_enter Tryz.func56, Tryz.ntmps56
    go_wp2_with fail
    refine HC.out.mono ?_
    rintro e w1 ⟨rfl, k1, k2⟩
    have HK := Lib.hid (And.intro k1 k2)
    clear k1 k2
    go_wp2
    go_ret
    exact ⟨rfl, HK.out.1, HK.out.2⟩
  · have HC := Lib.hid (byte_calls D g lo s w h)
    have hlt := rByte_lt s
    clear h
    go_enter Tryz.func56, Tryz.ntmps56
    go_wp2_with fail
    refine HC.out.mono ?_
    rintro e w1 ⟨rfl, k1, k2⟩
    have HK := Lib.hid (And.intro k1 k2)
    clear k1 k2
    go_wp2
    go_ret
    exact ⟨rfl, HK.out.1, HK.out.2⟩
theorem infoArgS : (Tryz.prog.info? 142).map (fun i => (i.zero, i.size, i.bytes)) = some (some (.agg #[.int .i64 0, .int .u64 0]), Lay.arg.size, 16) := by kernel_rfl
theorem rArgs_append : ∀ (k1 k2 : List Int) (s : St), rArgs (k1 ++ k2) s = ((rArgs k1 s).1 ++ (rArgs k2 (rArgs k1 s).2).1, (rArgs k2 (rArgs k1 s).2).2)
  | [], _, _ => rfl
  | k :: ks, k2, s => by simp only [List.cons_append, rArgs, rArgs_append ks k2]
theorem rArgs_len : ∀ (k : List Int) (s : St), (rArgs k s).1.length = k.length
  | [], _ => rfl
  | k :: ks, s => by simp only [rArgs, List.length_cons, rArgs_len ks]
theorem rByte_len (s : St) : (rByte s).2.b.length ≤ s.b.length := by
  unfold rByte St.fail
  cases s.b with
  | nil => exact Nat.le_refl _
  | cons c r => simp
theorem fail_len (n : Nat) (s : St) : (s.fail n).b.length ≤ s.b.length := Nat.zero_le _
theorem rBits_len (k : Int) (hk : k = 0 ∨ k = 1 ∨ k = 2 ∨ k = 5) (s : St) : (rBits k s).2.b.length ≤ s.b.length := by
  rcases hk with rfl | rfl | rfl | rfl
  · exact rSigned_len 32 s
  · show (if _ then _ else _ : St).b.length ≤ _
    split
    · exact Nat.zero_le _
    · exact rSigned_len 64 s
  · exact rNumber_len s
  · exact rByte_len s
theorem rBits_lt (k : Int) (hk : k = 0 ∨ k = 1 ∨ k = 2 ∨ k = 5) (s : St) : (rBits k s).1 < 18446744073709551616 := by
  rcases hk with rfl | rfl | rfl | rfl
  · exact rSigned_lt 32 s
  · exact rSigned_lt 64 s
  · exact Nat.lt_trans (rNumber_lt s) (by decide)
  · exact Nat.lt_trans (rByte_lt s) (by decide)
theorem rArgs_blen : ∀ (ks : List Int) (_ : ∀ k ∈ ks, k = 0 ∨ k = 1 ∨ k = 2 ∨ k = 5) (s : St), (rArgs ks s).2.b.length ≤ s.b.length
  | [], _, _ => Nat.le_refl _
  | k :: ks, h, s => Nat.le_trans (rArgs_blen ks (fun k hk => h k (List.mem_cons_of_mem _ hk)) _) (rBits_len k (h k (List.mem_cons_self ..)) s)
theorem readOp_kinds {op : Nat} (h : readOp op = true) : ∃ ks, kindsOf (op : Int) = some ks ∧ (∀ k ∈ ks, k = 0 ∨ k = 1 ∨ k = 2 ∨ k = 5) ∧ ks.length ≤ 2 := by
  simp only [readOp, Bool.or_eq_true, decide_eq_true_eq] at h
  rcases h with (((((((rfl | rfl) | rfl) | rfl) | rfl) | rfl) | rfl) | rfl) | rfl
  · exact ⟨[2], rfl, by simp, by simp⟩
  · exact ⟨[], rfl, by simp, by simp⟩
  · exact ⟨[2], rfl, by simp, by simp⟩
  · exact ⟨[2, 5], rfl, by simp, by simp⟩
  · exact ⟨[2], rfl, by simp, by simp⟩
  · exact ⟨[2], rfl, by simp, by simp⟩
  · exact ⟨[0], rfl, by simp, by simp⟩
  · exact ⟨[1], rfl, by simp, by simp⟩
  · exact ⟨[], rfl, by simp, by simp⟩
set_option maxRecDepth 100000 in
set_option maxHeartbeats 4000000 in
theorem instr_calls (op : Nat) (hop : readOp op = true) (D : Nat → Prop) (g : Nat) (lo : Bool) (s : St) (w : World) (h : SpR D g lo s w) (hl : s.b.length ≤ 140737488355328) :
    Calls Tryz.prog 39 #[.pointer (some ⟨g, 0, none⟩), .int .i64 (op : Int)] w fun e w' => ∃ a1 n1 c1, e = .returned (.agg #[.int .i64 (op : Int), .slice a1 n1 c1, .bool false, .int .i64 0, .slice none 0 0]) ∧
      Own Lay.arg 142 w.heap.size w' (.slice a1 n1 c1) (rArgs ((kindsOf op).getD []) s).1 ∧ SpR D g lo (rArgs ((kindsOf op).getD []) s).2 w' ∧ Fr (fun k => k = g) w w' := by
  obtain ⟨ks, hks, hk5, hkl⟩ := readOp_kinds hop
  rw [hks, Option.getD_some]
  have hg := h.lt
  have hgs := hg.1
  have HC := Lib.hid (arguments_calls (op : Int))
  have HS := Lib.hid (And.intro h (And.intro hl (And.intro hks hk5)))
  have hop2 : (op : Int) ≤ 255 := by
    simp only [readOp, Bool.or_eq_true, decide_eq_true_eq] at hop
    omega
  clear h hl hks hg hk5 hop
  go_enter Tryz.func39, Tryz.ntmps39
  go_wp2_with fail
  obtain ⟨W2, gi, hW2, hgi, H2⟩ : ∃ W2 gi, ((w.alloc (.cells #[.int .i64 0, .slice none 0 0, .bool false, .int .i64 0, .slice none 0 0] 138)).alloc (.cells #[.int .i64 (op : Int), .slice none 0 0, .bool false, .int .i64 0, .slice none 0 0] 138)) = W2 ∧ w.heap.size + 1 = gi ∧
      Hid (Ext w W2 ∧ Blk W2 gi #[.int .i64 (op : Int), .slice none 0 0, .bool false, .int .i64 0, .slice none 0 0] 138 ∧ Blk W2 w.heap.size #[.int .i64 0, .slice none 0 0, .bool false, .int .i64 0, .slice none 0 0] 138 ∧ g < w.heap.size ∧ w.heap.size < gi) := by
    refine ⟨_, _, rfl, rfl, Ext.trans (ext_alloc _ _) (ext_alloc _ _), ?_, (blk_new w _ _).ext (ext_alloc _ _), hgs, by omega⟩
    have := blk_new (w.alloc (.cells #[.int .i64 0, .slice none 0 0, .bool false, .int .i64 0, .slice none 0 0] 138)) #[.int .i64 (op : Int), .slice none 0 0, .bool false, .int .i64 0, .slice none 0 0] 138
    simpa using this
  rw [hW2, hgi]
  clear hW2 hgi hgs
  refine (HC.out W2).mono ?_
  rintro e w3 ⟨v, rfl, hv, hx3⟩
  obtain ⟨av, cv, rfl, hcv, hcm⟩ := Lay.slice_form hv
  rw [HS.out.2.2.1, Option.getD_some] at hv hcv
  rw [HS.out.2.2.1, Option.getD_some, Option.isSome_some]
  have H3 := Lib.hid (And.intro hv (And.intro hx3 (Ext.trans H2.out.1 hx3)))
  clear hv hcv hcm hx3 HC
  go_wp2_with fail
  refine (ok_calls D g lo s w3 (HS.out.1.ext H3.out.2.2)).mono ?_
  rintro e w4 ⟨rfl, rfl⟩
  obtain ⟨bv, hbv⟩ : ∃ b, decide (s.v = 0) = b := ⟨_, rfl⟩
  rw [hbv]
  clear hbv
  cases bv
  all_goals
    go_wp2_with fail
    obtain ⟨wo, rfl⟩ : ∃ wo : World, wo = w4 := ⟨_, rfl⟩
    go_loopw [9, 27] (fun s9 s27 w' => ∃ (j : Nat) (va : Value), j ≤ ks.length ∧ s27 = .int .i64 j ∧ Hid (Blk w' gi #[.int .i64 (op : Int), va, .bool false, .int .i64 0, .slice none 0 0] 138 ∧ Own Lay.arg 142 wo.heap.size w' va (rArgs (ks.take j) s).1 ∧ SpR D g lo (rArgs (ks.take j) s).2 w' ∧ Fr (fun k => k = g ∨ k = gi) wo w')) (fun _ s27 _ => ks.length - (intOf s27).toNat)
    case atStart => exact ⟨0, _, Nat.zero_le _, rfl, H2.out.2.1.ext H3.out.2.1, own_nil _ _ _ _, HS.out.1.ext H3.out.2.2, Fr.refl _ _⟩
    case round =>
      obtain ⟨j, va, hj, rfl, hV⟩ := hrel
      have hgg : Hid (g < W2.heap.size ∧ gi < W2.heap.size ∧ W2.heap.size ≤ wo.heap.size ∧ g ≠ gi) := ⟨by have := H2.out.1.size; have := H2.out.2.2.2.1; omega, H2.out.2.1.lt, H3.out.2.1.size, by have := H2.out.2.2.2; omega⟩
      obtain ⟨va1, va2, va3, rfl⟩ := hV.out.2.1.shape
      by_cases hjl : j < ks.length
      · have hint := Lay.fr H3.out.1 hV.out.2.2.2 (fun k hk => ⟨hk.2, fun e => by have := hgg.out; have := hk.1; omega⟩)
        obtain ⟨b3, o3, rfl, -, e0, e1, e2⟩ := int_at hint j hjl
        have hk5 := Lib.hid (HS.out.2.2.2 _ (List.getElem_mem hjl))
        have htj := Lib.hid (show rArgs (ks.take (j + 1)) s = ((rArgs (ks.take j) s).1 ++ [(ks[j], UInt64.ofNat (rBits ks[j] (rArgs (ks.take j) s).2).1)], (rBits ks[j] (rArgs (ks.take j) s).2).2) from by
          rw [List.take_succ_eq_append_getElem hjl, rArgs_append]; rfl)
        have hbl := Lib.hid (Nat.le_trans (rArgs_blen (ks.take j) (fun k hk => HS.out.2.2.2 k (List.mem_of_mem_take hk)) s) HS.out.2.1)
        have hal := Lib.hid (rArgs_len (ks.take j) s)
        generalize ks[j] = kj at *
        generalize hr2 : rArgs (ks.take (j + 1)) s = r2 at *
        have hr2 := Lib.hid hr2
        generalize rArgs (ks.take j) s = r1 at *
        clear hint
        have hcg := hV.out.1.cell
        go_wp2_with fail
        refine region_items (frFrm (fun k => k = g)) [(0, .take), (1, .take), (2, .take), (3, .take), (4, .take), (5, .run), (6, .take), (7, .run), (8, .last), (9, .take), (10, .last)] (by kernel_rfl) (by kernel_rfl) ?_
        simp only [itemsOf, List.getD_cons_zero, List.getD_cons_succ]
        have HC := Lib.hid (fun W' (h : Fr (fun k => k = g) wr.drew W') => (hV.out.1.fr ((ext_drew _).fr h) (fun e => hgg.out.2.2.2 e.symm)).cell)
        have hVd : Hid (Blk wr.drew gi #[.int .i64 (op : Int), .slice va1 va2 va3, .bool false, .int .i64 0, .slice none 0 0] 138 ∧ Own Lay.arg 142 wo.heap.size wr.drew (.slice va1 va2 va3) r1.1 ∧ SpR D g lo r1.2 wr.drew ∧ Fr (fun k => k = g ∨ k = gi) wo wr.drew) := ⟨hV.out.1.ext (ext_drew _), hV.out.2.1.ext (ext_drew _), hV.out.2.2.1.ext (ext_drew _), hV.out.2.2.2.ext (ext_drew _)⟩
        clear hcg hV
        generalize wr.drew = W3 at *
        repeat (apply item_take; rfl; rfl; rfl; rfl; exact fun _ _ _ _ h => h; (intro W hE K hK; have q := HC.out W hE; go_simp; exact hK))
        apply item_run; rfl; intro K hK; go_simp
        have hbits := bits_calls kj hk5.out D g lo r1.2 W3 hVd.out.2.2.1 hbl.out
        have hblt := rBits_lt kj hk5.out r1.2
        generalize hrb : rBits kj r1.2 = rb at *
        refine hbits.mono ?_
        clear hbits
        rintro e w5 ⟨rfl, k1, k2⟩
        refine hK _ _ k2 ?_
        have hnog : Hid (∀ k, (Value.slice va1 va2 va3).ownBlock = some k → wo.heap.size ≤ k) := fun k hk => (hVd.out.2.1.lt k hk).1
        have h5 : Hid (Blk w5 gi #[.int .i64 (op : Int), .slice va1 va2 va3, .bool false, .int .i64 0, .slice none 0 0] 138 ∧ Own Lay.arg 142 wo.heap.size w5 (.slice va1 va2 va3) r1.1 ∧ SpR D g lo rb.2 w5 ∧ Fr (fun k => k = g ∨ k = gi) wo w5) :=
          ⟨hVd.out.1.fr k2 (fun e => hgg.out.2.2.2 e.symm), hVd.out.2.1.fr k2 (fun k h1 h2 e => by have := hgg.out; have e' : k = g := e; omega), k1, hVd.out.2.2.2.trans k2 (fun _ _ h => h) (fun _ _ h => .inl h)⟩
        clear hK K k1 k2 HC
        repeat (apply item_take; rfl; rfl; rfl; rfl; exact fun _ _ _ _ h => h; (intro W hE K hK; go_simp; exact hK))
        apply item_run; rfl; intro K hK; go_simp
        refine hK _ _ (ext_alloc _ _).to ?_
        clear hK K
        apply item_last; rfl; intro K hK
        refine own_append1_wp Lay.arg wo.heap.size (.tmp 32) (.tmp 38) _ _ _ 16 rfl Tryz.underlying136 infoArgS rfl (by omega) (by decide) (.slice va1 va2 va3) r1.1 (kj, UInt64.ofNat rb.1) _ rfl rfl h5.out.2.1 ⟨[_], [_], rfl, ⟨rfl, e1, e2⟩, by show [Value.int .u64 (rb.1 : Int)] = [Value.int .u64 ((UInt64.ofNat rb.1).toNat : Int)]; rw [show (UInt64.ofNat rb.1).toNat = rb.1 from Nat.mod_eq_of_lt hblt]⟩ h5.out.2.2.2.size (by rw [hal.out, List.length_take]; have := H3.out.1; omega) ?_
        intro v1 w6 h1 h2 h3
        refine hK _ _ ?_
        clear hK K
        obtain ⟨vb1, vb2, vb3, rfl⟩ := h1.shape
        have h6 : Hid (Blk w6 gi #[.int .i64 (op : Int), .slice va1 va2 va3, .bool false, .int .i64 0, .slice none 0 0] 138 ∧ Own Lay.arg 142 wo.heap.size w6 (.slice vb1 vb2 vb3) r2.1 ∧ SpR D g lo r2.2 w6 ∧ Fr (fun k => k = g ∨ k = gi) wo w6) := by
          rw [htj.out]
          refine ⟨h5.out.1.fr h2 (fun e => by have := hnog.out gi e.symm; have := hgg.out; omega), h1, h5.out.2.2.1.fr h2 (fun e => by have := hnog.out g e.symm; have := hgg.out; omega) (fun k hk e => by have := hnog.out k e.symm; have := (HS.out.1.lt.2 k hk).1; have := H2.out.1.size; have := hgg.out; omega), Fr.trans h5.out.2.2.2 h2 (fun _ _ h => h) (fun k hk e => absurd hk (by have := hnog.out k e.symm; omega))⟩
        clear h1 h2 h3 h5 hnog
        have hc6 := h6.out.1.cell
        have hf6 := h6.out.1.frz
        repeat (apply item_take; rfl; rfl; rfl; rfl; exact fun _ _ _ _ h => h; (intro W hE K hK; go_simp; exact hK))
        apply item_last; rfl; intro K hK; go_simp
        refine hK _ _ ?_
        clear hK K hc6 hf6
        apply items_done
        have hV2 : Hid (Blk (w6.setCell ⟨gi, 1, none⟩ (.slice vb1 vb2 vb3)) gi #[.int .i64 (op : Int), .slice vb1 vb2 vb3, .bool false, .int .i64 0, .slice none 0 0] 138 ∧ Own Lay.arg 142 wo.heap.size (w6.setCell ⟨gi, 1, none⟩ (.slice vb1 vb2 vb3)) (.slice vb1 vb2 vb3) r2.1 ∧ SpR D g lo r2.2 (w6.setCell ⟨gi, 1, none⟩ (.slice vb1 vb2 vb3)) ∧ Fr (fun k => k = g ∨ k = gi) wo (w6.setCell ⟨gi, 1, none⟩ (.slice vb1 vb2 vb3))) := by
          refine ⟨?_, Own.only Lay.flat_arg h6.out.2.1 (fr_setCell _ _ _) (fun k' h e => by have := (h6.out.2.1.lt k' h).1; have e' : k' = gi := e; have := hgg.out; omega), h6.out.2.2.1.fr (fr_setCell _ _ _) (fun e => hgg.out.2.2.2 e) (fun k hk e => by have e' : k = gi := e; have := (HS.out.1.lt.2 k hk).1; have := H2.out; omega), h6.out.2.2.2.setCell (.inl (.inr rfl)) _⟩
          have := h6.out.1.set 1 (.slice vb1 vb2 vb3)
          simpa using this
        go_wp2
        go_roundw
        case rel => exact ⟨j + 1, _, by omega, by go_num, by rw [hr2.out]; exact hV2⟩
        case measure => simp [intOf]; omega
      · obtain rfl : j = ks.length := by omega
        have hV' : Hid (Blk wr gi #[.int .i64 (op : Int), .slice va1 va2 va3, .bool false, .int .i64 0, .slice none 0 0] 138 ∧ Own Lay.arg 142 wo.heap.size wr (.slice va1 va2 va3) (rArgs ks s).1 ∧ SpR D g lo (rArgs ks s).2 wr ∧ Fr (fun k => k = g ∨ k = gi) wo wr) := by
          have := hV.out
          rw [List.take_length] at this
          exact this
        have hBr := Lib.hid ((H2.out.2.2.1.ext H3.out.2.1).fr hV'.out.2.2.2 (fun e => by have := H2.out.2.2.2; omega))
        have hcg := hV'.out.1.cell
        have hcr := hBr.out.cell
        have hfr := hBr.out.frz
        go_wp2
        have hset : Fr (fun k => k = w.heap.size) wr (((((wr.setCell ⟨w.heap.size, 0, none⟩ (.int .i64 (op : Int))).setCell ⟨w.heap.size, 1, none⟩ (.slice va1 va2 va3)).setCell ⟨w.heap.size, 2, none⟩ (.bool false)).setCell ⟨w.heap.size, 3, none⟩ (.int .i64 0)).setCell ⟨w.heap.size, 4, none⟩ (.slice none 0 0)) := Fr.setCell (Fr.setCell (Fr.setCell (Fr.setCell (Fr.setCell (Fr.refl (fun k => k = w.heap.size) wr) (p := ⟨w.heap.size, 0, none⟩) (.inl rfl) _) (p := ⟨w.heap.size, 1, none⟩) (.inl rfl) _) (p := ⟨w.heap.size, 2, none⟩) (.inl rfl) _) (p := ⟨w.heap.size, 3, none⟩) (.inl rfl) _) (p := ⟨w.heap.size, 4, none⟩) (.inl rfl) _
        have hbl := (((((hBr.out.set 0 (.int .i64 (op : Int))).set 1 (.slice va1 va2 va3)).set 2 (.bool false)).set 3 (.int .i64 0)).set 4 (.slice none 0 0)).cell
        have hfin := Lib.hid (show Own Lay.arg 142 w.heap.size (((((wr.setCell ⟨w.heap.size, 0, none⟩ (.int .i64 (op : Int))).setCell ⟨w.heap.size, 1, none⟩ (.slice va1 va2 va3)).setCell ⟨w.heap.size, 2, none⟩ (.bool false)).setCell ⟨w.heap.size, 3, none⟩ (.int .i64 0)).setCell ⟨w.heap.size, 4, none⟩ (.slice none 0 0)) (.slice va1 va2 va3) (rArgs ks s).1 ∧ SpR D g lo (rArgs ks s).2 (((((wr.setCell ⟨w.heap.size, 0, none⟩ (.int .i64 (op : Int))).setCell ⟨w.heap.size, 1, none⟩ (.slice va1 va2 va3)).setCell ⟨w.heap.size, 2, none⟩ (.bool false)).setCell ⟨w.heap.size, 3, none⟩ (.int .i64 0)).setCell ⟨w.heap.size, 4, none⟩ (.slice none 0 0)) ∧ Fr (fun k => k = g) w (((((wr.setCell ⟨w.heap.size, 0, none⟩ (.int .i64 (op : Int))).setCell ⟨w.heap.size, 1, none⟩ (.slice va1 va2 va3)).setCell ⟨w.heap.size, 2, none⟩ (.bool false)).setCell ⟨w.heap.size, 3, none⟩ (.int .i64 0)).setCell ⟨w.heap.size, 4, none⟩ (.slice none 0 0)) from by
          have hgo := hgg.out
          have h2 := H2.out
          have h22 := h2.2.2.2
          refine ⟨(hV'.out.2.1.fr hset (fun k h1 _ e => by have e' : k = w.heap.size := e; omega)).lower (by omega), hV'.out.2.2.1.fr hset (fun e => by have e' : g = w.heap.size := e; omega) (fun k hk e => by have e' : k = w.heap.size := e; have := (HS.out.1.lt.2 k hk).1; omega), ?_⟩
          have hf3 : Fr (fun k => (k = g ∨ k = gi) ∨ k = w.heap.size) wo _ := Fr.trans hV'.out.2.2.2 hset (fun _ _ h => .inl h) (fun _ _ h => .inr h)
          refine (Ext.fr H3.out.2.2 hf3).mono (fun k hk e => ?_)
          rcases e with (e | e) | e
          · exact e
          · omega
          · omega)
        clear hset hcr hfr hcg
        exact bodyPost_ret (v := .agg #[.int .i64 (op : Int), .slice va1 va2 va3, .bool false, .int .i64 0, .slice none 0 0]) (by simp [results, Tryz.results39, go_sem, hbl]) rfl ⟨_, _, _, rfl, hfin.out⟩
end Go.Proofs.YtbdahjpdjamgiaaGreatDoor
