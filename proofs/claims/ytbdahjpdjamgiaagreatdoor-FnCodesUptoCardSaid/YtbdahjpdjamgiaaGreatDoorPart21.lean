/- spec.reader.body. -/
import Derived.Test.YtbdahjpdjamgiaaGreatDoorPart20
namespace Go.Proofs.YtbdahjpdjamgiaaGreatDoor
open Go.RowKit
/-- How far a reader has to go: the bytes that are left, and one while nothing failed. -/
def msr (g : Nat) (w : World) : Nat :=
  match w.cell? ⟨g, 0, none⟩, w.cell? ⟨g, 1, none⟩ with
  | some (.slice _ n _), some (.int _ v) => n + (if v = 0 then 1 else 0)
  | _, _ => 0
theorem SpR.msr {D : Nat → Prop} {g : Nat} {lo : Bool} {s : St} {w : World} (h : SpR D g lo s w) : msr g w = s.b.length + (if s.v = 0 then 1 else 0) := by
  obtain ⟨aa, cap, hb, -, -⟩ := h
  have h0 := hb.cell 0
  have h1 := hb.cell 1
  simp at h0 h1
  unfold Proofs.YtbdahjpdjamgiaaGreatDoor.msr
  rw [h0, h1]
  simp
theorem rInstr_len (op : Nat) (hop : readOp op = true) (s : St) : (rInstr (op : Int) s).2.b.length ≤ s.b.length := by
  obtain ⟨ks, hks, hk5, hkl⟩ := readOp_kinds hop
  unfold rInstr
  simp only [hks]
  rw [if_neg (fun h => nomatch h.2)]
  exact rArgs_blen ks hk5 s
theorem rBody_len : ∀ (f : Nat) (d : Int) (acc : List Ins) (s : St), (rBody f d acc s).2.b.length ≤ s.b.length
  | 0, _, _, s => Nat.le_refl _
  | f + 1, d, acc, s => by
    have h1 := rByte_len s
    have h2 := rByte_len (rByte s).2
    have h3 := rBody_len f (d + 1) [] (if (rByte (rByte s).2).2.v = 0 ∧ (rByte (rByte s).2).1 ≠ 64 then (rByte (rByte s).2).2.fail 2 else (rByte (rByte s).2).2)
    have h4 := rBody_len f d
    unfold rBody
    split
    · exact Nat.le_refl _
    · split
      · exact h1
      · split
        · exact h1
        · split
          · exact Nat.zero_le _
          · split
            · refine Nat.le_trans (h4 _ _) (Nat.le_trans h3 ?_)
              split
              · exact Nat.zero_le _
              · omega
            · split
              · exact Nat.zero_le _
              · rename_i h10
                have h12 : readOp (rByte s).1 = true := by simpa using h10
                exact Nat.le_trans (h4 _ _) (Nat.le_trans (rInstr_len _ h12 _) h1)
theorem rByte_ok {s : St} (hv : s.v = 0) (h : (rByte s).2.v = 0) : (rByte s).2.b.length + 1 = s.b.length := by
  unfold rByte St.fail at *
  cases hb : s.b with
  | nil => rw [hb] at h; simp [hv] at h
  | cons c r => simp
theorem infoInstrS (n : Nat) : (Tryz.prog.info? 138).map (fun i => (i.zero, i.size, i.bytes)) = some (some (.agg #[.int .i64 0, .slice none 0 0, .bool false, .int .i64 0, .slice none 0 0]), (Lay.ins n).size, 72) := by rw [Lay.ins_size]; kernel_rfl
theorem ins_mkS {n : Nat} {A : Nat → Prop} {w : World} {op ty : Int} {args : List (Int × UInt64)} {st : Bool} {body : List Ins} {v1 v2 : Value} (h1 : -9223372036854775808 ≤ op ∧ op ≤ 9223372036854775807) (h2 : -9223372036854775808 ≤ ty ∧ ty ≤ 9223372036854775807)
    (ha : Lay.arg.slice.rd A w [v1] args) (hb : (Lay.ins n).slice.rd A w [v2] body) : (Lay.ins (n + 1)).rd A w [.int .i64 op, v1, .bool st, .int .i64 ty, v2] (.mk op args st ty body) :=
  ⟨[_], _, rfl, ⟨rfl, h1⟩, [_], _, rfl, ha, [_], _, rfl, rfl, [_], _, rfl, ⟨rfl, h2⟩, hb⟩
theorem slice_nil {α : Type} (l : Lay α) {A : Nat → Prop} {w : World} : l.slice.rd A w [.slice none 0 0] [] := ⟨none, 0, rfl, Nat.le_refl _, by decide, fun h => absurd h (by simp)⟩
set_option maxRecDepth 100000 in
set_option maxHeartbeats 4000000 in
theorem body_calls (D : Nat → Prop) (g : Nat) (lo : Bool) (f : Nat) : ∀ (d : Nat) (s : St) (w : World), d ≤ 101 → SpR D g lo s w → s.b.length ≤ 33554432 → s.b.length < f →
    Calls Tryz.prog 20 #[.pointer (some ⟨g, 0, none⟩), .int .i64 (d : Int)] w fun e w' => ∃ v, e = .returned v ∧ Own (Lay.ins f) 138 w.heap.size w' v (rBody f d [] s).1 ∧ SpR D g lo (rBody f d [] s).2 w' ∧ Fr (fun k => k = g) w w' := by
  induction f using Nat.strongRecOn with
  | ind f ih =>
    intro d s w hd hS hl hlf
    have H := Lib.hid (And.intro hS (And.intro hl (And.intro hlf ih)))
    clear ih hS hlf
    go_enter Tryz.func20, Tryz.ntmps20
    go_wp2_with fail
    go_loopw [5] (fun s5 w' => ∃ (f' : Nat) (acc : List Ins) (s' : St), Hid (rBody f' d acc s' = rBody f d [] s) ∧ s'.b.length < f' ∧ f' ≤ f ∧ acc.length + s'.b.length ≤ s.b.length ∧ Hid (SpR D g lo s' w' ∧ Own (Lay.ins f) 138 w.heap.size w' s5 acc ∧ Fr (fun k => k = g) w w')) (fun _ w' => msr g w')
    case atStart => exact ⟨f, [], s, rfl, H.out.2.2.1, Nat.le_refl _, by simp, H.out.1, own_nil _ _ _ _, Fr.refl _ _⟩
    case round =>
      obtain ⟨f', acc, s', hT, hlf', hff, hacc, hV⟩ := hrel
      obtain ⟨f1, rfl⟩ : ∃ f1, f' = f1 + 1 := ⟨f' - 1, by omega⟩
      go_wp2_with fail
      refine (ok_calls D g lo s' _ hV.out.1).mono ?_
      rintro e w1 ⟨rfl, rfl⟩
      by_cases hv : s'.v = 0
      · rw [decide_eq_true hv]
        go_wp2_with fail
        refine (byte_calls D g lo s' _ hV.out.1).mono ?_
        rintro e w2 ⟨rfl, k1, k2⟩
        have hc256 := rByte_lt s'
        have hok := rByte_ok hv
        have hbl := rByte_len s'
        have hT2 : Hid (rBody f d [] s = if (rByte s').2.v ≠ 0 then ([], (rByte s').2)
            else if (rByte s').1 = 11 then (acc, (rByte s').2)
            else if (rByte s').1 = 5 ∨ (rByte s').1 = 4 ∨ 100 < (d : Int) then ([], (rByte s').2.fail 2)
            else if (rByte s').1 = 2 ∨ (rByte s').1 = 3 then
              rBody f1 d (acc ++ [.mk ((rByte s').1 : Int) [] true (-1) (rBody f1 (d + 1) [] (if (rByte (rByte s').2).2.v = 0 ∧ (rByte (rByte s').2).1 ≠ 64 then (rByte (rByte s').2).2.fail 2 else (rByte (rByte s').2).2)).1]) (rBody f1 (d + 1) [] (if (rByte (rByte s').2).2.v = 0 ∧ (rByte (rByte s').2).1 ≠ 64 then (rByte (rByte s').2).2.fail 2 else (rByte (rByte s').2).2)).2
            else if readOp (rByte s').1 = false then ([], (rByte s').2.fail 2)
            else rBody f1 d (acc ++ [(rInstr ((rByte s').1 : Int) (rByte s').2).1]) (rInstr ((rByte s').1 : Int) (rByte s').2).2) := by
          show _ = _
          rw [← hT.out]
          conv => lhs; unfold rBody
          rw [if_neg (fun h => h hv)]
        have hm0 := hV.out.1.msr
        rw [if_pos hv] at hm0
        have hm0 := Lib.hid hm0
        generalize rByte s' = r at *
        obtain ⟨c, s1⟩ := r
        dsimp only at k1 hc256 hok hbl hT2
        have hg := hV.out.1.lt
        have hV2 : Hid (SpR D g lo s1 w2 ∧ Own (Lay.ins f) 138 w.heap.size w2 u5 acc ∧ Fr (fun k => k = g) w w2) := ⟨k1, hV.out.2.1.fr k2 (fun k h1 h2 e => by have e' : k = g := e; have := H.out.1.lt.1; omega), hV.out.2.2.trans k2 (fun _ _ h => h) (fun _ _ h => h)⟩
        clear hT k1 k2 hV hg
        go_wp2_with fail
        refine (ok_calls D g lo s1 _ hV2.out.1).mono ?_
        rintro e w3 ⟨rfl, rfl⟩
        by_cases hv1 : s1.v = 0
        · rw [decide_eq_true hv1]
          have hT3 := Lib.hid (hT2.out.trans (if_neg (fun h => h hv1)))
          have hlen := hok hv1
          clear hT2 hok
          by_cases h11 : c = 11
          · have hT4 := Lib.hid (hT3.out.trans (if_pos h11))
            have hb : ((c : Int) == 11) = true := by rw [beq_iff_eq]; omega
            clear hT3
            go_wp2
            go_ret
            rw [hT4.out]
            exact ⟨_, rfl, hV2.out.2.1, hV2.out.1, hV2.out.2.2⟩
          · have hT4 := Lib.hid (hT3.out.trans (if_neg h11))
            have hb : ((c : Int) == 11) = false := by rw [beq_eq_false_iff_ne]; omega
            clear hT3
            by_cases h54 : c = 5 ∨ c = 4 ∨ 100 < (d : Int)
            · have hT5 := Lib.hid (hT4.out.trans (if_pos h54))
              clear hT4
              by_cases c5 : c = 5
              · have b5 : ((c : Int) == 5) = true := by rw [beq_iff_eq]; omega
                go_wp2_with fail
                refine (fail_calls D g lo s1 2 _ hV2.out.1).mono ?_
                rintro e w4 ⟨rfl, k1, k2⟩
                have hV3 : Hid (SpR D g lo (s1.fail 2) w4 ∧ Own (Lay.ins f) 138 w.heap.size w4 u5 acc ∧ Fr (fun k => k = g) w w4) := ⟨k1, hV2.out.2.1.fr k2 (fun k h1 h2 e => by have e' : k = g := e; have := H.out.1.lt.1; omega), hV2.out.2.2.trans k2 (fun _ _ h => h) (fun _ _ h => h)⟩
                have hm1 := Lib.hid k1.msr
                clear k1 k2
                go_wp2
                go_roundw
                case rel => exact ⟨1, acc, s1.fail 2, by show _ = _; rw [hT5.out]; unfold rBody; rw [if_pos (by simp [St.fail, hv1])], Nat.zero_lt_one, by omega, by have := hacc; show acc.length + 0 ≤ _; omega, hV3⟩
                case measure => rw [hm1.out, hm0.out]; show 0 + _ < _; rw [if_neg (by simp [St.fail, hv1])]; omega
              · have b5 : ((c : Int) == 5) = false := by rw [beq_eq_false_iff_ne]; omega
                by_cases c4 : c = 4
                · have b4 : ((c : Int) == 4) = true := by rw [beq_iff_eq]; omega
                  go_wp2_with fail
                  refine (fail_calls D g lo s1 2 _ hV2.out.1).mono ?_
                  rintro e w4 ⟨rfl, k1, k2⟩
                  have hV3 : Hid (SpR D g lo (s1.fail 2) w4 ∧ Own (Lay.ins f) 138 w.heap.size w4 u5 acc ∧ Fr (fun k => k = g) w w4) := ⟨k1, hV2.out.2.1.fr k2 (fun k h1 h2 e => by have e' : k = g := e; have := H.out.1.lt.1; omega), hV2.out.2.2.trans k2 (fun _ _ h => h) (fun _ _ h => h)⟩
                  have hm1 := Lib.hid k1.msr
                  clear k1 k2
                  go_wp2
                  go_roundw
                  case rel => exact ⟨1, acc, s1.fail 2, by show _ = _; rw [hT5.out]; unfold rBody; rw [if_pos (by simp [St.fail, hv1])], Nat.zero_lt_one, by omega, by have := hacc; show acc.length + 0 ≤ _; omega, hV3⟩
                  case measure => rw [hm1.out, hm0.out]; show 0 + _ < _; rw [if_neg (by simp [St.fail, hv1])]; omega
                · have b4 : ((c : Int) == 4) = false := by rw [beq_eq_false_iff_ne]; omega
                  have bd : decide (100 < (d : Int)) = true := by rw [decide_eq_true_eq]; omega
                  go_wp2_with fail
                  refine (fail_calls D g lo s1 2 _ hV2.out.1).mono ?_
                  rintro e w4 ⟨rfl, k1, k2⟩
                  have hV3 : Hid (SpR D g lo (s1.fail 2) w4 ∧ Own (Lay.ins f) 138 w.heap.size w4 u5 acc ∧ Fr (fun k => k = g) w w4) := ⟨k1, hV2.out.2.1.fr k2 (fun k h1 h2 e => by have e' : k = g := e; have := H.out.1.lt.1; omega), hV2.out.2.2.trans k2 (fun _ _ h => h) (fun _ _ h => h)⟩
                  have hm1 := Lib.hid k1.msr
                  clear k1 k2
                  go_wp2
                  go_roundw
                  case rel => exact ⟨1, acc, s1.fail 2, by show _ = _; rw [hT5.out]; unfold rBody; rw [if_pos (by simp [St.fail, hv1])], Nat.zero_lt_one, by omega, by have := hacc; show acc.length + 0 ≤ _; omega, hV3⟩
                  case measure => rw [hm1.out, hm0.out]; show 0 + _ < _; rw [if_neg (by simp [St.fail, hv1])]; omega
            · have hT5 := Lib.hid (hT4.out.trans (if_neg h54))
              clear hT4
              have b5 : ((c : Int) == 5) = false := by rw [beq_eq_false_iff_ne]; omega
              have b4 : ((c : Int) == 4) = false := by rw [beq_eq_false_iff_ne]; omega
              have bd : decide (100 < (d : Int)) = false := by rw [decide_eq_false_iff_not]; omega
              by_cases h23 : c = 2 ∨ c = 3
              · have hT6 := Lib.hid (hT5.out.trans (if_pos h23))
                clear hT5
                have hTT : Hid (∀ s3, (if (rByte s1).2.v = 0 ∧ (rByte s1).1 ≠ 64 then (rByte s1).2.fail 2 else (rByte s1).2) = s3 → rBody f d [] s = rBody f1 d (acc ++ [.mk (c : Int) [] true (-1) (rBody f1 (d + 1 : Nat) [] s3).1]) (rBody f1 (d + 1 : Nat) [] s3).2) := fun s3 e => by rw [← e, show ((d + 1 : Nat) : Int) = (d : Int) + 1 from rfl]; exact hT6.out
                clear hT6
                have hcs : Hid (((c : Int) == 2) = true ∨ (((c : Int) == 2) = false ∧ ((c : Int) == 3) = true)) := by
                  show _ ∨ _
                  rcases h23 with rfl | rfl
                  · exact .inl rfl
                  · exact .inr ⟨rfl, rfl⟩
                obtain ⟨W4, gi, hW4, hgi, hB4⟩ : ∃ W4 gi, Hid ((w3.alloc (.cells #[.int .i64 (c : Int), .slice none 0 0, .bool true, .int .i64 (-1), .slice none 0 0] 138)) = W4) ∧ Hid (w3.heap.size = gi) ∧ Hid (Blk W4 gi #[.int .i64 (c : Int), .slice none 0 0, .bool true, .int .i64 (-1), .slice none 0 0] 138 ∧ SpR D g lo s1 W4 ∧ Fr (fun k => k = g) w3 W4 ∧ w.heap.size ≤ gi ∧ (∀ k, u5.ownBlock = some k → k < gi) ∧ w3.heap.size = gi) := by
                  have hx := ext_alloc w3 (.cells #[.int .i64 (c : Int), .slice none 0 0, .bool true, .int .i64 (-1), .slice none 0 0] 138)
                  exact ⟨_, _, rfl, rfl, blk_new _ _ _, hV2.out.1.ext hx, hx.to, hV2.out.2.2.size, fun k hk => (hV2.out.2.1.lt k hk).2, rfl⟩
                have hr1 := rByte_lt s1
                have hr2 := rByte_len s1
                rcases hcs.out with b2 | ⟨b2, b3⟩
                all_goals
                  clear hcs h23
                  go_wp2_with fail
                  rw [hW4.out, hgi.out]
                  refine (byte_calls D g lo s1 _ hB4.out.2.1).mono ?_
                  rintro e w5 ⟨rfl, k1, k2⟩
                  generalize rByte s1 = r2 at *
                  obtain ⟨c2, s2⟩ := r2
                  dsimp only at k1 hr1 hr2 hTT
                  have hB5 : Hid (Blk w5 gi #[.int .i64 (c : Int), .slice none 0 0, .bool true, .int .i64 (-1), .slice none 0 0] 138 ∧ SpR D g lo s2 w5 ∧ Fr (fun k => k = g) w3 w5) := by
                    have hgs := H.out.1.lt.1
                    have hgz := hB4.out.2.2.2.1
                    exact ⟨hB4.out.1.fr k2 (fun e => by have e' : gi = g := e; omega), k1, hB4.out.2.2.1.trans k2 (fun _ _ h => h) (fun _ _ h => h)⟩
                  clear k1 k2 hW4 hgi
                  go_wp2_with fail
                  refine (ok_calls D g lo s2 _ hB5.out.2.1).mono ?_
                  rintro e w6 ⟨rfl, rfl⟩
                  obtain ⟨s3, hs3⟩ : ∃ s3, (if s2.v = 0 ∧ c2 ≠ 64 then s2.fail 2 else s2) = s3 := ⟨_, rfl⟩
                  have hT7 := Lib.hid (hTT.out s3 hs3)
                  have hs3l : s3.b.length ≤ s2.b.length := by rw [← hs3]; split; exact Nat.zero_le _; exact Nat.le_refl _
                  have hb3 := rBody_len f1 (d + 1 : Nat) [] s3
                  have hfin : ∀ w7, SpR D g lo s3 w7 → Fr (fun k => k = g) w6 w7 → Hid (Blk w7 gi #[.int .i64 (c : Int), .slice none 0 0, .bool true, .int .i64 (-1), .slice none 0 0] 138 ∧ SpR D g lo s3 w7 ∧ Fr (fun k => k = g) w3 w7) := fun w7 k1 k2 => by
                    have hgs := H.out.1.lt.1
                    have hgz := hB4.out.2.2.2.1
                    exact ⟨hB5.out.1.fr k2 (fun e => by have e' : gi = g := e; omega), k1, hB5.out.2.2.trans k2 (fun _ _ h => h) (fun _ _ h => h)⟩
                  have hfin := Lib.hid hfin
                  by_cases hv2 : s2.v = 0
                  · rw [decide_eq_true hv2]
                    by_cases h64 : c2 = 64
                    · have b64 : ((c2 : Int) == 64) = true := by rw [beq_iff_eq]; omega
                      rw [if_neg (fun h => h.2 h64)] at hs3
                      have hB7 := hfin.out w6 (hs3 ▸ hB5.out.2.1) (Fr.refl _ _)
                      clear hB5 hfin hTT h64
                      skip
                      go_wp2_with fail
                      refine (H.out.2.2.2 f1 (by omega) (d + 1) s3 w6 (by omega) hB7.out.2.1 (by omega) (by omega)).mono ?_
                      rintro e w8 ⟨v8, rfl, o8, k1, k2⟩
                      generalize rBody f1 (d + 1 : Nat) [] s3 = rb at *
                      obtain ⟨y1, y2, y3, rfl⟩ := o8.shape
                      have hgs := H.out.1.lt.1
                      have hgz := hB4.out.2.2.2
                      have hB8 : Hid (Blk w8 gi #[.int .i64 (c : Int), .slice none 0 0, .bool true, .int .i64 (-1), .slice none 0 0] 138 ∧ SpR D g lo rb.2 w8 ∧ Fr (fun k => k = g) w3 w8 ∧ Own (Lay.ins f1) 138 (gi + 1) w8 (.slice y1 y2 y3) rb.1) :=
                        ⟨hB7.out.1.fr k2 (fun e => by have e' : gi = g := e; omega), k1, hB7.out.2.2.trans k2 (fun _ _ h => h) (fun _ _ h => h), o8.lower hB7.out.1.lt⟩
                      have hc8 := hB8.out.1.cell
                      have hf8 := hB8.out.1.frz
                      clear hB7 o8 k1 k2 hgs
                      go_wp2_with (at_builtin; refine Hid.out ?_)
                      have hset := fr_setCell w8 ⟨gi, 4, none⟩ (.slice y1 y2 y3)
                      have hge : Hid (g < w.heap.size) := H.out.1.lt.1
                      have hV5 : Hid (SpR D g lo rb.2 (w8.setCell ⟨gi, 4, none⟩ (.slice y1 y2 y3)) ∧ Own (Lay.ins f) 138 w.heap.size (w8.setCell ⟨gi, 4, none⟩ (.slice y1 y2 y3)) u5 acc ∧ Fr (fun k => k = g) w (w8.setCell ⟨gi, 4, none⟩ (.slice y1 y2 y3)) ∧ (Lay.ins f).rd (fun k => w.heap.size ≤ k ∧ k < (w8.setCell ⟨gi, 4, none⟩ (.slice y1 y2 y3)).heap.size ∧ some k ≠ u5.ownBlock) (w8.setCell ⟨gi, 4, none⟩ (.slice y1 y2 y3)) (#[Value.int .i64 (c : Int), .slice none 0 0, .bool true, .int .i64 (-1), .slice y1 y2 y3] : Array Value).toList (.mk (c : Int) [] true (-1) rb.1)) := by
                        have hu := hgz.2.1
                        have hgo := hge.out
                        have hg3 := hgz.2.2
                        have hFa : Fr (fun k => k = g ∨ k = gi) w3 (w8.setCell ⟨gi, 4, none⟩ (.slice y1 y2 y3)) := Fr.trans hB8.out.2.2.1 hset (fun _ _ h => .inl h) (fun _ _ h => .inr h)
                        have hF : Fr (fun k => k = g) w3 (w8.setCell ⟨gi, 4, none⟩ (.slice y1 y2 y3)) := hFa.mono (fun k hk e => e.elim id (fun e => absurd hk (by omega)))
                        refine ⟨hB8.out.2.1.fr hset (fun e => by have e' : g = gi := e; omega) (fun k hk e => by have e' : k = gi := e; have := (H.out.1.lt.2 k hk).1; omega), hV2.out.2.1.fr hF (fun k h1 h2 e => by have e' : k = g := e; omega), hV2.out.2.2.trans hF (fun _ _ h => h) (fun _ _ h => h), ?_⟩
                        obtain ⟨f0, rfl⟩ : ∃ f0, f = f0 + 1 := ⟨f - 1, by omega⟩
                        have hx := Lay.fr hB8.out.2.2.2.slice hset (fun k hk => ⟨hk.2, fun e => by have e' : k = gi := e; omega⟩)
                        exact ins_mkS (by omega) (by omega) (slice_nil _) (Lay.slice_imp (fun cs x h => Lay.ins_le (by omega) h) (Lay.mono _ hx (fun k hk => ⟨by omega, by have := hset.size; omega, fun e => by have := hu k e.symm; omega⟩)))
                      have hsz : (w8.setCell ⟨gi, 4, none⟩ (.slice y1 y2 y3)).heap.size = w8.heap.size := by simp
                      clear hset hge hB8 hc8 hf8 hV2
                      generalize (w8.setCell ⟨gi, 4, none⟩ (.slice y1 y2 y3)) = w5 at *
                      refine own_append1n (Lay.ins f) w.heap.size w8.heap.size hsz rfl (.tmp 64) (.tmp 66) _ _ _ 72 rfl Tryz.underlying38 (infoInstrS f) (by rw [Lay.ins_size]; rfl) (by omega) (by rw [Lay.ins_size]; decide) u5 acc (.mk (c : Int) [] true (-1) rb.1) _ rfl rfl hV5.out.2.1 hV5.out.2.2.2 hV5.out.2.2.1.size (by omega) ?_
                      intro v1 w6 h1 h2 h3
                      have hne : Hid (∀ k, u5.ownBlock = some k → w.heap.size ≤ k) := fun k hk => (hV5.out.2.1.lt k hk).1
                      have hV6 : Hid (SpR D g lo rb.2 w6 ∧ Own (Lay.ins f) 138 w.heap.size w6 v1 (acc ++ [.mk (c : Int) [] true (-1) rb.1]) ∧ Fr (fun k => k = g) w w6) :=
                        ⟨hV5.out.1.fr h2 (fun e => by have := hne.out g e.symm; have := H.out.1.lt.1; omega) (fun k hk e => by have := hne.out k e.symm; have := (H.out.1.lt.2 k hk).1; omega), h1, Fr.trans hV5.out.2.2.1 h2 (fun _ _ h => h) (fun k hk e => absurd hk (by have := hne.out k e.symm; omega))⟩
                      have hm2 := Lib.hid hV6.out.1.msr
                      clear h1 h2 h3 hne hV5
                      go_wp2
                      go_roundw
                      case rel => exact ⟨f1, _, rb.2, by show _ = _; rw [hT7.out], by omega, by omega, by simp only [List.length_append, List.length_cons, List.length_nil]; omega, hV6⟩
                      case measure => rw [hm2.out, hm0.out]; split <;> omega
                    · have b64 : ((c2 : Int) == 64) = false := by rw [beq_eq_false_iff_ne]; omega
                      rw [if_pos ⟨hv2, h64⟩] at hs3
                      go_wp2_with fail
                      refine (fail_calls D g lo s2 2 _ hB5.out.2.1).mono ?_
                      rintro e w7 ⟨rfl, k1, k2⟩
                      rw [hs3] at k1
                      have hB7 := hfin.out w7 k1 k2
                      clear k1 k2 hB5 hfin hTT h64
                      go_wp2_with fail
                      refine (H.out.2.2.2 f1 (by omega) (d + 1) s3 w7 (by omega) hB7.out.2.1 (by omega) (by omega)).mono ?_
                      rintro e w8 ⟨v8, rfl, o8, k1, k2⟩
                      generalize rBody f1 (d + 1 : Nat) [] s3 = rb at *
                      obtain ⟨y1, y2, y3, rfl⟩ := o8.shape
                      have hgs := H.out.1.lt.1
                      have hgz := hB4.out.2.2.2
                      have hB8 : Hid (Blk w8 gi #[.int .i64 (c : Int), .slice none 0 0, .bool true, .int .i64 (-1), .slice none 0 0] 138 ∧ SpR D g lo rb.2 w8 ∧ Fr (fun k => k = g) w3 w8 ∧ Own (Lay.ins f1) 138 (gi + 1) w8 (.slice y1 y2 y3) rb.1) :=
                        ⟨hB7.out.1.fr k2 (fun e => by have e' : gi = g := e; omega), k1, hB7.out.2.2.trans k2 (fun _ _ h => h) (fun _ _ h => h), o8.lower hB7.out.1.lt⟩
                      have hc8 := hB8.out.1.cell
                      have hf8 := hB8.out.1.frz
                      clear hB7 o8 k1 k2 hgs
                      go_wp2_with (at_builtin; refine Hid.out ?_)
                      have hset := fr_setCell w8 ⟨gi, 4, none⟩ (.slice y1 y2 y3)
                      have hge : Hid (g < w.heap.size) := H.out.1.lt.1
                      have hV5 : Hid (SpR D g lo rb.2 (w8.setCell ⟨gi, 4, none⟩ (.slice y1 y2 y3)) ∧ Own (Lay.ins f) 138 w.heap.size (w8.setCell ⟨gi, 4, none⟩ (.slice y1 y2 y3)) u5 acc ∧ Fr (fun k => k = g) w (w8.setCell ⟨gi, 4, none⟩ (.slice y1 y2 y3)) ∧ (Lay.ins f).rd (fun k => w.heap.size ≤ k ∧ k < (w8.setCell ⟨gi, 4, none⟩ (.slice y1 y2 y3)).heap.size ∧ some k ≠ u5.ownBlock) (w8.setCell ⟨gi, 4, none⟩ (.slice y1 y2 y3)) (#[Value.int .i64 (c : Int), .slice none 0 0, .bool true, .int .i64 (-1), .slice y1 y2 y3] : Array Value).toList (.mk (c : Int) [] true (-1) rb.1)) := by
                        have hu := hgz.2.1
                        have hgo := hge.out
                        have hg3 := hgz.2.2
                        have hFa : Fr (fun k => k = g ∨ k = gi) w3 (w8.setCell ⟨gi, 4, none⟩ (.slice y1 y2 y3)) := Fr.trans hB8.out.2.2.1 hset (fun _ _ h => .inl h) (fun _ _ h => .inr h)
                        have hF : Fr (fun k => k = g) w3 (w8.setCell ⟨gi, 4, none⟩ (.slice y1 y2 y3)) := hFa.mono (fun k hk e => e.elim id (fun e => absurd hk (by omega)))
                        refine ⟨hB8.out.2.1.fr hset (fun e => by have e' : g = gi := e; omega) (fun k hk e => by have e' : k = gi := e; have := (H.out.1.lt.2 k hk).1; omega), hV2.out.2.1.fr hF (fun k h1 h2 e => by have e' : k = g := e; omega), hV2.out.2.2.trans hF (fun _ _ h => h) (fun _ _ h => h), ?_⟩
                        obtain ⟨f0, rfl⟩ : ∃ f0, f = f0 + 1 := ⟨f - 1, by omega⟩
                        have hx := Lay.fr hB8.out.2.2.2.slice hset (fun k hk => ⟨hk.2, fun e => by have e' : k = gi := e; omega⟩)
                        exact ins_mkS (by omega) (by omega) (slice_nil _) (Lay.slice_imp (fun cs x h => Lay.ins_le (by omega) h) (Lay.mono _ hx (fun k hk => ⟨by omega, by have := hset.size; omega, fun e => by have := hu k e.symm; omega⟩)))
                      have hsz : (w8.setCell ⟨gi, 4, none⟩ (.slice y1 y2 y3)).heap.size = w8.heap.size := by simp
                      clear hset hge hB8 hc8 hf8 hV2
                      generalize (w8.setCell ⟨gi, 4, none⟩ (.slice y1 y2 y3)) = w5 at *
                      refine own_append1n (Lay.ins f) w.heap.size w8.heap.size hsz rfl (.tmp 64) (.tmp 66) _ _ _ 72 rfl Tryz.underlying38 (infoInstrS f) (by rw [Lay.ins_size]; rfl) (by omega) (by rw [Lay.ins_size]; decide) u5 acc (.mk (c : Int) [] true (-1) rb.1) _ rfl rfl hV5.out.2.1 hV5.out.2.2.2 hV5.out.2.2.1.size (by omega) ?_
                      intro v1 w6 h1 h2 h3
                      have hne : Hid (∀ k, u5.ownBlock = some k → w.heap.size ≤ k) := fun k hk => (hV5.out.2.1.lt k hk).1
                      have hV6 : Hid (SpR D g lo rb.2 w6 ∧ Own (Lay.ins f) 138 w.heap.size w6 v1 (acc ++ [.mk (c : Int) [] true (-1) rb.1]) ∧ Fr (fun k => k = g) w w6) :=
                        ⟨hV5.out.1.fr h2 (fun e => by have := hne.out g e.symm; have := H.out.1.lt.1; omega) (fun k hk e => by have := hne.out k e.symm; have := (H.out.1.lt.2 k hk).1; omega), h1, Fr.trans hV5.out.2.2.1 h2 (fun _ _ h => h) (fun k hk e => absurd hk (by have := hne.out k e.symm; omega))⟩
                      have hm2 := Lib.hid hV6.out.1.msr
                      clear h1 h2 h3 hne hV5
                      go_wp2
                      go_roundw
                      case rel => exact ⟨f1, _, rb.2, by show _ = _; rw [hT7.out], by omega, by omega, by simp only [List.length_append, List.length_cons, List.length_nil]; omega, hV6⟩
                      case measure => rw [hm2.out, hm0.out]; split <;> omega
                  · rw [decide_eq_false hv2]
                    rw [if_neg (fun h => hv2 h.1)] at hs3
                    have hB7 := hfin.out w6 (hs3 ▸ hB5.out.2.1) (Fr.refl _ _)
                    clear hB5 hfin hTT
                    go_wp2_with fail
                    refine (H.out.2.2.2 f1 (by omega) (d + 1) s3 w6 (by omega) hB7.out.2.1 (by omega) (by omega)).mono ?_
                    rintro e w8 ⟨v8, rfl, o8, k1, k2⟩
                    generalize rBody f1 (d + 1 : Nat) [] s3 = rb at *
                    obtain ⟨y1, y2, y3, rfl⟩ := o8.shape
                    have hgs := H.out.1.lt.1
                    have hgz := hB4.out.2.2.2
                    have hB8 : Hid (Blk w8 gi #[.int .i64 (c : Int), .slice none 0 0, .bool true, .int .i64 (-1), .slice none 0 0] 138 ∧ SpR D g lo rb.2 w8 ∧ Fr (fun k => k = g) w3 w8 ∧ Own (Lay.ins f1) 138 (gi + 1) w8 (.slice y1 y2 y3) rb.1) :=
                      ⟨hB7.out.1.fr k2 (fun e => by have e' : gi = g := e; omega), k1, hB7.out.2.2.trans k2 (fun _ _ h => h) (fun _ _ h => h), o8.lower hB7.out.1.lt⟩
                    have hc8 := hB8.out.1.cell
                    have hf8 := hB8.out.1.frz
                    clear hB7 o8 k1 k2 hgs
                    go_wp2_with (at_builtin; refine Hid.out ?_)
                    have hset := fr_setCell w8 ⟨gi, 4, none⟩ (.slice y1 y2 y3)
                    have hge : Hid (g < w.heap.size) := H.out.1.lt.1
                    have hV5 : Hid (SpR D g lo rb.2 (w8.setCell ⟨gi, 4, none⟩ (.slice y1 y2 y3)) ∧ Own (Lay.ins f) 138 w.heap.size (w8.setCell ⟨gi, 4, none⟩ (.slice y1 y2 y3)) u5 acc ∧ Fr (fun k => k = g) w (w8.setCell ⟨gi, 4, none⟩ (.slice y1 y2 y3)) ∧ (Lay.ins f).rd (fun k => w.heap.size ≤ k ∧ k < (w8.setCell ⟨gi, 4, none⟩ (.slice y1 y2 y3)).heap.size ∧ some k ≠ u5.ownBlock) (w8.setCell ⟨gi, 4, none⟩ (.slice y1 y2 y3)) (#[Value.int .i64 (c : Int), .slice none 0 0, .bool true, .int .i64 (-1), .slice y1 y2 y3] : Array Value).toList (.mk (c : Int) [] true (-1) rb.1)) := by
                      have hu := hgz.2.1
                      have hgo := hge.out
                      have hg3 := hgz.2.2
                      have hFa : Fr (fun k => k = g ∨ k = gi) w3 (w8.setCell ⟨gi, 4, none⟩ (.slice y1 y2 y3)) := Fr.trans hB8.out.2.2.1 hset (fun _ _ h => .inl h) (fun _ _ h => .inr h)
                      have hF : Fr (fun k => k = g) w3 (w8.setCell ⟨gi, 4, none⟩ (.slice y1 y2 y3)) := hFa.mono (fun k hk e => e.elim id (fun e => absurd hk (by omega)))
                      refine ⟨hB8.out.2.1.fr hset (fun e => by have e' : g = gi := e; omega) (fun k hk e => by have e' : k = gi := e; have := (H.out.1.lt.2 k hk).1; omega), hV2.out.2.1.fr hF (fun k h1 h2 e => by have e' : k = g := e; omega), hV2.out.2.2.trans hF (fun _ _ h => h) (fun _ _ h => h), ?_⟩
                      obtain ⟨f0, rfl⟩ : ∃ f0, f = f0 + 1 := ⟨f - 1, by omega⟩
                      have hx := Lay.fr hB8.out.2.2.2.slice hset (fun k hk => ⟨hk.2, fun e => by have e' : k = gi := e; omega⟩)
                      exact ins_mkS (by omega) (by omega) (slice_nil _) (Lay.slice_imp (fun cs x h => Lay.ins_le (by omega) h) (Lay.mono _ hx (fun k hk => ⟨by omega, by have := hset.size; omega, fun e => by have := hu k e.symm; omega⟩)))
                    have hsz : (w8.setCell ⟨gi, 4, none⟩ (.slice y1 y2 y3)).heap.size = w8.heap.size := by simp
                    clear hset hge hB8 hc8 hf8 hV2
                    generalize (w8.setCell ⟨gi, 4, none⟩ (.slice y1 y2 y3)) = w5 at *
                    refine own_append1n (Lay.ins f) w.heap.size w8.heap.size hsz rfl (.tmp 64) (.tmp 66) _ _ _ 72 rfl Tryz.underlying38 (infoInstrS f) (by rw [Lay.ins_size]; rfl) (by omega) (by rw [Lay.ins_size]; decide) u5 acc (.mk (c : Int) [] true (-1) rb.1) _ rfl rfl hV5.out.2.1 hV5.out.2.2.2 hV5.out.2.2.1.size (by omega) ?_
                    intro v1 w6 h1 h2 h3
                    have hne : Hid (∀ k, u5.ownBlock = some k → w.heap.size ≤ k) := fun k hk => (hV5.out.2.1.lt k hk).1
                    have hV6 : Hid (SpR D g lo rb.2 w6 ∧ Own (Lay.ins f) 138 w.heap.size w6 v1 (acc ++ [.mk (c : Int) [] true (-1) rb.1]) ∧ Fr (fun k => k = g) w w6) :=
                      ⟨hV5.out.1.fr h2 (fun e => by have := hne.out g e.symm; have := H.out.1.lt.1; omega) (fun k hk e => by have := hne.out k e.symm; have := (H.out.1.lt.2 k hk).1; omega), h1, Fr.trans hV5.out.2.2.1 h2 (fun _ _ h => h) (fun k hk e => absurd hk (by have := hne.out k e.symm; omega))⟩
                    have hm2 := Lib.hid hV6.out.1.msr
                    clear h1 h2 h3 hne hV5
                    go_wp2
                    go_roundw
                    case rel => exact ⟨f1, _, rb.2, by show _ = _; rw [hT7.out], by omega, by omega, by simp only [List.length_append, List.length_cons, List.length_nil]; omega, hV6⟩
                    case measure => rw [hm2.out, hm0.out]; split <;> omega
              · have hT6 := Lib.hid (hT5.out.trans (if_neg h23))
                clear hT5
                have b2 : ((c : Int) == 2) = false := by rw [beq_eq_false_iff_ne]; omega
                have b3 : ((c : Int) == 3) = false := by rw [beq_eq_false_iff_ne]; omega
                go_wp2_with fail
                refine (read_calls c hc256 w3).mono ?_
                rintro e w4 ⟨rfl, rfl⟩
                cases hro : readOp c with
                | false =>
                  have hT5 := Lib.hid (hT6.out.trans (if_pos hro))
                  clear hT6
                  go_wp2_with fail
                  refine (fail_calls D g lo s1 2 _ hV2.out.1).mono ?_
                  rintro e w4 ⟨rfl, k1, k2⟩
                  have hV3 : Hid (SpR D g lo (s1.fail 2) w4 ∧ Own (Lay.ins f) 138 w.heap.size w4 u5 acc ∧ Fr (fun k => k = g) w w4) := ⟨k1, hV2.out.2.1.fr k2 (fun k h1 h2 e => by have e' : k = g := e; have := H.out.1.lt.1; omega), hV2.out.2.2.trans k2 (fun _ _ h => h) (fun _ _ h => h)⟩
                  have hm1 := Lib.hid k1.msr
                  clear k1 k2
                  go_wp2
                  go_roundw
                  case rel => exact ⟨1, acc, s1.fail 2, by show _ = _; rw [hT5.out]; unfold rBody; rw [if_pos (by simp [St.fail, hv1])], Nat.zero_lt_one, by omega, by have := hacc; show acc.length + 0 ≤ _; omega, hV3⟩
                  case measure => rw [hm1.out, hm0.out]; show 0 + _ < _; rw [if_neg (by simp [St.fail, hv1])]; omega
                | true =>
                  have hT7 := hT6.out.trans (if_neg (fun h => by rw [hro] at h; cases h))
                  clear hT6
                  obtain ⟨ks, hks, hk5, hkl⟩ := readOp_kinds hro
                  have hil := rInstr_len c hro s1
                  have hri : rInstr (c : Int) s1 = (.mk (c : Int) (rArgs ((kindsOf c).getD []) s1).1 false 0 [], (rArgs ((kindsOf c).getD []) s1).2) := by
                    unfold rInstr; simp only [hks]; rw [if_neg (fun h => nomatch h.2)]
                  rw [hri] at hT7 hil
                  have hT7 := Lib.hid hT7
                  go_wp2_with fail
                  refine (instr_calls c hro D g lo s1 _ hV2.out.1 (by omega)).mono ?_
                  rintro e w5 ⟨a1, n1, c1, rfl, o1, k1, k2⟩
                  generalize rArgs ((kindsOf c).getD []) s1 = ra at *
                  try dsimp only at hil
                  have hV5 : Hid (SpR D g lo ra.2 w5 ∧ Own (Lay.ins f) 138 w.heap.size w5 u5 acc ∧ Fr (fun k => k = g) w w5 ∧ (Lay.ins f).rd (fun k => w.heap.size ≤ k ∧ k < w5.heap.size ∧ some k ≠ u5.ownBlock) w5 (#[Value.int .i64 (c : Int), .slice a1 n1 c1, .bool false, .int .i64 0, .slice none 0 0] : Array Value).toList (.mk (c : Int) ra.1 false 0 [])) := by
                    refine ⟨k1, hV2.out.2.1.fr k2 (fun k h1 h2 e => by have e' : k = g := e; have := H.out.1.lt.1; omega), hV2.out.2.2.trans k2 (fun _ _ h => h) (fun _ _ h => h), ?_⟩
                    obtain ⟨f0, rfl⟩ : ∃ f0, f = f0 + 1 := ⟨f - 1, by omega⟩
                    have hu := hV2.out.2.1.lt
                    have hs := hV2.out.2.2.size
                    exact ins_mkS (by omega) (by omega) (Lay.mono _ o1.slice (fun k hk => ⟨by omega, hk.2, fun e => by have := (hu k e.symm).2; omega⟩)) (slice_nil _)
                  clear k1 k2 o1 hri
                  go_wp2_with (at_builtin; refine Hid.out ?_)
                  refine own_append1n (Lay.ins f) w.heap.size w5.heap.size rfl rfl (.tmp 13) (.tmp 17) _ _ _ 72 rfl Tryz.underlying38 (infoInstrS f) (by rw [Lay.ins_size]; rfl) (by omega) (by rw [Lay.ins_size]; decide) u5 acc (.mk (c : Int) ra.1 false 0 []) _ rfl rfl hV5.out.2.1 hV5.out.2.2.2 hV5.out.2.2.1.size (by omega) ?_
                  intro v1 w6 h1 h2 h3
                  have hne : Hid (∀ k, u5.ownBlock = some k → w.heap.size ≤ k) := fun k hk => (hV5.out.2.1.lt k hk).1
                  have hV6 : Hid (SpR D g lo ra.2 w6 ∧ Own (Lay.ins f) 138 w.heap.size w6 v1 (acc ++ [.mk (c : Int) ra.1 false 0 []]) ∧ Fr (fun k => k = g) w w6) :=
                    ⟨hV5.out.1.fr h2 (fun e => by have := hne.out g e.symm; have := H.out.1.lt.1; omega) (fun k hk e => by have := hne.out k e.symm; have := (H.out.1.lt.2 k hk).1; omega), h1, Fr.trans hV5.out.2.2.1 h2 (fun _ _ h => h) (fun k hk e => absurd hk (by have := hne.out k e.symm; omega))⟩
                  have hm2 := Lib.hid hV6.out.1.msr
                  clear h1 h2 h3 hne hV5
                  go_wp2
                  go_roundw
                  case rel => exact ⟨f1, _, ra.2, by show _ = _; rw [hT7.out], by omega, by omega, by simp only [List.length_append, List.length_cons, List.length_nil]; omega, hV6⟩
                  case measure => rw [hm2.out, hm0.out]; split <;> omega
        · rw [decide_eq_false hv1]
          have hT3 := Lib.hid (hT2.out.trans (if_pos hv1))
          have hm1 := Lib.hid hV2.out.1.msr
          clear hT2 hok
          go_wp2
          go_roundw
          case rel => exact ⟨f1 + 1, acc, s1, by show _ = _; rw [hT3.out]; unfold rBody; rw [if_pos hv1], by omega, by omega, by omega, hV2⟩
          case measure => rw [hm1.out, hm0.out, if_neg hv1]; omega
      · rw [decide_eq_false hv]
        have hT2 := Lib.hid (show rBody f d [] s = ([], s') from by rw [← hT.out]; unfold rBody; rw [if_pos hv])
        clear hT
        go_wp2
        go_ret
        rw [hT2.out]
        exact ⟨_, rfl, own_nil _ _ _ _, hV.out.1, hV.out.2.2⟩
end Go.Proofs.YtbdahjpdjamgiaaGreatDoor
