/- Texts of this proof, one behind the other. -/
import Derived.Test.YtbdahjpdjamgiaaGreatDoorPart24
import Derived.Test.YtbdahjpdjamgiaaGreatDoorPart23
import Derived.Test.YtbdahjpdjamgiaaGreatDoorPart22
import Derived.Test.YtbdahjpdjamgiaaGreatDoorPart5
import Derived.Test.YtbdahjpdjamgiaaGreatDoorPart17
/- laws.plainCode. -/
namespace Go.Proofs.YtbdahjpdjamgiaaGreatDoor
open Go.RowKit
theorem infoLocL : (Tryz.prog.info? 73).map (fun i => (i.zero, i.size, i.bytes)) = some (some (.agg #[.int .u32 0, .int .i64 0]), Lay.loc.size, 16) := by kernel_rfl
set_option maxRecDepth 100000 in
set_option maxHeartbeats 2000000 in
theorem lawsPlainCode_calls (n : Nat) (ls : List (UInt32 × Int)) (l : List Ins) (a1 a2 : Option Addr) (n1 n2 c1 c2 : Nat) (A : Nat → Prop) (w : World) (h1 : Lay.loc.slice.rd A w [.slice a1 n1 c1] ls) (h2 : (Lay.ins n).slice.rd A w [.slice a2 n2 c2] l) (hA : ∀ k, A k → k < w.heap.size)
    (hln : ls.length ≤ 4294967296) (hll : l.length ≤ 1048576) (hfa : fitA l) :
    Calls Tryz.prog 12 #[.agg #[.slice a1 n1 c1, .slice a2 n2 c2]] w fun e w' => ∃ b1 m1 d1 b2 m2 d2, e = .returned (.agg #[.slice b1 m1 d1, .slice b2 m2 d2]) ∧ Lay.loc.slice.rd (fun k => w.heap.size ≤ k ∧ k < w'.heap.size) w' [.slice b1 m1 d1] ls ∧ (Lay.ins n).slice.rd (fun k => w.heap.size ≤ k ∧ k < w'.heap.size) w' [.slice b2 m2 d2] l ∧ Ext w w' := by
  obtain ⟨a', c', e, hlc, hcm⟩ := Lay.slice_form h1
  obtain ⟨rfl, rfl, rfl⟩ : a1 = a' ∧ n1 = ls.length ∧ c1 = c' := by simpa using e
  have hlen : (ls.length : Int) ≤ 9223372036854775807 := by omega
  have H := Lib.hid (And.intro h1 (And.intro h2 (And.intro hA (And.intro hln (And.intro hll hfa)))))
  clear h1 h2 hA hln hll hfa hlc hcm e
  go_enter Tryz.func12, Tryz.ntmps12
  go_wp2_with fail
  have hB0 : Blk ((w.alloc (.cells #[.slice a1 ls.length c1, .slice a2 n2 c2] 68)).alloc (.cells #[.slice none 0 0, .slice none 0 0] 40)) w.heap.size #[.slice a1 ls.length c1, .slice a2 n2 c2] 68 := (blk_new _ _ _).ext (ext_alloc _ _)
  have hR0 : Blk ((w.alloc (.cells #[.slice a1 ls.length c1, .slice a2 n2 c2] 68)).alloc (.cells #[.slice none 0 0, .slice none 0 0] 40)) (w.heap.size + 1) #[.slice none 0 0, .slice none 0 0] 40 := by
    have := blk_new (w.alloc (.cells #[.slice a1 ls.length c1, .slice a2 n2 c2] 68)) #[.slice none 0 0, .slice none 0 0] 40
    simpa using this
  have hsz0 : w.heap.size + 2 ≤ ((w.alloc (.cells #[.slice a1 ls.length c1, .slice a2 n2 c2] 68)).alloc (.cells #[.slice none 0 0, .slice none 0 0] 40)).heap.size := by simp
  have hx0 : Ext w ((w.alloc (.cells #[.slice a1 ls.length c1, .slice a2 n2 c2] 68)).alloc (.cells #[.slice none 0 0, .slice none 0 0] 40)) := Ext.trans (ext_alloc _ _) (ext_alloc _ _)
  generalize ((w.alloc (.cells #[.slice a1 ls.length c1, .slice a2 n2 c2] 68)).alloc (.cells #[.slice none 0 0, .slice none 0 0] 40)) = W0 at *
  refine (lawsPlainInstrs_calls n l a2 n2 c2 A W0 (Lay.fr H.out.2.1 hx0 (fun k hk => ⟨H.out.2.2.1 k hk, fun h => h⟩)) (fun k hk => Nat.lt_of_lt_of_le (H.out.2.2.1 k hk) hx0.size) H.out.2.2.2.2.1 H.out.2.2.2.2.2).mono ?_
  rintro e w1 ⟨v2, rfl, o2, x2⟩
  obtain ⟨b2, m2, d2, rfl⟩ := o2.shape
  have hcB := (hB0.ext x2).cell
  have hcBa := fun o => ((hB0.ext x2).ext (ext_alloc w1 o)).cell
  have H1 := Lib.hid (And.intro hx0 (And.intro (hB0.ext x2) (And.intro (hR0.ext x2) (And.intro x2 (And.intro o2 hsz0)))))
  clear hB0 hR0 hx0 x2 o2 hsz0
  go_wp2_with fail
  have hG := blk_new w1 #[.slice none 0 0, .slice b2 m2 d2] 40
  have hxg := ext_alloc w1 (.cells #[.slice none 0 0, .slice b2 m2 d2] 40)
  generalize (w1.alloc (.cells #[.slice none 0 0, .slice b2 m2 d2] 40)) = W1 at *
  obtain ⟨g, hg⟩ : ∃ g, w1.heap.size = g := ⟨_, rfl⟩
  rw [hg] at hG ⊢
  have HG := Lib.hid (And.intro hG (And.intro hxg hg))
  clear hG hxg hg hcB hcBa
  go_loopw [13] (fun s13 w' => ∃ (i : Nat) (va : Value), i ≤ ls.length ∧ s13 = .int .i64 i ∧ Hid (Blk w' g #[va, .slice b2 m2 d2] 40 ∧ Own Lay.loc 73 W1.heap.size w' va (ls.take i) ∧ Fr (fun k => k = g) W1 w')) (fun s13 _ => ls.length - (intOf s13).toNat)
  case atStart => exact ⟨0, _, Nat.zero_le _, rfl, HG.out.1, own_nil _ _ _ _, Fr.refl _ _⟩
  case round =>
    obtain ⟨i, va, hi, rfl, hV⟩ := hrel
    have hgs := HG.out.1.lt
    have hX0 : Ext w W1 := Ext.trans H1.out.1 (Ext.trans H1.out.2.2.2.1 HG.out.2.1)
    have hsw : w.heap.size < w1.heap.size := by have := H1.out.2.1.lt; exact this
    have hgw : w.heap.size < g := by have := HG.out.2.2; omega
    obtain ⟨va1, va2, va3, rfl⟩ := hV.out.2.1.shape
    by_cases hlt : i < ls.length
    · obtain ⟨b, o, rfl, hA1, e0, e1, hb0, hb1⟩ := loc_at (Lay.fr H.out.1 (Ext.fr hX0 hV.out.2.2) (fun k hk => ⟨H.out.2.2.1 k hk, fun e => by have := H.out.2.2.1 k hk; have e' : k = g := e; omega⟩)) i hlt
      have hab := Lib.hid (And.intro hb0 hb1)
      have htk := Lib.hid (show ls.take (i + 1) = ls.take i ++ [ls[i]] from List.take_succ_eq_append_getElem hlt)
      generalize ls[i] = x at *
      obtain ⟨cn, ty⟩ := x
      simp only [] at e0 e1
      have hcg := hV.out.1.cell
      have hfg := hV.out.1.frz
      have hgwr := hV.out.1.lt
      clear hA1 hb0 hb1
      go_wp2_with (at_builtin; refine Hid.out ?_)
      have hxv := ext_alloc wr (.cells #[.int .u32 cn.toNat, .int .i64 ty] 135)
      refine own_append1n Lay.loc W1.heap.size (wr.heap.size + 1) (by simp) rfl (.tmp 18) (.tmp 24) _ _ _ 16 rfl Tryz.underlying37 infoLocL rfl (by omega) (by decide) (.slice va1 va2 va3) (ls.take i) (cn, ty) _ rfl rfl (hV.out.2.1.ext hxv) ⟨[_], [_], rfl, rfl, rfl, hab.out⟩ (Nat.le_trans hV.out.2.2.size hxv.size) (by have := H.out.2.2.2.1; rw [List.length_take]; omega) ?_
      intro v1 w4 h1 h2 h3
      have hne : ∀ k', k' = g → ¬ some k' = (Value.slice va1 va2 va3).ownBlock := fun k' e h => by have := (hV.out.2.1.lt k' h.symm).1; omega
      have hB5 := (hV.out.1.ext hxv).fr h2 (hne g rfl)
      have hc5 := hB5.cell
      have hf5 := hB5.frz
      have hO5 : Own Lay.loc 73 W1.heap.size w4 v1 (ls.take (i + 1)) := by rw [htk.out]; exact h1
      have hF5 : Fr (fun k => k = g) W1 w4 := Fr.trans (hV.out.2.2.ext hxv) h2 (fun _ _ h => h) (fun k hk e => absurd hk (by have := (hV.out.2.1.lt k e.symm).1; omega))
      obtain ⟨vb1, vb2, vb3, rfl⟩ := h1.shape
      have H5 := Lib.hid (And.intro hB5 (And.intro hO5 hF5))
      clear h1 h2 h3 hB5 hO5 hF5 hcg hfg hxv hne hX0
      go_wp2_with fail
      have hV2 : Hid (Blk (w4.setCell ⟨g, 0, none⟩ (.slice vb1 vb2 vb3)) g #[.slice vb1 vb2 vb3, .slice b2 m2 d2] 40 ∧ Own Lay.loc 73 W1.heap.size (w4.setCell ⟨g, 0, none⟩ (.slice vb1 vb2 vb3)) (.slice vb1 vb2 vb3) (ls.take (i + 1)) ∧ Fr (fun k => k = g) W1 (w4.setCell ⟨g, 0, none⟩ (.slice vb1 vb2 vb3))) := by
        refine ⟨?_, Own.only flat_loc H5.out.2.1 (fr_setCell _ _ _) (fun k' h e => by have := (H5.out.2.1.lt k' h).1; have e' : k' = g := e; omega), H5.out.2.2.setCell (.inl rfl) _⟩
        have := H5.out.1.set 0 (.slice vb1 vb2 vb3)
        simpa using this
      clear hc5 hf5
      go_roundw
      case rel => exact ⟨i + 1, _, by omega, by go_num, hV2⟩
      case measure => simp [intOf]; omega
    · obtain rfl : i = ls.length := by omega
      have hcg := hV.out.1.cell
      have hRB := (H1.out.2.2.1.ext HG.out.2.1).fr hV.out.2.2 (fun e => by have e' : w.heap.size + 1 = g := e; have := H1.out.2.2.1.lt; have := HG.out.2.2; omega)
      have hcr := hRB.cell
      have hfr := hRB.frz
      have HR := Lib.hid hRB
      clear hRB
      go_wp2
      have hset : Fr (fun k => k = w.heap.size + 1) wr ((wr.setCell ⟨w.heap.size + 1, 0, none⟩ (.slice va1 va2 va3)).setCell ⟨w.heap.size + 1, 1, none⟩ (.slice b2 m2 d2)) := Fr.setCell (Fr.setCell (Fr.refl (fun k => k = w.heap.size + 1) wr) (p := ⟨w.heap.size + 1, 0, none⟩) (.inl rfl) _) (p := ⟨w.heap.size + 1, 1, none⟩) (.inl rfl) _
      have hbl := ((HR.out.set 0 (.slice va1 va2 va3)).set 1 (.slice b2 m2 d2)).cell
      have HF := Lib.hid (And.intro hset hX0)
      have hsz := hset.size
      have hne : ¬ g = w.heap.size + 1 := fun e => by have := H1.out.2.2.1.lt; have := HG.out.2.2; omega
      have hfin := Lib.hid (show Lay.loc.slice.rd (fun k => w.heap.size ≤ k ∧ k < ((wr.setCell ⟨w.heap.size + 1, 0, none⟩ (.slice va1 va2 va3)).setCell ⟨w.heap.size + 1, 1, none⟩ (.slice b2 m2 d2)).heap.size) ((wr.setCell ⟨w.heap.size + 1, 0, none⟩ (.slice va1 va2 va3)).setCell ⟨w.heap.size + 1, 1, none⟩ (.slice b2 m2 d2)) [.slice va1 va2 va3] ls ∧
          (Lay.ins n).slice.rd (fun k => w.heap.size ≤ k ∧ k < ((wr.setCell ⟨w.heap.size + 1, 0, none⟩ (.slice va1 va2 va3)).setCell ⟨w.heap.size + 1, 1, none⟩ (.slice b2 m2 d2)).heap.size) ((wr.setCell ⟨w.heap.size + 1, 0, none⟩ (.slice va1 va2 va3)).setCell ⟨w.heap.size + 1, 1, none⟩ (.slice b2 m2 d2)) [.slice b2 m2 d2] l ∧ Ext w ((wr.setCell ⟨w.heap.size + 1, 0, none⟩ (.slice va1 va2 va3)).setCell ⟨w.heap.size + 1, 1, none⟩ (.slice b2 m2 d2)) from by
        have hls := hV.out.2.1.slice
        rw [List.take_length] at hls
        have hs1 := H1.out.2.1.lt
        have hs2 := HG.out.2.1.size
        have hs3 := hV.out.2.2.size
        have hs4 := H1.out.2.2.1.lt
        have hs5 := H1.out.2.2.2.1.size
        have hs6 := H1.out.1.size
        have hW0 : w.heap.size + 2 ≤ W0.heap.size := by have := H1.out.2.2.2.2.2; exact this
        refine ⟨Lay.mono _ (Lay.fr hls hset (fun k hk => ⟨hk.2, fun e => by have e' : k = w.heap.size + 1 := e; omega⟩)) (fun k hk => ⟨by omega, by omega⟩), ?_, ?_⟩
        · refine Lay.mono _ (Lay.fr (Lay.fr H1.out.2.2.2.2.1.slice (Ext.fr HG.out.2.1 hV.out.2.2) (fun k hk => ⟨hk.2, fun e => by have e' : k = g := e; have := HG.out.2.2; omega⟩)) hset (fun k hk => ⟨by omega, fun e => by have e' : k = w.heap.size + 1 := e; omega⟩)) (fun k hk => ⟨by omega, by omega⟩)
        · exact Fr.new (Ext.fr (Fr.new (Ext.fr hX0 hV.out.2.2) (fun k e => by have e' : k = g := e; omega)) hset) (fun k e => by have e' : k = w.heap.size + 1 := e; omega))
      clear hset hcr hfr hcg hne hsz
      exact bodyPost_ret (v := .agg #[.slice va1 va2 va3, .slice b2 m2 d2]) (by simp [results, Tryz.results12, go_sem, hbl]) rfl ⟨_, _, _, _, _, _, rfl, hfin.out⟩
end Go.Proofs.YtbdahjpdjamgiaaGreatDoor
/- Facts on code entries that are read. -/
namespace Go.Proofs.YtbdahjpdjamgiaaGreatDoor
open Go.RowKit
mutual
def cntR1 : RI → Nat
  | .blk _ b => 1 + cntRL b
  | .i32 _ => 1
  | .i64 _ => 1
  | .eqz => 1
  | .idx _ _ => 1
  | .ci _ _ => 1
  | .ret => 1
def cntRL : List RI → Nat
  | [] => 0
  | x :: xs => cntR1 x + cntRL xs
end
theorem cntR1_pos : ∀ x : RI, 1 ≤ cntR1 x
  | .blk _ _ => by rw [cntR1]; omega
  | .i32 _ | .i64 _ | .eqz | .idx _ _ | .ci _ _ | .ret => by rw [cntR1]; omega
theorem pIns_cnt : ∀ (f : Nat) (bs : List UInt8) {l : List RI} {r : List UInt8}, pIns f bs = .ok l r → cntRL l + r.length ≤ bs.length
  | 0, _, _, _, h => by cases h
  | _ + 1, [], _, _, h => by cases h
  | f + 1, c :: r0, l, r, h => by
    have app : ∀ {x : RI} {bs : List UInt8} {k : Nat}, (pIns f bs).app [x] = .ok l r → bs.length + k ≤ r0.length → cntR1 x ≤ k + 1 → cntRL l + r.length ≤ r0.length + 1 := fun {x bs k} h hb hx => by
      cases hp : pIns f bs with
      | ok l' r' =>
        rw [hp] at h
        simp only [PO.app, PO.ok.injEq, List.singleton_append] at h
        obtain ⟨rfl, rfl⟩ := h
        have := pIns_cnt f bs hp
        rw [cntRL]
        omega
      | bad => rw [hp] at h; cases h
      | odd => rw [hp] at h; cases h
    simp only [List.length_cons]
    unfold pIns at h
    split at h
    · split at h
      · cases h
      · have := readS_shorter _ _ _ ‹_›; exact app (k := 0) h (by omega) (by rw [cntR1]; omega)
    · split at h
      · split at h
        · cases h
        · have := readS_shorter _ _ _ ‹_›; exact app (k := 0) h (by omega) (by rw [cntR1]; omega)
      · split at h
        · exact app (k := 0) h (by omega) (by rw [cntR1]; omega)
        · split at h
          · split at h
            · cases h
            · have := readU_shorter _ _ _ ‹_›; exact app (k := 0) h (by omega) (by rw [cntR1]; omega)
          · split at h
            · split at h
              · cases h
              · cases h
              · have h2 := readU_shorter _ _ _ ‹_›; simp only [List.length_cons] at h2; exact app (k := 0) h (by omega) (by rw [cntR1]; omega)
            · split at h
              · exact app (k := 0) h (by omega) (by rw [cntR1]; omega)
              · split at h
                · split at h
                  · cases h
                  · split at h
                    · cases h
                    · split at h
                      · rename_i b r1 hb64 l1 r2 hp1
                        have h2 := pIns_cnt f _ hp1
                        exact app (k := cntRL l1) h (by simp only [List.length_cons]; omega) (by rw [cntR1]; omega)
                      · cases h
                      · cases h
                · split at h
                  · simp only [PO.ok.injEq] at h; obtain ⟨rfl, rfl⟩ := h; rw [cntRL]; omega
                  · cases h
theorem keyArg_len (a : Int × UInt64) : (keyArg a).length ≤ 20 := by
  unfold keyArg
  have h1 := ulebI_len a.1
  have h2 := uleb_len64 a.2.toNat a.2.toNat_lt
  rw [List.length_append]; omega
theorem uleb_short (n : Nat) : (uleb n).length ≤ n + 1 := by
  induction n using Nat.strongRecOn with
  | ind n ih =>
    by_cases h : n < 128
    · rw [uleb_small h]; simp
    · rw [uleb_big (by omega), List.length_cons]
      have := ih (n / 128) (by omega)
      omega
theorem key_plain (op : Int) (args : List (Int × UInt64)) (ha : args.length ≤ 2) : (keyI1 (.mk op args false (-1) [])).length ≤ 60 := by
  have h1 := ulebI_len op
  have h2 := uleb_short args.length
  have h3 : (args.flatMap keyArg).length ≤ 40 := by
    match args, ha with
    | [], _ => simp
    | [a], _ => have := keyArg_len a; simp; omega
    | [a, b], _ => have := keyArg_len a; have := keyArg_len b; simp; omega
  have h4 := uleb_short 0
  unfold keyI1
  simp only [List.length_append, Bool.false_eq_true, if_false]
  omega
mutual
theorem keyI1_len : ∀ x : RI, (keyI1 (toI1 x)).length + 1 ≤ 101 * cntR1 x
  | .blk lp b => by
    have ih := keyIs_len b
    rw [toI1, cntR1]
    have h1 := ulebI_len (if lp then 3 else 2)
    have h2 := ulebI_len (-1 + 1)
    have h3 := uleb_short (toIL b).length
    have h4 := uleb_short 0
    have h5 := uleb_short 1
    rw [toIL_len] at h3
    unfold keyI1
    simp only [List.length_append, if_true, List.length_nil, List.flatMap_nil, toIL_len]
    omega
  | .i32 v => by rw [toI1, cntR1]; have := key_plain 65 [(0, bits64 (v % 4294967296))] (by simp); omega
  | .i64 v => by rw [toI1, cntR1]; have := key_plain 66 [(1, bits64 v)] (by simp); omega
  | .eqz => by rw [toI1, cntR1]; have := key_plain 69 [] (by simp); omega
  | .idx o n => by rw [toI1, cntR1]; have := key_plain o [(2, bits64 (n : Int))] (by simp); omega
  | .ci n r => by rw [toI1, cntR1]; have := key_plain 17 [(2, bits64 (n : Int)), (5, bits64 (r : Int))] (by simp); omega
  | .ret => by rw [toI1, cntR1]; have := key_plain 15 [] (by simp); omega
theorem keyIs_len : ∀ l : List RI, (keyIs (toIL l)).length + l.length ≤ 101 * cntRL l
  | [] => by rw [toIL, cntRL]; simp [keyIs]
  | x :: xs => by
    have h1 := keyI1_len x
    have h2 := keyIs_len xs
    rw [toIL, keyIs, List.length_append, cntRL, List.length_cons]
    omega
end
theorem locs_klen : ∀ ls : List (UInt32 × Int), (ls.flatMap keyLoc).length ≤ 20 * ls.length
  | [] => by simp
  | x :: xs => by
    have ih := locs_klen xs
    have h1 := uleb_len64 x.1.toNat (Nat.lt_trans x.1.toNat_lt (by decide))
    have h2 := ulebI_len x.2
    rw [List.flatMap_cons, List.length_append, List.length_cons]
    unfold keyLoc at *
    rw [List.length_append]
    omega
theorem read_key_len {b : List UInt8} {ls : List (UInt32 × Int)} {l : List RI} {rest : List UInt8} (h : pCode b = some (ls, l, rest)) : (codeKey ls (toIL l)).length ≤ 1000 * b.length + 1000 := by
  unfold pCode at h
  split at h
  · cases h
  · rename_i ls' r' hpl
    have hs := pLoc_shorter hpl
    split at h
    · rename_i l' rest' hpi
      simp only [Option.some.injEq, Prod.mk.injEq] at h
      obtain ⟨rfl, rfl, rfl⟩ := h
      have h1 := pIns_cnt _ _ hpi
      have h2 := keyIs_len l'
      have h3 := uleb_short ls'.length
      have h4 := locs_klen ls'
      have h5 := uleb_short l'.length
      unfold codeKey keyIL
      simp only [List.length_append, toIL_len]
      omega
    · cases h
theorem u8_two (w : World) : Lay.u8.slice.rd (fun k => k < (w.alloc (.cells #[.int .u8 0, .int .u8 11] 5)).heap.size) (w.alloc (.cells #[.int .u8 0, .int .u8 11] 5)) [.slice (some ⟨w.heap.size, 0, none⟩) 2 2] [0, 11] :=
  ⟨_, 2, rfl, Nat.le_refl _, by decide, fun _ => ⟨w.heap.size, 0, _, _, _, [.int .u8 0, .int .u8 11], rfl, by simp, blk_new w _ _, ⟨[_], _, rfl, rfl, Lay.all_single rfl⟩, fun j hj => by simp⟩⟩
theorem two_code : (∃ ls l rest, pCode [0, 11] = some (ls, l, rest)) ∧ pEven [0, 11] := by
  have h1 : pLoc [0, 11] = some ([], [11]) := by rfl
  have h2 : pIns 2 [11] = .ok [] [] := by rfl
  refine ⟨⟨[], [], [], by unfold pCode; rw [h1]; simp only []; rw [show ([11] : List UInt8).length + 1 = 2 from rfl, h2]⟩, fun ls r h => ?_⟩
  rw [h1] at h
  simp only [Option.some.injEq, Prod.mk.injEq] at h
  rw [← h.2, show ([11] : List UInt8).length + 1 = 2 from rfl, h2]
  exact fun q => by cases q
theorem rd_len {A : Nat → Prop} {w : World} {aa : Option Addr} {m cap : Nat} {bs : List UInt8} (h : Lay.u8.slice.rd A w [.slice aa m cap] bs) : m = bs.length := by
  obtain ⟨_, _, e, _⟩ := h
  simp only [List.cons.injEq, Value.slice.injEq, and_true] at e
  exact e.2.1
theorem toIL_fit : ∀ {l : List RI}, fitRL l → fitA (toIL l)
  | [], _ => by rw [toIL]; trivial
  | .blk lp b :: xs, h => by
    rw [fitRL, fitR1] at h
    rw [toIL, toI1]
    exact ⟨⟨Nat.zero_le _, by rw [toIL_len]; exact h.1.1, toIL_fit h.1.2⟩, toIL_fit h.2⟩
  | .i32 _ :: xs, h => by rw [fitRL] at h; rw [toIL, toI1]; exact ⟨⟨by simp, by simp, trivial⟩, toIL_fit h.2⟩
  | .i64 _ :: xs, h => by rw [fitRL] at h; rw [toIL, toI1]; exact ⟨⟨by simp, by simp, trivial⟩, toIL_fit h.2⟩
  | .eqz :: xs, h => by rw [fitRL] at h; rw [toIL, toI1]; exact ⟨⟨by simp, by simp, trivial⟩, toIL_fit h.2⟩
  | .idx _ _ :: xs, h => by rw [fitRL] at h; rw [toIL, toI1]; exact ⟨⟨by simp, by simp, trivial⟩, toIL_fit h.2⟩
  | .ci _ _ :: xs, h => by rw [fitRL] at h; rw [toIL, toI1]; exact ⟨⟨by simp, by simp, trivial⟩, toIL_fit h.2⟩
  | .ret :: xs, h => by rw [fitRL] at h; rw [toIL, toI1]; exact ⟨⟨by simp, by simp, trivial⟩, toIL_fit h.2⟩
theorem pCode_fit {b : List UInt8} {ls : List (UInt32 × Int)} {l : List RI} {rest : List UInt8} (h : pCode b = some (ls, l, rest)) (hb : b.length ≤ 1048576) : ls.length ≤ b.length ∧ l.length ≤ b.length ∧ fitRL l := by
  unfold pCode at h
  split at h
  · cases h
  · rename_i ls' r' hpl
    have hs := pLoc_shorter hpl
    split at h
    · rename_i l' rest' hpi
      simp only [Option.some.injEq, Prod.mk.injEq] at h
      obtain ⟨rfl, rfl, rfl⟩ := h
      have := pIns_fit _ _ hpi (by omega)
      exact ⟨hs.2, by omega, this.2⟩
    · cases h
end Go.Proofs.YtbdahjpdjamgiaaGreatDoor
/- impl.Codes, at code entries that can be read. -/
namespace Go.Proofs.YtbdahjpdjamgiaaGreatDoor
open Go.RowKit
set_option linter.unusedSimpArgs false
def codeOf (bs : List UInt8) : List (UInt32 × Int) × List Ins := ((entOf bs).1, toIL (entOf bs).2)
theorem infoCode : (Tryz.prog.info? 68).map (fun i => (i.zero, i.size, i.bytes)) = some (some (.agg #[.slice none 0 0, .slice none 0 0]), Lay.code.size, 48) := by kernel_rfl
set_option maxRecDepth 100000 in
set_option maxHeartbeats 4000000 in
theorem implCodes_calls (cs : List (List UInt8)) (aa : Option Addr) (n c : Nat) (pe : Addr) (A : Nat → Prop) (w : World) (h : Lay.u8.slice.slice.rd A w [.slice aa n c] cs) (hA : ∀ k, A k → k < w.heap.size)
    (hE : w.cell? eofAt = some (eofV pe)) (hl : cs.length ≤ 1048576) (hcs : ∀ (i : Nat) (hi : i < cs.length), cs[i].length ≤ 1048576 ∧ pEven cs[i] ∧ pCode cs[i] ≠ none) :
    Calls Tryz.prog 9 #[modC (.slice aa n c)] w fun e w' => ∃ a2 c2, e = .returned (.tuple #[.slice a2 cs.length c2, .bool true]) ∧ Lay.code.slice.rd (fun k => w.heap.size ≤ k ∧ k < w'.heap.size) w' [.slice a2 cs.length c2] (cs.map codeOf) ∧ Ext w w' := by
  have hl0 := (blk_new w #[.int .u32 0, .bool false, .int .u32 0, .slice none 0 0, .slice none 0 0, .slice none 0 0, .slice none 0 0, .slice none 0 0, .slice none 0 0, .slice none 0 0, .slice none 0 0, .slice aa n c, .slice none 0 0, .slice none 0 0, .string ⟨#[]⟩, .slice none 0 0, .slice none 0 0] 61).load (P := Tryz.prog) 17 rfl
  have H := Lib.hid (And.intro h (And.intro hA (And.intro hE (And.intro hl hcs))))
  clear h hA hE hl hcs
  unfold modC
  go_enter Tryz.func9, Tryz.ntmps9
  go_wp2_with fail
  clear hl0
  have hx0 := Lib.hid (ext_alloc w (.cells #[.int .u32 0, .bool false, .int .u32 0, .slice none 0 0, .slice none 0 0, .slice none 0 0, .slice none 0 0, .slice none 0 0, .slice none 0 0, .slice none 0 0, .slice none 0 0, .slice aa n c, .slice none 0 0, .slice none 0 0, .string ⟨#[]⟩, .slice none 0 0, .slice none 0 0] 61))
  generalize (w.alloc (.cells #[.int .u32 0, .bool false, .int .u32 0, .slice none 0 0, .slice none 0 0, .slice none 0 0, .slice none 0 0, .slice none 0 0, .slice none 0 0, .slice none 0 0, .slice none 0 0, .slice aa n c, .slice none 0 0, .slice none 0 0, .string ⟨#[]⟩, .slice none 0 0, .slice none 0 0] 61)) = W0 at *
  refine (built0_calls cs aa n c A W0 (Lay.fr H.out.1 hx0.out (fun k hk => ⟨H.out.2.1 k hk, fun h => h⟩)) (fun k hk => Nat.lt_of_lt_of_le (H.out.2.1 k hk) hx0.out.size) H.out.2.2.2.1).mono ?_
  rintro e w1 ⟨g, a1, n1, c1, rfl, hB, hr, hx1⟩
  have H1 := Lib.hid (And.intro hB (And.intro hr (Ext.trans hx0.out hx1)))
  clear hB hr hx1
  go_wp2_with fail
  refine (CodeEntries_calls cs g a1 n1 c1 pe _ w1 H1.out.1 H1.out.2.1 (fun k hk => hk) (eof_frame H.out.2.2.1 H1.out.2.2 (fun h => h)) H.out.2.2.2.1 H.out.2.2.2.2).mono ?_
  rintro e w2 ⟨v, rfl, hr, hx2⟩
  obtain ⟨a3, c3, rfl, hlc, hcm⟩ := Lay.slice_form hr
  have hlen : ((cs.map entOf).length : Int) ≤ 9223372036854775807 := by simp only [maxLen] at hcm; omega
  have hml : (cs.map entOf).length = cs.length := List.length_map _
  have H2 := Lib.hid (And.intro hr (And.intro (Ext.trans H1.out.2.2 hx2) hml))
  rw [hml] at hlen ⊢
  clear hr hx2 hlc hcm
  go_wp2_with fail
  go_loopw [6, 8, 19] (fun s6 s8 s19 w' => ∃ (i : Nat), i ≤ cs.length ∧ s19 = .int .i64 i ∧ Hid (Own Lay.code 68 w2.heap.size w' s6 ((cs.map codeOf).take i) ∧ Ext w2 w')) (fun _ _ s19 _ => cs.length - (intOf s19).toNat)
  case atStart => exact ⟨0, Nat.zero_le _, rfl, own_nil _ _ _ _, Fr.refl _ _⟩
  case round =>
    obtain ⟨i, hi, rfl, hV⟩ := hrel
    obtain ⟨va1, va2, va3, rfl⟩ := hV.out.1.shape
    by_cases hlt : i < cs.length
    · obtain ⟨b, o, es, hi', rfl, hA1, -, hr, hc⟩ := Lay.slice_at (Lay.fr H2.out.1 hV.out.2 (fun k hk => ⟨hk.2, fun h => h⟩)) i (by rw [hml]; exact hlt)
      have htk := Lib.hid (show (cs.map codeOf).take (i + 1) = (cs.map codeOf).take i ++ [codeOf cs[i]] from by rw [List.take_succ_eq_append_getElem (by simpa using hlt)]; simp)
      have hcs := H.out.2.2.2.2 i hlt
      have hge : (cs.map entOf)[i] = entOf cs[i] := by simp
      rw [hge] at hr
      generalize cs[i] = x at *
      obtain ⟨k, ge, ds, rfl, hAg, hBg, s1, s2, e1, r1, r2⟩ := hr
      obtain ⟨f1, f2, f3, rfl⟩ : ∃ f1 f2 f3, s1 = [.slice f1 f2 f3] := by obtain ⟨aq, cq, e, -⟩ := r1; exact ⟨_, _, _, e⟩
      obtain ⟨g1, g2, g3, rfl⟩ : ∃ f1 f2 f3, s2 = [.slice f1 f2 f3] := by obtain ⟨aq, cq, e, -⟩ := r2; exact ⟨_, _, _, e⟩
      obtain rfl : ds = #[.slice f1 f2 f3, .slice g1 g2 g3] := Array.toList_inj.1 e1
      have e0 : wr.cell? ⟨b, o + i, none⟩ = some (.pointer (some ⟨ge, 0, none⟩)) := by have := hc 0 (by decide); rw [show o + i * Lay.entry.size + 0 = o + i from by show o + i * 1 + 0 = o + i; omega] at this; exact this
      have hfit : (entOf x).1.length ≤ 1048576 ∧ (entOf x).2.length ≤ 1048576 ∧ fitRL (entOf x).2 := by
        unfold entOf
        cases hp : pCode x with
        | none => exact absurd hp hcs.2.2
        | some q =>
          obtain ⟨ls, l, rest⟩ := q
          have hq := pCode_fit hp hcs.1
          have hq1 := hcs.1
          exact ⟨Nat.le_trans hq.1 hq1, Nat.le_trans hq.2.1 hq1, hq.2.2⟩
      have HP := Lib.hid (plainCode_calls k ge (entOf x).1 (entOf x).2 f1 g1 f2 g2 f3 g3 _ wr hBg r1 r2 (fun k hk => Nat.lt_of_lt_of_le hk.2 hV.out.2.size) (by omega) hfit.2.1 hfit.2.2)
      clear hc hA1 hi' hcs r1 r2 hAg hBg e1 hfit hge
      go_wp2_with fail
      refine HP.out.mono ?_
      rintro e w4 ⟨b1, m1, d1, b2, m2, d2, rfl, r1, r2, x4⟩
      have hO4 := hV.out.1.ext x4
      have hs2 := hV.out.2.size
      have hs4 := x4.size
      have hown := hV.out.1.lt
      have H4 := Lib.hid (And.intro r1 (And.intro r2 (And.intro x4 hO4)))
      clear r1 r2 x4 hO4 HP e0
      go_wp2_with (at_builtin; refine Hid.out ?_)
      refine own_append1n Lay.code w2.heap.size w4.heap.size rfl rfl (.tmp 23) (.tmp 26) _ _ _ 48 rfl Tryz.underlying48 infoCode rfl (by omega) (by decide) (.slice va1 va2 va3) ((cs.map codeOf).take i) (codeOf x) _ rfl rfl H4.out.2.2.2 ⟨k, [_], [_], rfl, Lay.mono _ H4.out.1 (fun k hk => ⟨by omega, hk.2, fun e => by have := (hown k e.symm).2; omega⟩), Lay.mono _ H4.out.2.1 (fun k hk => ⟨by omega, hk.2, fun e => by have := (hown k e.symm).2; omega⟩)⟩ (by omega) (by have := H.out.2.2.2.1; rw [List.length_take]; omega) ?_
      intro v1 w5 h1 h2 h3
      have hV5 : Hid (Own Lay.code 68 w2.heap.size w5 v1 ((cs.map codeOf).take (i + 1)) ∧ Ext w2 w5) := by
        rw [htk.out]
        exact ⟨h1, Fr.new (Ext.fr (Ext.trans hV.out.2 H4.out.2.2.1) h2) (fun k e => (hown k e.symm).1)⟩
      obtain ⟨vb1, vb2, vb3, rfl⟩ := h1.shape
      clear h1 h2 h3
      go_wp2
      go_roundw
      case rel => exact ⟨i + 1, by omega, by go_num, hV5⟩
      case measure => simp [intOf]; omega
    · obtain rfl : i = cs.length := by omega
      have hV' := hV.out
      rw [show (cs.map codeOf).take cs.length = cs.map codeOf from by rw [List.take_of_length_le (by simp)]] at hV'
      obtain ⟨ax, cx, e, -, -⟩ := hV'.1.form
      have hm2 : (cs.map codeOf).length = cs.length := List.length_map _
      rw [hm2] at e
      simp only [Value.slice.injEq] at e
      obtain ⟨rfl, rfl, rfl⟩ := e
      have hVf := Lib.hid hV'
      clear hV' hV
      go_wp2
      go_ret2
      exact ⟨_, _, rfl, Lay.mono _ hVf.out.1.slice (fun k hk => ⟨Nat.le_trans H2.out.2.1.size hk.1, hk.2⟩), Ext.trans H2.out.2.1 hVf.out.2⟩
end Go.Proofs.YtbdahjpdjamgiaaGreatDoor
