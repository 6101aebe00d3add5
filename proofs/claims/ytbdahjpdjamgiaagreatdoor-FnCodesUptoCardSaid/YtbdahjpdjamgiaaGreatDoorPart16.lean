/- Texts of this proof, one behind the other. -/
import Derived.Test.YtbdahjpdjamgiaaGreatDoorPart15
import Derived.Test.YtbdahjpdjamgiaaGreatDoorPart13
/- impl.plainCode. -/
namespace Go.Proofs.YtbdahjpdjamgiaaGreatDoor
open Go.RowKit
theorem infoLocP : (Tryz.prog.info? 135).map (fun i => (i.zero, i.size, i.bytes)) = some (some (.agg #[.int .u32 0, .int .i64 0]), Lay.loc.size, 16) := by kernel_rfl
set_option maxRecDepth 100000 in
set_option maxHeartbeats 2000000 in
theorem plainCode_calls (n ge : Nat) (ls : List (UInt32 × Int)) (l : List RI) (a1 a2 : Option Addr) (n1 n2 c1 c2 : Nat) (A : Nat → Prop) (w : World) (hB : Blk w ge #[.slice a1 n1 c1, .slice a2 n2 c2] 244) (h1 : Lay.loc.slice.rd A w [.slice a1 n1 c1] ls) (h2 : (Lay.ri n).slice.rd A w [.slice a2 n2 c2] l) (hA : ∀ k, A k → k < w.heap.size)
    (hln : ls.length ≤ 4294967296) (hll : l.length ≤ 1048576) (hfa : fitRL l) :
    Calls Tryz.prog 27 #[.pointer (some ⟨ge, 0, none⟩)] w fun e w' => ∃ b1 m1 d1 b2 m2 d2, e = .returned (.agg #[.slice b1 m1 d1, .slice b2 m2 d2]) ∧ Lay.loc.slice.rd (fun k => w.heap.size ≤ k ∧ k < w'.heap.size) w' [.slice b1 m1 d1] ls ∧ (Lay.ins n).slice.rd (fun k => w.heap.size ≤ k ∧ k < w'.heap.size) w' [.slice b2 m2 d2] (toIL l) ∧ Ext w w' := by
  obtain ⟨a', c', e, hlc, hcm⟩ := Lay.slice_form h1
  obtain ⟨rfl, rfl, rfl⟩ : a1 = a' ∧ n1 = ls.length ∧ c1 = c' := by simpa using e
  have hlen : (ls.length : Int) ≤ 9223372036854775807 := by omega
  have H := Lib.hid (And.intro h1 (And.intro h2 (And.intro hA (And.intro hln (And.intro hll (And.intro hfa hB))))))
  obtain ⟨W1, g, hW1, hg, H1⟩ : ∃ W1 g, Hid (((w.alloc (.cells #[.slice none 0 0, .slice none 0 0] 68)).alloc (.cells #[.slice none 0 0, .slice none 0 0] 68)) = W1) ∧ Hid (w.heap.size + 1 = g) ∧ Hid (Blk W1 g #[.slice none 0 0, .slice none 0 0] 68 ∧ Blk W1 w.heap.size #[.slice none 0 0, .slice none 0 0] 68 ∧ Ext w W1 ∧ w.heap.size + 1 = g) := by
    have := blk_new (w.alloc (.cells #[.slice none 0 0, .slice none 0 0] 68)) #[.slice none 0 0, .slice none 0 0] 68
    exact ⟨_, _, rfl, rfl, by simpa using this, (blk_new w _ _).ext (ext_alloc _ _), Ext.trans (ext_alloc _ _) (ext_alloc _ _), rfl⟩
  have hcE := fun o o' => ((hB.ext (ext_alloc w o)).ext (ext_alloc _ o')).cell
  clear h1 h2 hA hln hll hfa hlc hcm e hB
  go_enter Tryz.func27, Tryz.ntmps27
  go_wp2_with fail
  rw [hW1.out, hg.out]
  clear hcE hW1 hg
  go_loopw [12] (fun s12 w' => ∃ (i : Nat) (va : Value), i ≤ ls.length ∧ s12 = .int .i64 i ∧ Hid (Blk w' g #[va, .slice none 0 0] 68 ∧ Own Lay.loc 135 W1.heap.size w' va (ls.take i) ∧ Fr (fun k => k = g) W1 w')) (fun s12 _ => ls.length - (intOf s12).toNat)
  case atStart => exact ⟨0, _, Nat.zero_le _, rfl, H1.out.1, own_nil _ _ _ _, Fr.refl _ _⟩
  case round =>
    obtain ⟨i, va, hi, rfl, hV⟩ := hrel
    have hgs := H1.out.1.lt
    have hgw : w.heap.size < g := by have := H1.out.2.2.2; omega
    obtain ⟨va1, va2, va3, rfl⟩ := hV.out.2.1.shape
    by_cases hlt : i < ls.length
    · obtain ⟨b, o, rfl, hA1, e0, e1, hb0, hb1⟩ := loc_at (Lay.fr H.out.1 (Ext.fr H1.out.2.2.1 hV.out.2.2) (fun k hk => ⟨H.out.2.2.1 k hk, fun e => by have := H.out.2.2.1 k hk; have e' : k = g := e; omega⟩)) i hlt
      have hab := Lib.hid (And.intro hb0 hb1)
      have htk := Lib.hid (show ls.take (i + 1) = ls.take i ++ [ls[i]] from List.take_succ_eq_append_getElem hlt)
      generalize ls[i] = x at *
      obtain ⟨cn, ty⟩ := x
      simp only [] at e0 e1
      have hcg := hV.out.1.cell
      have hfg := hV.out.1.frz
      have hgwr := hV.out.1.lt
      clear hA1 hb0 hb1
      go_wp2_with (at_builtin; refine Hid.out ?_)
      have hxv := ext_alloc wr (.cells #[.int .u32 cn.toNat, .int .i64 ty] 246)
      refine own_append1n Lay.loc W1.heap.size (wr.heap.size + 1) (by simp) rfl (.tmp 17) (.tmp 23) _ _ _ 16 rfl Tryz.underlying65 infoLocP rfl (by omega) (by decide) (.slice va1 va2 va3) (ls.take i) (cn, ty) _ rfl rfl (hV.out.2.1.ext hxv) ⟨[_], [_], rfl, rfl, rfl, hab.out⟩ (Nat.le_trans hV.out.2.2.size hxv.size) (by have := H.out.2.2.2.1; rw [List.length_take]; omega) ?_
      intro v1 w4 h1 h2 h3
      have hne : ∀ k', k' = g → ¬ some k' = (Value.slice va1 va2 va3).ownBlock := fun k' e h => by have := (hV.out.2.1.lt k' h.symm).1; omega
      have hB5 := (hV.out.1.ext hxv).fr h2 (hne g rfl)
      have hc5 := hB5.cell
      have hf5 := hB5.frz
      have hO5 : Own Lay.loc 135 W1.heap.size w4 v1 (ls.take (i + 1)) := by rw [htk.out]; exact h1
      have hF5 : Fr (fun k => k = g) W1 w4 := Fr.trans (hV.out.2.2.ext hxv) h2 (fun _ _ h => h) (fun k hk e => absurd hk (by have := (hV.out.2.1.lt k e.symm).1; omega))
      obtain ⟨vb1, vb2, vb3, rfl⟩ := h1.shape
      have H5 := Lib.hid (And.intro hB5 (And.intro hO5 hF5))
      clear h1 h2 h3 hB5 hO5 hF5 hcg hfg hxv hne
      go_wp2_with fail
      have hV2 : Hid (Blk (w4.setCell ⟨g, 0, none⟩ (.slice vb1 vb2 vb3)) g #[.slice vb1 vb2 vb3, .slice none 0 0] 68 ∧ Own Lay.loc 135 W1.heap.size (w4.setCell ⟨g, 0, none⟩ (.slice vb1 vb2 vb3)) (.slice vb1 vb2 vb3) (ls.take (i + 1)) ∧ Fr (fun k => k = g) W1 (w4.setCell ⟨g, 0, none⟩ (.slice vb1 vb2 vb3))) := by
        refine ⟨?_, Own.only flat_loc H5.out.2.1 (fr_setCell _ _ _) (fun k' h e => by have := (H5.out.2.1.lt k' h).1; have e' : k' = g := e; omega), H5.out.2.2.setCell (.inl rfl) _⟩
        have := H5.out.1.set 0 (.slice vb1 vb2 vb3)
        simpa using this
      clear hc5 hf5
      go_roundw
      case rel => exact ⟨i + 1, _, by omega, by go_num, hV2⟩
      case measure => simp [intOf]; omega
    · obtain rfl : i = ls.length := by omega
      have hV' := hV.out
      rw [List.take_length] at hV'
      have hVf := Lib.hid hV'
      have hXr := Lib.hid (show Ext w wr from Fr.new (Ext.fr H1.out.2.2.1 hV'.2.2) (fun k e => by have e' : k = g := e; omega))
      have hce := (H.out.2.2.2.2.2.2.ext hXr.out).cell
      clear hV hV'
      go_wp2_with fail
      refine (plainInstrs_calls n l a2 n2 c2 A wr (Lay.fr H.out.2.1 hXr.out (fun k hk => ⟨H.out.2.2.1 k hk, fun h => h⟩)) (fun k hk => Nat.lt_of_lt_of_le (H.out.2.2.1 k hk) hXr.out.size) H.out.2.2.2.2.1 H.out.2.2.2.2.2.1).mono ?_
      rintro e w6 ⟨v6, rfl, o6, x6⟩
      obtain ⟨y1, y2, y3, rfl⟩ := o6.shape
      have hBg := hVf.out.1.ext x6
      have hBr := (H1.out.2.1.fr hVf.out.2.2 (fun e => by have e' : w.heap.size = g := e; omega)).ext x6
      have hcg := hBg.cell
      have hfg := hBg.frz
      have hcr := hBr.cell
      have hfr := hBr.frz
      have H6 := Lib.hid (And.intro hBg (And.intro hBr (And.intro o6 x6)))
      clear hBg hBr o6 x6 hce
      go_wp2
      have hset : Fr (fun k => k = g ∨ k = w.heap.size) w6 (((w6.setCell ⟨g, 1, none⟩ (.slice y1 y2 y3)).setCell ⟨w.heap.size, 0, none⟩ (.slice va1 va2 va3)).setCell ⟨w.heap.size, 1, none⟩ (.slice y1 y2 y3)) := Fr.setCell (Fr.setCell (Fr.setCell (Fr.refl (fun k => k = g ∨ k = w.heap.size) w6) (p := ⟨g, 1, none⟩) (.inl (.inl rfl)) _) (p := ⟨w.heap.size, 0, none⟩) (.inl (.inr rfl)) _) (p := ⟨w.heap.size, 1, none⟩) (.inl (.inr rfl)) _
      have hbl := (((H6.out.2.1.fr (fr_setCell w6 ⟨g, 1, none⟩ (.slice y1 y2 y3)) (fun e => by have e' : w.heap.size = g := e; omega)).set 0 (.slice va1 va2 va3)).set 1 (.slice y1 y2 y3)).cell
      have hfin := Lib.hid (show Lay.loc.slice.rd (fun k => w.heap.size ≤ k ∧ k < (((w6.setCell ⟨g, 1, none⟩ (.slice y1 y2 y3)).setCell ⟨w.heap.size, 0, none⟩ (.slice va1 va2 va3)).setCell ⟨w.heap.size, 1, none⟩ (.slice y1 y2 y3)).heap.size) (((w6.setCell ⟨g, 1, none⟩ (.slice y1 y2 y3)).setCell ⟨w.heap.size, 0, none⟩ (.slice va1 va2 va3)).setCell ⟨w.heap.size, 1, none⟩ (.slice y1 y2 y3)) [.slice va1 va2 va3] ls ∧ (Lay.ins n).slice.rd (fun k => w.heap.size ≤ k ∧ k < (((w6.setCell ⟨g, 1, none⟩ (.slice y1 y2 y3)).setCell ⟨w.heap.size, 0, none⟩ (.slice va1 va2 va3)).setCell ⟨w.heap.size, 1, none⟩ (.slice y1 y2 y3)).heap.size) (((w6.setCell ⟨g, 1, none⟩ (.slice y1 y2 y3)).setCell ⟨w.heap.size, 0, none⟩ (.slice va1 va2 va3)).setCell ⟨w.heap.size, 1, none⟩ (.slice y1 y2 y3)) [.slice y1 y2 y3] (toIL l) ∧ Ext w (((w6.setCell ⟨g, 1, none⟩ (.slice y1 y2 y3)).setCell ⟨w.heap.size, 0, none⟩ (.slice va1 va2 va3)).setCell ⟨w.heap.size, 1, none⟩ (.slice y1 y2 y3)) from by
        have hs1 := hset.size
        have hs2 := H6.out.2.2.2.size
        have hs3 := hXr.out.size
        have hs4 := H1.out.2.2.1.size
        have hgr := hVf.out.1.lt
        refine ⟨Lay.mono _ (Lay.fr (hVf.out.2.1.ext H6.out.2.2.2).slice hset (fun k hk => ⟨hk.2, fun e => by have := hk.1; rcases e with e | e <;> omega⟩)) (fun k hk => ⟨by omega, by omega⟩), Lay.mono _ (Lay.fr H6.out.2.2.1.slice hset (fun k hk => ⟨hk.2, fun e => by have := hk.1; rcases e with e | e <;> omega⟩)) (fun k hk => ⟨by omega, by omega⟩), ?_⟩
        exact (Ext.fr (Ext.trans hXr.out H6.out.2.2.2) hset).mono (fun k hk e => by rcases e with e | e <;> omega))
      clear hset hcr hfr hcg hfg
      exact bodyPost_ret (v := .agg #[.slice va1 va2 va3, .slice y1 y2 y3]) (by simp [results, Tryz.results27, go_sem, hbl]) rfl ⟨_, _, _, _, _, _, rfl, hfin.out⟩
end Go.Proofs.YtbdahjpdjamgiaaGreatDoor
/- encoding.readCodeEntry, ReadCodeEntry. -/
namespace Go.Proofs.YtbdahjpdjamgiaaGreatDoor
open Go.RowKit
/-- What a code entry reads as: some: it is one. -/
def pCode (bs : List UInt8) : Option (List (UInt32 × Int) × List RI × List UInt8) :=
  match pLoc bs with
  | none => none
  | some (ls, r) => match pIns (r.length + 1) r with
    | .ok l rest => some (ls, l, rest)
    | _ => none
/-- Nothing odd is met. -/
def pEven (bs : List UInt8) : Prop := ∀ ls r, pLoc bs = some (ls, r) → pIns (r.length + 1) r ≠ .odd
theorem pLocals_shorter : ∀ (n : Nat) (bs : List UInt8) {ls : List (UInt32 × Int)} {r : List UInt8}, pLocals n bs = some (ls, r) → r.length + 2 * n ≤ bs.length ∧ ls.length = n
  | 0, bs, ls, r, h => by
    simp only [pLocals, Option.some.injEq, Prod.mk.injEq] at h
    rw [← h.1, ← h.2]; exact ⟨Nat.le_refl _, rfl⟩
  | n + 1, bs, ls, r, h => by
    unfold pLocals at h
    split at h
    · cases h
    · cases h
    · rename_i m c r' hr
      have h1 := readU_shorter _ _ _ hr
      simp only [List.length_cons] at h1
      split at h
      · cases hp : pLocals n r' with
        | none => rw [hp] at h; cases h
        | some q =>
          obtain ⟨ls', r''⟩ := q
          rw [hp] at h
          simp only [Option.map_some, Option.some.injEq, Prod.mk.injEq] at h
          obtain ⟨h2, h3⟩ := pLocals_shorter n r' hp
          rw [← h.1, ← h.2]
          simp only [List.length_cons]
          omega
      · cases h
theorem pLoc_shorter {bs : List UInt8} {ls : List (UInt32 × Int)} {r : List UInt8} (h : pLoc bs = some (ls, r)) : r.length < bs.length ∧ ls.length ≤ bs.length := by
  unfold pLoc at h
  split at h
  · cases h
  · rename_i n r' hr
    have h1 := readU_shorter _ _ _ hr
    have h2 := pLocals_shorter _ _ h
    omega
set_option maxRecDepth 100000 in
set_option maxHeartbeats 1000000 in
theorem readCodeEntry_rd (S : Rdr) (D F : Nat → Prop) (g : Nat) (pe : Addr) (bs : List UInt8) (w : World) (hS : RdS S D F g pe bs w) (hl : bs.length ≤ 1048576) (hev : pEven bs) :
    Calls Tryz.prog 58 #[.iface S.T (.pointer (some ⟨g, 0, none⟩))] w fun e w' =>
      (∃ ls l rest n ge s1 s2, pCode bs = some (ls, l, rest) ∧ e = .returned (.tuple #[.pointer (some ⟨ge, 0, none⟩), .nilIface]) ∧ RdS S D F g pe rest w' ∧ Blk w' ge #[s1, s2] 244 ∧ Lay.loc.slice.rd (fun k => w.heap.size ≤ k ∧ k < w'.heap.size) w' [s1] ls ∧ (Lay.ri n).slice.rd (fun k => w.heap.size ≤ k ∧ k < w'.heap.size) w' [s2] l ∧ w.heap.size ≤ ge ∧ Fr F w w') ∨
      (pCode bs = none ∧ (∃ x te ve, e = .returned (.tuple #[x, .iface te ve])) ∧ Fr F w w') := by
  have hlt := S.lt hS.is
  have hel := cell_lt hS.cell
  have H := Lib.hid (And.intro hlt (And.intro hel (And.intro hl hev)))
  have hx0 := ext_alloc w (.cells #[.slice none 0 0, .slice none 0 0] 244)
  obtain ⟨W1, ge, hW1, hge, H1⟩ : ∃ W1 ge, Hid ((w.alloc (.cells #[.slice none 0 0, .slice none 0 0] 244)) = W1) ∧ Hid (w.heap.size = ge) ∧ Hid (Blk W1 ge #[.slice none 0 0, .slice none 0 0] 244 ∧ RdS S D F g pe bs W1 ∧ Ext w W1 ∧ w.heap.size = ge ∧ ¬ F ge ∧ ¬ D ge ∧ ge ≠ eofAt.block) :=
    ⟨_, _, rfl, rfl, blk_new _ _ _, hS.ext hx0, hx0, rfl, fun h => by have := hlt.2.1 _ h; omega, fun h => by have := (hlt.2.2 _ h).1; omega, by show w.heap.size ≠ 2; have h5 : 2 < w.heap.size := hel; omega⟩
  clear hS hlt hel hl hev hx0
  go_enter Tryz.func58, Tryz.ntmps58
  go_wp2_with fail
  rw [hW1.out, hge.out]
  refine (readLocals_rd S D F g ge pe bs _ _ W1 H1.out.2.1 H1.out.1 (by decide) H1.out.2.2.2.2.1 H1.out.2.2.2.2.2.1 H1.out.2.2.2.2.2.2).mono ?_
  rintro e w2 (⟨ls, r, sl, hp, rfl, k1, k2, k3, k4⟩ | ⟨hp, ⟨te, ve, rfl⟩, k4⟩)
  · have hsh := pLoc_shorter hp
    have H2 : Hid (Blk w2 ge #[sl, .slice none 0 0] 244 ∧ RdS S D F g pe r w2 ∧ Lay.loc.slice.rd (fun k => W1.heap.size ≤ k ∧ k < w2.heap.size) w2 [sl] ls ∧ Fr (fun k => F k ∨ k = ge) W1 w2 ∧ pLoc bs = some (ls, r)) := ⟨k2, k1, k3, k4, hp⟩
    clear k1 k2 k3 k4 hp
    have hl := H.out.2.2.1
    go_wp2_with fail
    refine (readExpr_rd S D F g pe (r.length + 1) r ge 1 _ _ w2 H2.out.2.1 H2.out.1 (by show 1 < 2; omega) H1.out.2.2.2.2.1 H1.out.2.2.2.2.2.1 H1.out.2.2.2.2.2.2 (by omega) (H.out.2.2.2 ls r H2.out.2.2.2.2)).mono ?_
    rintro e w3 (⟨l, rest, s2, hp, rfl, k1, k2, k3, k4⟩ | ⟨hp, ⟨te, ve, rfl⟩, k4⟩)
    · have hfin : Hid (pCode bs = some (ls, l, rest) ∧ RdS S D F g pe rest w3 ∧ Blk w3 ge #[sl, s2] 244 ∧ Lay.loc.slice.rd (fun k => w.heap.size ≤ k ∧ k < w3.heap.size) w3 [sl] ls ∧ (Lay.ri (r.length + 1)).slice.rd (fun k => w.heap.size ≤ k ∧ k < w3.heap.size) w3 [s2] l ∧ w.heap.size ≤ ge ∧ Fr F w w3) := by
        have hg1 := H1.out.2.2.2.1
        have hs1 := H1.out.1.lt
        have hs2 := H2.out.2.2.2.1.size
        have hs3 := k4.size
        have hL := H.out
        refine ⟨by unfold pCode; rw [H2.out.2.2.2.2]; simp only []; rw [hp], k1, k2, Lay.mono _ (Lay.fr H2.out.2.2.1 k4 (fun k hk => ⟨hk.2, fun e => by rcases e with e | e; exact absurd hk.1 (by have := hL.1.2.1 k e; omega); omega⟩)) (fun k hk => ⟨by omega, by omega⟩), Lay.mono _ k3 (fun k hk => ⟨by omega, hk.2⟩), by omega, ?_⟩
        exact (Ext.fr H1.out.2.2.1 (H2.out.2.2.2.1.trans k4 (fun _ _ h => h) (fun _ _ h => h))).mono (fun k hk e => e.elim id (fun e => by omega))
      clear k1 k2 k3 k4 hp
      go_wp2
      go_ret2
      exact .inl ⟨ls, l, rest, r.length + 1, ge, sl, s2, hfin.out.1, rfl, hfin.out.2⟩
    · have hfin : Hid (pCode bs = none ∧ Fr F w w3) := by
        have hg1 := H1.out.2.2.2.1
        refine ⟨by unfold pCode; rw [H2.out.2.2.2.2]; simp only []; rw [hp], ?_⟩
        exact (Ext.fr H1.out.2.2.1 (H2.out.2.2.2.1.trans k4 (fun _ _ h => h) (fun _ _ h => h))).mono (fun k hk e => e.elim id (fun e => by omega))
      clear k4 hp
      go_wp2
      go_ret2
      exact .inr ⟨hfin.out.1, ⟨_, _, _, rfl⟩, hfin.out.2⟩
  · have hfin : Hid (pCode bs = none ∧ Fr F w w2) := by
      have hg1 := H1.out.2.2.2.1
      refine ⟨by unfold pCode; rw [hp], ?_⟩
      exact (Ext.fr H1.out.2.2.1 k4).mono (fun k hk e => e.elim id (fun e => by omega))
    clear k4 hp
    go_wp2
    go_ret2
    exact .inr ⟨hfin.out.1, ⟨_, _, _, rfl⟩, hfin.out.2⟩
set_option maxRecDepth 100000 in
set_option maxHeartbeats 1000000 in
theorem ReadCodeEntry_rd (S : Rdr) (D F : Nat → Prop) (g : Nat) (pe : Addr) (bs : List UInt8) (w : World) (hS : RdS S D F g pe bs w) (hl : bs.length ≤ 1048576) (hev : pEven bs) :
    Calls Tryz.prog 48 #[.iface S.T (.pointer (some ⟨g, 0, none⟩))] w fun e w' =>
      (∃ ls l rest n ge s1 s2, pCode bs = some (ls, l, rest) ∧ e = .returned (.tuple #[.pointer (some ⟨ge, 0, none⟩), .nilIface]) ∧ Blk w' ge #[s1, s2] 244 ∧ Lay.loc.slice.rd (fun k => w.heap.size ≤ k ∧ k < w'.heap.size) w' [s1] ls ∧ (Lay.ri n).slice.rd (fun k => w.heap.size ≤ k ∧ k < w'.heap.size) w' [s2] l ∧ w.heap.size ≤ ge ∧ Fr F w w') ∨
      (pCode bs = none ∧ (∃ x te ve, e = .returned (.tuple #[x, .iface te ve])) ∧ Fr F w w') := by
  have hlt := S.lt hS.is
  have hel := cell_lt hS.cell
  have hx0 := ext_alloc w (.cells #[.iface S.T (.pointer (some ⟨g, 0, none⟩)), .int .i64 0] 265)
  have hgF : ¬ F w.heap.size := fun h => by have := hlt.2.1 _ h; omega
  have hgD : ¬ D w.heap.size := fun h => by have := (hlt.2.2 _ h).1; omega
  have HC := Lib.hid (readCodeEntry_rd (encR S) D (fun k => k = w.heap.size ∨ F k) w.heap.size pe bs (w.alloc (.cells #[.iface S.T (.pointer (some ⟨g, 0, none⟩)), .int .i64 0] 265))
    ⟨⟨g, F, 0, blk_new _ _ _, S.frame hS.is hx0 (fun _ _ h => h) (fun _ _ h => h), hgF, hgD, fun k => Iff.rfl⟩, eof_frame hS.cell hx0 (fun h => h), fun e => e.elim (fun e => by have e' : 2 = w.heap.size := e; have h5 : 2 < w.heap.size := hel; omega) hS.nf, hS.len⟩ hl hev)
  have hx0 := Lib.hid hx0
  clear hS hl hev hlt hel hgF hgD
  go_enter Tryz.func48, Tryz.ntmps48
  go_wp2_with fail
  refine HC.out.mono ?_
  rintro e w2 (⟨ls, l, rest, n, ge, s1, s2, hp, rfl, -, k2, k3, k4, k5, k6⟩ | ⟨hp, ⟨x, te, ve, rfl⟩, k6⟩)
  · have hn1 : (w.alloc (.cells #[.iface S.T (.pointer (some ⟨g, 0, none⟩)), .int .i64 0] 265)).heap.size = w.heap.size + 1 := by simp
    rw [hn1] at k3 k4 k5
    have hfin := Lib.hid (And.intro hp (And.intro k2 (And.intro (Lay.mono _ k3 (fun k hk => (⟨by omega, hk.2⟩ : w.heap.size ≤ k ∧ k < w2.heap.size))) (And.intro (Lay.mono _ k4 (fun k hk => (⟨by omega, hk.2⟩ : w.heap.size ≤ k ∧ k < w2.heap.size))) (And.intro (show w.heap.size ≤ ge from by omega) (show Fr F w w2 from (Ext.fr hx0.out k6).mono (fun k hk e => e.elim (fun e => by omega) id)))))))
    clear hp k2 k3 k4 k5 k6 hn1 HC
    go_wp2
    go_ret2
    exact .inl ⟨ls, l, rest, n, ge, s1, s2, hfin.out.1, rfl, hfin.out.2⟩
  · have hfin := Lib.hid (And.intro hp (show Fr F w w2 from (Ext.fr hx0.out k6).mono (fun k hk e => e.elim (fun e => by omega) id)))
    clear hp k6 HC
    go_wp2
    go_ret2
    exact .inr ⟨hfin.out.1, ⟨_, _, _, rfl⟩, hfin.out.2⟩
theorem pIns_fit : ∀ (f : Nat) (bs : List UInt8) {l : List RI} {r : List UInt8}, pIns f bs = .ok l r → bs.length ≤ 1048576 → l.length + r.length ≤ bs.length ∧ fitRL l
  | 0, _, _, _, h, _ => by cases h
  | _ + 1, [], _, _, h, _ => by cases h
  | f + 1, c :: r0, l, r, h, hl => by
    have app : ∀ {x : RI} {bs : List UInt8}, (pIns f bs).app [x] = .ok l r → bs.length ≤ r0.length → fitR1 x → l.length + r.length ≤ r0.length + 1 ∧ fitRL l := fun {x bs} h hb hx => by
      cases hp : pIns f bs with
      | ok l' r' =>
        rw [hp] at h
        simp only [PO.app, PO.ok.injEq, List.singleton_append] at h
        obtain ⟨rfl, rfl⟩ := h
        have := pIns_fit f bs hp (by simp only [List.length_cons] at hl; omega)
        refine ⟨by simp only [List.length_cons]; omega, ?_⟩
        rw [fitRL]
        exact ⟨hx, this.2⟩
      | bad => rw [hp] at h; cases h
      | odd => rw [hp] at h; cases h
    simp only [List.length_cons] at hl ⊢
    unfold pIns at h
    split at h
    · split at h
      · cases h
      · have := readS_shorter _ _ _ ‹_›; exact app h (by omega) trivial
    · split at h
      · split at h
        · cases h
        · have := readS_shorter _ _ _ ‹_›; exact app h (by omega) trivial
      · split at h
        · exact app h (by omega) trivial
        · split at h
          · split at h
            · cases h
            · have := readU_shorter _ _ _ ‹_›; exact app h (by omega) trivial
          · split at h
            · split at h
              · cases h
              · cases h
              · have h2 := readU_shorter _ _ _ ‹_›; simp only [List.length_cons] at h2; exact app h (by omega) trivial
            · split at h
              · exact app h (by omega) trivial
              · split at h
                · split at h
                  · cases h
                  · split at h
                    · cases h
                    · split at h
                      · rename_i b r1 hb64 l1 r2 hp1
                        simp only [List.length_cons] at hl
                        have h2 := pIns_fit f _ hp1 (by omega)
                        exact app h (by simp only [List.length_cons]; omega) (by rw [fitR1]; exact ⟨by omega, h2.2⟩)
                      · cases h
                      · cases h
                · split at h
                  · simp only [PO.ok.injEq] at h; obtain ⟨rfl, rfl⟩ := h; exact ⟨by simp only [List.length_nil]; omega, by rw [fitRL]; trivial⟩
                  · cases h
end Go.Proofs.YtbdahjpdjamgiaaGreatDoor
