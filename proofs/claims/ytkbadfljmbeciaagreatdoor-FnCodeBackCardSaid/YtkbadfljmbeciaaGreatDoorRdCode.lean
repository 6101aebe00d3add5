/- encoding.readCodeEntry, ReadCodeEntry; impl.ReadCode. -/
import Derived.Test.YtkbadfljmbeciaaGreatDoorRdExpr
import Derived.Test.YtkbadfljmbeciaaGreatDoorPlainCode
namespace Go.Proofs.YtkbadfljmbeciaaGreatDoor
open Go.RowKit
/-- What a code entry reads as: some: it is one. -/
def pCode (bs : List UInt8) : Option (List (UInt32 × Int) × List RI × List UInt8) :=
  match pLoc bs with
  | none => none
  | some (ls, r) => match pIns (r.length + 1) r with
    | .ok l rest => some (ls, l, rest)
    | _ => none
/-- Nothing odd is met. -/
def pEven (bs : List UInt8) : Prop := ∀ ls r, pLoc bs = some (ls, r) → pIns (r.length + 1) r ≠ .odd
theorem pLocals_shorter : ∀ (n : Nat) (bs : List UInt8) {ls : List (UInt32 × Int)} {r : List UInt8}, pLocals n bs = some (ls, r) → r.length + 2 * n ≤ bs.length ∧ ls.length = n
  | 0, bs, ls, r, h => by
    simp only [pLocals, Option.some.injEq, Prod.mk.injEq] at h
    rw [← h.1, ← h.2]; exact ⟨Nat.le_refl _, rfl⟩
  | n + 1, bs, ls, r, h => by
    unfold pLocals at h
    split at h
    · cases h
    · cases h
    · rename_i m c r' hr
      have h1 := readU_shorter _ _ _ hr
      simp only [List.length_cons] at h1
      split at h
      · cases hp : pLocals n r' with
        | none => rw [hp] at h; cases h
        | some q =>
          obtain ⟨ls', r''⟩ := q
          rw [hp] at h
          simp only [Option.map_some, Option.some.injEq, Prod.mk.injEq] at h
          obtain ⟨h2, h3⟩ := pLocals_shorter n r' hp
          rw [← h.1, ← h.2]
          simp only [List.length_cons]
          omega
      · cases h
theorem pLoc_shorter {bs : List UInt8} {ls : List (UInt32 × Int)} {r : List UInt8} (h : pLoc bs = some (ls, r)) : r.length < bs.length ∧ ls.length ≤ bs.length := by
  unfold pLoc at h
  split at h
  · cases h
  · rename_i n r' hr
    have h1 := readU_shorter _ _ _ hr
    have h2 := pLocals_shorter _ _ h
    omega
set_option maxRecDepth 100000 in
set_option maxHeartbeats 1000000 in
theorem readCodeEntry_rd (S : Rdr) (D F : Nat → Prop) (g : Nat) (pe : Addr) (bs : List UInt8) (w : World) (hS : RdS S D F g pe bs w) (hl : bs.length ≤ 1048576) (hev : pEven bs) :
    Calls Tryz.prog 65 #[.iface S.T (.pointer (some ⟨g, 0, none⟩))] w fun e w' =>
      (∃ ls l rest n ge s1 s2, pCode bs = some (ls, l, rest) ∧ e = .returned (.tuple #[.pointer (some ⟨ge, 0, none⟩), .nilIface]) ∧ RdS S D F g pe rest w' ∧ Blk w' ge #[s1, s2] 154 ∧ Lay.loc.slice.rd (fun k => w.heap.size ≤ k ∧ k < w'.heap.size) w' [s1] ls ∧ (Lay.ri n).slice.rd (fun k => w.heap.size ≤ k ∧ k < w'.heap.size) w' [s2] l ∧ w.heap.size ≤ ge ∧ Fr F w w') ∨
      (pCode bs = none ∧ (∃ x te ve, e = .returned (.tuple #[x, .iface te ve])) ∧ Fr F w w') := by
  have hlt := S.lt hS.is
  have hel := cell_lt hS.cell
  have H := Lib.hid (And.intro hlt (And.intro hel (And.intro hl hev)))
  have hx0 := ext_alloc w (.cells #[.slice none 0 0, .slice none 0 0] 154)
  obtain ⟨W1, ge, hW1, hge, H1⟩ : ∃ W1 ge, Hid ((w.alloc (.cells #[.slice none 0 0, .slice none 0 0] 154)) = W1) ∧ Hid (w.heap.size = ge) ∧ Hid (Blk W1 ge #[.slice none 0 0, .slice none 0 0] 154 ∧ RdS S D F g pe bs W1 ∧ Ext w W1 ∧ w.heap.size = ge ∧ ¬ F ge ∧ ¬ D ge ∧ ge ≠ eofAt.block) :=
    ⟨_, _, rfl, rfl, blk_new _ _ _, hS.ext hx0, hx0, rfl, fun h => by have := hlt.2.1 _ h; omega, fun h => by have := (hlt.2.2 _ h).1; omega, by show w.heap.size ≠ 2; have h5 : 2 < w.heap.size := hel; omega⟩
  clear hS hlt hel hl hev hx0
  go_enter Tryz.func65, Tryz.ntmps65
  go_wp2_with fail
  rw [hW1.out, hge.out]
  refine (readLocals_rd S D F g ge pe bs _ _ W1 H1.out.2.1 H1.out.1 (by decide) H1.out.2.2.2.2.1 H1.out.2.2.2.2.2.1 H1.out.2.2.2.2.2.2).mono ?_
  rintro e w2 (⟨ls, r, sl, hp, rfl, k1, k2, k3, k4⟩ | ⟨hp, ⟨te, ve, rfl⟩, k4⟩)
  · have hsh := pLoc_shorter hp
    have H2 : Hid (Blk w2 ge #[sl, .slice none 0 0] 154 ∧ RdS S D F g pe r w2 ∧ Lay.loc.slice.rd (fun k => W1.heap.size ≤ k ∧ k < w2.heap.size) w2 [sl] ls ∧ Fr (fun k => F k ∨ k = ge) W1 w2 ∧ pLoc bs = some (ls, r)) := ⟨k2, k1, k3, k4, hp⟩
    clear k1 k2 k3 k4 hp
    have hl := H.out.2.2.1
    go_wp2_with fail
    refine (readExpr_rd S D F g pe (r.length + 1) r ge 1 _ _ w2 H2.out.2.1 H2.out.1 (by show 1 < 2; omega) H1.out.2.2.2.2.1 H1.out.2.2.2.2.2.1 H1.out.2.2.2.2.2.2 (by omega) (H.out.2.2.2 ls r H2.out.2.2.2.2)).mono ?_
    rintro e w3 (⟨l, rest, s2, hp, rfl, k1, k2, k3, k4⟩ | ⟨hp, ⟨te, ve, rfl⟩, k4⟩)
    · have hfin : Hid (pCode bs = some (ls, l, rest) ∧ RdS S D F g pe rest w3 ∧ Blk w3 ge #[sl, s2] 154 ∧ Lay.loc.slice.rd (fun k => w.heap.size ≤ k ∧ k < w3.heap.size) w3 [sl] ls ∧ (Lay.ri (r.length + 1)).slice.rd (fun k => w.heap.size ≤ k ∧ k < w3.heap.size) w3 [s2] l ∧ w.heap.size ≤ ge ∧ Fr F w w3) := by
        have hg1 := H1.out.2.2.2.1
        have hs1 := H1.out.1.lt
        have hs2 := H2.out.2.2.2.1.size
        have hs3 := k4.size
        have hL := H.out
        refine ⟨by unfold pCode; rw [H2.out.2.2.2.2]; simp only []; rw [hp], k1, k2, Lay.mono _ (Lay.fr H2.out.2.2.1 k4 (fun k hk => ⟨hk.2, fun e => by rcases e with e | e; exact absurd hk.1 (by have := hL.1.2.1 k e; omega); omega⟩)) (fun k hk => ⟨by omega, by omega⟩), Lay.mono _ k3 (fun k hk => ⟨by omega, hk.2⟩), by omega, ?_⟩
        exact (Ext.fr H1.out.2.2.1 (H2.out.2.2.2.1.trans k4 (fun _ _ h => h) (fun _ _ h => h))).mono (fun k hk e => e.elim id (fun e => by omega))
      clear k1 k2 k3 k4 hp
      go_wp2
      go_ret2
      exact .inl ⟨ls, l, rest, r.length + 1, ge, sl, s2, hfin.out.1, rfl, hfin.out.2⟩
    · have hfin : Hid (pCode bs = none ∧ Fr F w w3) := by
        have hg1 := H1.out.2.2.2.1
        refine ⟨by unfold pCode; rw [H2.out.2.2.2.2]; simp only []; rw [hp], ?_⟩
        exact (Ext.fr H1.out.2.2.1 (H2.out.2.2.2.1.trans k4 (fun _ _ h => h) (fun _ _ h => h))).mono (fun k hk e => e.elim id (fun e => by omega))
      clear k4 hp
      go_wp2
      go_ret2
      exact .inr ⟨hfin.out.1, ⟨_, _, _, rfl⟩, hfin.out.2⟩
  · have hfin : Hid (pCode bs = none ∧ Fr F w w2) := by
      have hg1 := H1.out.2.2.2.1
      refine ⟨by unfold pCode; rw [hp], ?_⟩
      exact (Ext.fr H1.out.2.2.1 k4).mono (fun k hk e => e.elim id (fun e => by omega))
    clear k4 hp
    go_wp2
    go_ret2
    exact .inr ⟨hfin.out.1, ⟨_, _, _, rfl⟩, hfin.out.2⟩
set_option maxRecDepth 100000 in
set_option maxHeartbeats 1000000 in
theorem ReadCodeEntry_rd (S : Rdr) (D F : Nat → Prop) (g : Nat) (pe : Addr) (bs : List UInt8) (w : World) (hS : RdS S D F g pe bs w) (hl : bs.length ≤ 1048576) (hev : pEven bs) :
    Calls Tryz.prog 41 #[.iface S.T (.pointer (some ⟨g, 0, none⟩))] w fun e w' =>
      (∃ ls l rest n ge s1 s2, pCode bs = some (ls, l, rest) ∧ e = .returned (.tuple #[.pointer (some ⟨ge, 0, none⟩), .nilIface]) ∧ Blk w' ge #[s1, s2] 154 ∧ Lay.loc.slice.rd (fun k => w.heap.size ≤ k ∧ k < w'.heap.size) w' [s1] ls ∧ (Lay.ri n).slice.rd (fun k => w.heap.size ≤ k ∧ k < w'.heap.size) w' [s2] l ∧ w.heap.size ≤ ge ∧ Fr F w w') ∨
      (pCode bs = none ∧ (∃ x te ve, e = .returned (.tuple #[x, .iface te ve])) ∧ Fr F w w') := by
  have hlt := S.lt hS.is
  have hel := cell_lt hS.cell
  have hx0 := ext_alloc w (.cells #[.iface S.T (.pointer (some ⟨g, 0, none⟩)), .int .i64 0] 283)
  have hgF : ¬ F w.heap.size := fun h => by have := hlt.2.1 _ h; omega
  have hgD : ¬ D w.heap.size := fun h => by have := (hlt.2.2 _ h).1; omega
  have HC := Lib.hid (readCodeEntry_rd (encR S) D (fun k => k = w.heap.size ∨ F k) w.heap.size pe bs (w.alloc (.cells #[.iface S.T (.pointer (some ⟨g, 0, none⟩)), .int .i64 0] 283))
    ⟨⟨g, F, 0, blk_new _ _ _, S.frame hS.is hx0 (fun _ _ h => h) (fun _ _ h => h), hgF, hgD, fun k => Iff.rfl⟩, eof_frame hS.cell hx0 (fun h => h), fun e => e.elim (fun e => by have e' : 2 = w.heap.size := e; have h5 : 2 < w.heap.size := hel; omega) hS.nf, hS.len⟩ hl hev)
  have hx0 := Lib.hid hx0
  clear hS hl hev hlt hel hgF hgD
  go_enter Tryz.func41, Tryz.ntmps41
  go_wp2_with fail
  refine HC.out.mono ?_
  rintro e w2 (⟨ls, l, rest, n, ge, s1, s2, hp, rfl, -, k2, k3, k4, k5, k6⟩ | ⟨hp, ⟨x, te, ve, rfl⟩, k6⟩)
  · have hn1 : (w.alloc (.cells #[.iface S.T (.pointer (some ⟨g, 0, none⟩)), .int .i64 0] 283)).heap.size = w.heap.size + 1 := by simp
    rw [hn1] at k3 k4 k5
    have hfin := Lib.hid (And.intro hp (And.intro k2 (And.intro (Lay.mono _ k3 (fun k hk => (⟨by omega, hk.2⟩ : w.heap.size ≤ k ∧ k < w2.heap.size))) (And.intro (Lay.mono _ k4 (fun k hk => (⟨by omega, hk.2⟩ : w.heap.size ≤ k ∧ k < w2.heap.size))) (And.intro (show w.heap.size ≤ ge from by omega) (show Fr F w w2 from (Ext.fr hx0.out k6).mono (fun k hk e => e.elim (fun e => by omega) id)))))))
    clear hp k2 k3 k4 k5 k6 hn1 HC
    go_wp2
    go_ret2
    exact .inl ⟨ls, l, rest, n, ge, s1, s2, hfin.out.1, rfl, hfin.out.2⟩
  · have hfin := Lib.hid (And.intro hp (show Fr F w w2 from (Ext.fr hx0.out k6).mono (fun k hk e => e.elim (fun e => by omega) id)))
    clear hp k6 HC
    go_wp2
    go_ret2
    exact .inr ⟨hfin.out.1, ⟨_, _, _, rfl⟩, hfin.out.2⟩
theorem pIns_fit : ∀ (f : Nat) (bs : List UInt8) {l : List RI} {r : List UInt8}, pIns f bs = .ok l r → bs.length ≤ 1048576 → l.length + r.length ≤ bs.length ∧ fitRL l
  | 0, _, _, _, h, _ => by cases h
  | _ + 1, [], _, _, h, _ => by cases h
  | f + 1, c :: r0, l, r, h, hl => by
    have app : ∀ {x : RI} {bs : List UInt8}, (pIns f bs).app [x] = .ok l r → bs.length ≤ r0.length → fitR1 x → l.length + r.length ≤ r0.length + 1 ∧ fitRL l := fun {x bs} h hb hx => by
      cases hp : pIns f bs with
      | ok l' r' =>
        rw [hp] at h
        simp only [PO.app, PO.ok.injEq, List.singleton_append] at h
        obtain ⟨rfl, rfl⟩ := h
        have := pIns_fit f bs hp (by simp only [List.length_cons] at hl; omega)
        refine ⟨by simp only [List.length_cons]; omega, ?_⟩
        rw [fitRL]
        exact ⟨hx, this.2⟩
      | bad => rw [hp] at h; cases h
      | odd => rw [hp] at h; cases h
    simp only [List.length_cons] at hl ⊢
    unfold pIns at h
    split at h
    · split at h
      · cases h
      · have := readS_shorter _ _ _ ‹_›; exact app h (by omega) trivial
    · split at h
      · split at h
        · cases h
        · have := readS_shorter _ _ _ ‹_›; exact app h (by omega) trivial
      · split at h
        · exact app h (by omega) trivial
        · split at h
          · split at h
            · cases h
            · have := readU_shorter _ _ _ ‹_›; exact app h (by omega) trivial
          · split at h
            · split at h
              · cases h
              · cases h
              · have h2 := readU_shorter _ _ _ ‹_›; simp only [List.length_cons] at h2; exact app h (by omega) trivial
            · split at h
              · exact app h (by omega) trivial
              · split at h
                · split at h
                  · cases h
                  · split at h
                    · cases h
                    · split at h
                      · rename_i b r1 hb64 l1 r2 hp1
                        simp only [List.length_cons] at hl
                        have h2 := pIns_fit f _ hp1 (by omega)
                        exact app h (by simp only [List.length_cons]; omega) (by rw [fitR1]; exact ⟨by omega, h2.2⟩)
                      · cases h
                      · cases h
                · split at h
                  · simp only [PO.ok.injEq] at h; obtain ⟨rfl, rfl⟩ := h; exact ⟨by simp only [List.length_nil]; omega, by rw [fitRL]; trivial⟩
                  · cases h
theorem isR_fresh {A : Nat → Prop} {w : World} {bs : List UInt8} {aa : Option Addr} {cap : Nat} (hR : Lay.u8.slice.rd A w [.slice aa bs.length cap] bs) (hA : ∀ k, A k → k < w.heap.size) (hl : bs.length ≤ 140737488355328) :
    IsR A w.heap.size bs (w.alloc (.cells #[.slice aa bs.length cap, .slice none 0 0, .int .i64 0] 159)) :=
  ⟨aa, cap, none, 0, 0, 0, [], blk_new w _ _, Lay.fr hR (ext_alloc w _) (fun k hk => ⟨hA k hk, fun h => h⟩), ⟨none, 0, rfl, Nat.le_refl _, by decide, fun h => absurd h (by simp)⟩, by omega, fun k hk => ⟨by have := hA k hk; simp; omega, by have := hA k hk; omega⟩⟩
set_option maxRecDepth 100000 in
set_option maxHeartbeats 1000000 in
theorem implReadCode_rd (A : Nat → Prop) (aa : Option Addr) (cap : Nat) (bs : List UInt8) (pe : Addr) (w : World) (hR : Lay.u8.slice.rd A w [.slice aa bs.length cap] bs) (hA : ∀ k, A k → k < w.heap.size) (hE : w.cell? eofAt = some (eofV pe)) (hl : bs.length ≤ 1048576) (hev : pEven bs) :
    Calls Tryz.prog 17 #[.slice aa bs.length cap] w fun e w' =>
      (∃ ls l rest n a1 n1 c1 a2 n2 c2, pCode bs = some (ls, l, rest) ∧ e = .returned (.tuple #[.agg #[.slice a1 n1 c1, .slice a2 n2 c2], .bool true]) ∧ Lay.loc.slice.rd (fun k => w.heap.size ≤ k ∧ k < w'.heap.size) w' [.slice a1 n1 c1] ls ∧ (Lay.ins n).slice.rd (fun k => w.heap.size ≤ k ∧ k < w'.heap.size) w' [.slice a2 n2 c2] (toIL l) ∧ Ext w w') ∨
      (pCode bs = none ∧ e = .returned (.tuple #[.agg #[.slice none 0 0, .slice none 0 0], .bool false]) ∧ Ext w w') := by
  have hel := cell_lt hE
  have hx0 := ext_alloc w (.cells #[.slice none 0 0, .slice none 0 0] 68)
  have hn0 : (w.alloc (.cells #[.slice none 0 0, .slice none 0 0] 68)).heap.size = w.heap.size + 1 := by simp
  have hI := isR_fresh (Lay.fr hR hx0 (fun k hk => ⟨hA k hk, fun h => h⟩)) (fun k hk => by rw [hn0]; have := hA k hk; omega) (by omega : bs.length ≤ 140737488355328)
  have hx1 := Ext.trans hx0 (ext_alloc (w.alloc (.cells #[.slice none 0 0, .slice none 0 0] 68)) (.cells #[.slice aa bs.length cap, .slice none 0 0, .int .i64 0] 159))
  rw [hn0] at hI
  have HC := Lib.hid (ReadCodeEntry_rd implR A (fun k => k = w.heap.size + 1) (w.heap.size + 1) pe bs _ ⟨⟨hI, fun k => Iff.rfl⟩, eof_frame hE hx1 (fun h => h), fun e => by have e' : 2 = w.heap.size + 1 := e; have h5 : 2 < w.heap.size := hel; omega, by omega⟩ hl hev)
  have hB0 := Lib.hid ((blk_new w #[.slice none 0 0, .slice none 0 0] 68).ext (ext_alloc (w.alloc (.cells #[.slice none 0 0, .slice none 0 0] 68)) (.cells #[.slice aa bs.length cap, .slice none 0 0, .int .i64 0] 159)))
  have H := Lib.hid (And.intro hx1 hl)
  clear hR hA hE hel hl hev hI hx0 hx1 hn0
  go_enter Tryz.func17, Tryz.ntmps17
  go_wp2_with fail
  refine HC.out.mono ?_
  rintro e w2 (⟨ls, l, rest, n, ge, s1, s2, hp, rfl, k2, k3, k4, k5, k6⟩ | ⟨hp, ⟨x, te, ve, rfl⟩, k6⟩)
  · have hn1 : ((w.alloc (.cells #[.slice none 0 0, .slice none 0 0] 68)).alloc (.cells #[.slice aa bs.length cap, .slice none 0 0, .int .i64 0] 159)).heap.size = w.heap.size + 2 := by simp
    rw [hn1] at k3 k4 k5
    obtain ⟨e1, f1, rfl, -, -⟩ := Lay.slice_form k3
    obtain ⟨e2, f2, rfl, -, -⟩ := Lay.slice_form k4
    have hX2 : Ext w w2 := (Ext.fr H.out.1 k6).mono (fun k hk e => by omega)
    have hB2 := hB0.out.fr k6 (fun e => by have e' : w.heap.size = w.heap.size + 1 := e; omega)
    have hll : ls.length ≤ bs.length ∧ l.length ≤ 1048576 ∧ fitRL l := by
      unfold pCode at hp
      split at hp
      · cases hp
      · rename_i ls' r' hpl
        have hs := pLoc_shorter hpl
        split at hp
        · rename_i l' rest' hpi
          simp only [Option.some.injEq, Prod.mk.injEq] at hp
          obtain ⟨rfl, rfl, rfl⟩ := hp
          have hlb := H.out.2
          have := pIns_fit _ _ hpi (by omega)
          exact ⟨hs.2, by omega, this.2⟩
        · cases hp
    have hlb := H.out.2
    have HP := Lib.hid (plainCode_calls n ge ls l e1 e2 ls.length l.length f1 f2 (fun k => w.heap.size ≤ k ∧ k < w2.heap.size) w2 k2 (Lay.mono _ k3 (fun k hk => ⟨by omega, hk.2⟩)) (Lay.mono _ k4 (fun k hk => ⟨by omega, hk.2⟩)) (fun k hk => hk.2) (by omega) hll.2.1 hll.2.2)
    have H2 := Lib.hid (And.intro hp (And.intro hX2 hB2))
    clear hp k2 k3 k4 k5 k6 hn1 HC hX2 hB2 hll hlb
    go_wp2_with fail
    refine HP.out.mono ?_
    rintro e w3 ⟨b1, m1, d1, b2, m2, d2, rfl, r1, r2, x3⟩
    have hB3 := H2.out.2.2.ext x3
    have hc3 := hB3.cell
    have hf3 := hB3.frz
    have H3 := Lib.hid (And.intro r1 (And.intro r2 (And.intro x3 hB3)))
    clear r1 r2 x3 hB3 HP
    go_wp2
    have hset : Fr (fun k => k = w.heap.size) w3 ((w3.setCell ⟨w.heap.size, 0, none⟩ (.slice b1 m1 d1)).setCell ⟨w.heap.size, 1, none⟩ (.slice b2 m2 d2)) := Fr.setCell (Fr.setCell (Fr.refl (fun k => k = w.heap.size) w3) (p := ⟨w.heap.size, 0, none⟩) (.inl rfl) _) (p := ⟨w.heap.size, 1, none⟩) (.inl rfl) _
    have hbl := ((H3.out.2.2.2.set 0 (.slice b1 m1 d1)).set 1 (.slice b2 m2 d2)).cell
    have hfin := Lib.hid (show Lay.loc.slice.rd (fun k => w.heap.size ≤ k ∧ k < ((w3.setCell ⟨w.heap.size, 0, none⟩ (.slice b1 m1 d1)).setCell ⟨w.heap.size, 1, none⟩ (.slice b2 m2 d2)).heap.size) ((w3.setCell ⟨w.heap.size, 0, none⟩ (.slice b1 m1 d1)).setCell ⟨w.heap.size, 1, none⟩ (.slice b2 m2 d2)) [.slice b1 m1 d1] ls ∧ (Lay.ins n).slice.rd (fun k => w.heap.size ≤ k ∧ k < ((w3.setCell ⟨w.heap.size, 0, none⟩ (.slice b1 m1 d1)).setCell ⟨w.heap.size, 1, none⟩ (.slice b2 m2 d2)).heap.size) ((w3.setCell ⟨w.heap.size, 0, none⟩ (.slice b1 m1 d1)).setCell ⟨w.heap.size, 1, none⟩ (.slice b2 m2 d2)) [.slice b2 m2 d2] (toIL l) ∧ Ext w ((w3.setCell ⟨w.heap.size, 0, none⟩ (.slice b1 m1 d1)).setCell ⟨w.heap.size, 1, none⟩ (.slice b2 m2 d2)) from by
      have hs1 := hset.size
      have hs2 := H2.out.2.2.lt
      have hs3 := H2.out.2.1.size
      refine ⟨Lay.mono _ (Lay.fr H3.out.1 hset (fun k hk => ⟨hk.2, fun e => by have e' : k = w.heap.size := e; omega⟩)) (fun k hk => ⟨by omega, by omega⟩), Lay.mono _ (Lay.fr H3.out.2.1 hset (fun k hk => ⟨hk.2, fun e => by have e' : k = w.heap.size := e; omega⟩)) (fun k hk => ⟨by omega, by omega⟩), ?_⟩
      exact (Ext.fr (Ext.trans H2.out.2.1 H3.out.2.2.1) hset).mono (fun k hk e => by omega))
    clear hset hc3 hf3
    exact bodyPost_ret (v := .tuple #[.agg #[.slice b1 m1 d1, .slice b2 m2 d2], .bool true]) (by simp [results, Tryz.results17, go_sem, hbl]) rfl (.inl ⟨ls, l, rest, n, _, _, _, _, _, _, H2.out.1, rfl, hfin.out⟩)
  · have hB2 := hB0.out.fr k6 (fun e => by have e' : w.heap.size = w.heap.size + 1 := e; omega)
    have hX2 : Ext w w2 := (Ext.fr H.out.1 k6).mono (fun k hk e => by omega)
    have H2 := Lib.hid (And.intro hp (And.intro hX2 hB2))
    have hc2 := hB2.cell
    have hf2 := hB2.frz
    clear hp k6 HC hX2 hB2
    go_wp2
    have hset : Fr (fun k => k = w.heap.size) w2 ((w2.setCell ⟨w.heap.size, 0, none⟩ (.slice none 0 0)).setCell ⟨w.heap.size, 1, none⟩ (.slice none 0 0)) := Fr.setCell (Fr.setCell (Fr.refl (fun k => k = w.heap.size) w2) (p := ⟨w.heap.size, 0, none⟩) (.inl rfl) _) (p := ⟨w.heap.size, 1, none⟩) (.inl rfl) _
    have hbl := ((H2.out.2.2.set 0 (.slice none 0 0)).set 1 (.slice none 0 0)).cell
    have hfin := Lib.hid (show Ext w ((w2.setCell ⟨w.heap.size, 0, none⟩ (.slice none 0 0)).setCell ⟨w.heap.size, 1, none⟩ (.slice none 0 0)) from (Ext.fr H2.out.2.1 hset).mono (fun k hk e => by omega))
    clear hset hc2 hf2
    exact bodyPost_ret (v := .tuple #[.agg #[.slice none 0 0, .slice none 0 0], .bool false]) (by simp [results, Tryz.results17, go_sem, hbl]) rfl (.inr ⟨H2.out.1, rfl, hfin.out⟩)
end Go.Proofs.YtkbadfljmbeciaaGreatDoor
