/- encoding.readInstructions. Written by wip/tools/gen_rd.py. -/
import Derived.Test.YtbdahjpdjamgiaaGreatDoorPart11
namespace Go.Proofs.YtbdahjpdjamgiaaGreatDoor
open Go.RowKit
theorem infoInsR (n : Nat) : (Tryz.prog.info? 283).map (fun i => (i.zero, i.size, i.bytes)) = some (some .nilIface, (Lay.ri n).size, 16) := by rw [Lay.ri_size]; kernel_rfl
theorem rdB_some {bs : List UInt8} {c : UInt8} {r : List UInt8} (h : rdB bs = some (c, r)) : bs = c :: r := by
  cases bs with
  | nil => cases h
  | cons a r => simp only [rdB, Option.some.injEq, Prod.mk.injEq] at h; rw [h.1, h.2]
theorem rdB_none {bs : List UInt8} (h : rdB bs = none) : bs = [] := by
  cases bs with
  | nil => rfl
  | cons a r => cases h
theorem readU_shorter : ∀ (s a : Nat) (bs : List UInt8) {n : Nat} {r : List UInt8}, readU s a bs = some (n, r) → r.length < bs.length
  | _, _, [], _, _, h => by cases h
  | s, a, b :: bs, n, r, h => by
    unfold readU at h
    split at h
    · simp only [Option.some.injEq, Prod.mk.injEq] at h; rw [← h.2]; simp
    · have := readU_shorter _ _ bs h; simp only [List.length_cons]; omega
theorem readS_shorter : ∀ (s a : Nat) (bs : List UInt8) {n : Int} {r : List UInt8}, readS s a bs = some (n, r) → r.length < bs.length
  | _, _, [], _, _, h => by cases h
  | s, a, b :: bs, n, r, h => by
    unfold readS at h
    split at h
    · simp only [Option.some.injEq, Prod.mk.injEq] at h; rw [← h.2]; simp
    · have := readS_shorter _ _ bs h; simp only [List.length_cons]; omega
theorem PO.app_odd {a : List RI} {p : PO} (h : p.app a ≠ .odd) : p ≠ .odd := fun e => h (by rw [e]; rfl)
theorem pIns_shorter : ∀ (f : Nat) (bs : List UInt8) {l : List RI} {r : List UInt8}, pIns f bs = .ok l r → r.length < bs.length
  | 0, _, _, _, h => by cases h
  | _ + 1, [], _, _, h => by cases h
  | f + 1, c :: r0, l, r, h => by
    have app : ∀ {a : List RI} {bs : List UInt8}, (pIns f bs).app a = .ok l r → r.length < bs.length := fun {a bs} h => by
      cases hp : pIns f bs with
      | ok l' r' => rw [hp] at h; simp only [PO.app, PO.ok.injEq] at h; rw [← h.2]; exact pIns_shorter f bs hp
      | bad => rw [hp] at h; cases h
      | odd => rw [hp] at h; cases h
    simp only [List.length_cons]
    unfold pIns at h
    split at h
    · split at h
      · cases h
      · have := app h; have := readS_shorter _ _ _ ‹_›; omega
    · split at h
      · split at h
        · cases h
        · have := app h; have := readS_shorter _ _ _ ‹_›; omega
      · split at h
        · have := app h; omega
        · split at h
          · split at h
            · cases h
            · have := app h; have := readU_shorter _ _ _ ‹_›; omega
          · split at h
            · split at h
              · cases h
              · cases h
              · have h1 := app h; have h2 := readU_shorter _ _ _ ‹_›; simp only [List.length_cons] at h2; omega
            · split at h
              · have := app h; omega
              · split at h
                · split at h
                  · cases h
                  · split at h
                    · cases h
                    · split at h
                      · have h1 := app h; have h2 := pIns_shorter f _ ‹_›; simp only [List.length_cons]; omega
                      · cases h
                      · cases h
                · split at h
                  · simp only [PO.ok.injEq] at h; rw [← h.2]; omega
                  · cases h
theorem wrap32_rng (n : Int) : -2147483648 ≤ wrap32 n ∧ wrap32 n < 2147483648 := by unfold wrap32; omega
theorem readS_rng : ∀ (s a : Nat) (bs : List UInt8) {n : Int} {r : List UInt8}, readS s a bs = some (n, r) → -9223372036854775808 ≤ n ∧ n < 9223372036854775808
  | _, _, [], _, _, h => by cases h
  | s, a, b :: bs, n, r, h => by
    unfold readS at h
    split at h
    · simp only [Option.some.injEq, Prod.mk.injEq] at h; rw [← h.1]; unfold toS; omega
    · exact readS_rng _ _ bs h
set_option maxRecDepth 100000 in
set_option maxHeartbeats 400000 in
theorem readBlockValueType_rd (S : Rdr) (D F : Nat → Prop) (g : Nat) (pe : Addr) (bs : List UInt8) (w : World) (hS : RdS S D F g pe bs w) (h64 : ∀ c r, bs = c :: r → c.toNat = 64) :
    Calls Tryz.prog 82 #[.iface S.T (.pointer (some ⟨g, 0, none⟩)), .pointer none] w fun e w' =>
      (∃ c r, bs = c :: r ∧ e = .returned .nilIface ∧ RdS S D F g pe r w' ∧ Fr F w w') ∨ (bs = [] ∧ (∃ te ve, e = .returned (.iface te ve)) ∧ Fr F w w') := by
  have HC := Lib.hid (readByte_rd S D F g pe bs w hS)
  clear hS
  go_enter Tryz.func82, Tryz.ntmps82
  go_wp2_with fail
  refine HC.out.mono ?_
  rintro e w1 (⟨c, rest, hr, rfl, h1, h2⟩ | ⟨hr, ⟨n, rfl⟩, h1, h2⟩)
  · have hbs := rdB_some hr
    have hc : (c.toNat : Int) = 64 := by rw [h64 c rest hbs]; rfl
    have H1 := Lib.hid (And.intro hbs (And.intro h1 h2))
    clear h1 h2 hbs hr HC h64
    go_wp2
    go_ret
    exact .inl ⟨c, rest, H1.out.1, rfl, H1.out.2.1, H1.out.2.2⟩
  · have H1 := Lib.hid (And.intro (rdB_none hr) h2)
    clear h1 h2 hr HC h64
    go_wp2
    go_ret
    exact .inr ⟨H1.out.1, ⟨_, _, rfl⟩, H1.out.2⟩
set_option maxRecDepth 100000 in
set_option maxHeartbeats 4000000 in
theorem readInstructions_rd (S : Rdr) (D F : Nat → Prop) (g : Nat) (pe : Addr) (f : Nat) : ∀ (bs : List UInt8) (gt o : Nat) (cs : Array Value) (T : TypeId) (w : World), RdS S D F g pe bs w → Blk w gt cs T → o < cs.size → ¬ F gt → ¬ D gt → gt ≠ eofAt.block → bs.length ≤ 1048576 → pIns f bs ≠ .odd →
    Calls Tryz.prog 75 #[.iface S.T (.pointer (some ⟨g, 0, none⟩)), .pointer (some ⟨gt, o, none⟩)] w fun e w' =>
      (∃ l rest sl, pIns f bs = .ok l rest ∧ e = .returned .nilIface ∧ RdS S D F g pe rest w' ∧ Blk w' gt (cs.setIfInBounds o sl) T ∧ (Lay.ri f).slice.rd (fun k => w.heap.size ≤ k ∧ k < w'.heap.size) w' [sl] l ∧ Fr (fun k => F k ∨ k = gt) w w') ∨
      (pIns f bs = .bad ∧ ((∃ te ve, e = .returned (.iface te ve)) ∨ e = .panicked (eofP pe)) ∧ Fr (fun k => F k ∨ k = gt) w w') := by
  induction f using Nat.strongRecOn with
  | ind f ih =>
    intro bs gt o cs T w hS hB ho hF hD hb hl hno
    obtain ⟨x, hx⟩ : ∃ x, cs[o]? = some x := ⟨cs[o], Array.getElem?_eq_getElem ho⟩
    have hlt := S.lt hS.is
    have hel := cell_lt hS.cell
    have H := Lib.hid (And.intro hS (And.intro hB (And.intro hF (And.intro hD (And.intro hb (And.intro hl (And.intro hno ih)))))))
    have hLT := Lib.hid (And.intro hlt (And.intro hel hB.lt))
    have hmk : ∀ w : World, (Instr.makeSlice 219 (.int .i64 0) (.int .i64 0)).run Tryz.prog w = .ok (.slice (some ⟨w.heap.size, 0, none⟩) 0 0) (w.alloc (.cells #[] 283)) := fun w => by kernel_rfl
    clear hS hB hF hD hb hlt hel ih hno hl
    go_enter Tryz.func75, Tryz.ntmps75
    go_wp2_with fail
    obtain ⟨W0, hW0, H0⟩ : ∃ W0, Hid (w.alloc (.cells #[] 283) = W0) ∧ Hid (Ext w W0 ∧ Own (Lay.ri f) 283 w.heap.size W0 (.slice (some ⟨w.heap.size, 0, none⟩) 0 0) []) := by
      refine ⟨_, rfl, ext_alloc _ _, [], ⟨by simp, .inr ⟨w.heap.size, 0, #[], rfl, Nat.le_refl _, blk_new w _ _, Nat.le_refl _, by decide, by simp, by simp⟩⟩, rfl⟩
    go_loopw [5] (fun s5 w' => ∃ (f' : Nat) (acc : List RI) (bs' : List UInt8), Hid ((pIns f' bs').app acc = pIns f bs) ∧ f' ≤ f ∧ acc.length + bs'.length ≤ bs.length ∧ Hid (RdS S D F g pe bs' w' ∧ Own (Lay.ri f) 283 w.heap.size w' s5 acc ∧ Fr F w w')) (fun _ w' => S.left g w')
    case atStart => exact ⟨f, [], bs, PO.app_nil _, Nat.le_refl _, by simp, by rw [hW0.out]; exact H.out.1.ext H0.out.1, by rw [hW0.out]; exact H0.out.2, by rw [hW0.out]; exact H0.out.1.to⟩
    case round =>
      obtain ⟨f', acc, bs', hT, hff, hacc, hV⟩ := hrel
      obtain ⟨u1, u2, u3', rfl⟩ := hV.out.2.1.shape
      obtain ⟨f1, rfl⟩ : ∃ f1, f' = f1 + 1 := by
        cases f' with
        | zero => exact absurd hT.out.symm (by show pIns f bs ≠ .odd; exact H.out.2.2.2.2.2.2.1)
        | succ f1 => exact ⟨f1, rfl⟩
      have hm0 := Lib.hid (S.left_is hV.out.1.is)
      go_wp2_with fail
      refine (readByte_rd S D F g pe bs' _ hV.out.1).mono ?_
      rintro e w1 (⟨c, r, hr, rfl, k1, k2⟩ | ⟨hr, ⟨n, rfl⟩, k1, k2⟩)
      · have hbs := rdB_some hr
        have hgF : Hid (∀ k, F k → k < w.heap.size) := hLT.out.1.2.1
        have hV1 : Hid (RdS S D F g pe r w1 ∧ Own (Lay.ri f) 283 w.heap.size w1 (.slice u1 u2 u3') acc ∧ Fr F w w1) := ⟨k1, hV.out.2.1.fr k2 (fun k h1 h2 e => by have := hgF.out k e; omega), hV.out.2.2.trans k2 (fun _ _ h => h) (fun _ _ h => h)⟩
        subst hbs
        simp only [List.length_cons] at hacc
        have hT1 := hT.out
        have hno := H.out.2.2.2.2.2.2.1
        rw [← hT1] at hno
        have hno := PO.app_odd hno
        have hl := H.out.2.2.2.2.2.1
        clear hT k1 k2 hV hr
        conv at hT1 => lhs; unfold pIns
        unfold pIns at hno
        by_cases h65 : c.toNat = 65
        · rw [if_pos h65] at hT1 hno
          have hc : (c.toNat : Int) = 65 := by omega
          go_wp2_with fail
          refine (MustReadVarInt32_rd S D F g pe r _ hV1.out.1).mono ?_
          rintro e w2 (⟨n, rest, hr, rfl, k1, k2⟩ | ⟨hr, rfl, k1, k2⟩)
          · rw [hr] at hT1
            have hsh := readS_shorter _ _ _ hr
            simp only [] at hT1
            have hV2 : Hid (RdS S D F g pe rest w2 ∧ Own (Lay.ri f) 283 w.heap.size w2 (.slice u1 u2 u3') acc ∧ Fr F w w2) := ⟨k1, hV1.out.2.1.fr k2 (fun k h1 h2 e => by have := hgF.out k e; omega), hV1.out.2.2.trans k2 (fun _ _ h => h) (fun _ _ h => h)⟩
            clear hno k1 k2 hr hV1
            rw [PO.app_app] at hT1
            have hT1 := Lib.hid hT1
            have hRD := Lib.hid (show (Lay.ri f).rd (fun k => w.heap.size ≤ k ∧ k < w2.heap.size ∧ some k ≠ (Value.slice u1 u2 u3').ownBlock) w2 (#[.iface 322 (.agg #[.int .i32 (wrap32 n)])] : Array Value).toList (.i32 (wrap32 n)) from by
              obtain ⟨f0, rfl⟩ : ∃ f0, f = f0 + 1 := ⟨f - 1, by omega⟩
              exact ⟨rfl, wrap32_rng n⟩)
            go_wp2_with (at_builtin; refine Hid.out ?_)
            refine own_append1n (Lay.ri f) w.heap.size w2.heap.size rfl rfl (.tmp 27) (.tmp 32) _ _ _ 16 rfl Tryz.underlying219 (infoInsR f) (by rw [Lay.ri_size]; rfl) (by omega) (by rw [Lay.ri_size]; decide) (.slice u1 u2 u3') acc (.i32 (wrap32 n)) _ rfl rfl hV2.out.2.1 hRD.out hV2.out.2.2.size (by omega) ?_
            intro v1 w6 h1 h2 h3
            have hne : Hid (∀ k, some k = (Value.slice u1 u2 u3').ownBlock → w.heap.size ≤ k) := fun k hk => (hV2.out.2.1.lt k hk.symm).1
            have hV6 : Hid (RdS S D F g pe rest w6 ∧ Own (Lay.ri f) 283 w.heap.size w6 v1 (acc ++ [.i32 (wrap32 n)]) ∧ Fr F w w6) := by
              have hL := hLT.out
              refine ⟨hV2.out.1.fr h2 (fun e => by have h4 := hne.out _ e; have h5 : 2 < w.heap.size := hL.2.1; have h6 : w.heap.size ≤ 2 := h4; omega) (fun k hk e => by have := hne.out _ e; have := hL.1.2.1 k hk; omega) (fun k hk e => by have := hne.out _ e; have := (hL.1.2.2 k hk).1; omega), h1, Fr.trans hV2.out.2.2 h2 (fun _ _ h => h) (fun k hk e => absurd hk (by have := hne.out k e; omega))⟩
            have hm2 := Lib.hid (S.left_is hV6.out.1.is)
            clear h1 h2 h3 hne hV2 hRD
            go_wp2
            go_roundw
            case rel => exact ⟨f1, _, rest, hT1, by omega, by simp only [List.length_append, List.length_cons, List.length_nil]; omega, hV6⟩
            case measure => rw [hm2.out, hm0.out]; simp only [List.length_cons]; omega
          · have hTb : pIns f bs = .bad := by rw [← hT1, hr]; rfl
            have hfin := Lib.hid (And.intro hTb (hV1.out.2.2.trans k2 (fun _ _ h => h) (fun _ _ h => h)))
            clear k1 k2 hr hno hT1 hTb
            go_wp2
            exact ⟨rfl, .inr ⟨hfin.out.1, .inr rfl, hfin.out.2.mono (fun _ _ h => .inl h)⟩⟩
        · rw [if_neg h65] at hT1 hno
          by_cases h66 : c.toNat = 66
          · rw [if_pos h66] at hT1 hno
            have hc : (c.toNat : Int) = 66 := by omega
            go_wp2_with fail
            refine (MustReadVarInt64_rd S D F g pe r _ hV1.out.1).mono ?_
            rintro e w2 (⟨n, rest, hr, rfl, k1, k2⟩ | ⟨hr, rfl, k1, k2⟩)
            · rw [hr] at hT1
              have hsh := readS_shorter _ _ _ hr
              have hrg := Lib.hid (readS_rng _ _ _ hr)
              simp only [] at hT1
              have hV2 : Hid (RdS S D F g pe rest w2 ∧ Own (Lay.ri f) 283 w.heap.size w2 (.slice u1 u2 u3') acc ∧ Fr F w w2) := ⟨k1, hV1.out.2.1.fr k2 (fun k h1 h2 e => by have := hgF.out k e; omega), hV1.out.2.2.trans k2 (fun _ _ h => h) (fun _ _ h => h)⟩
              clear hno k1 k2 hr hV1
              rw [PO.app_app] at hT1
              have hT1 := Lib.hid hT1
              have hRD := Lib.hid (show (Lay.ri f).rd (fun k => w.heap.size ≤ k ∧ k < w2.heap.size ∧ some k ≠ (Value.slice u1 u2 u3').ownBlock) w2 (#[.iface 325 (.agg #[.int .i64 n])] : Array Value).toList (.i64 n) from by
                obtain ⟨f0, rfl⟩ : ∃ f0, f = f0 + 1 := ⟨f - 1, by omega⟩
                exact ⟨rfl, hrg.out⟩)
              go_wp2_with (at_builtin; refine Hid.out ?_)
              refine own_append1n (Lay.ri f) w.heap.size w2.heap.size rfl rfl (.tmp 36) (.tmp 41) _ _ _ 16 rfl Tryz.underlying219 (infoInsR f) (by rw [Lay.ri_size]; rfl) (by omega) (by rw [Lay.ri_size]; decide) (.slice u1 u2 u3') acc (.i64 n) _ rfl rfl hV2.out.2.1 hRD.out hV2.out.2.2.size (by omega) ?_
              intro v1 w6 h1 h2 h3
              have hne : Hid (∀ k, some k = (Value.slice u1 u2 u3').ownBlock → w.heap.size ≤ k) := fun k hk => (hV2.out.2.1.lt k hk.symm).1
              have hV6 : Hid (RdS S D F g pe rest w6 ∧ Own (Lay.ri f) 283 w.heap.size w6 v1 (acc ++ [.i64 n]) ∧ Fr F w w6) := by
                have hL := hLT.out
                refine ⟨hV2.out.1.fr h2 (fun e => by have h4 := hne.out _ e; have h5 : 2 < w.heap.size := hL.2.1; have h6 : w.heap.size ≤ 2 := h4; omega) (fun k hk e => by have := hne.out _ e; have := hL.1.2.1 k hk; omega) (fun k hk e => by have := hne.out _ e; have := (hL.1.2.2 k hk).1; omega), h1, Fr.trans hV2.out.2.2 h2 (fun _ _ h => h) (fun k hk e => absurd hk (by have := hne.out k e; omega))⟩
              have hm2 := Lib.hid (S.left_is hV6.out.1.is)
              clear h1 h2 h3 hne hV2 hRD
              go_wp2
              go_roundw
              case rel => exact ⟨f1, _, rest, hT1, by omega, by simp only [List.length_append, List.length_cons, List.length_nil]; omega, hV6⟩
              case measure => rw [hm2.out, hm0.out]; simp only [List.length_cons]; omega
            · have hTb : pIns f bs = .bad := by rw [← hT1, hr]; rfl
              have hfin := Lib.hid (And.intro hTb (hV1.out.2.2.trans k2 (fun _ _ h => h) (fun _ _ h => h)))
              clear k1 k2 hr hno hT1 hTb
              go_wp2
              exact ⟨rfl, .inr ⟨hfin.out.1, .inr rfl, hfin.out.2.mono (fun _ _ h => .inl h)⟩⟩
          · rw [if_neg h66] at hT1 hno
            by_cases h69 : c.toNat = 69
            · rw [if_pos h69] at hT1 hno
              have hc : (c.toNat : Int) = 69 := by omega
              have hV2 := hV1
              have hsh : r.length < r.length + 1 := by omega
              clear hV1 hno
              rw [PO.app_app] at hT1
              have hT1 := Lib.hid hT1
              have hRD := Lib.hid (show (Lay.ri f).rd (fun k => w.heap.size ≤ k ∧ k < w1.heap.size ∧ some k ≠ (Value.slice u1 u2 u3').ownBlock) w1 (#[.iface 329 (.agg #[])] : Array Value).toList (.eqz) from by
                obtain ⟨f0, rfl⟩ : ∃ f0, f = f0 + 1 := ⟨f - 1, by omega⟩
                exact rfl)
              go_wp2_with (at_builtin; refine Hid.out ?_)
              refine own_append1n (Lay.ri f) w.heap.size w1.heap.size rfl rfl (.tmp 45) (.tmp 48) _ _ _ 16 rfl Tryz.underlying219 (infoInsR f) (by rw [Lay.ri_size]; rfl) (by omega) (by rw [Lay.ri_size]; decide) (.slice u1 u2 u3') acc (.eqz) _ rfl rfl hV2.out.2.1 hRD.out hV2.out.2.2.size (by omega) ?_
              intro v1 w6 h1 h2 h3
              have hne : Hid (∀ k, some k = (Value.slice u1 u2 u3').ownBlock → w.heap.size ≤ k) := fun k hk => (hV2.out.2.1.lt k hk.symm).1
              have hV6 : Hid (RdS S D F g pe r w6 ∧ Own (Lay.ri f) 283 w.heap.size w6 v1 (acc ++ [.eqz]) ∧ Fr F w w6) := by
                have hL := hLT.out
                refine ⟨hV2.out.1.fr h2 (fun e => by have h4 := hne.out _ e; have h5 : 2 < w.heap.size := hL.2.1; have h6 : w.heap.size ≤ 2 := h4; omega) (fun k hk e => by have := hne.out _ e; have := hL.1.2.1 k hk; omega) (fun k hk e => by have := hne.out _ e; have := (hL.1.2.2 k hk).1; omega), h1, Fr.trans hV2.out.2.2 h2 (fun _ _ h => h) (fun k hk e => absurd hk (by have := hne.out k e; omega))⟩
              have hm2 := Lib.hid (S.left_is hV6.out.1.is)
              clear h1 h2 h3 hne hV2 hRD
              go_wp2
              go_roundw
              case rel => exact ⟨f1, _, r, hT1, by omega, by simp only [List.length_append, List.length_cons, List.length_nil]; omega, hV6⟩
              case measure => rw [hm2.out, hm0.out]; simp only [List.length_cons]; omega
            · rw [if_neg h69] at hT1 hno
              by_cases hx4 : c.toNat = 32 ∨ c.toNat = 33 ∨ c.toNat = 16 ∨ c.toNat = 13
              · rw [if_pos hx4] at hT1 hno
                rcases hx4 with h4 | h4 | h4 | h4
                · rw [h4] at hT1 hno
                  have hc : (c.toNat : Int) = 32 := by omega
                  go_wp2_with fail
                  refine (MustReadVarUint32_rd S D F g pe r _ hV1.out.1).mono ?_
                  rintro e w2 (⟨n, rest, hr, rfl, k1, k2⟩ | ⟨hr, rfl, k1, k2⟩)
                  · rw [hr] at hT1
                    have hsh := readU_shorter _ _ _ hr
                    simp only [] at hT1
                    have hV2 : Hid (RdS S D F g pe rest w2 ∧ Own (Lay.ri f) 283 w.heap.size w2 (.slice u1 u2 u3') acc ∧ Fr F w w2) := ⟨k1, hV1.out.2.1.fr k2 (fun k h1 h2 e => by have := hgF.out k e; omega), hV1.out.2.2.trans k2 (fun _ _ h => h) (fun _ _ h => h)⟩
                    clear hno k1 k2 hr hV1
                    rw [PO.app_app] at hT1
                    have hT1 := Lib.hid hT1
                    have hRD := Lib.hid (show (Lay.ri f).rd (fun k => w.heap.size ≤ k ∧ k < w2.heap.size ∧ some k ≠ (Value.slice u1 u2 u3').ownBlock) w2 (#[.iface 332 (.agg #[.int .u32 ((n % 4294967296 : Nat) : Int)])] : Array Value).toList (.idx 32 (n % 4294967296)) from by
                      obtain ⟨f0, rfl⟩ : ∃ f0, f = f0 + 1 := ⟨f - 1, by omega⟩
                      exact ⟨rfl, Nat.mod_lt _ (by decide), by decide⟩)
                    go_wp2_with (at_builtin; refine Hid.out ?_)
                    refine own_append1n (Lay.ri f) w.heap.size w2.heap.size rfl rfl (.tmp 52) (.tmp 57) _ _ _ 16 rfl Tryz.underlying219 (infoInsR f) (by rw [Lay.ri_size]; rfl) (by omega) (by rw [Lay.ri_size]; decide) (.slice u1 u2 u3') acc (.idx 32 (n % 4294967296)) _ rfl rfl hV2.out.2.1 hRD.out hV2.out.2.2.size (by omega) ?_
                    intro v1 w6 h1 h2 h3
                    have hne : Hid (∀ k, some k = (Value.slice u1 u2 u3').ownBlock → w.heap.size ≤ k) := fun k hk => (hV2.out.2.1.lt k hk.symm).1
                    have hV6 : Hid (RdS S D F g pe rest w6 ∧ Own (Lay.ri f) 283 w.heap.size w6 v1 (acc ++ [.idx 32 (n % 4294967296)]) ∧ Fr F w w6) := by
                      have hL := hLT.out
                      refine ⟨hV2.out.1.fr h2 (fun e => by have h4 := hne.out _ e; have h5 : 2 < w.heap.size := hL.2.1; have h6 : w.heap.size ≤ 2 := h4; omega) (fun k hk e => by have := hne.out _ e; have := hL.1.2.1 k hk; omega) (fun k hk e => by have := hne.out _ e; have := (hL.1.2.2 k hk).1; omega), h1, Fr.trans hV2.out.2.2 h2 (fun _ _ h => h) (fun k hk e => absurd hk (by have := hne.out k e; omega))⟩
                    have hm2 := Lib.hid (S.left_is hV6.out.1.is)
                    clear h1 h2 h3 hne hV2 hRD
                    go_wp2
                    go_roundw
                    case rel => exact ⟨f1, _, rest, hT1, by omega, by simp only [List.length_append, List.length_cons, List.length_nil]; omega, hV6⟩
                    case measure => rw [hm2.out, hm0.out]; simp only [List.length_cons]; omega
                  · have hTb : pIns f bs = .bad := by rw [← hT1, hr]; rfl
                    have hfin := Lib.hid (And.intro hTb (hV1.out.2.2.trans k2 (fun _ _ h => h) (fun _ _ h => h)))
                    clear k1 k2 hr hno hT1 hTb
                    go_wp2
                    exact ⟨rfl, .inr ⟨hfin.out.1, .inr rfl, hfin.out.2.mono (fun _ _ h => .inl h)⟩⟩
                · rw [h4] at hT1 hno
                  have hc : (c.toNat : Int) = 33 := by omega
                  go_wp2_with fail
                  refine (MustReadVarUint32_rd S D F g pe r _ hV1.out.1).mono ?_
                  rintro e w2 (⟨n, rest, hr, rfl, k1, k2⟩ | ⟨hr, rfl, k1, k2⟩)
                  · rw [hr] at hT1
                    have hsh := readU_shorter _ _ _ hr
                    simp only [] at hT1
                    have hV2 : Hid (RdS S D F g pe rest w2 ∧ Own (Lay.ri f) 283 w.heap.size w2 (.slice u1 u2 u3') acc ∧ Fr F w w2) := ⟨k1, hV1.out.2.1.fr k2 (fun k h1 h2 e => by have := hgF.out k e; omega), hV1.out.2.2.trans k2 (fun _ _ h => h) (fun _ _ h => h)⟩
                    clear hno k1 k2 hr hV1
                    rw [PO.app_app] at hT1
                    have hT1 := Lib.hid hT1
                    have hRD := Lib.hid (show (Lay.ri f).rd (fun k => w.heap.size ≤ k ∧ k < w2.heap.size ∧ some k ≠ (Value.slice u1 u2 u3').ownBlock) w2 (#[.iface 333 (.agg #[.int .u32 ((n % 4294967296 : Nat) : Int)])] : Array Value).toList (.idx 33 (n % 4294967296)) from by
                      obtain ⟨f0, rfl⟩ : ∃ f0, f = f0 + 1 := ⟨f - 1, by omega⟩
                      exact ⟨rfl, Nat.mod_lt _ (by decide), by decide⟩)
                    go_wp2_with (at_builtin; refine Hid.out ?_)
                    refine own_append1n (Lay.ri f) w.heap.size w2.heap.size rfl rfl (.tmp 61) (.tmp 66) _ _ _ 16 rfl Tryz.underlying219 (infoInsR f) (by rw [Lay.ri_size]; rfl) (by omega) (by rw [Lay.ri_size]; decide) (.slice u1 u2 u3') acc (.idx 33 (n % 4294967296)) _ rfl rfl hV2.out.2.1 hRD.out hV2.out.2.2.size (by omega) ?_
                    intro v1 w6 h1 h2 h3
                    have hne : Hid (∀ k, some k = (Value.slice u1 u2 u3').ownBlock → w.heap.size ≤ k) := fun k hk => (hV2.out.2.1.lt k hk.symm).1
                    have hV6 : Hid (RdS S D F g pe rest w6 ∧ Own (Lay.ri f) 283 w.heap.size w6 v1 (acc ++ [.idx 33 (n % 4294967296)]) ∧ Fr F w w6) := by
                      have hL := hLT.out
                      refine ⟨hV2.out.1.fr h2 (fun e => by have h4 := hne.out _ e; have h5 : 2 < w.heap.size := hL.2.1; have h6 : w.heap.size ≤ 2 := h4; omega) (fun k hk e => by have := hne.out _ e; have := hL.1.2.1 k hk; omega) (fun k hk e => by have := hne.out _ e; have := (hL.1.2.2 k hk).1; omega), h1, Fr.trans hV2.out.2.2 h2 (fun _ _ h => h) (fun k hk e => absurd hk (by have := hne.out k e; omega))⟩
                    have hm2 := Lib.hid (S.left_is hV6.out.1.is)
                    clear h1 h2 h3 hne hV2 hRD
                    go_wp2
                    go_roundw
                    case rel => exact ⟨f1, _, rest, hT1, by omega, by simp only [List.length_append, List.length_cons, List.length_nil]; omega, hV6⟩
                    case measure => rw [hm2.out, hm0.out]; simp only [List.length_cons]; omega
                  · have hTb : pIns f bs = .bad := by rw [← hT1, hr]; rfl
                    have hfin := Lib.hid (And.intro hTb (hV1.out.2.2.trans k2 (fun _ _ h => h) (fun _ _ h => h)))
                    clear k1 k2 hr hno hT1 hTb
                    go_wp2
                    exact ⟨rfl, .inr ⟨hfin.out.1, .inr rfl, hfin.out.2.mono (fun _ _ h => .inl h)⟩⟩
                · rw [h4] at hT1 hno
                  have hc : (c.toNat : Int) = 16 := by omega
                  go_wp2_with fail
                  refine (MustReadVarUint32_rd S D F g pe r _ hV1.out.1).mono ?_
                  rintro e w2 (⟨n, rest, hr, rfl, k1, k2⟩ | ⟨hr, rfl, k1, k2⟩)
                  · rw [hr] at hT1
                    have hsh := readU_shorter _ _ _ hr
                    simp only [] at hT1
                    have hV2 : Hid (RdS S D F g pe rest w2 ∧ Own (Lay.ri f) 283 w.heap.size w2 (.slice u1 u2 u3') acc ∧ Fr F w w2) := ⟨k1, hV1.out.2.1.fr k2 (fun k h1 h2 e => by have := hgF.out k e; omega), hV1.out.2.2.trans k2 (fun _ _ h => h) (fun _ _ h => h)⟩
                    clear hno k1 k2 hr hV1
                    rw [PO.app_app] at hT1
                    have hT1 := Lib.hid hT1
                    have hRD := Lib.hid (show (Lay.ri f).rd (fun k => w.heap.size ≤ k ∧ k < w2.heap.size ∧ some k ≠ (Value.slice u1 u2 u3').ownBlock) w2 (#[.iface 334 (.agg #[.int .u32 ((n % 4294967296 : Nat) : Int)])] : Array Value).toList (.idx 16 (n % 4294967296)) from by
                      obtain ⟨f0, rfl⟩ : ∃ f0, f = f0 + 1 := ⟨f - 1, by omega⟩
                      exact ⟨rfl, Nat.mod_lt _ (by decide), by decide⟩)
                    go_wp2_with (at_builtin; refine Hid.out ?_)
                    refine own_append1n (Lay.ri f) w.heap.size w2.heap.size rfl rfl (.tmp 70) (.tmp 75) _ _ _ 16 rfl Tryz.underlying219 (infoInsR f) (by rw [Lay.ri_size]; rfl) (by omega) (by rw [Lay.ri_size]; decide) (.slice u1 u2 u3') acc (.idx 16 (n % 4294967296)) _ rfl rfl hV2.out.2.1 hRD.out hV2.out.2.2.size (by omega) ?_
                    intro v1 w6 h1 h2 h3
                    have hne : Hid (∀ k, some k = (Value.slice u1 u2 u3').ownBlock → w.heap.size ≤ k) := fun k hk => (hV2.out.2.1.lt k hk.symm).1
                    have hV6 : Hid (RdS S D F g pe rest w6 ∧ Own (Lay.ri f) 283 w.heap.size w6 v1 (acc ++ [.idx 16 (n % 4294967296)]) ∧ Fr F w w6) := by
                      have hL := hLT.out
                      refine ⟨hV2.out.1.fr h2 (fun e => by have h4 := hne.out _ e; have h5 : 2 < w.heap.size := hL.2.1; have h6 : w.heap.size ≤ 2 := h4; omega) (fun k hk e => by have := hne.out _ e; have := hL.1.2.1 k hk; omega) (fun k hk e => by have := hne.out _ e; have := (hL.1.2.2 k hk).1; omega), h1, Fr.trans hV2.out.2.2 h2 (fun _ _ h => h) (fun k hk e => absurd hk (by have := hne.out k e; omega))⟩
                    have hm2 := Lib.hid (S.left_is hV6.out.1.is)
                    clear h1 h2 h3 hne hV2 hRD
                    go_wp2
                    go_roundw
                    case rel => exact ⟨f1, _, rest, hT1, by omega, by simp only [List.length_append, List.length_cons, List.length_nil]; omega, hV6⟩
                    case measure => rw [hm2.out, hm0.out]; simp only [List.length_cons]; omega
                  · have hTb : pIns f bs = .bad := by rw [← hT1, hr]; rfl
                    have hfin := Lib.hid (And.intro hTb (hV1.out.2.2.trans k2 (fun _ _ h => h) (fun _ _ h => h)))
                    clear k1 k2 hr hno hT1 hTb
                    go_wp2
                    exact ⟨rfl, .inr ⟨hfin.out.1, .inr rfl, hfin.out.2.mono (fun _ _ h => .inl h)⟩⟩
                · rw [h4] at hT1 hno
                  have hc : (c.toNat : Int) = 13 := by omega
                  go_wp2_with fail
                  refine (MustReadVarUint32_rd S D F g pe r _ hV1.out.1).mono ?_
                  rintro e w2 (⟨n, rest, hr, rfl, k1, k2⟩ | ⟨hr, rfl, k1, k2⟩)
                  · rw [hr] at hT1
                    have hsh := readU_shorter _ _ _ hr
                    simp only [] at hT1
                    have hV2 : Hid (RdS S D F g pe rest w2 ∧ Own (Lay.ri f) 283 w.heap.size w2 (.slice u1 u2 u3') acc ∧ Fr F w w2) := ⟨k1, hV1.out.2.1.fr k2 (fun k h1 h2 e => by have := hgF.out k e; omega), hV1.out.2.2.trans k2 (fun _ _ h => h) (fun _ _ h => h)⟩
                    clear hno k1 k2 hr hV1
                    rw [PO.app_app] at hT1
                    have hT1 := Lib.hid hT1
                    have hRD := Lib.hid (show (Lay.ri f).rd (fun k => w.heap.size ≤ k ∧ k < w2.heap.size ∧ some k ≠ (Value.slice u1 u2 u3').ownBlock) w2 (#[.iface 338 (.agg #[.int .u32 ((n % 4294967296 : Nat) : Int)])] : Array Value).toList (.idx 13 (n % 4294967296)) from by
                      obtain ⟨f0, rfl⟩ : ∃ f0, f = f0 + 1 := ⟨f - 1, by omega⟩
                      exact ⟨rfl, Nat.mod_lt _ (by decide), by decide⟩)
                    go_wp2_with (at_builtin; refine Hid.out ?_)
                    refine own_append1n (Lay.ri f) w.heap.size w2.heap.size rfl rfl (.tmp 90) (.tmp 95) _ _ _ 16 rfl Tryz.underlying219 (infoInsR f) (by rw [Lay.ri_size]; rfl) (by omega) (by rw [Lay.ri_size]; decide) (.slice u1 u2 u3') acc (.idx 13 (n % 4294967296)) _ rfl rfl hV2.out.2.1 hRD.out hV2.out.2.2.size (by omega) ?_
                    intro v1 w6 h1 h2 h3
                    have hne : Hid (∀ k, some k = (Value.slice u1 u2 u3').ownBlock → w.heap.size ≤ k) := fun k hk => (hV2.out.2.1.lt k hk.symm).1
                    have hV6 : Hid (RdS S D F g pe rest w6 ∧ Own (Lay.ri f) 283 w.heap.size w6 v1 (acc ++ [.idx 13 (n % 4294967296)]) ∧ Fr F w w6) := by
                      have hL := hLT.out
                      refine ⟨hV2.out.1.fr h2 (fun e => by have h4 := hne.out _ e; have h5 : 2 < w.heap.size := hL.2.1; have h6 : w.heap.size ≤ 2 := h4; omega) (fun k hk e => by have := hne.out _ e; have := hL.1.2.1 k hk; omega) (fun k hk e => by have := hne.out _ e; have := (hL.1.2.2 k hk).1; omega), h1, Fr.trans hV2.out.2.2 h2 (fun _ _ h => h) (fun k hk e => absurd hk (by have := hne.out k e; omega))⟩
                    have hm2 := Lib.hid (S.left_is hV6.out.1.is)
                    clear h1 h2 h3 hne hV2 hRD
                    go_wp2
                    go_roundw
                    case rel => exact ⟨f1, _, rest, hT1, by omega, by simp only [List.length_append, List.length_cons, List.length_nil]; omega, hV6⟩
                    case measure => rw [hm2.out, hm0.out]; simp only [List.length_cons]; omega
                  · have hTb : pIns f bs = .bad := by rw [← hT1, hr]; rfl
                    have hfin := Lib.hid (And.intro hTb (hV1.out.2.2.trans k2 (fun _ _ h => h) (fun _ _ h => h)))
                    clear k1 k2 hr hno hT1 hTb
                    go_wp2
                    exact ⟨rfl, .inr ⟨hfin.out.1, .inr rfl, hfin.out.2.mono (fun _ _ h => .inl h)⟩⟩
              · rw [if_neg hx4] at hT1 hno
                by_cases h17 : c.toNat = 17
                · rw [if_pos h17] at hT1 hno
                  have hc : (c.toNat : Int) = 17 := by omega
                  go_wp2_with fail
                  refine (MustReadVarUint32_rd S D F g pe r _ hV1.out.1).mono ?_
                  rintro e w2 (⟨n, rest, hr, rfl, k1, k2⟩ | ⟨hr, rfl, k1, k2⟩)
                  · rw [hr] at hT1
                    have hsh := readU_shorter _ _ _ hr
                    have H2 := Lib.hid (And.intro k1 (hV1.out.2.2.trans k2 (fun _ _ h => h) (fun _ _ h => h)))
                    have k2' := Lib.hid k2
                    clear k1 k2 hr hno
                    go_wp2_with fail
                    refine (mustReadByte_rd S D F g pe rest _ H2.out.1).mono ?_
                    rintro e w3 (⟨b, rest2, hr, rfl, k1, k2⟩ | ⟨hr, rfl, k1, k2⟩)
                    · have hbs2 := rdB_some hr
                      subst hbs2
                      simp only [] at hT1
                      simp only [List.length_cons] at hsh
                      have k3 := k2'.out.trans k2 (fun _ _ h => h) (fun _ _ h => h)
                      have hbl := b.toNat_lt
                      have hV2 : Hid (RdS S D F g pe rest2 w3 ∧ Own (Lay.ri f) 283 w.heap.size w3 (.slice u1 u2 u3') acc ∧ Fr F w w3) := ⟨k1, hV1.out.2.1.fr k3 (fun k h1 h2 e => by have := hgF.out k e; omega), hV1.out.2.2.trans k3 (fun _ _ h => h) (fun _ _ h => h)⟩
                      clear k1 k2 k3 hr hV1 H2 k2'
                      rw [PO.app_app] at hT1
                      have hT1 := Lib.hid hT1
                      have hRD := Lib.hid (show (Lay.ri f).rd (fun k => w.heap.size ≤ k ∧ k < w3.heap.size ∧ some k ≠ (Value.slice u1 u2 u3').ownBlock) w3 (#[.iface 337 (.agg #[.int .u32 ((n % 4294967296 : Nat) : Int), .int .u8 (b.toNat : Int)])] : Array Value).toList (.ci (n % 4294967296) b.toNat) from by
                        obtain ⟨f0, rfl⟩ : ∃ f0, f = f0 + 1 := ⟨f - 1, by omega⟩
                        exact ⟨rfl, Nat.mod_lt _ (by decide), hbl⟩)
                      go_wp2_with (at_builtin; refine Hid.out ?_)
                      refine own_append1n (Lay.ri f) w.heap.size w3.heap.size rfl rfl (.tmp 79) (.tmp 86) _ _ _ 16 rfl Tryz.underlying219 (infoInsR f) (by rw [Lay.ri_size]; rfl) (by omega) (by rw [Lay.ri_size]; decide) (.slice u1 u2 u3') acc (.ci (n % 4294967296) b.toNat) _ rfl rfl hV2.out.2.1 hRD.out hV2.out.2.2.size (by omega) ?_
                      intro v1 w6 h1 h2 h3
                      have hne : Hid (∀ k, some k = (Value.slice u1 u2 u3').ownBlock → w.heap.size ≤ k) := fun k hk => (hV2.out.2.1.lt k hk.symm).1
                      have hV6 : Hid (RdS S D F g pe rest2 w6 ∧ Own (Lay.ri f) 283 w.heap.size w6 v1 (acc ++ [.ci (n % 4294967296) b.toNat]) ∧ Fr F w w6) := by
                        have hL := hLT.out
                        refine ⟨hV2.out.1.fr h2 (fun e => by have h4 := hne.out _ e; have h5 : 2 < w.heap.size := hL.2.1; have h6 : w.heap.size ≤ 2 := h4; omega) (fun k hk e => by have := hne.out _ e; have := hL.1.2.1 k hk; omega) (fun k hk e => by have := hne.out _ e; have := (hL.1.2.2 k hk).1; omega), h1, Fr.trans hV2.out.2.2 h2 (fun _ _ h => h) (fun k hk e => absurd hk (by have := hne.out k e; omega))⟩
                      have hm2 := Lib.hid (S.left_is hV6.out.1.is)
                      clear h1 h2 h3 hne hV2 hRD
                      go_wp2
                      go_roundw
                      case rel => exact ⟨f1, _, rest2, hT1, by omega, by simp only [List.length_append, List.length_cons, List.length_nil]; omega, hV6⟩
                      case measure => rw [hm2.out, hm0.out]; simp only [List.length_cons]; omega
                    · have hbs2 := rdB_none hr
                      subst hbs2
                      have hTb : pIns f bs = .bad := by rw [← hT1]; rfl
                      have hfin := Lib.hid (And.intro hTb (H2.out.2.trans k2 (fun _ _ h => h) (fun _ _ h => h)))
                      clear k1 k2 hr hT1 hTb
                      go_wp2
                      exact ⟨rfl, .inr ⟨hfin.out.1, .inr rfl, hfin.out.2.mono (fun _ _ h => .inl h)⟩⟩
                  · have hTb : pIns f bs = .bad := by rw [← hT1, hr]; rfl
                    have hfin := Lib.hid (And.intro hTb (hV1.out.2.2.trans k2 (fun _ _ h => h) (fun _ _ h => h)))
                    clear k1 k2 hr hno hT1 hTb
                    go_wp2
                    exact ⟨rfl, .inr ⟨hfin.out.1, .inr rfl, hfin.out.2.mono (fun _ _ h => .inl h)⟩⟩
                · rw [if_neg h17] at hT1 hno
                  by_cases h15 : c.toNat = 15
                  · rw [if_pos h15] at hT1 hno
                    have hc : (c.toNat : Int) = 15 := by omega
                    have hV2 := hV1
                    have hsh : r.length < r.length + 1 := by omega
                    clear hV1 hno
                    rw [PO.app_app] at hT1
                    have hT1 := Lib.hid hT1
                    have hRD := Lib.hid (show (Lay.ri f).rd (fun k => w.heap.size ≤ k ∧ k < w1.heap.size ∧ some k ≠ (Value.slice u1 u2 u3').ownBlock) w1 (#[.iface 339 (.agg #[])] : Array Value).toList (.ret) from by
                      obtain ⟨f0, rfl⟩ : ∃ f0, f = f0 + 1 := ⟨f - 1, by omega⟩
                      exact rfl)
                    go_wp2_with (at_builtin; refine Hid.out ?_)
                    refine own_append1n (Lay.ri f) w.heap.size w1.heap.size rfl rfl (.tmp 99) (.tmp 102) _ _ _ 16 rfl Tryz.underlying219 (infoInsR f) (by rw [Lay.ri_size]; rfl) (by omega) (by rw [Lay.ri_size]; decide) (.slice u1 u2 u3') acc (.ret) _ rfl rfl hV2.out.2.1 hRD.out hV2.out.2.2.size (by omega) ?_
                    intro v1 w6 h1 h2 h3
                    have hne : Hid (∀ k, some k = (Value.slice u1 u2 u3').ownBlock → w.heap.size ≤ k) := fun k hk => (hV2.out.2.1.lt k hk.symm).1
                    have hV6 : Hid (RdS S D F g pe r w6 ∧ Own (Lay.ri f) 283 w.heap.size w6 v1 (acc ++ [.ret]) ∧ Fr F w w6) := by
                      have hL := hLT.out
                      refine ⟨hV2.out.1.fr h2 (fun e => by have h4 := hne.out _ e; have h5 : 2 < w.heap.size := hL.2.1; have h6 : w.heap.size ≤ 2 := h4; omega) (fun k hk e => by have := hne.out _ e; have := hL.1.2.1 k hk; omega) (fun k hk e => by have := hne.out _ e; have := (hL.1.2.2 k hk).1; omega), h1, Fr.trans hV2.out.2.2 h2 (fun _ _ h => h) (fun k hk e => absurd hk (by have := hne.out k e; omega))⟩
                    have hm2 := Lib.hid (S.left_is hV6.out.1.is)
                    clear h1 h2 h3 hne hV2 hRD
                    go_wp2
                    go_roundw
                    case rel => exact ⟨f1, _, r, hT1, by omega, by simp only [List.length_append, List.length_cons, List.length_nil]; omega, hV6⟩
                    case measure => rw [hm2.out, hm0.out]; simp only [List.length_cons]; omega
                  · rw [if_neg h15] at hT1 hno
                    by_cases h23 : c.toNat = 2 ∨ c.toNat = 3
                    · rw [if_pos h23] at hT1 hno
                      rcases h23 with h2 | h2
                      · rw [show decide (c.toNat = 3) = false from by rw [h2]; rfl] at hT1 hno
                        have hc : (c.toNat : Int) = 2 := by omega
                        cases r with
                        | nil =>
                          have hTb : pIns f bs = .bad := by rw [← hT1]; rfl
                          have hBx := ext_alloc w1 (.cells #[.pointer none, .slice none 0 0] 341)
                          have hBc := Lib.hid (blk_new w1 #[.pointer none, .slice none 0 0] 341)
                          have hSx := Lib.hid (hV1.out.1.ext hBx)
                          have hFx := Lib.hid (hV1.out.2.2.ext hBx)
                          have hcc := hBc.out.cell
                          clear hBx
                          go_wp2_with fail
                          refine (readBlockValueType_rd S D F g pe [] _ hSx.out (fun c r h => by cases h)).mono ?_
                          rintro e w2 (⟨c2, r2, h, -⟩ | ⟨-, ⟨te, ve, rfl⟩, k2⟩)
                          · cases h
                          · have hfin := Lib.hid (And.intro hTb (hFx.out.trans k2 (fun _ _ h => h) (fun _ _ h => h)))
                            clear k2 hcc hno hT1 hTb
                            go_wp2
                            go_ret
                            exact .inr ⟨hfin.out.1, .inl ⟨_, _, rfl⟩, hfin.out.2.mono (fun _ _ h => .inl h)⟩
                        | cons b r1 =>
                          have h64 : b.toNat = 64 := by
                            by_cases h : b.toNat = 64
                            · exact h
                            · exfalso; simp [h] at hno
                          simp only [] at hT1 hno
                          rw [if_neg (fun h => h h64)] at hT1 hno
                          simp only [List.length_cons] at hacc
                          have hBx := ext_alloc w1 (.cells #[.pointer none, .slice none 0 0] 341)
                          obtain ⟨W2, gb, hW2, hgb, H2⟩ : ∃ W2 gb, Hid (w1.alloc (.cells #[.pointer none, .slice none 0 0] 341) = W2) ∧ Hid (w1.heap.size = gb) ∧ Hid (Blk W2 gb #[.pointer none, .slice none 0 0] 341 ∧ RdS S D F g pe (b :: r1) W2 ∧ Ext w1 W2 ∧ w1.heap.size = gb ∧ w.heap.size ≤ gb ∧ ¬ F gb ∧ ¬ D gb ∧ gb ≠ eofAt.block) := by
                            have hL := hLT.out
                            have hs := hV1.out.2.2.size
                            exact ⟨_, _, rfl, rfl, blk_new _ _ _, hV1.out.1.ext hBx, hBx, rfl, hs, fun h => by have := hL.1.2.1 _ h; omega, fun h => by have := (hL.1.2.2 _ h).1; omega, by show w1.heap.size ≠ 2; have h5 : 2 < w.heap.size := hL.2.1; omega⟩
                          have hcc := fun (W' : World) (h : Blk W' gb #[.pointer none, .slice none 0 0] 341) => h.cell
                          clear hBx hcc
                          have hna : ∀ (x : World), x = x := fun _ => rfl
                          clear hna
                          have hno1 : pIns f1 r1 ≠ .odd := fun e => hno (by rw [e])
                          have hT1 := Lib.hid hT1
                          clear hno
                          go_wp2_with fail
                          rw [hW2.out]
                          refine (readBlockValueType_rd S D F g pe (b :: r1) W2 H2.out.2.1 (fun c' r' h => by simp only [List.cons.injEq] at h; rw [← h.1]; exact h64)).mono ?_
                          rintro e w2 (⟨c2, r2, h, rfl, k1, k2⟩ | ⟨h, -⟩)
                          · obtain ⟨rfl, rfl⟩ : c2 = b ∧ r2 = r1 := by simp only [List.cons.injEq] at h; exact ⟨h.1.symm, h.2.symm⟩
                            have H3 : Hid (Blk w2 gb #[.pointer none, .slice none 0 0] 341 ∧ RdS S D F g pe r2 w2 ∧ Fr F w1 w2) := ⟨H2.out.1.fr k2 H2.out.2.2.2.2.2.1, k1, Ext.fr H2.out.2.2.1 k2⟩
                            have hc2 := H3.out.1.cell
                            clear k1 k2 h
                            go_wp2_with fail
                            rw [hgb.out]
                            refine (H.out.2.2.2.2.2.2.2 f1 (by omega) r2 gb 1 #[.pointer none, .slice none 0 0] 341 w2 H3.out.2.1 H3.out.1 (by decide) H2.out.2.2.2.2.2.1 H2.out.2.2.2.2.2.2.1 H2.out.2.2.2.2.2.2.2 (by omega) hno1).mono ?_
                            rintro e w3 (⟨l, rest, sl, hp, rfl, k1, k2, k3, k4⟩ | ⟨hp, hE, k4⟩)
                            · have hsh := pIns_shorter _ _ hp
                              have hT2 := hT1.out
                              rw [hp] at hT2
                              simp only [] at hT2
                              obtain ⟨sa, sc, rfl, -, -⟩ := Lay.slice_form k3
                              have hB3 : Blk w3 gb #[.pointer none, .slice sa l.length sc] 341 := k2
                              have hcc := hB3.cell
                              have hgn := H2.out.2.2.2
                              have hF13 : Fr F w1 w3 := (Fr.trans (U := fun k => F k ∨ k = gb) H3.out.2.2 k4 (fun _ _ h => .inl h) (fun _ _ h => h)).mono (fun k hk h => h.elim id (fun h => absurd hk (by omega)))
                              have hk3 := Lib.hid (And.intro k3 (And.intro H3.out.2.2.size hB3))
                              have hT1 := hT2
                              have hV2 : Hid (RdS S D F g pe rest w3 ∧ Own (Lay.ri f) 283 w.heap.size w3 (.slice u1 u2 u3') acc ∧ Fr F w w3) := ⟨k1, hV1.out.2.1.fr hF13 (fun k h1 h2 e => by have := hgF.out k e; omega), hV1.out.2.2.trans hF13 (fun _ _ h => h) (fun _ _ h => h)⟩
                              clear hT2 k1 k2 k3 k4 hB3 hF13 hgn hp hc2
                              rw [PO.app_app] at hT1
                              have hT1 := Lib.hid hT1
                              have hRD := Lib.hid (show (Lay.ri f).rd (fun k => w.heap.size ≤ k ∧ k < w3.heap.size ∧ some k ≠ (Value.slice u1 u2 u3').ownBlock) w3 (#[.iface 341 (.agg #[.pointer none, .slice sa l.length sc])] : Array Value).toList (.blk false l) from by
                                obtain ⟨f0, rfl⟩ : ∃ f0, f = f0 + 1 := ⟨f - 1, by omega⟩
                                have hg2 := hk3.out.2.1
                                have hg1 := H2.out.2.2.2
                                have hu := hV1.out.2.1.lt
                                have hs1 := hV1.out.2.2.size
                                exact ⟨_, rfl, Lay.slice_imp (fun cs x h => Lay.ri_le (by omega) h) (Lay.mono _ hk3.out.1 (fun k hk => ⟨by omega, hk.2, fun e => by have := (hu k e.symm).2; omega⟩))⟩)
                              go_wp2_with (at_builtin; refine Hid.out ?_)
                              refine own_append1n (Lay.ri f) w.heap.size w3.heap.size rfl rfl (.tmp 120) (.tmp 123) _ _ _ 16 rfl Tryz.underlying219 (infoInsR f) (by rw [Lay.ri_size]; rfl) (by omega) (by rw [Lay.ri_size]; decide) (.slice u1 u2 u3') acc (.blk false l) _ rfl rfl hV2.out.2.1 hRD.out hV2.out.2.2.size (by omega) ?_
                              intro v1 w6 h1 h2 h3
                              have hne : Hid (∀ k, some k = (Value.slice u1 u2 u3').ownBlock → w.heap.size ≤ k) := fun k hk => (hV2.out.2.1.lt k hk.symm).1
                              have hV6 : Hid (RdS S D F g pe rest w6 ∧ Own (Lay.ri f) 283 w.heap.size w6 v1 (acc ++ [.blk false l]) ∧ Fr F w w6) := by
                                have hL := hLT.out
                                refine ⟨hV2.out.1.fr h2 (fun e => by have h4 := hne.out _ e; have h5 : 2 < w.heap.size := hL.2.1; have h6 : w.heap.size ≤ 2 := h4; omega) (fun k hk e => by have := hne.out _ e; have := hL.1.2.1 k hk; omega) (fun k hk e => by have := hne.out _ e; have := (hL.1.2.2 k hk).1; omega), h1, Fr.trans hV2.out.2.2 h2 (fun _ _ h => h) (fun k hk e => absurd hk (by have := hne.out k e; omega))⟩
                              have hm2 := Lib.hid (S.left_is hV6.out.1.is)
                              clear h1 h2 h3 hne hV2 hRD
                              go_wp2
                              go_roundw
                              case rel => exact ⟨f1, _, rest, hT1, by omega, by simp only [List.length_append, List.length_cons, List.length_nil]; omega, hV6⟩
                              case measure => rw [hm2.out, hm0.out]; simp only [List.length_cons]; omega
                            · have hTb : pIns f bs = .bad := by rw [← hT1.out, hp]; rfl
                              have hgn := H2.out.2.2.2
                              have hfin := Lib.hid (And.intro hTb (show Fr F w w3 from hV1.out.2.2.trans ((Fr.trans (U := fun k => F k ∨ k = gb) H3.out.2.2 k4 (fun _ _ h => .inl h) (fun _ _ h => h)).mono (fun k hk h => h.elim id (fun h => absurd hk (by omega)))) (fun _ _ h => h) (fun _ _ h => h)))
                              clear hTb hgn k4 hp hT1 hc2
                              rcases hE with ⟨te, ve, rfl⟩ | rfl
                              · go_wp2
                                go_ret
                                exact .inr ⟨hfin.out.1, .inl ⟨_, _, rfl⟩, hfin.out.2.mono (fun _ _ h => .inl h)⟩
                              · go_wp2
                                exact ⟨rfl, .inr ⟨hfin.out.1, .inr rfl, hfin.out.2.mono (fun _ _ h => .inl h)⟩⟩
                          · cases h
                      · rw [show decide (c.toNat = 3) = true from by rw [h2]; rfl] at hT1 hno
                        have hc : (c.toNat : Int) = 3 := by omega
                        cases r with
                        | nil =>
                          have hTb : pIns f bs = .bad := by rw [← hT1]; rfl
                          have hBx := ext_alloc w1 (.cells #[.pointer none, .slice none 0 0] 342)
                          have hBc := Lib.hid (blk_new w1 #[.pointer none, .slice none 0 0] 342)
                          have hSx := Lib.hid (hV1.out.1.ext hBx)
                          have hFx := Lib.hid (hV1.out.2.2.ext hBx)
                          have hcc := hBc.out.cell
                          clear hBx
                          go_wp2_with fail
                          refine (readBlockValueType_rd S D F g pe [] _ hSx.out (fun c r h => by cases h)).mono ?_
                          rintro e w2 (⟨c2, r2, h, -⟩ | ⟨-, ⟨te, ve, rfl⟩, k2⟩)
                          · cases h
                          · have hfin := Lib.hid (And.intro hTb (hFx.out.trans k2 (fun _ _ h => h) (fun _ _ h => h)))
                            clear k2 hcc hno hT1 hTb
                            go_wp2
                            go_ret
                            exact .inr ⟨hfin.out.1, .inl ⟨_, _, rfl⟩, hfin.out.2.mono (fun _ _ h => .inl h)⟩
                        | cons b r1 =>
                          have h64 : b.toNat = 64 := by
                            by_cases h : b.toNat = 64
                            · exact h
                            · exfalso; simp [h] at hno
                          simp only [] at hT1 hno
                          rw [if_neg (fun h => h h64)] at hT1 hno
                          simp only [List.length_cons] at hacc
                          have hBx := ext_alloc w1 (.cells #[.pointer none, .slice none 0 0] 342)
                          obtain ⟨W2, gb, hW2, hgb, H2⟩ : ∃ W2 gb, Hid (w1.alloc (.cells #[.pointer none, .slice none 0 0] 342) = W2) ∧ Hid (w1.heap.size = gb) ∧ Hid (Blk W2 gb #[.pointer none, .slice none 0 0] 342 ∧ RdS S D F g pe (b :: r1) W2 ∧ Ext w1 W2 ∧ w1.heap.size = gb ∧ w.heap.size ≤ gb ∧ ¬ F gb ∧ ¬ D gb ∧ gb ≠ eofAt.block) := by
                            have hL := hLT.out
                            have hs := hV1.out.2.2.size
                            exact ⟨_, _, rfl, rfl, blk_new _ _ _, hV1.out.1.ext hBx, hBx, rfl, hs, fun h => by have := hL.1.2.1 _ h; omega, fun h => by have := (hL.1.2.2 _ h).1; omega, by show w1.heap.size ≠ 2; have h5 : 2 < w.heap.size := hL.2.1; omega⟩
                          have hcc := fun (W' : World) (h : Blk W' gb #[.pointer none, .slice none 0 0] 342) => h.cell
                          clear hBx hcc
                          have hna : ∀ (x : World), x = x := fun _ => rfl
                          clear hna
                          have hno1 : pIns f1 r1 ≠ .odd := fun e => hno (by rw [e])
                          have hT1 := Lib.hid hT1
                          clear hno
                          go_wp2_with fail
                          rw [hW2.out]
                          refine (readBlockValueType_rd S D F g pe (b :: r1) W2 H2.out.2.1 (fun c' r' h => by simp only [List.cons.injEq] at h; rw [← h.1]; exact h64)).mono ?_
                          rintro e w2 (⟨c2, r2, h, rfl, k1, k2⟩ | ⟨h, -⟩)
                          · obtain ⟨rfl, rfl⟩ : c2 = b ∧ r2 = r1 := by simp only [List.cons.injEq] at h; exact ⟨h.1.symm, h.2.symm⟩
                            have H3 : Hid (Blk w2 gb #[.pointer none, .slice none 0 0] 342 ∧ RdS S D F g pe r2 w2 ∧ Fr F w1 w2) := ⟨H2.out.1.fr k2 H2.out.2.2.2.2.2.1, k1, Ext.fr H2.out.2.2.1 k2⟩
                            have hc2 := H3.out.1.cell
                            clear k1 k2 h
                            go_wp2_with fail
                            rw [hgb.out]
                            refine (H.out.2.2.2.2.2.2.2 f1 (by omega) r2 gb 1 #[.pointer none, .slice none 0 0] 342 w2 H3.out.2.1 H3.out.1 (by decide) H2.out.2.2.2.2.2.1 H2.out.2.2.2.2.2.2.1 H2.out.2.2.2.2.2.2.2 (by omega) hno1).mono ?_
                            rintro e w3 (⟨l, rest, sl, hp, rfl, k1, k2, k3, k4⟩ | ⟨hp, hE, k4⟩)
                            · have hsh := pIns_shorter _ _ hp
                              have hT2 := hT1.out
                              rw [hp] at hT2
                              simp only [] at hT2
                              obtain ⟨sa, sc, rfl, -, -⟩ := Lay.slice_form k3
                              have hB3 : Blk w3 gb #[.pointer none, .slice sa l.length sc] 342 := k2
                              have hcc := hB3.cell
                              have hgn := H2.out.2.2.2
                              have hF13 : Fr F w1 w3 := (Fr.trans (U := fun k => F k ∨ k = gb) H3.out.2.2 k4 (fun _ _ h => .inl h) (fun _ _ h => h)).mono (fun k hk h => h.elim id (fun h => absurd hk (by omega)))
                              have hk3 := Lib.hid (And.intro k3 (And.intro H3.out.2.2.size hB3))
                              have hT1 := hT2
                              have hV2 : Hid (RdS S D F g pe rest w3 ∧ Own (Lay.ri f) 283 w.heap.size w3 (.slice u1 u2 u3') acc ∧ Fr F w w3) := ⟨k1, hV1.out.2.1.fr hF13 (fun k h1 h2 e => by have := hgF.out k e; omega), hV1.out.2.2.trans hF13 (fun _ _ h => h) (fun _ _ h => h)⟩
                              clear hT2 k1 k2 k3 k4 hB3 hF13 hgn hp hc2
                              rw [PO.app_app] at hT1
                              have hT1 := Lib.hid hT1
                              have hRD := Lib.hid (show (Lay.ri f).rd (fun k => w.heap.size ≤ k ∧ k < w3.heap.size ∧ some k ≠ (Value.slice u1 u2 u3').ownBlock) w3 (#[.iface 342 (.agg #[.pointer none, .slice sa l.length sc])] : Array Value).toList (.blk true l) from by
                                obtain ⟨f0, rfl⟩ : ∃ f0, f = f0 + 1 := ⟨f - 1, by omega⟩
                                have hg2 := hk3.out.2.1
                                have hg1 := H2.out.2.2.2
                                have hu := hV1.out.2.1.lt
                                have hs1 := hV1.out.2.2.size
                                exact ⟨_, rfl, Lay.slice_imp (fun cs x h => Lay.ri_le (by omega) h) (Lay.mono _ hk3.out.1 (fun k hk => ⟨by omega, hk.2, fun e => by have := (hu k e.symm).2; omega⟩))⟩)
                              go_wp2_with (at_builtin; refine Hid.out ?_)
                              refine own_append1n (Lay.ri f) w.heap.size w3.heap.size rfl rfl (.tmp 141) (.tmp 144) _ _ _ 16 rfl Tryz.underlying219 (infoInsR f) (by rw [Lay.ri_size]; rfl) (by omega) (by rw [Lay.ri_size]; decide) (.slice u1 u2 u3') acc (.blk true l) _ rfl rfl hV2.out.2.1 hRD.out hV2.out.2.2.size (by omega) ?_
                              intro v1 w6 h1 h2 h3
                              have hne : Hid (∀ k, some k = (Value.slice u1 u2 u3').ownBlock → w.heap.size ≤ k) := fun k hk => (hV2.out.2.1.lt k hk.symm).1
                              have hV6 : Hid (RdS S D F g pe rest w6 ∧ Own (Lay.ri f) 283 w.heap.size w6 v1 (acc ++ [.blk true l]) ∧ Fr F w w6) := by
                                have hL := hLT.out
                                refine ⟨hV2.out.1.fr h2 (fun e => by have h4 := hne.out _ e; have h5 : 2 < w.heap.size := hL.2.1; have h6 : w.heap.size ≤ 2 := h4; omega) (fun k hk e => by have := hne.out _ e; have := hL.1.2.1 k hk; omega) (fun k hk e => by have := hne.out _ e; have := (hL.1.2.2 k hk).1; omega), h1, Fr.trans hV2.out.2.2 h2 (fun _ _ h => h) (fun k hk e => absurd hk (by have := hne.out k e; omega))⟩
                              have hm2 := Lib.hid (S.left_is hV6.out.1.is)
                              clear h1 h2 h3 hne hV2 hRD
                              go_wp2
                              go_roundw
                              case rel => exact ⟨f1, _, rest, hT1, by omega, by simp only [List.length_append, List.length_cons, List.length_nil]; omega, hV6⟩
                              case measure => rw [hm2.out, hm0.out]; simp only [List.length_cons]; omega
                            · have hTb : pIns f bs = .bad := by rw [← hT1.out, hp]; rfl
                              have hgn := H2.out.2.2.2
                              have hfin := Lib.hid (And.intro hTb (show Fr F w w3 from hV1.out.2.2.trans ((Fr.trans (U := fun k => F k ∨ k = gb) H3.out.2.2 k4 (fun _ _ h => .inl h) (fun _ _ h => h)).mono (fun k hk h => h.elim id (fun h => absurd hk (by omega)))) (fun _ _ h => h) (fun _ _ h => h)))
                              clear hTb hgn k4 hp hT1 hc2
                              rcases hE with ⟨te, ve, rfl⟩ | rfl
                              · go_wp2
                                go_ret
                                exact .inr ⟨hfin.out.1, .inl ⟨_, _, rfl⟩, hfin.out.2.mono (fun _ _ h => .inl h)⟩
                              · go_wp2
                                exact ⟨rfl, .inr ⟨hfin.out.1, .inr rfl, hfin.out.2.mono (fun _ _ h => .inl h)⟩⟩
                          · cases h
                    · rw [if_neg h23] at hT1 hno
                      by_cases h11 : c.toNat = 11
                      · rw [if_pos h11] at hT1 hno
                        have hc : (c.toNat : Int) = 11 := by omega
                        have hT2 : pIns f bs = .ok acc r := by rw [← hT1]; simp [PO.app]
                        have hBg := H.out.2.1.fr hV1.out.2.2 H.out.2.2.1
                        have hcg := hBg.cell o
                        rw [hx] at hcg
                        have hfg := hBg.frz o
                        have H2 := Lib.hid (And.intro hT2 hBg)
                        clear hno hT1 hT2 hBg
                        go_wp2
                        go_ret
                        have hs := fr_setCell w1 ⟨gt, o, none⟩ (.slice u1 u2 u3')
                        have hgt : gt < w.heap.size := hLT.out.2.2
                        refine .inl ⟨acc, r, .slice u1 u2 u3', H2.out.1, rfl, hV1.out.1.fr hs (fun e => H.out.2.2.2.2.1 e.symm) (fun k hk e => by have e' : k = gt := e; subst e'; exact H.out.2.2.1 hk) (fun k hk e => by have e' : k = gt := e; subst e'; exact H.out.2.2.2.1 hk), H2.out.2.set o _, ?_, Fr.trans hV1.out.2.2 hs (fun _ _ h => .inl h) (fun _ _ h => .inr h)⟩
                        exact Lay.mono _ (Lay.fr hV1.out.2.1.slice hs (fun k hk => ⟨hk.2, fun e => by have e' : k = gt := e; omega⟩)) (fun k hk => ⟨hk.1, Nat.lt_of_lt_of_le hk.2 hs.size⟩)
                      · rw [if_neg h11] at hno
                        exact absurd rfl hno
      · have hbs := rdB_none hr
        subst hbs
        have hTb : pIns f bs = .bad := by rw [← hT.out]; rfl
        have hfin := Lib.hid (And.intro hTb (hV.out.2.2.trans k2 (fun _ _ h => h) (fun _ _ h => h)))
        clear k1 k2 hr hTb hT
        go_wp2
        go_ret
        exact .inr ⟨hfin.out.1, .inl ⟨_, _, rfl⟩, hfin.out.2.mono (fun _ _ h => .inl h)⟩
end Go.Proofs.YtbdahjpdjamgiaaGreatDoor
