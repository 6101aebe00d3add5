/- Texts of this proof, one behind the other. -/
import Derived.Test.YtbdahjpdjamgiaaGreatDoorPart10
import Derived.Test.YtbdahjpdjamgiaaGreatDoorPart4
import Derived.OwnWalk
import Derived.Test.YtbdahjpdjamgiaaGreatDoorPart9
import Derived.Test.YtbdahjpdjamgiaaGreatDoorPart3
/- Declarations of locals, read. -/
namespace Go.Proofs.YtbdahjpdjamgiaaGreatDoor
open Go.RowKit
set_option maxRecDepth 100000 in
set_option maxHeartbeats 400000 in
theorem errorsNew_calls (x : ByteArray) (w : World) : Calls Tryz.prog 74 #[.string x] w fun e w' => (∃ p, e = .returned (.iface 317 (.pointer (some p)))) ∧ Ext w w' := by
  go_enter Tryz.func74, Tryz.ntmps74
  go_wp2
  go_ret
  exact ⟨⟨_, rfl⟩, ext_alloc _ _⟩
set_option maxRecDepth 100000 in
set_option maxHeartbeats 1000000 in
theorem readVarUint32_rd (S : Rdr) (D F : Nat → Prop) (g b o : Nat) (pe : Addr) (bs : List UInt8) (cs : Array Value) (T : TypeId) (w : World) (hS : RdS S D F g pe bs w) (hB : Blk w b cs T) (ho : o < cs.size) (hF : ¬ F b) (hD : ¬ D b) (hb : b ≠ eofAt.block) :
    Calls Tryz.prog 71 #[.iface S.T (.pointer (some ⟨g, 0, none⟩)), .pointer (some ⟨b, o, none⟩)] w fun e w' =>
      (∃ n rest, readU 0 0 bs = some (n, rest) ∧ e = .returned .nilIface ∧ RdS S D F g pe rest w' ∧ Blk w' b (cs.setIfInBounds o (.int .u32 ((n % 4294967296 : Nat) : Int))) T ∧ Fr (fun k => F k ∨ k = b) w w') ∨
      (readU 0 0 bs = none ∧ (∃ te ve, e = .returned (.iface te ve)) ∧ Fr (fun k => F k ∨ k = b) w w') := by
  have HC := Lib.hid (ReadVarUint32_rd S D F g pe bs w hS)
  have H := Lib.hid (And.intro hS (And.intro hB (And.intro hF (And.intro hD hb))))
  obtain ⟨x, hx⟩ : ∃ x, cs[o]? = some x := ⟨cs[o], Array.getElem?_eq_getElem ho⟩
  clear hS hB hF hD hb
  go_enter Tryz.func71, Tryz.ntmps71
  go_wp2_with fail
  refine HC.out.mono ?_
  rintro e w1 (⟨n, rest, hr, rfl, h1, h2⟩ | ⟨hr, ⟨n, rfl⟩, h1, h2⟩)
  · have hB1 := H.out.2.1.fr h2 H.out.2.2.1
    have hc := hB1.cell o
    rw [hx] at hc
    have hf := hB1.frz o
    have H1 := Lib.hid (And.intro hr (And.intro h1 (And.intro h2 hB1)))
    clear h1 h2 hr HC hB1
    go_wp2
    go_ret
    have hs := fr_setCell w1 ⟨b, o, none⟩ (.int .u32 ((n % 4294967296 : Nat) : Int))
    refine .inl ⟨_, _, H1.out.1, rfl, H1.out.2.1.fr hs (fun e => H.out.2.2.2.2 e.symm) (fun k hk e => by have e' : k = b := e; subst e'; exact H.out.2.2.1 hk) (fun k hk e => by have e' : k = b := e; subst e'; exact H.out.2.2.2.1 hk), H1.out.2.2.2.set o _, Fr.trans H1.out.2.2.1 hs (fun _ _ h => .inl h) (fun _ _ h => .inr h)⟩
  · have hB1 := H.out.2.1.fr h2 H.out.2.2.1
    have hc := hB1.cell o
    rw [hx] at hc
    have hf := hB1.frz o
    have H1 := Lib.hid (And.intro hr (And.intro h1 (And.intro h2 hB1)))
    clear h1 h2 hr HC hB1
    go_wp2
    go_ret
    have hs := fr_setCell w1 ⟨b, o, none⟩ (.int .u32 ((n % 4294967296 : Nat) : Int))
    exact .inr ⟨H1.out.1, ⟨_, _, rfl⟩, Fr.trans H1.out.2.2.1 hs (fun _ _ h => .inl h) (fun _ _ h => .inr h)⟩
set_option maxRecDepth 100000 in
set_option maxHeartbeats 1000000 in
theorem readValueType_rd (S : Rdr) (D F : Nat → Prop) (g b o : Nat) (pe : Addr) (bs : List UInt8) (cs : Array Value) (T : TypeId) (w : World) (hS : RdS S D F g pe bs w) (hB : Blk w b cs T) (ho : o < cs.size) (hF : ¬ F b) (hD : ¬ D b) (hb : b ≠ eofAt.block) :
    Calls Tryz.prog 72 #[.iface S.T (.pointer (some ⟨g, 0, none⟩)), .pointer (some ⟨b, o, none⟩)] w fun e w' =>
      (∃ c r, bs = c :: r ∧ 124 ≤ c.toNat ∧ c.toNat ≤ 127 ∧ e = .returned .nilIface ∧ RdS S D F g pe r w' ∧ Blk w' b (cs.setIfInBounds o (.int .i64 (127 - (c.toNat : Int)))) T ∧ Fr (fun k => F k ∨ k = b) w w') ∨
      ((bs = [] ∨ ∃ c r, bs = c :: r ∧ ¬ (124 ≤ c.toNat ∧ c.toNat ≤ 127)) ∧ (∃ te ve, e = .returned (.iface te ve)) ∧ Fr (fun k => F k ∨ k = b) w w') := by
  have HC := Lib.hid (readByte_rd S D F g pe bs w hS)
  have H := Lib.hid (And.intro hS (And.intro hB (And.intro hF (And.intro hD hb))))
  obtain ⟨x, hx⟩ : ∃ x, cs[o]? = some x := ⟨cs[o], Array.getElem?_eq_getElem ho⟩
  clear hS hB hF hD hb
  go_enter Tryz.func72, Tryz.ntmps72
  go_wp2_with fail
  refine HC.out.mono ?_
  rintro e w1 (⟨c, rest, hr, rfl, h1, h2⟩ | ⟨hr, ⟨n, rfl⟩, h1, h2⟩)
  · have hbs : bs = c :: rest := by
      cases bs with
      | nil => cases hr
      | cons a r => simp only [rdB, Option.some.injEq, Prod.mk.injEq] at hr; rw [hr.1, hr.2]
    have hbs := Lib.hid hbs
    have hB1 := H.out.2.1.fr h2 H.out.2.2.1
    have hc := hB1.cell o
    rw [hx] at hc
    have hf := hB1.frz o
    have ht := c.toNat_lt
    have hs : ∀ v, RdS S D F g pe rest (w1.setCell ⟨b, o, none⟩ v) ∧ Blk (w1.setCell ⟨b, o, none⟩ v) b (cs.setIfInBounds o v) T ∧ Fr (fun k => F k ∨ k = b) w (w1.setCell ⟨b, o, none⟩ v) := fun v => by
      have hs := fr_setCell w1 ⟨b, o, none⟩ v
      exact ⟨h1.fr hs (fun e => H.out.2.2.2.2 e.symm) (fun k hk e => by have e' : k = b := e; subst e'; exact H.out.2.2.1 hk) (fun k hk e => by have e' : k = b := e; subst e'; exact H.out.2.2.2.1 hk), hB1.set o _, Fr.trans h2 hs (fun _ _ h => .inl h) (fun _ _ h => .inr h)⟩
    have hs := Lib.hid hs
    have h2 := Lib.hid h2
    clear h1 hr HC hB1
    have hne : ∀ k : Nat, c.toNat ≠ k → ((c.toNat : Int) == (k : Int)) = false := fun k h => by rw [beq_eq_false_iff_ne]; omega
    by_cases h127 : c.toNat = 127
    · have b127 : ((c.toNat : Int) == 127) = true := by rw [beq_iff_eq]; omega
      have hlo : 124 ≤ c.toNat ∧ c.toNat ≤ 127 := by omega
      have he : Hid (127 - (c.toNat : Int) = 0) := by show _ = _; omega
      go_wp2
      go_ret
      refine .inl ⟨c, rest, hbs.out, hlo.1, hlo.2, rfl, (hs.out _).1, ?_, (hs.out _).2.2⟩
      rw [he.out]
      exact (hs.out _).2.1
    · have b127 : ((c.toNat : Int) == 127) = false := hne 127 h127
      by_cases h126 : c.toNat = 126
      · have b126 : ((c.toNat : Int) == 126) = true := by rw [beq_iff_eq]; omega
        have hlo : 124 ≤ c.toNat ∧ c.toNat ≤ 127 := by omega
        have he : Hid (127 - (c.toNat : Int) = 1) := by show _ = _; omega
        go_wp2
        go_ret
        refine .inl ⟨c, rest, hbs.out, hlo.1, hlo.2, rfl, (hs.out _).1, ?_, (hs.out _).2.2⟩
        rw [he.out]
        exact (hs.out _).2.1
      · have b126 : ((c.toNat : Int) == 126) = false := hne 126 h126
        by_cases h125 : c.toNat = 125
        · have b125 : ((c.toNat : Int) == 125) = true := by rw [beq_iff_eq]; omega
          have hlo : 124 ≤ c.toNat ∧ c.toNat ≤ 127 := by omega
          have he : Hid (127 - (c.toNat : Int) = 2) := by show _ = _; omega
          go_wp2
          go_ret
          refine .inl ⟨c, rest, hbs.out, hlo.1, hlo.2, rfl, (hs.out _).1, ?_, (hs.out _).2.2⟩
          rw [he.out]
          exact (hs.out _).2.1
        · have b125 : ((c.toNat : Int) == 125) = false := hne 125 h125
          by_cases h124 : c.toNat = 124
          · have b124 : ((c.toNat : Int) == 124) = true := by rw [beq_iff_eq]; omega
            have hlo : 124 ≤ c.toNat ∧ c.toNat ≤ 127 := by omega
            have he : Hid (127 - (c.toNat : Int) = 3) := by show _ = _; omega
            go_wp2
            go_ret
            refine .inl ⟨c, rest, hbs.out, hlo.1, hlo.2, rfl, (hs.out _).1, ?_, (hs.out _).2.2⟩
            rw [he.out]
            exact (hs.out _).2.1
          · have b124 : ((c.toNat : Int) == 124) = false := hne 124 h124
            have hlo : ¬ (124 ≤ c.toNat ∧ c.toNat ≤ 127) := by omega
            clear hne
            go_wp2_with fail
            refine (errorsNew_calls _ _).mono ?_
            rintro e w2 ⟨⟨p, rfl⟩, hx2⟩
            have hx2 := Lib.hid hx2
            clear hc hf
            go_wp2
            go_ret
            exact .inr ⟨.inr ⟨c, rest, hbs.out, hlo⟩, ⟨_, _, rfl⟩, (h2.out.mono (fun _ _ h => .inl h)).ext hx2.out⟩
  · have hbs : bs = [] := by
      cases bs with
      | nil => rfl
      | cons a r => cases hr
    have H1 := Lib.hid (And.intro hbs h2)
    clear h1 h2 hr HC hbs
    go_wp2
    go_ret
    exact .inr ⟨.inl H1.out.1, ⟨_, _, rfl⟩, H1.out.2.mono (fun _ _ h => .inl h)⟩
/-- Declarations, as the package reads them. -/
def pLocals : Nat → List UInt8 → Option (List (UInt32 × Int) × List UInt8)
  | 0, bs => some ([], bs)
  | n + 1, bs => match readU 0 0 bs with
    | none => none
    | some (_, []) => none
    | some (m, c :: r) => if 124 ≤ c.toNat ∧ c.toNat ≤ 127 then (pLocals n r).map (fun p => ((UInt32.ofNat (m % 4294967296), 127 - (c.toNat : Int)) :: p.1, p.2)) else none
def pLoc (bs : List UInt8) : Option (List (UInt32 × Int) × List UInt8) := match readU 0 0 bs with
  | none => none
  | some (n, r) => pLocals (n % 4294967296) r
def locC (x : UInt32 × Int) : List Value := [.int .u32 (x.1.toNat : Int), .int .i64 x.2]
/-- A row of n declarations of which the first ones are there. -/
def locRow (ls : List (UInt32 × Int)) (m : Nat) : List Value := ls.flatMap locC ++ (List.replicate m [Value.int .u32 0, .int .i64 0]).flatten
theorem locs_len : ∀ ls : List (UInt32 × Int), (ls.flatMap locC).length = 2 * ls.length
  | [] => rfl
  | x :: xs => by simp only [List.flatMap_cons, List.length_append, locs_len xs, List.length_cons, locC, List.length_nil]; omega
theorem zeros_len : ∀ m : Nat, (List.replicate m [Value.int .u32 0, .int .i64 0]).flatten.length = 2 * m
  | 0 => rfl
  | m + 1 => by simp only [List.replicate_succ, List.flatten_cons, List.length_append, zeros_len m, List.length_cons, List.length_nil]; omega
theorem locRow_len (ls : List (UInt32 × Int)) (m : Nat) : (locRow ls m).length = 2 * (ls.length + m) := by
  unfold locRow; rw [List.length_append, locs_len, zeros_len]; omega
theorem locRow_set (ls : List (UInt32 × Int)) (m : Nat) (x : UInt32 × Int) : ((locRow ls (m + 1)).toArray.setIfInBounds (2 * ls.length) (.int .u32 (x.1.toNat : Int))).setIfInBounds (2 * ls.length + 1) (.int .i64 x.2) = (locRow (ls ++ [x]) m).toArray := by
  have h := locs_len ls
  unfold locRow
  rw [List.flatMap_append, ← h]
  generalize ls.flatMap locC = p at *
  simp [locC, List.replicate_succ]
theorem locRow_made (n : Nat) : (madeCells #[Value.int .u32 0, .int .i64 0] (n * 2)).toList = locRow [] n := by
  show _ = (List.replicate n [Value.int .u32 0, .int .i64 0]).flatten
  induction n with
  | zero => simp [madeCells]
  | succ n ih =>
    rw [List.replicate_succ', List.flatten_append, ← ih, show (n + 1) * 2 = n * 2 + 1 + 1 from by omega]
    unfold madeCells
    rw [Array.range_succ, Array.range_succ]
    have h1 : (n * 2 + 1) % 2 = 1 := by omega
    have h0 : (n * 2) % 2 = 0 := by omega
    simp [h0, h1]
/-- Whole declarations, read as a slice. -/
theorem locRow_all {A : Nat → Prop} {w : World} : ∀ (ls : List (UInt32 × Int)), (∀ x ∈ ls, -9223372036854775808 ≤ x.2 ∧ x.2 ≤ 9223372036854775807) → Lay.loc.all A w (locRow ls 0) ls
  | [], _ => rfl
  | x :: xs, h => ⟨locC x, locRow xs 0, by simp [locRow], ⟨[_], [_], rfl, rfl, rfl, h x (List.mem_cons_self ..)⟩, locRow_all xs (fun y hy => h y (List.mem_cons_of_mem _ hy))⟩
set_option maxRecDepth 100000 in
set_option maxHeartbeats 4000000 in
theorem readLocals_rd (S : Rdr) (D F : Nat → Prop) (g ge : Nat) (pe : Addr) (bs : List UInt8) (cs : Array Value) (T : TypeId) (w : World) (hS : RdS S D F g pe bs w) (hB : Blk w ge cs T) (ho : 0 < cs.size) (hF : ¬ F ge) (hD : ¬ D ge) (hb : ge ≠ eofAt.block) :
    Calls Tryz.prog 63 #[.iface S.T (.pointer (some ⟨g, 0, none⟩)), .pointer (some ⟨ge, 0, none⟩)] w fun e w' =>
      (∃ ls rest sl, pLoc bs = some (ls, rest) ∧ e = .returned .nilIface ∧ RdS S D F g pe rest w' ∧ Blk w' ge (cs.setIfInBounds 0 sl) T ∧ Lay.loc.slice.rd (fun k => w.heap.size ≤ k ∧ k < w'.heap.size) w' [sl] ls ∧ Fr (fun k => F k ∨ k = ge) w w') ∨
      (pLoc bs = none ∧ (∃ te ve, e = .returned (.iface te ve)) ∧ Fr (fun k => F k ∨ k = ge) w w') := by
  have HC := Lib.hid (ReadVarUint32_rd S D F g pe bs w hS)
  have H := Lib.hid (And.intro hS (And.intro hB (And.intro hF (And.intro hD hb))))
  obtain ⟨x, hx⟩ : ∃ x, cs[0]? = some x := ⟨cs[0], Array.getElem?_eq_getElem ho⟩
  have hlt := S.lt hS.is
  have hel := cell_lt hS.cell
  have hLT := Lib.hid (And.intro hlt (And.intro hel hB.lt))
  clear hS hB hF hD hb hlt hel
  go_enter Tryz.func63, Tryz.ntmps63
  go_wp2_with fail
  refine HC.out.mono ?_
  rintro e w1 (⟨n, rest, hr, rfl, h1, h2⟩ | ⟨hr, ⟨n, rfl⟩, h1, h2⟩)
  · have hpl := Lib.hid (show pLoc bs = pLocals (n % 4294967296) rest from by unfold pLoc; rw [hr])
    have hnl : n % 4294967296 < 4294967296 := Nat.mod_lt _ (by decide)
    generalize hm : n % 4294967296 = m at *
    have hnm : (n : Int) % 4294967296 = (m : Int) := by omega
    clear hm
    have H1 := Lib.hid (And.intro h1 h2)
    clear h1 h2 hr HC
    obtain ⟨inf, hi, hz1, hz2, hz3⟩ := info_parts (show (Tryz.prog.info? 246).map (fun i => (i.zero, i.size, i.bytes)) = some (some (.agg #[.int .u32 0, .int .i64 0]), 2, 16) from by kernel_rfl)
    have hik := Lib.hid (And.intro hi (And.intro hz1 (And.intro hz2 hz3)))
    clear hi hz1 hz2 hz3
    go_wp2_with (at_make; refine Hid.out ?_)
    obtain ⟨hi, hz1, hz2, hz3⟩ := hik.out
    refine wpList_make_full _ rfl (.tmp 19) (.tmp 19) 240 rfl w1.heap.size 246 inf (.agg #[.int .u32 0, .int .i64 0]) 2 Tryz.underlying240 hi hz1 hz2 .u32 .u32 (m : Int) (m : Int) m rfl rfl rfl rfl (by rw [hz3]; omega) (by show m ≤ 9223372036854775807; omega) (Nat.le_refl _) ?_
    intro w2 hO hG
    obtain ⟨b, hb, H2⟩ : ∃ b, Hid (w1.heap.size = b) ∧ Hid (Blk w2 b (locRow [] m).toArray 246 ∧ Ext w1 w2 ∧ w.heap.size ≤ b ∧ ¬ F b ∧ ¬ D b ∧ b ≠ ge ∧ b ≠ eofAt.block) := by
      have hx : Ext w1 w2 := (grown_fr hG).mono (fun _ _ h => by cases h)
      have hs1 := H1.out.2.size
      have hL := hLT.out
      refine ⟨_, rfl, ?_, hx, hs1, fun h => by have := hL.1.2.1 _ h; omega, fun h => by have := (hL.1.2.2 _ h).1; omega, by have := hL.2.2; omega, by show w1.heap.size ≠ 2; have := hL.2.1; omega⟩
      obtain ⟨hl, h | ⟨gb, cap, cur, hv, hg, hh, hc1, hc2, hc3, hc4⟩⟩ := hO
      · exact absurd h.1 (by simp)
      · simp only [Value.slice.injEq, Option.some.injEq, Addr.mk.injEq, true_and, and_true] at hv
        obtain ⟨rfl, rfl⟩ := hv
        have : cur.toList = locRow [] m := by
          have hc5 : cur.toList.take (m * 2) = (madeCells #[.int .u32 0, .int .i64 0] (m * 2)).toList := hc4
          rw [← locRow_made, ← hc5, List.take_of_length_le (by rw [Array.length_toList]; omega)]
        rw [← this]
        exact hh
    rw [hb.out]
    clear hO hG hi hz1 hz2 hz3 hik hb
    have hS2 := Lib.hid (H1.out.1.ext H2.out.2.1)
    have hFw2 := Lib.hid (H1.out.2.ext H2.out.2.1)
    go_wp2_with fail
    go_loopw [8, 22] (fun s8 s22 w' => ∃ (i : Nat) (ls : List (UInt32 × Int)) (bs' : List UInt8), i ≤ m ∧ s22 = .int .u32 i ∧ ls.length = i ∧ Hid ((pLocals (m - i) bs').map (fun p => (ls ++ p.1, p.2)) = pLocals m rest) ∧ Hid (RdS S D F g pe bs' w' ∧ Blk w' b (locRow ls (m - i)).toArray 246 ∧ Fr (fun k => F k ∨ k = b) w2 w' ∧ ∀ x ∈ ls, -9223372036854775808 ≤ x.2 ∧ x.2 ≤ 9223372036854775807)) (fun _ s22 _ => m - (intOf s22).toNat)
    case atStart => exact ⟨0, [], rest, Nat.zero_le _, rfl, rfl, by show Option.map _ _ = _; cases pLocals m rest <;> rfl, hS2.out, H2.out.1, Fr.refl _ _, by simp⟩
    case round =>
      obtain ⟨i, ls, bs', hi, rfl, hli, hT, hV⟩ := hrel
      by_cases hlt : i < m
      · obtain ⟨q, hq⟩ : ∃ q, m - i = q + 1 := ⟨m - i - 1, by omega⟩
        have hT2 := hT.out
        have hVV := hV.out
        rw [hq] at hT2 hVV
        have hq2 : m - (i + 1) = q := by omega
        have hsz := locRow_len ls (q + 1)
        have H3 := Lib.hid (And.intro hT2 hVV)
        clear hT hV hT2
        go_wp2_with fail
        refine (readVarUint32_rd S D F g b (i * 2) pe bs' _ _ _ H3.out.2.1 H3.out.2.2.1 (by rw [List.size_toArray, hsz]; omega) H2.out.2.2.2.1 H2.out.2.2.2.2.1 H2.out.2.2.2.2.2.2).mono ?_
        rintro e w4 (⟨x4, r4, hr4, rfl, k1, k2, k3⟩ | ⟨hr4, ⟨te, ve, rfl⟩, k3⟩)
        · have H4 := Lib.hid (And.intro hr4 (And.intro k1 (And.intro k2 k3)))
          clear k1 k2 k3 hr4
          go_wp2_with fail
          refine (readValueType_rd S D F g b (i * 2 + 1) pe r4 _ _ _ H4.out.2.1 H4.out.2.2.1 (by rw [Array.size_setIfInBounds, List.size_toArray, hsz]; omega) H2.out.2.2.2.1 H2.out.2.2.2.2.1 H2.out.2.2.2.2.2.2).mono ?_
          rintro e w5 (⟨c, r5, rfl, hc1, hc2, rfl, k1, k2, k3⟩ | ⟨hr5, ⟨te, ve, rfl⟩, k3⟩)
          · have hV5 : Hid ((pLocals (m - (i + 1)) r5).map (fun p => ((ls ++ [(UInt32.ofNat (x4 % 4294967296), 127 - (c.toNat : Int))]) ++ p.1, p.2)) = pLocals m rest ∧ RdS S D F g pe r5 w5 ∧ Blk w5 b (locRow (ls ++ [(UInt32.ofNat (x4 % 4294967296), 127 - (c.toNat : Int))]) (m - (i + 1))).toArray 246 ∧ Fr (fun k => F k ∨ k = b) w2 w5 ∧ ∀ x ∈ ls ++ [(UInt32.ofNat (x4 % 4294967296), 127 - (c.toNat : Int))], -9223372036854775808 ≤ x.2 ∧ x.2 ≤ 9223372036854775807) := by
              refine ⟨?_, k1, ?_, Fr.trans (Fr.trans H3.out.2.2.2.1 H4.out.2.2.2 (fun _ _ h => h) (fun _ _ h => h)) k3 (fun _ _ h => h) (fun _ _ h => h), ?_⟩
              · rw [← H3.out.1, hq2]
                conv => rhs; unfold pLocals
                rw [H4.out.1]
                simp only []
                rw [if_pos ⟨hc1, hc2⟩]
                cases pLocals q r5 <;> simp
              · have hs := locRow_set ls q (UInt32.ofNat (x4 % 4294967296), 127 - (c.toNat : Int))
                rw [hli, show 2 * i = i * 2 from by omega] at hs
                rw [hq2, ← hs]
                have e4 : (UInt32.ofNat (x4 % 4294967296)).toNat = x4 % 4294967296 := Nat.mod_eq_of_lt (Nat.mod_lt _ (by decide))
                rw [e4]
                exact k2
              · intro x hx
                rcases List.mem_append.1 hx with hx | hx
                · exact H3.out.2.2.2.2 x hx
                · obtain rfl := List.mem_singleton.1 hx
                  show -9223372036854775808 ≤ 127 - (c.toNat : Int) ∧ 127 - (c.toNat : Int) ≤ 9223372036854775807
                  omega
            clear k1 k2 k3 hc1 hc2
            go_wp2
            go_roundw
            case rel => exact ⟨i + 1, _, r5, by omega, by go_num, by rw [List.length_append, hli]; rfl, hV5.out.1, hV5.out.2⟩
            case measure => simp [intOf]; omega
          · have hfin : Hid (pLocals m rest = none ∧ Fr (fun k => F k ∨ k = b) w2 w5) := by
              refine ⟨?_, Fr.trans (Fr.trans H3.out.2.2.2.1 H4.out.2.2.2 (fun _ _ h => h) (fun _ _ h => h)) k3 (fun _ _ h => h) (fun _ _ h => h)⟩
              rw [← H3.out.1]
              unfold pLocals
              rw [H4.out.1]
              rcases hr5 with rfl | ⟨c, r, rfl, hc⟩
              · rfl
              · simp only []
                rw [if_neg hc]
                rfl
            clear k3 hr5
            go_wp2
            go_ret
            exact .inr ⟨by rw [hpl.out, hfin.out.1], ⟨_, _, rfl⟩, (Fr.trans hFw2.out hfin.out.2 (fun _ _ h => .inl h) (fun k hk h => h.elim .inl (fun h => absurd hk (by have := H2.out.2.2.1; omega))))⟩
        · have hfin : Hid (pLocals m rest = none ∧ Fr (fun k => F k ∨ k = b) w2 w4) := by
            refine ⟨?_, Fr.trans H3.out.2.2.2.1 k3 (fun _ _ h => h) (fun _ _ h => h)⟩
            rw [← H3.out.1]
            unfold pLocals
            rw [hr4]
            rfl
          clear k3 hr4
          go_wp2
          go_ret
          exact .inr ⟨by rw [hpl.out, hfin.out.1], ⟨_, _, rfl⟩, (Fr.trans hFw2.out hfin.out.2 (fun _ _ h => .inl h) (fun k hk h => h.elim .inl (fun h => absurd hk (by have := H2.out.2.2.1; omega))))⟩
      · obtain rfl : i = m := by omega
        have hVV := hV.out
        have hTT := hT.out
        rw [Nat.sub_self] at hVV hTT
        have hFt : Fr (fun k => F k ∨ k = b) w wr := Fr.trans hFw2.out hVV.2.2.1 (fun _ _ h => .inl h) (fun _ _ h => h)
        have hBe := H.out.2.1.fr hFt (fun e => e.elim H.out.2.2.1 (fun e => H2.out.2.2.2.2.2.1 e.symm))
        have hcE := hBe.cell 0
        rw [hx] at hcE
        have hfE := hBe.frz 0
        have H5 := Lib.hid (And.intro hVV (And.intro hTT (And.intro hFt hBe)))
        clear hV hT hVV hTT hFt hBe
        go_wp2
        go_ret
        have hs := fr_setCell wr ⟨ge, 0, none⟩ (.slice (some ⟨b, 0, none⟩) i i)
        have hbw := H5.out.1.2.1.lt
        refine .inl ⟨ls, bs', .slice (some ⟨b, 0, none⟩) i i, ?_, rfl, H5.out.1.1.fr hs (fun e => H.out.2.2.2.2 e.symm) (fun k hk e => by have e' : k = ge := e; subst e'; exact H.out.2.2.1 hk) (fun k hk e => by have e' : k = ge := e; subst e'; exact H.out.2.2.2.1 hk), H5.out.2.2.2.set 0 _, ?_, ?_⟩
        · rw [hpl.out, ← H5.out.2.1]; simp [pLocals]
        · refine ⟨some ⟨b, 0, none⟩, i, by rw [hli], by omega, by show i ≤ 9223372036854775807; omega, fun hp => ⟨b, 0, _, _, (0, 0), locRow ls 0, rfl, ⟨H2.out.2.2.1, by simpa using hbw⟩, H5.out.1.2.1.fr hs (fun e => H2.out.2.2.2.2.2.1 e), locRow_all ls H5.out.1.2.2.2, fun j hj => by simp⟩⟩
        · exact Fr.mono (Fr.trans (U := fun k => (F k ∨ k = b) ∨ k = ge) H5.out.2.2.1 hs (fun _ _ h => .inl h) (fun _ _ h => .inr h)) (fun k hk h => by
            rcases h with (h | h) | h
            · exact .inl h
            · exact absurd hk (by have := H2.out.2.2.1; omega)
            · exact .inr h)
  · have H1 := Lib.hid (And.intro (show pLoc bs = none from by unfold pLoc; rw [hr]) h2)
    clear h1 h2 hr HC
    go_wp2
    go_ret
    exact .inr ⟨H1.out.1, ⟨_, _, rfl⟩, H1.out.2.mono (fun _ _ h => .inl h)⟩
end Go.Proofs.YtbdahjpdjamgiaaGreatDoor
/- Instructions as the package reads them: the plain side, and how they lie. -/
namespace Go.Proofs.YtbdahjpdjamgiaaGreatDoor
open Go.RowKit
/-- What is read. -/
inductive RI where
  | i32 (v : Int)
  | i64 (v : Int)
  | eqz
  | idx (op n : Nat)
  | ci (n r : Nat)
  | ret
  | blk (lp : Bool) (body : List RI)
/-- What comes of it: odd: nothing is said. -/
inductive PO where
  | ok (l : List RI) (rest : List UInt8)
  | bad
  | odd
def PO.app (acc : List RI) : PO → PO
  | .ok l r => .ok (acc ++ l) r
  | .bad => .bad
  | .odd => .odd
theorem PO.app_nil : ∀ p : PO, p.app [] = p
  | .ok _ _ => rfl
  | .bad => rfl
  | .odd => rfl
theorem PO.app_app (a b : List RI) : ∀ p : PO, (p.app b).app a = p.app (a ++ b)
  | .ok _ _ => by simp [PO.app]
  | .bad => rfl
  | .odd => rfl
def pIns : Nat → List UInt8 → PO
  | 0, _ => .odd
  | _ + 1, [] => .bad
  | f + 1, c :: r =>
    if c.toNat = 65 then (match readS 0 0 r with | none => .bad | some (v, r') => (pIns f r').app [.i32 (wrap32 v)])
    else if c.toNat = 66 then (match readS 0 0 r with | none => .bad | some (v, r') => (pIns f r').app [.i64 v])
    else if c.toNat = 69 then (pIns f r).app [.eqz]
    else if c.toNat = 32 ∨ c.toNat = 33 ∨ c.toNat = 16 ∨ c.toNat = 13 then (match readU 0 0 r with | none => .bad | some (n, r') => (pIns f r').app [.idx c.toNat (n % 4294967296)])
    else if c.toNat = 17 then (match readU 0 0 r with | none => .bad | some (_, []) => .bad | some (n, b :: r') => (pIns f r').app [.ci (n % 4294967296) b.toNat])
    else if c.toNat = 15 then (pIns f r).app [.ret]
    else if c.toNat = 2 ∨ c.toNat = 3 then
      (match r with
      | [] => .bad
      | b :: r1 => if b.toNat ≠ 64 then .odd else (match pIns f r1 with | .ok l r2 => (pIns f r2).app [.blk (decide (c.toNat = 3)) l] | .bad => .bad | .odd => .odd))
    else if c.toNat = 11 then .ok [] r
    else .odd
def idxT (op : Nat) : TypeId := if op = 32 then 332 else if op = 33 then 333 else if op = 16 then 334 else 338
namespace Lay
/-- Instructions read, of depth below n. -/
def ri : Nat → Lay RI
  | 0 => never RI 1
  | n + 1 => {
      size := 1
      rd := fun A w cs x => match x with
        | .i32 v => cs = [.iface 322 (.agg #[.int .i32 v])] ∧ -2147483648 ≤ v ∧ v < 2147483648
        | .i64 v => cs = [.iface 325 (.agg #[.int .i64 v])] ∧ -9223372036854775808 ≤ v ∧ v < 9223372036854775808
        | .eqz => cs = [.iface 329 (.agg #[])]
        | .idx op k => cs = [.iface (idxT op) (.agg #[.int .u32 (k : Int)])] ∧ k < 4294967296 ∧ (op = 32 ∨ op = 33 ∨ op = 16 ∨ op = 13)
        | .ci k r => cs = [.iface 337 (.agg #[.int .u32 (k : Int), .int .u8 (r : Int)])] ∧ k < 4294967296 ∧ r < 256
        | .ret => cs = [.iface 339 (.agg #[])]
        | .blk lp body => ∃ s, cs = [.iface (if lp then 342 else 341) (.agg #[.pointer none, s])] ∧ (ri n).slice.rd A w [s] body
      len := fun {A w cs x} h => by
        cases x <;> first | (rw [h.1]; rfl) | (rw [h]; rfl) | (obtain ⟨s, h, _⟩ := h; rw [h]; rfl)
      one := fun {A w cs x} h u hu => by
        cases x <;> first | (rw [h.1] at hu; obtain rfl := List.mem_singleton.1 hu; rfl) | (rw [h] at hu; obtain rfl := List.mem_singleton.1 hu; rfl) | (obtain ⟨s, h, _⟩ := h; rw [h] at hu; obtain rfl := List.mem_singleton.1 hu; rfl)
      frame := fun {A w w' cs x} h hf => by
        cases x <;> first | exact h | (obtain ⟨s, h, k⟩ := h; exact ⟨s, h, (ri n).slice.frame k hf⟩)
      mono := fun {A A' w cs x} h hf => by
        cases x <;> first | exact h | (obtain ⟨s, h, k⟩ := h; exact ⟨s, h, (ri n).slice.mono k hf⟩) }
theorem ri_size : ∀ n, (ri n).size = 1
  | 0 => rfl
  | _ + 1 => rfl
theorem ri_succ {A : Nat → Prop} {w : World} : ∀ (n : Nat) (cs : List Value) (x : RI), (ri n).rd A w cs x → (ri (n + 1)).rd A w cs x
  | 0, _, _, h => h.elim
  | n + 1, _, x, h => by
    cases x <;> first | exact h | (obtain ⟨s, h, k⟩ := h; exact ⟨s, h, slice_imp (ri_succ n) k⟩)
theorem ri_le {A : Nat → Prop} {w : World} {n m : Nat} (h : n ≤ m) {cs : List Value} {x : RI} (k : (ri n).rd A w cs x) : (ri m).rd A w cs x := by
  induction h with
  | refl => exact k
  | step _ ih => exact ri_succ _ _ _ ih
end Lay
end Go.Proofs.YtbdahjpdjamgiaaGreatDoor
