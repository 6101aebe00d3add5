/- Texts of this proof, one behind the other. -/
import Derived.Test.YtbdahjpdjamgiaaGreatDoorPart7
import Derived.Test.YtbdahjpdjamgiaaGreatDoorPart8
import Derived.Test.YtbdahjpdjamgiaaGreatDoorPart16
import Derived.Test.YtbdahjpdjamgiaaGreatDoorPart4
import Derived.Test.YtbdahjpdjamgiaaGreatDoorPart3
import Derived.Test.YtbdahjpdjamgiaaGreatDoorPart5
import Derived.Deep.QuietTactic
import Derived.BigQuiet
/- encoding.CodeEntries, impl.Codes, at code entries that can be read. -/
namespace Go.Proofs.YtbdahjpdjamgiaaGreatDoor
open Go.RowKit
set_option linter.unusedSimpArgs false
namespace Lay
variable {α : Type}
/-- A pointer to a block of its own. -/
def ptr (l : Lay α) (T : TypeId) : Lay α where
  size := 1
  rd A w cs x := ∃ g ds, cs = [.pointer (some ⟨g, 0, none⟩)] ∧ A g ∧ Blk w g ds T ∧ l.rd A w ds.toList x
  len h := by obtain ⟨g, ds, rfl, -⟩ := h; rfl
  one h u hu := by obtain ⟨g, ds, rfl, -⟩ := h; obtain rfl := List.mem_singleton.1 hu; rfl
  frame h hf := by obtain ⟨g, ds, e, hA, hb, hr⟩ := h; exact ⟨g, ds, e, hA, (hf g hA).trans hb, l.frame hr hf⟩
  mono h hf := by obtain ⟨g, ds, e, hA, hb, hr⟩ := h; exact ⟨g, ds, e, hf g hA, hb, l.mono hr hf⟩
/-- One of several layouts. -/
def exi (f : Nat → Lay α) (n : Nat) (hn : ∀ k, (f k).size = n) : Lay α where
  size := n
  rd A w cs x := ∃ k, (f k).rd A w cs x
  len h := by obtain ⟨k, h⟩ := h; rw [← hn k]; exact (f k).len h
  one h := by obtain ⟨k, h⟩ := h; exact (f k).one h
  frame h hf := by obtain ⟨k, h⟩ := h; exact ⟨k, (f k).frame h hf⟩
  mono h hf := by obtain ⟨k, h⟩ := h; exact ⟨k, (f k).mono h hf⟩
/-- A code entry of the package, behind a pointer. -/
def entry : Lay (List (UInt32 × Int) × List RI) := exi (fun n => ptr (loc.slice.pair (ri n).slice) 244) 1 (fun _ => rfl)
/-- A code entry of plain data. -/
def code : Lay (List (UInt32 × Int) × List Ins) := exi (fun n => loc.slice.pair (ins n).slice) 2 (fun _ => rfl)
end Lay
/-- What a code entry's bytes hold. -/
def entOf (bs : List UInt8) : List (UInt32 × Int) × List RI := match pCode bs with
  | some (ls, l, _) => (ls, l)
  | none => ([], [])
/-- A row of n pointers of which the first ones are there. -/
def ptrRow (f : List Value) (m : Nat) : List Value := f ++ List.replicate m (.pointer none)
theorem ptrRow_len (f : List Value) (m : Nat) : (ptrRow f m).length = f.length + m := by simp [ptrRow]
theorem ptrRow_made (n : Nat) : (madeCells #[Value.pointer none] (n * 1)).toList = ptrRow [] n := by
  show _ = List.replicate n (Value.pointer none)
  apply List.ext_getElem
  · simp [madeCells]
  · intro i h1 h2
    simp [madeCells, Nat.mod_one]
theorem ptrRow_set (f : List Value) (m : Nat) (v : Value) : (ptrRow f (m + 1)).toArray.setIfInBounds f.length v = (ptrRow (f ++ [v]) m).toArray := by
  unfold ptrRow
  simp [List.replicate_succ]
set_option maxRecDepth 100000 in
set_option maxHeartbeats 4000000 in
theorem CodeEntries_calls (cs : List (List UInt8)) (g : Nat) (a1 : Option Addr) (n1 c1 : Nat) (pe : Addr) (A : Nat → Prop) (w : World) (hB : Blk w g (builtC (.slice a1 n1 c1)) 195) (h : Lay.u8.slice.slice.rd A w [.slice a1 n1 c1] cs) (hA : ∀ k, A k → k < w.heap.size)
    (hE : w.cell? eofAt = some (eofV pe)) (hl : cs.length ≤ 1048576) (hcs : ∀ (i : Nat) (hi : i < cs.length), cs[i].length ≤ 1048576 ∧ pEven cs[i] ∧ pCode cs[i] ≠ none) :
    Calls Tryz.prog 25 #[.pointer (some ⟨g, 0, none⟩)] w fun e w' => ∃ v, e = .returned (.tuple #[v, .nilIface]) ∧ Lay.entry.slice.rd (fun k => w.heap.size ≤ k ∧ k < w'.heap.size) w' [v] (cs.map entOf) ∧ Ext w w' := by
  obtain ⟨a', c', e, hlc, hcm⟩ := Lay.slice_form h
  obtain ⟨rfl, rfl, rfl⟩ : a1 = a' ∧ n1 = cs.length ∧ c1 = c' := by simpa using e
  have hlen : (cs.length : Int) ≤ 9223372036854775807 := by omega
  have hel := cell_lt hE
  have hc0 := hB.cell
  have H := Lib.hid (And.intro hB (And.intro h (And.intro hA (And.intro hE (And.intro hl (And.intro hcs hel))))))
  clear hB h hA hE hl hcs hlc hcm e hel
  obtain ⟨inf, hi, hz1, hz2, hz3⟩ := info_parts (show (Tryz.prog.info? 95).map (fun i => (i.zero, i.size, i.bytes)) = some (some (.pointer none), 1, 8) from by kernel_rfl)
  have hik := Lib.hid (And.intro hi (And.intro hz1 (And.intro hz2 hz3)))
  clear hi hz1 hz2 hz3
  go_enter Tryz.func25, Tryz.ntmps25
  go_wp2_with (at_make; refine Hid.out ?_)
  obtain ⟨hi, hz1, hz2, hz3⟩ := hik.out
  refine wpList_make_full _ rfl (.tmp 15) (.tmp 15) 88 rfl w.heap.size 95 inf (.pointer none) 1 Tryz.underlying88 hi hz1 hz2 .i64 .i64 (cs.length : Int) (cs.length : Int) cs.length rfl rfl rfl rfl (by rw [hz3]; have := H.out.2.2.2.2.1; omega) (by show cs.length ≤ 9223372036854775807; omega) (Nat.le_refl _) ?_
  intro w2 hO hG
  obtain ⟨b, hb, H2⟩ : ∃ b, Hid (w.heap.size = b) ∧ Hid (Blk w2 b (ptrRow [] cs.length).toArray 95 ∧ Ext w w2 ∧ w.heap.size = b) := by
    have hx : Ext w w2 := (grown_fr hG).mono (fun _ _ h => by cases h)
    refine ⟨_, rfl, ?_, hx, rfl⟩
    obtain ⟨hl, h | ⟨gb, cap, cur, hv, hg, hh, hc1, hc2, hc3, hc4⟩⟩ := hO
    · exact absurd h.1 (by simp)
    · simp only [Value.slice.injEq, Option.some.injEq, Addr.mk.injEq, true_and, and_true] at hv
      obtain ⟨rfl, rfl⟩ := hv
      have : cur.toList = ptrRow [] cs.length := by
        have hc5 : cur.toList.take (cs.length * 1) = (madeCells #[.pointer none] (cs.length * 1)).toList := hc4
        rw [← ptrRow_made, ← hc5, List.take_of_length_le (by rw [Array.length_toList]; omega)]
      rw [← this]
      exact hh
  rw [hb.out]
  clear hO hG hi hz1 hz2 hz3 hik hb hc0
  have hc0 := (H.out.1.ext H2.out.2.1).cell
  go_wp2_with fail
  clear hc0
  go_loopw [5, 6, 7, 8, 9, 23] (fun s5 s6 s7 s8 s9 s23 w' => ∃ (i : Nat) (f : List Value), i ≤ cs.length ∧ s23 = .int .i64 i ∧ f.length = i ∧ Hid (Blk w' b (ptrRow f (cs.length - i)).toArray 95 ∧ Lay.entry.all (fun k => b < k ∧ k < w'.heap.size) w' f ((cs.map entOf).take i) ∧ Fr (fun k => k = b) w2 w')) (fun _ _ _ _ _ s23 _ => cs.length - (intOf s23).toNat)
  case atStart => exact ⟨0, [], Nat.zero_le _, rfl, rfl, H2.out.1, rfl, Fr.refl _ _⟩
  case round =>
    obtain ⟨i, f, hi, rfl, hfl, hV⟩ := hrel
    have hXr := Lib.hid (show Ext w wr from Fr.new (Ext.fr H2.out.2.1 hV.out.2.2) (fun k e => by have e' : k = b := e; have := H2.out.2.2; omega))
    by_cases hlt : i < cs.length
    · obtain ⟨bq, oq, es, hi', rfl, hA1, -, hr, hc⟩ := Lay.slice_at (Lay.fr H.out.2.1 hXr.out (fun k hk => ⟨H.out.2.2.1 k hk, fun h => h⟩)) i hlt
      have hcs := H.out.2.2.2.2.2.1 i hi'
      have htk := Lib.hid (show (cs.map entOf).take (i + 1) = (cs.map entOf).take i ++ [entOf cs[i]] from by rw [List.take_succ_eq_append_getElem (by simpa using hi')]; simp)
      generalize cs[i] = x at *
      obtain ⟨ax, kx, rfl, hx1, hx2, -⟩ := id hr
      have e0 : wr.cell? ⟨bq, oq + i, none⟩ = some (.slice ax x.length kx) := by have := hc 0 (by decide); rw [show oq + i * Lay.u8.slice.size + 0 = oq + i from by show oq + i * 1 + 0 = oq + i; omega] at this; exact this
      obtain ⟨q, hq⟩ : ∃ q, cs.length - i = q + 1 := ⟨cs.length - i - 1, by omega⟩
      have hVV := hV.out
      rw [hq] at hVV
      have H3 := Lib.hid (And.intro hVV (And.intro hr (And.intro hcs hq)))
      clear hc hr hV hVV hA1 hi' hx1 hx2 hcs
      go_wp2_with fail
      refine (NewBuffer_calls ax x.length kx _).mono ?_
      rintro e w5 ⟨rfl, rfl⟩
      have hxa := ext_alloc wr (.cells #[.slice ax x.length kx] 197)
      have hna : (wr.alloc (.cells #[.slice ax x.length kx] 197)).heap.size = wr.heap.size + 1 := by simp
      have hbN := buf_new (Lay.fr H3.out.2.1 hxa (fun k hk => ⟨Nat.lt_of_lt_of_le (H.out.2.2.1 k hk) hXr.out.size, fun h => h⟩)) (fun k hk => by have := Nat.lt_of_lt_of_le (H.out.2.2.1 k hk) hXr.out.size; omega)
      have hxb := Ext.trans hxa (ext_alloc (wr.alloc (.cells #[.slice ax x.length kx] 197)) (.cells #[.slice ax x.length kx, .int .i64 0, .int .i8 0] 260))
      rw [hna] at hbN ⊢
      have hEr := eof_frame H.out.2.2.2.1 (Ext.trans hXr.out hxb) (fun h => h)
      generalize ((wr.alloc (.cells #[.slice ax x.length kx] 197)).alloc (.cells #[.slice ax x.length kx, .int .i64 0, .int .i8 0] 260)) = W5 at *
      have hsr : 2 < wr.heap.size := Nat.lt_of_lt_of_le H.out.2.2.2.2.2.2 hXr.out.size
      have HC := Lib.hid (ReadCodeEntry_rd bufR A (fun k => k = wr.heap.size + 1) (wr.heap.size + 1) pe x W5 ⟨hbN, hEr, fun e => by have e' : 2 = wr.heap.size + 1 := e; omega, by have := H3.out.2.2.1.1; omega⟩ H3.out.2.2.1.1 H3.out.2.2.1.2.1)
      have hxb := Lib.hid hxb
      clear hbN hEr hxa hna hsr
      go_wp2_with fail
      refine HC.out.mono ?_
      rintro e w6 (⟨ls, l, rest, n, ge, s1, s2, hp, rfl, k2, k3, k4, k5, k6⟩ | ⟨hp, -, -⟩)
      · have hw5 := hxb.out.size
        have hF6 : Ext wr w6 := (Ext.fr hxb.out k6).new (fun k e => by have e' : k = wr.heap.size + 1 := e; omega)
        have hbw := H3.out.1.1.lt
        have hbp := H3.out.1.1.ext hF6
        have hcb := hbp.cell i
        rw [show (ptrRow f (q + 1)).toArray[i]? = some (.pointer none) from by rw [← hfl]; simp [ptrRow, List.replicate_succ]] at hcb
        have hfb := hbp.frz i
        have heo : entOf x = (ls, l) := by unfold entOf; rw [hp]
        have H6 := Lib.hid (And.intro hbp (And.intro hF6 (And.intro k2 (And.intro (Lay.mono _ k3 (fun k hk => (⟨by omega, hk.2⟩ : wr.heap.size ≤ k ∧ k < w6.heap.size))) (And.intro (Lay.mono _ k4 (fun k hk => (⟨by omega, hk.2⟩ : wr.heap.size ≤ k ∧ k < w6.heap.size))) (And.intro (show wr.heap.size ≤ ge from by omega) heo))))))
        clear hp k2 k3 k4 k5 k6 HC hF6 hbp heo
        go_wp2_with fail
        have hV2 : Hid (Blk (w6.setCell ⟨b, i, none⟩ (.pointer (some ⟨ge, 0, none⟩))) b (ptrRow (f ++ [.pointer (some ⟨ge, 0, none⟩)]) (cs.length - (i + 1))).toArray 95 ∧ Lay.entry.all (fun k => b < k ∧ k < (w6.setCell ⟨b, i, none⟩ (.pointer (some ⟨ge, 0, none⟩))).heap.size) (w6.setCell ⟨b, i, none⟩ (.pointer (some ⟨ge, 0, none⟩))) (f ++ [.pointer (some ⟨ge, 0, none⟩)]) ((cs.map entOf).take (i + 1)) ∧ Fr (fun k => k = b) w2 (w6.setCell ⟨b, i, none⟩ (.pointer (some ⟨ge, 0, none⟩)))) := by
          have hs := fr_setCell w6 ⟨b, i, none⟩ (.pointer (some ⟨ge, 0, none⟩))
          have hF := Fr.trans (Ext.to H6.out.2.1 (S := fun k => k = b)) hs (U := fun k => k = b) (fun _ _ h => h) (fun _ _ h => h)
          have hgl := H6.out.2.2.1.lt
          have hgw := H6.out.2.2.2.2.2.1
          have hsz := hs.size
          have hsz2 := H6.out.2.1.size
          refine ⟨?_, ?_, Fr.trans H3.out.1.2.2 hF (fun _ _ h => h) (fun _ _ h => h)⟩
          · have := H6.out.1.set i (.pointer (some ⟨ge, 0, none⟩))
            rw [show cs.length - (i + 1) = q from by have := H3.out.2.2.2; omega, ← ptrRow_set, hfl]
            exact this
          · rw [htk.out]
            refine Lay.all_append (Lay.all_mono (fun k hk => ⟨hk.1, Nat.lt_of_lt_of_le hk.2 hF.size⟩) (Lay.all_frame (fun k hk => hF.block k hk.2 (fun e => by have e' : k = b := e; omega)) H3.out.1.2.1)) (Lay.all_single ⟨n, ge, _, rfl, ⟨by omega, by omega⟩, H6.out.2.2.1.fr hs (fun e => by have e' : ge = b := e; omega), ?_⟩)
            rw [H6.out.2.2.2.2.2.2]
            exact ⟨[s1], [s2], rfl, Lay.mono _ (Lay.fr H6.out.2.2.2.1 hs (fun k hk => ⟨hk.2, fun e => by have e' : k = b := e; omega⟩)) (fun k hk => ⟨by omega, by omega⟩), Lay.mono _ (Lay.fr H6.out.2.2.2.2.1 hs (fun k hk => ⟨hk.2, fun e => by have e' : k = b := e; omega⟩)) (fun k hk => ⟨by omega, by omega⟩)⟩
        clear hcb hfb
        go_roundw
        case rel => exact ⟨i + 1, _, by omega, by go_num, by rw [List.length_append, hfl]; rfl, hV2⟩
        case measure => simp [intOf]; omega
      · exact absurd hp H3.out.2.2.1.2.2
    · obtain rfl : i = cs.length := by omega
      go_wp2
      go_ret2
      have hV' := hV.out
      rw [show (cs.map entOf).take cs.length = cs.map entOf from by rw [List.take_of_length_le (by simp)], Nat.sub_self] at hV'
      have hbl := hV'.1.lt
      have hbw := H2.out.2.2
      exact ⟨_, rfl, ⟨some ⟨b, 0, none⟩, cs.length, by simp, by simp, by show cs.length ≤ 9223372036854775807; omega, fun _ => ⟨b, 0, _, _, (0, 0), f, rfl, ⟨by omega, hbl⟩, hV'.1, Lay.all_mono (fun k hk => ⟨by omega, hk.2⟩) hV'.2.1, fun j hj => by simp [ptrRow]⟩⟩, hXr.out⟩
end Go.Proofs.YtbdahjpdjamgiaaGreatDoor
/- What the reference's reader makes of bytes: a model, in plain Lean. -/
namespace Go.Proofs.YtbdahjpdjamgiaaGreatDoor
/-- What is left, and the verdict: 0 good, 1 bad, 2 wide, 3 ends. -/
structure St where
  b : List UInt8
  v : Nat
def St.fail (s : St) (n : Nat) : St := ⟨[], if s.v = 0 then n else s.v⟩
def rByte (s : St) : Nat × St :=
  match s.b with
  | [] => (0, s.fail 3)
  | c :: r => (c.toNat, ⟨r, s.v⟩)
/-- An unsigned number of at most some bits: shift, what was gathered, how many bytes. -/
def unsG (bits : Nat) : Nat → Nat → Nat → List UInt8 → Nat × Nat
  | _, _, _, [] => (0, 0)
  | sh, acc, n, c :: r =>
    if bits ≤ sh then (0, 0)
    else if bits - sh < 7 ∧ c.toNat % 128 / 2 ^ (bits - sh) ≠ 0 then (0, 0)
    else if c.toNat < 128 then (acc ||| (c.toNat % 128 * 2 ^ sh % 2 ^ 64), n + 1)
    else unsG bits (sh + 7) (acc ||| (c.toNat % 128 * 2 ^ sh % 2 ^ 64)) (n + 1) r
def uns (bits : Nat) (b : List UInt8) : Nat × Nat := unsG bits 0 0 0 b
def endedB (bits : Nat) (b : List UInt8) : Bool := b.all (fun c => decide (128 ≤ c.toNat)) && decide (7 * b.length < bits)
/-- The top bits of a last byte of a signed number are not all alike. -/
def badTop (left c : Nat) : Bool :=
  let t : Int := (((c * 2 % 256 : Nat) : Int) + 128) % 256 - 128
  (decide (t / 2 ^ left ≠ 0) && decide (t / 2 ^ left ≠ -1)) || decide (128 ≤ c)
/-- A signed number: its 64 bits, how many bytes. -/
def sigG (bits : Nat) : Nat → Nat → Nat → List UInt8 → Nat × Nat
  | _, _, _, [] => (0, 0)
  | sh, acc, n, c :: r =>
    if bits ≤ sh then (0, 0)
    else if bits - sh < 7 ∧ badTop (bits - sh) c.toNat = true then (0, 0)
    else if c.toNat < 128 then
      (if 64 ≤ c.toNat ∧ sh + 7 < 64 then (acc ||| (c.toNat % 128 * 2 ^ sh % 2 ^ 64)) ||| (2 ^ 64 - 2 ^ (sh + 7)) else acc ||| (c.toNat % 128 * 2 ^ sh % 2 ^ 64), n + 1)
    else sigG bits (sh + 7) (acc ||| (c.toNat % 128 * 2 ^ sh % 2 ^ 64)) (n + 1) r
def sig (bits : Nat) (b : List UInt8) : Nat × Nat := sigG bits 0 0 0 b
def rNumber (s : St) : Nat × St :=
  if (uns 32 s.b).2 = 0 then (0, s.fail (if endedB 32 s.b then 3 else 2)) else ((uns 32 s.b).1 % 4294967296, ⟨s.b.drop (uns 32 s.b).2, s.v⟩)
def rSigned (bits : Nat) (s : St) : Nat × St :=
  if (sig bits s.b).2 = 0 then (0, s.fail (if endedB bits s.b then 3 else 2)) else ((if bits = 32 then (sig bits s.b).1 % 4294967296 else (sig bits s.b).1), ⟨s.b.drop (sig bits s.b).2, s.v⟩)
def rCount (s : St) : Nat × St :=
  if (rNumber s).2.b.length < (rNumber s).1 then (0, if 10000 < (rNumber s).1 then ⟨[], 2⟩ else (rNumber s).2.fail 3) else rNumber s
def rValueType (s : St) : Int × St :=
  (127 - ((rByte s).1 : Int), if (rByte s).2.v = 0 ∧ ((rByte s).1 < 124 ∨ 127 < (rByte s).1) then (rByte s).2.fail 1 else (rByte s).2)
def rTake (n : Nat) (s : St) : List UInt8 × St :=
  if s.b.length < n then ([], if 1048576 < n then ⟨[], 2⟩ else s.fail 3) else (s.b.take n, ⟨s.b.drop n, s.v⟩)
def leNat : List UInt8 → Nat
  | [] => 0
  | c :: r => c.toNat + 256 * leNat r
def rBits (k : Int) (s : St) : Nat × St :=
  if k = 0 then rSigned 32 s
  else if k = 1 then ((rSigned 64 s).1, if 9223372036854775808 ≤ (rSigned 64 s).1 ∧ 4 + (rSigned 64 s).2.b.length < s.b.length then (rSigned 64 s).2.fail 2 else (rSigned 64 s).2)
  else if k = 2 then rNumber s
  else if k = 5 then rByte s
  else (leNat (rTake (if k = 3 then 4 else if k = 4 then 8 else 0) s).1, (rTake (if k = 3 then 4 else if k = 4 then 8 else 0) s).2)
def rArgs : List Int → St → List (Int × UInt64) × St
  | [], s => ([], s)
  | k :: ks, s => ((k, UInt64.ofNat (rBits k s).1) :: (rArgs ks (rBits k s).2).1, (rArgs ks (rBits k s).2).2)
def rInstr (op : Int) (s : St) : Ins × St :=
  let s1 := if s.v = 0 ∧ kindsOf op = none then s.fail 2 else s
  (.mk op (rArgs ((kindsOf op).getD []) s1).1 false 0 [], (rArgs ((kindsOf op).getD []) s1).2)
def readOp (op : Nat) : Bool := decide (op = 13) || decide (op = 15) || decide (op = 16) || decide (op = 17) || decide (op = 32) || decide (op = 33) || decide (op = 65) || decide (op = 66) || decide (op = 69)
/-- Instructions up to an end: at most so many steps; what was gathered. -/
def rBody : Nat → Int → List Ins → St → List Ins × St
  | 0, _, _, s => ([], s)
  | f + 1, d, acc, s =>
    if s.v ≠ 0 then ([], s)
    else if (rByte s).2.v ≠ 0 then ([], (rByte s).2)
    else if (rByte s).1 = 11 then (acc, (rByte s).2)
    else if (rByte s).1 = 5 ∨ (rByte s).1 = 4 ∨ 100 < d then ([], (rByte s).2.fail 2)
    else if (rByte s).1 = 2 ∨ (rByte s).1 = 3 then
      let s2 := (rByte (rByte s).2).2
      let s3 := if s2.v = 0 ∧ (rByte (rByte s).2).1 ≠ 64 then s2.fail 2 else s2
      rBody f d (acc ++ [.mk ((rByte s).1 : Int) [] true (-1) (rBody f (d + 1) [] s3).1]) (rBody f (d + 1) [] s3).2
    else if readOp (rByte s).1 = false then ([], (rByte s).2.fail 2)
    else rBody f d (acc ++ [(rInstr ((rByte s).1 : Int) (rByte s).2).1]) (rInstr ((rByte s).1 : Int) (rByte s).2).2
def rLocals : Nat → St → List (UInt32 × Int) × St
  | 0, s => ([], s)
  | n + 1, s => ((UInt32.ofNat (rNumber s).1, (rValueType (rNumber s).2).1) :: (rLocals n (rValueType (rNumber s).2).2).1, (rLocals n (rValueType (rNumber s).2).2).2)
def rCode (b : List UInt8) : (List (UInt32 × Int) × List Ins) × Nat :=
  let s0 : St := ⟨b, 0⟩
  let s1 := (rLocals (rCount s0).1 (rCount s0).2).2
  let r := rBody (s1.b.length + 1) 0 [] s1
  let v := if r.2.v = 3 then 1 else if r.2.v = 0 ∧ 0 < r.2.b.length then 2 else r.2.v
  (((rLocals (rCount s0).1 (rCount s0).2).1, r.1), v)
end Go.Proofs.YtbdahjpdjamgiaaGreatDoor
/- spec.reader: its state, fail, ok, byte. -/
namespace Go.Proofs.YtbdahjpdjamgiaaGreatDoor
open Go.RowKit
/-- The reference's reader at g: what is left lies in blocks of D. -/
def SpR (D : Nat → Prop) (g : Nat) (lo : Bool) (s : St) (w : World) : Prop :=
  ∃ aa cap, Blk w g #[.slice aa s.b.length cap, .int .i64 (s.v : Int), .bool lo] 80 ∧ Lay.u8.slice.rd D w [.slice aa s.b.length cap] s.b ∧ (∀ k, D k → k < w.heap.size ∧ k ≠ g)
theorem SpR.lt {D : Nat → Prop} {g : Nat} {lo : Bool} {s : St} {w : World} (h : SpR D g lo s w) : g < w.heap.size ∧ ∀ k, D k → k < w.heap.size ∧ k ≠ g := by
  obtain ⟨aa, cap, hb, h1, h2⟩ := h
  exact ⟨hb.lt, h2⟩
theorem SpR.fr {D : Nat → Prop} {g : Nat} {lo : Bool} {s : St} {w w' : World} {S : Nat → Prop} (h : SpR D g lo s w) (hf : Fr S w w') (hg : ¬ S g) (hD : ∀ k, D k → ¬ S k) : SpR D g lo s w' := by
  obtain ⟨aa, cap, hb, h1, h2⟩ := h
  exact ⟨aa, cap, hb.fr hf hg, Lay.fr h1 hf (fun k hk => ⟨(h2 k hk).1, hD k hk⟩), fun k hk => ⟨Nat.lt_of_lt_of_le (h2 k hk).1 hf.size, (h2 k hk).2⟩⟩
theorem SpR.ext {D : Nat → Prop} {g : Nat} {lo : Bool} {s : St} {w w' : World} (h : SpR D g lo s w) (hf : Ext w w') : SpR D g lo s w' := h.fr hf (fun h => h) (fun _ _ h => h)
theorem rd_nil {D : Nat → Prop} {w : World} {a : Option Addr} {c : Nat} (hc : c ≤ maxLen) : Lay.u8.slice.rd D w [.slice a 0 c] [] := ⟨a, c, rfl, Nat.zero_le _, hc, fun h => absurd h (by simp)⟩
/-- What the reader's block holds is stored anew. -/
theorem SpR.mk {D : Nat → Prop} {g : Nat} {lo : Bool} {s : St} {w w' : World} {aa : Option Addr} {cap : Nat} (hb : Blk w' g #[.slice aa s.b.length cap, .int .i64 (s.v : Int), .bool lo] 80) (hr : Lay.u8.slice.rd D w [.slice aa s.b.length cap] s.b)
    (hD : ∀ k, D k → k < w.heap.size ∧ k ≠ g) (hf : Fr (fun k => k = g) w w') : SpR D g lo s w' :=
  ⟨aa, cap, hb, Lay.fr hr hf (fun k hk => hD k hk), fun k hk => ⟨Nat.lt_of_lt_of_le (hD k hk).1 hf.size, (hD k hk).2⟩⟩
set_option maxRecDepth 100000 in
set_option maxHeartbeats 400000 in
theorem fail_calls (D : Nat → Prop) (g : Nat) (lo : Bool) (s : St) (n : Nat) (w : World) (h : SpR D g lo s w) :
    Calls Tryz.prog 22 #[.pointer (some ⟨g, 0, none⟩), .int .i64 (n : Int)] w fun e w' => e = .returned (.tuple #[]) ∧ SpR D g lo (s.fail n) w' ∧ Fr (fun k => k = g) w w' := by
  obtain ⟨aa, cap, hb, h1, h2⟩ := h
  have hc := hb.cell
  have hf := hb.frz
  have H := Lib.hid (And.intro hb (And.intro h1 h2))
  by_cases hv : s.v = 0
  · have hs := Lib.hid (show s.fail n = ⟨[], n⟩ from by simp [St.fail, hv])
    rw [hv] at hc
    clear hb h1 h2 hv
    go_enter Tryz.func22, Tryz.ntmps22
    go_wp2
    go_end0
    have hF : Fr (fun k => k = g) w ((w.setCell ⟨g, 1, none⟩ (.int .i64 (n : Int))).setCell ⟨g, 0, none⟩ (.slice none 0 0)) := Fr.setCell (Fr.setCell (Fr.refl (fun k => k = g) w) (p := ⟨g, 1, none⟩) (.inl rfl) _) (p := ⟨g, 0, none⟩) (.inl rfl) _
    refine ⟨rfl, ?_, hF⟩
    rw [hs.out]
    refine SpR.mk (aa := none) (cap := 0) ?_ (rd_nil (by decide)) H.out.2.2 hF
    have := (H.out.1.set 1 (.int .i64 (n : Int))).set 0 (.slice none 0 0)
    simpa using this
  · have hs := Lib.hid (show s.fail n = ⟨[], s.v⟩ from by simp [St.fail, hv])
    have hv' : ((s.v : Int) == 0) = false := by rw [beq_eq_false_iff_ne]; omega
    clear hb h1 h2 hv
    go_enter Tryz.func22, Tryz.ntmps22
    go_wp2
    go_end0
    have hF : Fr (fun k => k = g) w (w.setCell ⟨g, 0, none⟩ (.slice none 0 0)) := Fr.setCell (Fr.refl (fun k => k = g) w) (p := ⟨g, 0, none⟩) (.inl rfl) _
    refine ⟨rfl, ?_, hF⟩
    rw [hs.out]
    refine SpR.mk (aa := none) (cap := 0) ?_ (rd_nil (by decide)) H.out.2.2 hF
    have := H.out.1.set 0 (.slice none 0 0)
    simpa using this
set_option maxRecDepth 100000 in
set_option maxHeartbeats 400000 in
theorem ok_calls (D : Nat → Prop) (g : Nat) (lo : Bool) (s : St) (w : World) (h : SpR D g lo s w) :
    Calls Tryz.prog 21 #[.pointer (some ⟨g, 0, none⟩)] w fun e w' => e = .returned (.bool (decide (s.v = 0))) ∧ w' = w := by
  obtain ⟨aa, cap, hb, h1, h2⟩ := h
  have hc := hb.cell
  clear hb h1 h2
  by_cases hv : s.v = 0
  · have hs := Lib.hid (show decide (s.v = 0) = true from decide_eq_true hv)
    rw [hv] at hc
    clear hv
    go_enter Tryz.func21, Tryz.ntmps21
    go_wp2
    go_ret
    exact ⟨by rw [hs.out]; rfl, rfl⟩
  · have hs := Lib.hid (show decide (s.v = 0) = false from decide_eq_false hv)
    have hv' : ((s.v : Int) == 0) = false := by rw [beq_eq_false_iff_ne]; omega
    clear hv
    go_enter Tryz.func21, Tryz.ntmps21
    go_wp2
    go_ret
    exact ⟨by rw [hs.out]; rfl, rfl⟩
/-- One byte of a row. -/
theorem u8_at {A : Nat → Prop} {w : World} {a : Option Addr} {n cap : Nat} {xs : List UInt8} (h : Lay.u8.slice.rd A w [.slice a n cap] xs) (i : Nat) (hi : i < xs.length) :
    ∃ (b o : Nat), a = some ⟨b, o, none⟩ ∧ A b ∧ w.cell? ⟨b, o + i, none⟩ = some (.int .u8 (xs[i].toNat : Int)) := by
  have hn : xs.length = n := by
    obtain ⟨_, _, e, _⟩ := h
    simp only [List.cons.injEq, Value.slice.injEq, and_true] at e
    exact e.2.1.symm
  obtain ⟨b, o, es, hi', e, hA, _, hr, hc⟩ := Lay.slice_at h i (by omega)
  obtain rfl : es = _ := hr
  have := hc 0 (by decide)
  rw [show o + i * Lay.u8.size + 0 = o + i from by show o + i * 1 + 0 = o + i; omega] at this
  exact ⟨b, o, e, hA, this⟩
/-- Some bytes are dropped. -/
theorem SpR.drop {D : Nat → Prop} {g : Nat} {lo : Bool} {b : List UInt8} {v : Nat} {w : World} {aa : Option Addr} {cap : Nat} (hb : Blk w g #[.slice aa b.length cap, .int .i64 (v : Int), .bool lo] 80) (h1 : Lay.u8.slice.rd D w [.slice aa b.length cap] b)
    (h2 : ∀ k, D k → k < w.heap.size ∧ k ≠ g) (n : Nat) (hn : n ≤ b.length) :
    SpR D g lo ⟨b.drop n, v⟩ (w.setCell ⟨g, 0, none⟩ (.slice (aa.map (·.add n)) (b.length - n) (cap - n))) ∧ (cap = n → SpR D g lo ⟨b.drop n, v⟩ (w.setCell ⟨g, 0, none⟩ (.slice aa (b.length - n) 0))) := by
  have hF : ∀ u, Fr (fun k => k = g) w (w.setCell ⟨g, 0, none⟩ u) := fun u => fr_setCell w ⟨g, 0, none⟩ u
  have hl := List.length_drop (l := b) (i := n)
  refine ⟨SpR.mk (aa := aa.map (·.add n)) (cap := cap - n) ?_ (rd_drop h1 hn) h2 (hF _), fun hc => SpR.mk (aa := aa) (cap := 0) ?_ ?_ h2 (hF _)⟩
  · have := hb.set 0 (.slice (aa.map (·.add n)) (b.length - n) (cap - n))
    rw [hl]; simpa using this
  · have := hb.set 0 (.slice aa (b.length - n) 0)
    rw [hl]; simpa using this
  · obtain ⟨_, _, e, h5, _⟩ := h1
    simp only [List.cons.injEq, Value.slice.injEq, and_true] at e
    obtain ⟨-, -, rfl⟩ := e
    have h0 : (b.drop n).length = 0 := by omega
    rw [h0, List.eq_nil_of_length_eq_zero h0]
    exact rd_nil (by decide)
set_option maxRecDepth 100000 in
set_option maxHeartbeats 400000 in
theorem byte_calls (D : Nat → Prop) (g : Nat) (lo : Bool) (s : St) (w : World) (h : SpR D g lo s w) :
    Calls Tryz.prog 37 #[.pointer (some ⟨g, 0, none⟩)] w fun e w' => e = .returned (.int .i64 ((rByte s).1 : Int)) ∧ SpR D g lo (rByte s).2 w' ∧ Fr (fun k => k = g) w w' := by
  have hS := Lib.hid h
  obtain ⟨aa, cap, hb, h1, h2⟩ := h
  have hc := hb.cell
  have hf := hb.frz
  obtain ⟨b, v⟩ := s
  cases b with
  | nil =>
    clear hb h1 h2 hf
    go_enter Tryz.func37, Tryz.ntmps37
    go_wp2_with fail
    refine (fail_calls D g lo _ 3 w hS.out).mono ?_
    rintro e w1 ⟨rfl, k1, k2⟩
    have HK := Lib.hid (And.intro k1 k2)
    clear k1 k2 hc
    go_wp2
    go_ret
    exact ⟨rfl, HK.out.1, HK.out.2⟩
  | cons c r =>
    obtain ⟨bb, o, rfl, hA, e0⟩ := u8_at h1 0 (by simp)
    simp only [Nat.add_zero, List.getElem_cons_zero] at e0
    obtain ⟨a', c', ee, hcl, hcm⟩ := Lay.slice_form h1
    simp only [Value.slice.injEq] at ee
    obtain ⟨-, -, rfl⟩ := ee
    simp only [List.length_cons] at hcl
    have hcm' : (cap : Int) ≤ 9223372036854775807 := by simp only [maxLen] at hcm; omega
    have ht := c.toNat_lt
    have H := Lib.hid (SpR.drop hb h1 h2 1 (by simp))
    rw [show rByte ⟨c :: r, v⟩ = (c.toNat, ⟨r, v⟩) from rfl]
    simp only [List.length_cons, List.drop_succ_cons, List.drop_zero, Nat.add_sub_cancel, Option.map_some, addr_add] at H
    generalize c.toNat = t at *
    clear hb h1 h2 hA hS hcm
    go_enter Tryz.func37, Tryz.ntmps37
    go_wp2
    · go_ret
      exact ⟨by simp only [Ending.returned.injEq]; go_num, H.out.2 (by omega), fr_setCell w ⟨g, 0, none⟩ _⟩
    · go_ret
      exact ⟨by simp only [Ending.returned.injEq]; go_num, H.out.1, fr_setCell w ⟨g, 0, none⟩ _⟩
end Go.Proofs.YtbdahjpdjamgiaaGreatDoor
