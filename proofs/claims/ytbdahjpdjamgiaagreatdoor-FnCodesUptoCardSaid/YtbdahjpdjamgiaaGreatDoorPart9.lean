/- Texts of this proof, one behind the other. -/
import Derived.Test.YtbdahjpdjamgiaaGreatDoorPart8
import Derived.Test.YtbdahjpdjamgiaaGreatDoorPart3
/- LEB128 read from a source. -/
namespace Go.Proofs.YtbdahjpdjamgiaaGreatDoor
open Go.RowKit
/-- What ReadVarUint64 makes of bytes: shift, what was gathered. -/
def readU : Nat → Nat → List UInt8 → Option (Nat × List UInt8)
  | _, _, [] => none
  | s, a, b :: bs => if b.toNat < 128 then some (a ||| (b.toNat % 128 * 2 ^ s % 2 ^ 64), bs) else readU (s + 7) (a ||| (b.toNat % 128 * 2 ^ s % 2 ^ 64)) bs
theorem shl64 (a s : Nat) : a * 2 ^ min s 64 % 2 ^ 64 = a * 2 ^ s % 2 ^ 64 := by
  rcases Nat.le_total s 64 with h | h
  · rw [Nat.min_eq_left h]
  · rw [Nat.min_eq_right h, Nat.mul_mod_left, show s = (s - 64) + 64 from by omega, Nat.pow_add, ← Nat.mul_assoc, Nat.mul_mod_left]
theorem stepU (a s t : Nat) (ha : a < 18446744073709551616) (ht : t < 256) :
    bits .or .u64 (a : Int) (IntKind.u64.wrap (bits .and .u64 (t : Int) 127 * 2 ^ min s 64)) = ((a ||| (t % 128 * 2 ^ s % 2 ^ 64) : Nat) : Int) ∧ a ||| (t % 128 * 2 ^ s % 2 ^ 64) < 18446744073709551616 := by
  have hb : t % 128 * 2 ^ s % 2 ^ 64 < 18446744073709551616 := Nat.mod_lt _ (by decide)
  have e1 : IntKind.u64.wrap (bits .and .u64 (t : Int) 127 * 2 ^ min s 64) = ((t % 128 * 2 ^ s % 2 ^ 64 : Nat) : Int) := by
    rw [u64_and127 _ (by omega) (by omega), IntKind.wrap_u64, ← shl64]
    simp
  rw [e1, u64_or_nat a _ ha hb]
  exact ⟨rfl, Nat.or_lt_two_pow (n := 64) ha hb⟩
/-- The 64 bits a, as a signed number. -/
def toS (a : Nat) : Int := ((a : Int) + 9223372036854775808) % 18446744073709551616 - 9223372036854775808
theorem toS_bits {a : Nat} (ha : a < 18446744073709551616) : (BitVec.ofInt 64 (toS a)).toNat = a := by
  have := ofInt64_toNat (toS a)
  unfold toS at *
  omega
theorem or_toS {a b : Nat} {x y : Int} (hx : x % 18446744073709551616 = a) (hy : y % 18446744073709551616 = b) : bits .or .i64 x y = toS (a ||| b) := by
  show IntKind.i64.wrap ((BitVec.ofInt 64 x ||| BitVec.ofInt 64 y).toNat : Int) = _
  have h1 := ofInt64_toNat x
  have h2 := ofInt64_toNat y
  rw [BitVec.toNat_or, show (BitVec.ofInt 64 x).toNat = a from by omega, show (BitVec.ofInt 64 y).toNat = b from by omega, IntKind.wrap_i64]
  rfl
theorem toS_mod {a : Nat} (ha : a < 18446744073709551616) : toS a % 18446744073709551616 = a := by unfold toS; omega
theorem stepS (a s t : Nat) (ha : a < 18446744073709551616) :
    bits .or .i64 (toS a) (wrap64 (bits .and .i64 (t : Int) 127 * 2 ^ min s 64)) = toS (a ||| (t % 128 * 2 ^ s % 2 ^ 64)) ∧ a ||| (t % 128 * 2 ^ s % 2 ^ 64) < 18446744073709551616 := by
  have hb : t % 128 * 2 ^ s % 2 ^ 64 < 18446744073709551616 := Nat.mod_lt _ (by decide)
  refine ⟨or_toS (toS_mod ha) ?_, Nat.or_lt_two_pow (n := 64) ha hb⟩
  have e1 : bits .and .i64 (t : Int) 127 * 2 ^ min s 64 = ((t % 128 * 2 ^ min s 64 : Nat) : Int) := by
    rw [show bits .and .i64 (t : Int) 127 = (t : Int) % 128 from i64_and127 _]; simp
  rw [e1, ← shl64]
  unfold wrap64
  generalize t % 128 * 2 ^ min s 64 = q
  omega
/-- What ReadVarInt64 makes of bytes. -/
def readS : Nat → Nat → List UInt8 → Option (Int × List UInt8)
  | _, _, [] => none
  | s, a, b :: bs => if b.toNat < 128 then some (toS (if s + 7 < 32 ∧ 64 ≤ b.toNat then (a ||| (b.toNat % 128 * 2 ^ s % 2 ^ 64)) ||| (2 ^ 64 - 2 ^ (s + 7)) else a ||| (b.toNat % 128 * 2 ^ s % 2 ^ 64)), bs) else readS (s + 7) (a ||| (b.toNat % 128 * 2 ^ s % 2 ^ 64)) bs
theorem fillS (a s : Nat) (ha : a < 18446744073709551616) (hs : s < 32) : bits .or .i64 (toS a) (wrap64 (-2 ^ min s 64)) = toS (a ||| (2 ^ 64 - 2 ^ s)) := by
  have hp : 2 ^ s < 2 ^ 32 := Nat.pow_lt_pow_right (by decide) hs
  have hp0 : 0 < 2 ^ s := Nat.pow_pos (by decide)
  refine or_toS (toS_mod ha) ?_
  have e1 : (-2 ^ min s 64 : Int) = -((2 ^ s : Nat) : Int) := by rw [Nat.min_eq_left (by omega)]; simp
  rw [e1]
  unfold wrap64
  generalize 2 ^ s = q at *
  omega
theorem i64_and128' (t : Nat) (ht : t < 256) : bits .and .i64 (t : Int) 128 = if (t : Int) < 128 then 0 else 128 := by
  show IntKind.i64.wrap ((BitVec.ofInt 64 (t : Int) &&& BitVec.ofInt 64 (128 : Int)).toNat : Int) = _
  have h1 := ofInt64_toNat (t : Int)
  have h2 := ofInt64_toNat (128 : Int)
  rw [BitVec.toNat_and, show (BitVec.ofInt 64 (t : Int)).toNat = t from by omega, show (BitVec.ofInt 64 (128 : Int)).toNat = 2 ^ 7 from by omega, nat_bit 7 t, IntKind.wrap_i64]
  split <;> omega
theorem make1 : ∀ w : World, (Instr.makeSlice 43 (.int .i64 1) (.int .i64 1)).run Tryz.prog w = .ok (.slice (some ⟨w.heap.size, 0, none⟩) 1 1) (w.alloc (.cells #[.int .u8 0] 5)) := fun w => by kernel_rfl
set_option maxRecDepth 100000 in
set_option maxHeartbeats 1000000 in
theorem ReadVarUint64_calls (S : Src) (D : Nat → Prop) (g : Nat) (bs : List UInt8) (w : World) (hS : S.is D g bs w) (hl : bs.length ≤ 140737488355328) (n : Nat) (rest : List UInt8) (hr : readU 0 0 bs = some (n, rest)) :
    Calls Tryz.prog 76 #[.iface S.T (.pointer (some ⟨g, 0, none⟩))] w fun e w' => e = .returned (.tuple #[.int .u64 n, .nilIface]) ∧ S.is D g rest w' ∧ Fr (fun k => k = g) w w' := by
  have hna := S.nil g
  have hme := S.meth g
  have hcf := S.call
  have hmk := make1
  have H := Lib.hid (And.intro hS (And.intro hl hr))
  clear hS hl hr
  go_enter Tryz.func76, Tryz.ntmps76
  go_wp2_with fail
  go_loopw [4, 5, 7, 8, 9] (fun s4 s5 s7 s8 s9 w' => ∃ (acc sh : Nat) (bs' : List UInt8) (x : Value), s4 = .int .u64 acc ∧ s5 = .int .u64 sh ∧ acc < 18446744073709551616 ∧ sh + 7 * bs'.length = 7 * bs.length ∧ Hid (readU sh acc bs' = some (n, rest)) ∧ Hid (S.is D g bs' w') ∧ Hid (Blk w' w.heap.size #[x] 5) ∧ Hid (Fr (fun k => k = g ∨ k = w.heap.size) w w')) (fun _ s5 _ _ _ _ => 7 * bs.length - (intOf s5).toNat)
  case atStart =>
    exact ⟨0, 0, bs, _, rfl, rfl, by omega, by omega, H.out.2.2, S.frame H.out.1 (ext_alloc w _) (fun h => h) (fun _ _ h => h), blk_new _ _ _, (ext_alloc w _).to⟩
  case round =>
    obtain ⟨acc, sh, bs', x, rfl, rfl, hacc, hsh, hR, hI, hB, hF⟩ := hrel
    obtain ⟨y, bs1, rfl⟩ : ∃ y bs1, bs' = y :: bs1 := by
      cases bs' with
      | nil => have := hR.out; simp [readU] at this
      | cons y bs1 => exact ⟨y, bs1, rfl⟩
    have hg := S.lt H.out.1
    have hne : w.heap.size ≠ g := by omega
    have hnD : ¬ D w.heap.size := fun h => by have := (hg.2 _ h).1; omega
    have hlen := H.out.2.1
    go_wp2_with fail
    refine (S.read D g w.heap.size 0 1 1 (y :: bs1) #[x] 5 _ hI.out hB.out (by simp) (by omega) (by decide) hne hnD (by omega) (by simp)).mono ?_
    rintro e w2 ⟨q, hq0, hq1, -, rfl, hI2, hF2, hB2⟩
    obtain rfl : q = 1 := by omega
    have hI3 : Hid (S.is D g bs1 w2) := hI2
    have hB3 : Blk w2 w.heap.size #[.int .u8 (y.toNat : Int)] 5 := hB2
    have hF3 : Hid (Fr (fun k => k = g ∨ k = w.heap.size) w w2) := hF.out.trans hF2 (fun _ _ h => h) (fun _ _ h => h)
    have hc := hB3.cell 0
    simp only [List.getElem?_toArray, List.getElem?_cons_zero] at hc
    have hB4 := Lib.hid hB3
    have hy := y.toNat_lt
    have hyy : Hid (readU sh acc (y :: bs1) = some (n, rest)) := hR.out
    simp only [readU] at hyy
    generalize y.toNat = t at *
    obtain ⟨e1, e2⟩ := stepU acc sh t hacc hy
    generalize hz : acc ||| (t % 128 * 2 ^ sh % 2 ^ 64) = z at *
    clear hI hB hF hI2 hF2 hB2 hB3 hR hg hne hnD
    by_cases ht : t < 128
    · have e3 : bits .and .u64 (t : Int) 128 = 0 := by rw [u64_and128 _ (by omega) (by omega), if_pos (by omega)]
      have hfin : Hid (z = n ∧ bs1 = rest) := by have := hyy.out; rw [if_pos ht] at this; show _ ∧ _; simpa using this
      clear ht hz hyy
      go_wp2
      go_ret2
      obtain ⟨rfl, rfl⟩ := hfin.out
      exact ⟨rfl, hI3.out, hF3.out.mono (fun k hk h => h.elim id (fun h => by omega))⟩
    · have e3 : bits .and .u64 (t : Int) 128 = 128 := by rw [u64_and128 _ (by omega) (by omega), if_neg (by omega)]
      have hfin : Hid (readU (sh + 7) z bs1 = some (n, rest)) := by have := hyy.out; rw [if_neg ht] at this; exact this
      have hw := IntKind.wrap_u64 ((sh : Int) + 7)
      simp only [List.length_cons] at hsh
      have e4 : IntKind.u64.wrap ((sh : Int) + 7) = ((sh + 7 : Nat) : Int) := by rw [hw]; omega
      clear ht hz hyy hw
      go_wp2
      go_roundw
      case rel => exact ⟨z, sh + 7, bs1, _, rfl, by go_num, e2, by omega, hfin, hI3, hB4, hF3⟩
      case measure => simp [intOf]; omega
set_option maxRecDepth 100000 in
set_option maxHeartbeats 1000000 in
theorem ReadVarInt64_calls (S : Src) (D : Nat → Prop) (g : Nat) (bs : List UInt8) (w : World) (hS : S.is D g bs w) (hl : bs.length ≤ 140737488355328) (n : Int) (rest : List UInt8) (hr : readS 0 0 bs = some (n, rest)) :
    Calls Tryz.prog 85 #[.iface S.T (.pointer (some ⟨g, 0, none⟩))] w fun e w' => e = .returned (.tuple #[.int .i64 n, .nilIface]) ∧ S.is D g rest w' ∧ Fr (fun k => k = g) w w' := by
  have hna := S.nil g
  have hme := S.meth g
  have hcf := S.call
  have hmk := make1
  have H := Lib.hid (And.intro hS (And.intro hl hr))
  clear hS hl hr
  go_enter Tryz.func85, Tryz.ntmps85
  go_wp2_with fail
  go_loopw [4, 5, 8, 9, 10] (fun s4 s5 s8 s9 s10 w' => ∃ (acc sh : Nat) (bs' : List UInt8) (x : Value), s4 = .int .i64 (toS acc) ∧ s5 = .int .u64 sh ∧ acc < 18446744073709551616 ∧ sh + 7 * bs'.length = 7 * bs.length ∧ Hid (readS sh acc bs' = some (n, rest)) ∧ Hid (S.is D g bs' w') ∧ Hid (Blk w' w.heap.size #[x] 5) ∧ Hid (Fr (fun k => k = g ∨ k = w.heap.size) w w')) (fun _ s5 _ _ _ _ => 7 * bs.length - (intOf s5).toNat)
  case atStart =>
    exact ⟨0, 0, bs, _, rfl, rfl, by omega, by omega, H.out.2.2, S.frame H.out.1 (ext_alloc w _) (fun h => h) (fun _ _ h => h), blk_new _ _ _, (ext_alloc w _).to⟩
  case round =>
    obtain ⟨acc, sh, bs', x, rfl, rfl, hacc, hsh, hR, hI, hB, hF⟩ := hrel
    obtain ⟨y, bs1, rfl⟩ : ∃ y bs1, bs' = y :: bs1 := by
      cases bs' with
      | nil => have := hR.out; simp [readS] at this
      | cons y bs1 => exact ⟨y, bs1, rfl⟩
    have hg := S.lt H.out.1
    have hne : w.heap.size ≠ g := by omega
    have hnD : ¬ D w.heap.size := fun h => by have := (hg.2 _ h).1; omega
    have hlen := H.out.2.1
    go_wp2_with fail
    refine (S.read D g w.heap.size 0 1 1 (y :: bs1) #[x] 5 _ hI.out hB.out (by simp) (by omega) (by decide) hne hnD (by omega) (by simp)).mono ?_
    rintro e w2 ⟨q, hq0, hq1, -, rfl, hI2, hF2, hB2⟩
    obtain rfl : q = 1 := by omega
    have hI3 : Hid (S.is D g bs1 w2) := hI2
    have hB3 : Blk w2 w.heap.size #[.int .u8 (y.toNat : Int)] 5 := hB2
    have hF3 : Hid (Fr (fun k => k = g ∨ k = w.heap.size) w w2) := hF.out.trans hF2 (fun _ _ h => h) (fun _ _ h => h)
    have hc := hB3.cell 0
    simp only [List.getElem?_toArray, List.getElem?_cons_zero] at hc
    have hB4 := Lib.hid hB3
    have hy := y.toNat_lt
    have hyy : Hid (readS sh acc (y :: bs1) = some (n, rest)) := hR.out
    simp only [readS] at hyy
    generalize y.toNat = t at *
    obtain ⟨e1, e2⟩ := stepS acc sh t hacc
    generalize hz : acc ||| (t % 128 * 2 ^ sh % 2 ^ 64) = z at *
    clear hI hB hF hI2 hF2 hB2 hB3 hR hg hne hnD
    have hw := IntKind.wrap_u64 ((sh : Int) + 7)
    simp only [List.length_cons] at hsh
    have e4 : IntKind.u64.wrap ((sh : Int) + 7) = ((sh + 7 : Nat) : Int) := by rw [hw]; omega
    clear hw
    by_cases ht : t < 128
    · have e3 : bits .and .i64 (t : Int) 128 = 0 := by rw [i64_and128' t hy, if_pos (by omega)]
      by_cases hs : sh + 7 < 32
      · have d1 : decide (((sh : Int) + 7) < 32) = true := by rw [decide_eq_true_eq]; omega
        have hs0 : (0 : Int) ≤ (sh : Int) + 7 := by omega
        by_cases h64 : 64 ≤ t
        · have e5 : bits .and .i64 (t : Int) 64 = 64 := by rw [i64_and64, if_neg (by omega)]
          have e6 := fillS z (sh + 7) e2 hs
          have hfin : Hid (toS (z ||| (2 ^ 64 - 2 ^ (sh + 7))) = n ∧ bs1 = rest) := by have := hyy.out; rw [if_pos ht, if_pos ⟨hs, h64⟩] at this; show _ ∧ _; simpa using this
          clear ht hz hyy hs h64
          go_wp2
          go_ret2
          obtain ⟨rfl, rfl⟩ := hfin.out
          exact ⟨rfl, hI3.out, hF3.out.mono (fun k hk h => h.elim id (fun h => by omega))⟩
        · have e5 : bits .and .i64 (t : Int) 64 = 0 := by rw [i64_and64, if_pos (by omega)]
          have hfin : Hid (toS z = n ∧ bs1 = rest) := by have := hyy.out; rw [if_pos ht, if_neg (fun h => h64 h.2)] at this; show _ ∧ _; simpa using this
          clear ht hz hyy hs h64
          go_wp2
          go_ret2
          obtain ⟨rfl, rfl⟩ := hfin.out
          exact ⟨rfl, hI3.out, hF3.out.mono (fun k hk h => h.elim id (fun h => by omega))⟩
      · have d1 : decide (((sh : Int) + 7) < 32) = false := by rw [decide_eq_false_iff_not]; omega
        have hfin : Hid (toS z = n ∧ bs1 = rest) := by have := hyy.out; rw [if_pos ht, if_neg (fun h => hs h.1)] at this; show _ ∧ _; simpa using this
        clear ht hz hyy hs
        go_wp2
        go_ret2
        obtain ⟨rfl, rfl⟩ := hfin.out
        exact ⟨rfl, hI3.out, hF3.out.mono (fun k hk h => h.elim id (fun h => by omega))⟩
    · have e3 : bits .and .i64 (t : Int) 128 = 128 := by rw [i64_and128' t hy, if_neg (by omega)]
      have hfin : Hid (readS (sh + 7) z bs1 = some (n, rest)) := by have := hyy.out; rw [if_neg ht] at this; exact this
      clear ht hz hyy
      go_wp2
      go_roundw
      case rel => exact ⟨z, sh + 7, bs1, _, rfl, by go_num, e2, by omega, hfin, hI3, hB4, hF3⟩
      case measure => simp [intOf]; omega
end Go.Proofs.YtbdahjpdjamgiaaGreatDoor
/- LEB128 read from a source, what ends too early too. -/
namespace Go.Proofs.YtbdahjpdjamgiaaGreatDoor
open Go.RowKit
theorem cell_lt {w : World} {p : Addr} {v : Value} (h : w.cell? p = some v) : p.block < w.heap.size := by
  unfold World.cell? at h
  cases hb : w.heap[p.block]? with
  | none => rw [hb] at h; simp at h
  | some o => exact (Array.getElem?_eq_some_iff.1 hb).1
/-- How a number is read: it is there, or the bytes end. -/
def NumPost {α : Type} (S : Rdr) (D F : Nat → Prop) (g : Nat) (pe : Addr) (w : World) (r : Option (α × List UInt8)) (f : α → Value) (e : Ending) (w' : World) : Prop :=
  (∃ n rest, r = some (n, rest) ∧ e = .returned (.tuple #[f n, .nilIface]) ∧ RdS S D F g pe rest w' ∧ Fr F w w') ∨
    (r = none ∧ (∃ z, e = .returned (.tuple #[f z, eofV pe])) ∧ RdS S D F g pe [] w' ∧ Fr F w w')
set_option maxRecDepth 100000 in
set_option maxHeartbeats 1000000 in
theorem ReadVarUint64_rd (S : Rdr) (D F : Nat → Prop) (g : Nat) (pe : Addr) (bs : List UInt8) (w : World) (hS : RdS S D F g pe bs w) :
    Calls Tryz.prog 76 #[.iface S.T (.pointer (some ⟨g, 0, none⟩))] w fun e w' => NumPost S D F g pe w (readU 0 0 bs) (fun n => .int .u64 n) e w' := by
  have hna := S.nil g
  have hme := S.meth g
  have hcf := S.call
  have hmk := make1
  have H := Lib.hid hS
  have hlen := hS.len
  have hg := (S.lt hS.is).2
  have hgF := Lib.hid hg
  clear hS hg
  go_enter Tryz.func76, Tryz.ntmps76
  go_wp2_with fail
  go_loopw [4, 5, 7, 8, 9] (fun s4 s5 s7 s8 s9 w' => ∃ (acc sh : Nat) (bs' : List UInt8) (x : Value), s4 = .int .u64 acc ∧ s5 = .int .u64 sh ∧ acc < 18446744073709551616 ∧ sh + 7 * bs'.length = 7 * bs.length ∧ Hid (readU sh acc bs' = readU 0 0 bs) ∧ Hid (RdS S D F g pe bs' w') ∧ Hid (Blk w' w.heap.size #[x] 5) ∧ Hid (Fr (fun k => F k ∨ k = w.heap.size) w w')) (fun _ s5 _ _ _ _ => 7 * bs.length - (intOf s5).toNat)
  case atStart =>
    exact ⟨0, 0, bs, _, rfl, rfl, by omega, by omega, rfl, H.out.ext (ext_alloc w _), blk_new _ _ _, (ext_alloc w _).to⟩
  case round =>
    obtain ⟨acc, sh, bs', x, rfl, rfl, hacc, hsh, hR, hI, hB, hF⟩ := hrel
    have hgo := hgF.out
    have hne : ¬ F w.heap.size := fun h => by have := hgo.1 _ h; omega
    have hnD : ¬ D w.heap.size := fun h => by have := (hgo.2 _ h).1; omega
    have hec := hI.out.cell
    have hwn : ¬ eofAt.block = w.heap.size := fun e => by have h1 := H.out.cell; have h2 := cell_lt h1; omega
    have hwn := Lib.hid hwn
    clear hgo
    cases bs' with
    | nil =>
      go_wp2_with fail
      refine (S.eof D F g _ _ _ _ (eofV pe) _ hI.out.is hec (by omega) hI.out.nf).mono ?_
      rintro e w2 ⟨rfl, hI2, hF2⟩
      have hfin : Hid (readU 0 0 bs = none ∧ RdS S D F g pe [] w2 ∧ Fr F w w2) := ⟨by rw [← hR.out]; rfl, hI.out.step hI2 hF2 hI.out.nf (Nat.le_refl _), (Fr.trans hF.out hF2 (fun _ _ h => h) (fun _ _ h => .inl h)).mono (fun k hk h => h.elim id (fun h => by omega))⟩
      clear hI hB hF hI2 hF2 hR hne hnD hec
      go_wp2
      go_ret2
      exact .inr ⟨hfin.out.1, ⟨0, rfl⟩, hfin.out.2.1, hfin.out.2.2⟩
    | cons y bs1 =>
    go_wp2_with fail
    refine (S.read D F g w.heap.size 0 1 1 (y :: bs1) #[x] 5 _ hI.out.is hB.out (by simp) (by omega) (by decide) hne hnD (by omega) (by simp)).mono ?_
    rintro e w2 ⟨q, hq0, hq1, -, rfl, hI2, hF2, hB2⟩
    obtain rfl : q = 1 := by omega
    have hen : ¬ (F eofAt.block ∨ eofAt.block = w.heap.size) := fun e => e.elim hI.out.nf hwn.out
    have hI3 : Hid (RdS S D F g pe bs1 w2) := hI.out.step hI2 hF2 hen (by simp)
    have hB3 : Blk w2 w.heap.size #[.int .u8 (y.toNat : Int)] 5 := hB2
    have hF3 : Hid (Fr (fun k => F k ∨ k = w.heap.size) w w2) := hF.out.trans hF2 (fun _ _ h => h) (fun _ _ h => h)
    have hc := hB3.cell 0
    simp only [List.getElem?_toArray, List.getElem?_cons_zero] at hc
    have hB4 := Lib.hid hB3
    have hy := y.toNat_lt
    have hyy : Hid (readU sh acc (y :: bs1) = readU 0 0 bs) := hR.out
    simp only [readU] at hyy
    generalize y.toNat = t at *
    obtain ⟨e1, e2⟩ := stepU acc sh t hacc hy
    generalize hz : acc ||| (t % 128 * 2 ^ sh % 2 ^ 64) = z at *
    clear hI hB hF hI2 hF2 hB2 hB3 hR hne hnD hec hen hwn
    by_cases ht : t < 128
    · have e3 : bits .and .u64 (t : Int) 128 = 0 := by rw [u64_and128 _ (by omega) (by omega), if_pos (by omega)]
      have hfin : Hid (readU 0 0 bs = some (z, bs1)) := by have := hyy.out; rw [if_pos ht] at this; exact this.symm
      clear ht hz hyy
      go_wp2
      go_ret2
      exact .inl ⟨_, _, hfin.out, rfl, hI3.out, hF3.out.mono (fun k hk h => h.elim id (fun h => by omega))⟩
    · have e3 : bits .and .u64 (t : Int) 128 = 128 := by rw [u64_and128 _ (by omega) (by omega), if_neg (by omega)]
      have hfin : Hid (readU (sh + 7) z bs1 = readU 0 0 bs) := by have := hyy.out; rw [if_neg ht] at this; exact this
      have hw := IntKind.wrap_u64 ((sh : Int) + 7)
      simp only [List.length_cons] at hsh
      have e4 : IntKind.u64.wrap ((sh : Int) + 7) = ((sh + 7 : Nat) : Int) := by rw [hw]; omega
      clear ht hz hyy hw
      go_wp2
      go_roundw
      case rel => exact ⟨z, sh + 7, bs1, _, rfl, by go_num, e2, by omega, hfin, hI3, hB4, hF3⟩
      case measure => simp [intOf]; omega
set_option maxRecDepth 100000 in
set_option maxHeartbeats 1000000 in
theorem ReadVarInt64_rd (S : Rdr) (D F : Nat → Prop) (g : Nat) (pe : Addr) (bs : List UInt8) (w : World) (hS : RdS S D F g pe bs w) :
    Calls Tryz.prog 85 #[.iface S.T (.pointer (some ⟨g, 0, none⟩))] w fun e w' => NumPost S D F g pe w (readS 0 0 bs) (fun n => .int .i64 n) e w' := by
  have hna := S.nil g
  have hme := S.meth g
  have hcf := S.call
  have hmk := make1
  have H := Lib.hid hS
  have hlen := hS.len
  have hg := (S.lt hS.is).2
  have hgF := Lib.hid hg
  clear hS hg
  go_enter Tryz.func85, Tryz.ntmps85
  go_wp2_with fail
  go_loopw [4, 5, 8, 9, 10] (fun s4 s5 s8 s9 s10 w' => ∃ (acc sh : Nat) (bs' : List UInt8) (x : Value), s4 = .int .i64 (toS acc) ∧ s5 = .int .u64 sh ∧ acc < 18446744073709551616 ∧ sh + 7 * bs'.length = 7 * bs.length ∧ Hid (readS sh acc bs' = readS 0 0 bs) ∧ Hid (RdS S D F g pe bs' w') ∧ Hid (Blk w' w.heap.size #[x] 5) ∧ Hid (Fr (fun k => F k ∨ k = w.heap.size) w w')) (fun _ s5 _ _ _ _ => 7 * bs.length - (intOf s5).toNat)
  case atStart =>
    exact ⟨0, 0, bs, _, rfl, rfl, by omega, by omega, rfl, H.out.ext (ext_alloc w _), blk_new _ _ _, (ext_alloc w _).to⟩
  case round =>
    obtain ⟨acc, sh, bs', x, rfl, rfl, hacc, hsh, hR, hI, hB, hF⟩ := hrel
    have hgo := hgF.out
    have hne : ¬ F w.heap.size := fun h => by have := hgo.1 _ h; omega
    have hnD : ¬ D w.heap.size := fun h => by have := (hgo.2 _ h).1; omega
    have hec := hI.out.cell
    have hwn : ¬ eofAt.block = w.heap.size := fun e => by have h1 := H.out.cell; have h2 := cell_lt h1; omega
    have hwn := Lib.hid hwn
    clear hgo
    cases bs' with
    | nil =>
      go_wp2_with fail
      refine (S.eof D F g _ _ _ _ (eofV pe) _ hI.out.is hec (by omega) hI.out.nf).mono ?_
      rintro e w2 ⟨rfl, hI2, hF2⟩
      have hfin : Hid (readS 0 0 bs = none ∧ RdS S D F g pe [] w2 ∧ Fr F w w2) := ⟨by rw [← hR.out]; rfl, hI.out.step hI2 hF2 hI.out.nf (Nat.le_refl _), (Fr.trans hF.out hF2 (fun _ _ h => h) (fun _ _ h => .inl h)).mono (fun k hk h => h.elim id (fun h => by omega))⟩
      clear hI hB hF hI2 hF2 hR hne hnD hec
      go_wp2
      go_ret2
      exact .inr ⟨hfin.out.1, ⟨0, rfl⟩, hfin.out.2.1, hfin.out.2.2⟩
    | cons y bs1 =>
    go_wp2_with fail
    refine (S.read D F g w.heap.size 0 1 1 (y :: bs1) #[x] 5 _ hI.out.is hB.out (by simp) (by omega) (by decide) hne hnD (by omega) (by simp)).mono ?_
    rintro e w2 ⟨q, hq0, hq1, -, rfl, hI2, hF2, hB2⟩
    obtain rfl : q = 1 := by omega
    have hen : ¬ (F eofAt.block ∨ eofAt.block = w.heap.size) := fun e => e.elim hI.out.nf hwn.out
    have hI3 : Hid (RdS S D F g pe bs1 w2) := hI.out.step hI2 hF2 hen (by simp)
    have hB3 : Blk w2 w.heap.size #[.int .u8 (y.toNat : Int)] 5 := hB2
    have hF3 : Hid (Fr (fun k => F k ∨ k = w.heap.size) w w2) := hF.out.trans hF2 (fun _ _ h => h) (fun _ _ h => h)
    have hc := hB3.cell 0
    simp only [List.getElem?_toArray, List.getElem?_cons_zero] at hc
    have hB4 := Lib.hid hB3
    have hy := y.toNat_lt
    have hyy : Hid (readS sh acc (y :: bs1) = readS 0 0 bs) := hR.out
    simp only [readS] at hyy
    generalize y.toNat = t at *
    obtain ⟨e1, e2⟩ := stepS acc sh t hacc
    generalize hz : acc ||| (t % 128 * 2 ^ sh % 2 ^ 64) = z at *
    clear hI hB hF hI2 hF2 hB2 hB3 hR hne hnD hec hen hwn
    have hw := IntKind.wrap_u64 ((sh : Int) + 7)
    simp only [List.length_cons] at hsh
    have e4 : IntKind.u64.wrap ((sh : Int) + 7) = ((sh + 7 : Nat) : Int) := by rw [hw]; omega
    clear hw
    by_cases ht : t < 128
    · have e3 : bits .and .i64 (t : Int) 128 = 0 := by rw [i64_and128' t hy, if_pos (by omega)]
      by_cases hs : sh + 7 < 32
      · have d1 : decide (((sh : Int) + 7) < 32) = true := by rw [decide_eq_true_eq]; omega
        have hs0 : (0 : Int) ≤ (sh : Int) + 7 := by omega
        by_cases h64 : 64 ≤ t
        · have e5 : bits .and .i64 (t : Int) 64 = 64 := by rw [i64_and64, if_neg (by omega)]
          have e6 := fillS z (sh + 7) e2 hs
          have hfin : Hid (readS 0 0 bs = some (toS (z ||| (2 ^ 64 - 2 ^ (sh + 7))), bs1)) := by have := hyy.out; rw [if_pos ht, if_pos ⟨hs, h64⟩] at this; exact this.symm
          clear ht hz hyy hs h64
          go_wp2
          go_ret2
          exact .inl ⟨_, _, hfin.out, rfl, hI3.out, hF3.out.mono (fun k hk h => h.elim id (fun h => by omega))⟩
        · have e5 : bits .and .i64 (t : Int) 64 = 0 := by rw [i64_and64, if_pos (by omega)]
          have hfin : Hid (readS 0 0 bs = some (toS z, bs1)) := by have := hyy.out; rw [if_pos ht, if_neg (fun h => h64 h.2)] at this; exact this.symm
          clear ht hz hyy hs h64
          go_wp2
          go_ret2
          exact .inl ⟨_, _, hfin.out, rfl, hI3.out, hF3.out.mono (fun k hk h => h.elim id (fun h => by omega))⟩
      · have d1 : decide (((sh : Int) + 7) < 32) = false := by rw [decide_eq_false_iff_not]; omega
        have hfin : Hid (readS 0 0 bs = some (toS z, bs1)) := by have := hyy.out; rw [if_pos ht, if_neg (fun h => hs h.1)] at this; exact this.symm
        clear ht hz hyy hs
        go_wp2
        go_ret2
        exact .inl ⟨_, _, hfin.out, rfl, hI3.out, hF3.out.mono (fun k hk h => h.elim id (fun h => by omega))⟩
    · have e3 : bits .and .i64 (t : Int) 128 = 128 := by rw [i64_and128' t hy, if_neg (by omega)]
      have hfin : Hid (readS (sh + 7) z bs1 = readS 0 0 bs) := by have := hyy.out; rw [if_neg ht] at this; exact this
      clear ht hz hyy
      go_wp2
      go_roundw
      case rel => exact ⟨z, sh + 7, bs1, _, rfl, by go_num, e2, by omega, hfin, hI3, hB4, hF3⟩
      case measure => simp [intOf]; omega
end Go.Proofs.YtbdahjpdjamgiaaGreatDoor
