/- LEB128 read from a source, what ends too early too. -/
import Derived.Test.YtfpikpbolgodcaaDoorRdr
import Derived.Test.YtfpikpbolgodcaaDoorReadNum
namespace Go.Proofs.YtfpikpbolgodcaaDoor
open Go.RowKit
theorem cell_lt {w : World} {p : Addr} {v : Value} (h : w.cell? p = some v) : p.block < w.heap.size := by
  unfold World.cell? at h
  cases hb : w.heap[p.block]? with
  | none => rw [hb] at h; simp at h
  | some o => exact (Array.getElem?_eq_some_iff.1 hb).1
/-- How a number is read: it is there, or the bytes end. -/
def NumPost {α : Type} (S : Rdr) (D F : Nat → Prop) (g : Nat) (pe : Addr) (w : World) (r : Option (α × List UInt8)) (f : α → Value) (e : Ending) (w' : World) : Prop :=
  (∃ n rest, r = some (n, rest) ∧ e = .returned (.tuple #[f n, .nilIface]) ∧ RdS S D F g pe rest w' ∧ Fr F w w') ∨
    (r = none ∧ (∃ z, e = .returned (.tuple #[f z, eofV pe])) ∧ RdS S D F g pe [] w' ∧ Fr F w w')
set_option maxRecDepth 100000 in
set_option maxHeartbeats 1000000 in
theorem ReadVarUint64_rd (S : Rdr) (D F : Nat → Prop) (g : Nat) (pe : Addr) (bs : List UInt8) (w : World) (hS : RdS S D F g pe bs w) :
    Calls Tryd.prog 44 #[.iface S.T (.pointer (some ⟨g, 0, none⟩))] w fun e w' => NumPost S D F g pe w (readU 0 0 bs) (fun n => .int .u64 n) e w' := by
  have hna := S.nil g
  have hme := S.meth g
  have hcf := S.call
  have hmk := make1
  have H := Lib.hid hS
  have hlen := hS.len
  have hg := (S.lt hS.is).2
  have hgF := Lib.hid hg
  clear hS hg
  go_enter Tryd.func44, Tryd.ntmps44
  go_wp2_with fail
  go_loopw [4, 5, 7, 8, 9] (fun s4 s5 s7 s8 s9 w' => ∃ (acc sh : Nat) (bs' : List UInt8) (x : Value), s4 = .int .u64 acc ∧ s5 = .int .u64 sh ∧ acc < 18446744073709551616 ∧ sh + 7 * bs'.length = 7 * bs.length ∧ Hid (readU sh acc bs' = readU 0 0 bs) ∧ Hid (RdS S D F g pe bs' w') ∧ Hid (Blk w' w.heap.size #[x] 5) ∧ Hid (Fr (fun k => F k ∨ k = w.heap.size) w w')) (fun _ s5 _ _ _ _ => 7 * bs.length - (intOf s5).toNat)
  case atStart =>
    exact ⟨0, 0, bs, _, rfl, rfl, by omega, by omega, rfl, H.out.ext (ext_alloc w _), blk_new _ _ _, (ext_alloc w _).to⟩
  case round =>
    obtain ⟨acc, sh, bs', x, rfl, rfl, hacc, hsh, hR, hI, hB, hF⟩ := hrel
    have hgo := hgF.out
    have hne : ¬ F w.heap.size := fun h => by have := hgo.1 _ h; omega
    have hnD : ¬ D w.heap.size := fun h => by have := (hgo.2 _ h).1; omega
    have hec := hI.out.cell
    have hwn : ¬ eofAt.block = w.heap.size := fun e => by have h1 := H.out.cell; have h2 := cell_lt h1; omega
    have hwn := Lib.hid hwn
    clear hgo
    cases bs' with
    | nil =>
      go_wp2_with fail
      refine (S.eof D F g _ (eofV pe) _ hI.out.is hec).mono ?_
      rintro e w2 ⟨rfl, hI2, hF2⟩
      have hfin : Hid (readU 0 0 bs = none ∧ RdS S D F g pe [] w2 ∧ Fr F w w2) := ⟨by rw [← hR.out]; rfl, hI.out.step hI2 hF2 hI.out.nf (Nat.le_refl _), (Fr.trans hF.out hF2 (fun _ _ h => h) (fun _ _ h => .inl h)).mono (fun k hk h => h.elim id (fun h => by omega))⟩
      clear hI hB hF hI2 hF2 hR hne hnD hec
      go_wp2
      go_ret2
      exact .inr ⟨hfin.out.1, ⟨0, rfl⟩, hfin.out.2.1, hfin.out.2.2⟩
    | cons y bs1 =>
    go_wp2_with fail
    refine (S.read D F g w.heap.size 0 1 1 (y :: bs1) #[x] 5 _ hI.out.is hB.out (by simp) (by omega) (by decide) hne hnD (by omega) (by simp)).mono ?_
    rintro e w2 ⟨q, hq0, hq1, -, rfl, hI2, hF2, hB2⟩
    obtain rfl : q = 1 := by omega
    have hen : ¬ (F eofAt.block ∨ eofAt.block = w.heap.size) := fun e => e.elim hI.out.nf hwn.out
    have hI3 : Hid (RdS S D F g pe bs1 w2) := hI.out.step hI2 hF2 hen (by simp)
    have hB3 : Blk w2 w.heap.size #[.int .u8 (y.toNat : Int)] 5 := hB2
    have hF3 : Hid (Fr (fun k => F k ∨ k = w.heap.size) w w2) := hF.out.trans hF2 (fun _ _ h => h) (fun _ _ h => h)
    have hc := hB3.cell 0
    simp only [List.getElem?_toArray, List.getElem?_cons_zero] at hc
    have hB4 := Lib.hid hB3
    have hy := y.toNat_lt
    have hyy : Hid (readU sh acc (y :: bs1) = readU 0 0 bs) := hR.out
    simp only [readU] at hyy
    generalize y.toNat = t at *
    obtain ⟨e1, e2⟩ := stepU acc sh t hacc hy
    generalize hz : acc ||| (t % 128 * 2 ^ sh % 2 ^ 64) = z at *
    clear hI hB hF hI2 hF2 hB2 hB3 hR hne hnD hec hen hwn
    by_cases ht : t < 128
    · have e3 : bits .and .u64 (t : Int) 128 = 0 := by rw [u64_and128 _ (by omega) (by omega), if_pos (by omega)]
      have hfin : Hid (readU 0 0 bs = some (z, bs1)) := by have := hyy.out; rw [if_pos ht] at this; exact this.symm
      clear ht hz hyy
      go_wp2
      go_ret2
      exact .inl ⟨_, _, hfin.out, rfl, hI3.out, hF3.out.mono (fun k hk h => h.elim id (fun h => by omega))⟩
    · have e3 : bits .and .u64 (t : Int) 128 = 128 := by rw [u64_and128 _ (by omega) (by omega), if_neg (by omega)]
      have hfin : Hid (readU (sh + 7) z bs1 = readU 0 0 bs) := by have := hyy.out; rw [if_neg ht] at this; exact this
      have hw := IntKind.wrap_u64 ((sh : Int) + 7)
      simp only [List.length_cons] at hsh
      have e4 : IntKind.u64.wrap ((sh : Int) + 7) = ((sh + 7 : Nat) : Int) := by rw [hw]; omega
      clear ht hz hyy hw
      go_wp2
      go_roundw
      case rel => exact ⟨z, sh + 7, bs1, _, rfl, by go_num, e2, by omega, hfin, hI3, hB4, hF3⟩
      case measure => simp [intOf]; omega
set_option maxRecDepth 100000 in
set_option maxHeartbeats 1000000 in
theorem ReadVarInt64_rd (S : Rdr) (D F : Nat → Prop) (g : Nat) (pe : Addr) (bs : List UInt8) (w : World) (hS : RdS S D F g pe bs w) :
    Calls Tryd.prog 53 #[.iface S.T (.pointer (some ⟨g, 0, none⟩))] w fun e w' => NumPost S D F g pe w (readS 0 0 bs) (fun n => .int .i64 n) e w' := by
  have hna := S.nil g
  have hme := S.meth g
  have hcf := S.call
  have hmk := make1
  have H := Lib.hid hS
  have hlen := hS.len
  have hg := (S.lt hS.is).2
  have hgF := Lib.hid hg
  clear hS hg
  go_enter Tryd.func53, Tryd.ntmps53
  go_wp2_with fail
  go_loopw [4, 5, 8, 9, 10] (fun s4 s5 s8 s9 s10 w' => ∃ (acc sh : Nat) (bs' : List UInt8) (x : Value), s4 = .int .i64 (toS acc) ∧ s5 = .int .u64 sh ∧ acc < 18446744073709551616 ∧ sh + 7 * bs'.length = 7 * bs.length ∧ Hid (readS sh acc bs' = readS 0 0 bs) ∧ Hid (RdS S D F g pe bs' w') ∧ Hid (Blk w' w.heap.size #[x] 5) ∧ Hid (Fr (fun k => F k ∨ k = w.heap.size) w w')) (fun _ s5 _ _ _ _ => 7 * bs.length - (intOf s5).toNat)
  case atStart =>
    exact ⟨0, 0, bs, _, rfl, rfl, by omega, by omega, rfl, H.out.ext (ext_alloc w _), blk_new _ _ _, (ext_alloc w _).to⟩
  case round =>
    obtain ⟨acc, sh, bs', x, rfl, rfl, hacc, hsh, hR, hI, hB, hF⟩ := hrel
    have hgo := hgF.out
    have hne : ¬ F w.heap.size := fun h => by have := hgo.1 _ h; omega
    have hnD : ¬ D w.heap.size := fun h => by have := (hgo.2 _ h).1; omega
    have hec := hI.out.cell
    have hwn : ¬ eofAt.block = w.heap.size := fun e => by have h1 := H.out.cell; have h2 := cell_lt h1; omega
    have hwn := Lib.hid hwn
    clear hgo
    cases bs' with
    | nil =>
      go_wp2_with fail
      refine (S.eof D F g _ (eofV pe) _ hI.out.is hec).mono ?_
      rintro e w2 ⟨rfl, hI2, hF2⟩
      have hfin : Hid (readS 0 0 bs = none ∧ RdS S D F g pe [] w2 ∧ Fr F w w2) := ⟨by rw [← hR.out]; rfl, hI.out.step hI2 hF2 hI.out.nf (Nat.le_refl _), (Fr.trans hF.out hF2 (fun _ _ h => h) (fun _ _ h => .inl h)).mono (fun k hk h => h.elim id (fun h => by omega))⟩
      clear hI hB hF hI2 hF2 hR hne hnD hec
      go_wp2
      go_ret2
      exact .inr ⟨hfin.out.1, ⟨0, rfl⟩, hfin.out.2.1, hfin.out.2.2⟩
    | cons y bs1 =>
    go_wp2_with fail
    refine (S.read D F g w.heap.size 0 1 1 (y :: bs1) #[x] 5 _ hI.out.is hB.out (by simp) (by omega) (by decide) hne hnD (by omega) (by simp)).mono ?_
    rintro e w2 ⟨q, hq0, hq1, -, rfl, hI2, hF2, hB2⟩
    obtain rfl : q = 1 := by omega
    have hen : ¬ (F eofAt.block ∨ eofAt.block = w.heap.size) := fun e => e.elim hI.out.nf hwn.out
    have hI3 : Hid (RdS S D F g pe bs1 w2) := hI.out.step hI2 hF2 hen (by simp)
    have hB3 : Blk w2 w.heap.size #[.int .u8 (y.toNat : Int)] 5 := hB2
    have hF3 : Hid (Fr (fun k => F k ∨ k = w.heap.size) w w2) := hF.out.trans hF2 (fun _ _ h => h) (fun _ _ h => h)
    have hc := hB3.cell 0
    simp only [List.getElem?_toArray, List.getElem?_cons_zero] at hc
    have hB4 := Lib.hid hB3
    have hy := y.toNat_lt
    have hyy : Hid (readS sh acc (y :: bs1) = readS 0 0 bs) := hR.out
    simp only [readS] at hyy
    generalize y.toNat = t at *
    obtain ⟨e1, e2⟩ := stepS acc sh t hacc
    generalize hz : acc ||| (t % 128 * 2 ^ sh % 2 ^ 64) = z at *
    clear hI hB hF hI2 hF2 hB2 hB3 hR hne hnD hec hen hwn
    have hw := IntKind.wrap_u64 ((sh : Int) + 7)
    simp only [List.length_cons] at hsh
    have e4 : IntKind.u64.wrap ((sh : Int) + 7) = ((sh + 7 : Nat) : Int) := by rw [hw]; omega
    clear hw
    by_cases ht : t < 128
    · have e3 : bits .and .i64 (t : Int) 128 = 0 := by rw [i64_and128' t hy, if_pos (by omega)]
      by_cases hs : sh + 7 < 32
      · have d1 : decide (((sh : Int) + 7) < 32) = true := by rw [decide_eq_true_eq]; omega
        have hs0 : (0 : Int) ≤ (sh : Int) + 7 := by omega
        by_cases h64 : 64 ≤ t
        · have e5 : bits .and .i64 (t : Int) 64 = 64 := by rw [i64_and64, if_neg (by omega)]
          have e6 := fillS z (sh + 7) e2 hs
          have hfin : Hid (readS 0 0 bs = some (toS (z ||| (2 ^ 64 - 2 ^ (sh + 7))), bs1)) := by have := hyy.out; rw [if_pos ht, if_pos ⟨hs, h64⟩] at this; exact this.symm
          clear ht hz hyy hs h64
          go_wp2
          go_ret2
          exact .inl ⟨_, _, hfin.out, rfl, hI3.out, hF3.out.mono (fun k hk h => h.elim id (fun h => by omega))⟩
        · have e5 : bits .and .i64 (t : Int) 64 = 0 := by rw [i64_and64, if_pos (by omega)]
          have hfin : Hid (readS 0 0 bs = some (toS z, bs1)) := by have := hyy.out; rw [if_pos ht, if_neg (fun h => h64 h.2)] at this; exact this.symm
          clear ht hz hyy hs h64
          go_wp2
          go_ret2
          exact .inl ⟨_, _, hfin.out, rfl, hI3.out, hF3.out.mono (fun k hk h => h.elim id (fun h => by omega))⟩
      · have d1 : decide (((sh : Int) + 7) < 32) = false := by rw [decide_eq_false_iff_not]; omega
        have hfin : Hid (readS 0 0 bs = some (toS z, bs1)) := by have := hyy.out; rw [if_pos ht, if_neg (fun h => hs h.1)] at this; exact this.symm
        clear ht hz hyy hs
        go_wp2
        go_ret2
        exact .inl ⟨_, _, hfin.out, rfl, hI3.out, hF3.out.mono (fun k hk h => h.elim id (fun h => by omega))⟩
    · have e3 : bits .and .i64 (t : Int) 128 = 128 := by rw [i64_and128' t hy, if_neg (by omega)]
      have hfin : Hid (readS (sh + 7) z bs1 = readS 0 0 bs) := by have := hyy.out; rw [if_neg ht] at this; exact this
      clear ht hz hyy
      go_wp2
      go_roundw
      case rel => exact ⟨z, sh + 7, bs1, _, rfl, by go_num, e2, by omega, hfin, hI3, hB4, hF3⟩
      case measure => simp [intOf]; omega
end Go.Proofs.YtfpikpbolgodcaaDoor
