/- Texts of this proof, one behind the other. -/
import Derived.Test.YtejgninpjhcgnaaGreatDoorPart1
import Derived.Lib.Strings
import Derived.OwnWalk
namespace Go.Proofs.YtejgninpjhcgnaaGreatDoor
open Go.RowKit
set_option linter.unusedSimpArgs false
set_option linter.unusedVariables false
set_option maxRecDepth 100000
set_option maxHeartbeats 1000000
structure Rdr where
 is : (Nat → Prop) → (Nat → Prop) → Nat → List UInt8 → World → Prop
 lt : ∀ {D F g bs w}, is D F g bs w → F g ∧ (∀ k, F k → k < w.heap.size) ∧ ∀ k, D k → k < w.heap.size ∧ ¬ F k
 frame : ∀ {D F g bs w w' S}, is D F g bs w → Fr S w w' → (∀ k, F k → ¬ S k) → (∀ k, D k → ¬ S k) → is D F g bs w'
 T : TypeId
 f : FuncId
 nil : ∀ (g : Nat) (W : World), (nilAhead 559 T (.pointer (some ⟨g, 0, none⟩)) "Read").run Tryz.prog W = .ok (some false) W
 meth : ∀ (g : Nat) (W : World), (method 559 T (.pointer (some ⟨g, 0, none⟩)) "Read").run Tryz.prog W = .ok (f, .pointer (some ⟨g, 0, none⟩)) W
 call : ∀ (args : Array Value) (W : World), (callFunc f args).run Tryz.prog W = .ok (.enter f args) W
 read : ∀ (D F : Nat → Prop) (g b o m c : Nat) (bs : List UInt8) (cs : Array Value) (Tb : TypeId) (w : World), is D F g bs w → Blk w b cs Tb → o + m ≤ cs.size → m ≤ c → c ≤ maxLen → ¬ F b → ¬ D b → 0 < m → 0 < bs.length →
  Calls Tryz.prog f #[.pointer (some ⟨g, 0, none⟩), .slice (some ⟨b, o, none⟩) m c] w fun e w' => ∃ n : Nat, 0 < n ∧ n ≤ m ∧ n ≤ bs.length ∧ e = .returned (.tuple #[.int .i64 n, .nilIface]) ∧ is D F g (bs.drop n) w' ∧
   Fr (fun k => F k ∨ k = b) w w' ∧ Blk w' b (splice cs.toList o (zC (bs.take n))).toArray Tb
 eof : ∀ (D F : Nat → Prop) (g b o m c : Nat) (v : Value) (w : World), is D F g [] w → w.cell? js = some v → 0 < m → ¬ F js.block →
  Calls Tryz.prog f #[.pointer (some ⟨g, 0, none⟩), .slice (some ⟨b, o, none⟩) m c] w fun e w' => e = .returned (.tuple #[.int .i64 0, v]) ∧ is D F g [] w' ∧ Fr F w w'
 left : Nat → World → Nat
 left_is : ∀ {D F g bs w}, is D F g bs w → left g w = bs.length
def IsE (R : Rdr) (D F : Nat → Prop) (g : Nat) (bs : List UInt8) (w : World) : Prop :=
 ∃ (gi : Nat) (F' : Nat → Prop) (n : Int), Blk w g #[.iface R.T (.pointer (some ⟨gi, 0, none⟩)), .int .i64 n] 155 ∧ R.is D F' gi bs w ∧ ¬ F' g ∧ ¬ D g ∧ ∀ k, F k ↔ (k = g ∨ F' k)
variable {R : Rdr} {D F : Nat → Prop}
theorem zbU (g b o m c : Nat) (bs : List UInt8) (cs : Array Value) (Tb : TypeId) (w : World) (h : IsE R D F g bs w) (hB : Blk w b cs Tb) (cr : o + m ≤ cs.size) (iW : m ≤ c) (cn : c ≤ maxLen) (hF : ¬ F b) (hD : ¬ D b) (hm : 0 < m) (bz : 0 < bs.length) :
 Calls Tryz.prog 207 #[.pointer (some ⟨g, 0, none⟩), .slice (some ⟨b, o, none⟩) m c] w fun e w' => ∃ n : Nat, 0 < n ∧ n ≤ m ∧ n ≤ bs.length ∧ e = .returned (.tuple #[.int .i64 n, .nilIface]) ∧ IsE R D F g (bs.drop n) w' ∧
  Fr (fun k => F k ∨ k = b) w w' ∧ Blk w' b (splice cs.toList o (zC (bs.take n))).toArray Tb := by
 obtain ⟨gi, F', n, hb, hi, nn, m5, fh⟩ := h
 have mN := R.nil gi
 have mR := R.meth gi
 have mV := R.call
 have hc := hb.cell
 have H := qh (anQ hb (anQ hi (anQ hB (anQ hF fh))))
 have HC := qh (R.read D F' gi b o m c bs cs Tb w hi hB cr iW cn (fun e => hF ((fh b).2 (.inr e))) hD hm bz)
 have ag := qh (anQ nn m5)
 clear hb hi hB cr iW cn hF hD hm bz fh nn m5
 go_enter Tryz.func207, Tryz.ntmps207
 go_wp2_with fail
 refine HC.o.mono ?_
 rintro e w1 ⟨q, h0, h1, h2, rfl, h4, h5, h6⟩
 have qK : ¬ b = g := fun e => H.o.2.2.2.1 ((H.o.2.2.2.2 b).2 (.inl e))
 have de := H.o.1.fr h5 (fun e => e.elim ag.o.1 (fun e => qK e.symm))
 have cw := de.cell
 have fj := de.frz
 have H1 := qh (anQ h0 (anQ h1 (anQ h2 (anQ h4 (anQ h5 (anQ h6 (anQ de qK)))))))
 clear h0 h1 h2 h4 h5 h6 de hc HC qK
 go_wp2
 go_ret2
 obtain ⟨h0, h1, h2, h4, h5, h6, de, qK⟩ := H1.o
 have hs := zf w1 ⟨g, 1, none⟩ (.int .i64 (wrap64 (n + (q : Int))))
 refine ⟨q, h0, h1, h2, rfl, ⟨gi, F', wrap64 (n + (q : Int)), ?_, R.frame h4 hs (fun k hk e => by have e' : k = g := e; subst e'; exact ag.o.1 hk) (fun k hk e => by have e' : k = g := e; subst e'; exact ag.o.2 hk), ag.o.1, ag.o.2, H.o.2.2.2.2⟩, Fr.trans h5 hs (fun k _ e => e.imp (fun e => (H.o.2.2.2.2 k).2 (.inr e)) id) (fun k _ e => .inl ((H.o.2.2.2.2 k).2 (.inl e))), h6.fr hs (fun e => qK e)⟩
 have := de.set 1 (.int .i64 (wrap64 (n + (q : Int))))
 simpa using this
theorem zcu (R : Rdr) (D F : Nat → Prop) (g b o m c : Nat) (v : Value) (w : World) (h : IsE R D F g [] w) (hv : w.cell? js = some v) (hm : 0 < m) (rp : ¬ F js.block) :
 Calls Tryz.prog 207 #[.pointer (some ⟨g, 0, none⟩), .slice (some ⟨b, o, none⟩) m c] w fun e w' => e = .returned (.tuple #[.int .i64 0, v]) ∧ IsE R D F g [] w' ∧ Fr F w w' := by
 obtain ⟨gi, F', n, hb, hi, nn, m5, fh⟩ := h
 have mN := R.nil gi
 have mR := R.meth gi
 have mV := R.call
 have hc := hb.cell
 have H := qh (anQ hb (anQ hi fh))
 have HC := qh (R.eof D F' gi b o m c v w hi hv hm (fun e => rp ((fh _).2 (.inr e))))
 have ag := qh (anQ nn m5)
 clear hb hi fh nn m5 hv hm rp
 go_enter Tryz.func207, Tryz.ntmps207
 go_wp2_with fail
 refine HC.o.mono ?_
 rintro e w1 ⟨rfl, h4, h5⟩
 have de := H.o.1.fr h5 (fun e => ag.o.1 e)
 have cw := de.cell
 have fj := de.frz
 have H1 := qh (anQ h4 (anQ h5 de))
 clear h4 h5 de hc HC
 go_wp2
 go_ret2
 obtain ⟨h4, h5, de⟩ := H1.o
 have hs := zf w1 ⟨g, 1, none⟩ (.int .i64 (wrap64 n))
 refine ⟨rfl, ⟨gi, F', wrap64 n, ?_, R.frame h4 hs (fun k hk e => by have e' : k = g := e; subst e'; exact ag.o.1 hk) (fun k hk e => by have e' : k = g := e; subst e'; exact ag.o.2 hk), ag.o.1, ag.o.2, H.o.2.2⟩, Fr.trans h5 hs (fun k _ e => (H.o.2.2 k).2 (.inr e)) (fun k _ e => (H.o.2.2 k).2 (.inl e))⟩
 have := de.set 1 (.int .i64 (wrap64 n))
 simpa using this
noncomputable def encR (R : Rdr) : Rdr where
 is := IsE R
 lt := fun ⟨gi, F', n, hb, hi, nn, m5, fh⟩ => ⟨(fh _).2 (.inl rfl), fun k hk => ((fh k).1 hk).elim (fun e => e ▸ hb.lt) (fun e => (R.lt hi).2.1 k e), fun k hk => ⟨((R.lt hi).2.2 k hk).1, fun e => ((fh k).1 e).elim (fun e => m5 (e ▸ hk)) ((R.lt hi).2.2 k hk).2⟩⟩
 frame := fun ⟨gi, F', n, hb, hi, nn, m5, fh⟩ hf hF hD => ⟨gi, F', n, hb.fr hf (hF _ ((fh _).2 (.inl rfl))), R.frame hi hf (fun k hk => hF k ((fh k).2 (.inr hk))) hD, nn, m5, fh⟩
 T := 153
 f := 207
 nil g W := by kernel_rfl
 meth g W := by kernel_rfl
 call args W := by kernel_rfl
 read D F g b o m c bs cs Tb w h hB cr iW cn hF hD hm bz := zbU g b o m c bs cs Tb w h hB cr iW cn hF hD hm bz
 eof D F g b o m c v w h hv hm rp := zcu R D F g b o m c v w h hv hm rp
 left g w := match w.cell? ⟨g, 0, none⟩ with
  | some (.iface _ (.pointer (some a))) => R.left a.block w
  | _ => 0
 left_is := fun ⟨gi, F', n, hb, hi, nn, m5, fh⟩ => by
  have := hb.cell 0
  simp at this
  rw [this]
  exact R.left_is hi
abbrev eofV (pe : Addr) : Value := .iface 380 (.pointer (some pe))
structure RdS (R : Rdr) (D F : Nat → Prop) (g : Nat) (pe : Addr) (bs : List UInt8) (w : World) : Prop where
 is : R.is D F g bs w
 cell : w.cell? js = some (eofV pe)
 nf : ¬ F js.block
 len : bs.length ≤ 140737488355328
variable {w w' : World} {v : Value}
theorem zfp {S : Nat → Prop} (h : w.cell? js = some v) (hf : Fr S w w') (hs : ¬ S js.block) : w'.cell? js = some v := hf.cell h hs
variable {g : Nat} {pe : Addr} {bs : List UInt8}
theorem RdS.step {fg : List UInt8} {S : Nat → Prop} (h : RdS R D F g pe bs w) (hi : R.is D F g fg w') (hf : Fr S w w') (hs : ¬ S js.block) (hl : fg.length ≤ bs.length) : RdS R D F g pe fg w' :=
 ⟨hi, zfp h.cell hf hs, h.nf, nlQ hl h.len⟩
theorem RdS.fr {S : Nat → Prop} (h : RdS R D F g pe bs w) (hf : Fr S w w') (hs : ¬ S js.block) (hF : ∀ k, F k → ¬ S k) (hD : ∀ k, D k → ¬ S k) : RdS R D F g pe bs w' :=
 h.step (R.frame h.is hf hF hD) hf hs (Nat.le_refl _)
theorem RdS.ext (h : RdS R D F g pe bs w) (hf : Ext w w') : RdS R D F g pe bs w' := h.fr hf (fun h => h) (fun _ _ h => h) (fun _ _ h => h)
def uleb (n : Nat) : List UInt8 :=
 if n < 128 then [UInt8.ofNat n] else UInt8.ofNat (n % 128 + 128) :: uleb (n / 128)
termination_by n
decreasing_by omega
variable {n : Nat}
theorem ZL (h : n < 128) : uleb n = [UInt8.ofNat n] := by rw [uleb, if_pos h]
theorem zbV (h : 128 ≤ n) : uleb n = UInt8.ofNat (n % 128 + 128) :: uleb (n / 128) := by rw [uleb, if_neg (by omega)]
theorem zd5 : ∀ (k n : Nat), n < 128 ^ (k + 1) → (uleb n).length ≤ k + 1
 | 0, n, h => by rw [ZL (by omega)]; simp
 | k + 1, n, h => by
  by_cases hn : n < 128
  ·rw [ZL hn]; simp
  ·rw [zbV (by omega), List.length_cons]
   have := zd5 k (n / 128) (by rw [Nat.pow_succ] at h; omega)
   omega
theorem jG (n : Nat) (h : n < 18446744073709551616) : (uleb n).length ≤ 10 := zd5 9 n (by omega)
theorem zey (x : Int) (h0 : 0 ≤ x) (h1 : x < 18446744073709551616) : bits .and .u64 x 127 = x % 128 := by
 obtain ⟨a, rfl⟩ := Int.eq_ofNat_of_zero_le h0
 rw [show (127 : Int) = ((127 : Nat) : Int) from rfl, u64_and_nat a 127 (by omega) (by omega), nat_mask7]
 omega
theorem zbw (x : Int) (h0 : 0 ≤ x) (h1 : x < 256) : bits .and .u64 x 128 = if x < 128 then 0 else 128 := by
 obtain ⟨a, rfl⟩ := Int.eq_ofNat_of_zero_le h0
 rw [show (128 : Int) = ((128 : Nat) : Int) from rfl, u64_and_nat a 128 (by omega) (by omega), show (128 : Nat) = 2 ^ 7 from rfl, nat_bit 7 a]
 split <;> omega
theorem zjf (x : Int) (h0 : 0 ≤ x) (h1 : x < 256) : bits .and .u8 x 128 = if x < 128 then 0 else 128 := by
 obtain ⟨a, rfl⟩ := Int.eq_ofNat_of_zero_le h0
 rw [show (128 : Int) = ((128 : Nat) : Int) from rfl, u8_and_nat a 128 (by omega) (by omega), show (128 : Nat) = 2 ^ 7 from rfl, nat_bit 7 a]
 split <;> omega
theorem zfq (x : Int) (h0 : 0 ≤ x) (h1 : x < 256) : bits .and .u8 x 127 = x % 128 := by
 obtain ⟨a, rfl⟩ := Int.eq_ofNat_of_zero_le h0
 rw [show (127 : Int) = ((127 : Nat) : Int) from rfl, u8_and_nat a 127 (by omega) (by omega), nat_mask7]
 omega
theorem zcv (x : Int) (h0 : 0 ≤ x) (h1 : x < 256) : bits .or .u8 x 128 = x % 128 + 128 := by
 obtain ⟨a, rfl⟩ := Int.eq_ofNat_of_zero_le h0
 rw [show (128 : Int) = ((128 : Nat) : Int) from rfl, u8_or_nat a 128 (by omega) (by omega)]
 have h : a ||| 128 = a % 128 + 128 := by
  have : ∀ b : Fin 256, b.val ||| 128 = b.val % 128 + 128 := by decide +kernel
  exact this ⟨a, by omega⟩
 omega
theorem yZ (x : Int) : ((BitVec.ofInt 64 x).toNat : Int) = x % 18446744073709551616 := by
 rw [BitVec.toNat_ofInt]
 omega
theorem Yi (x : Int) (m : Nat) (hm : m < 128) : bits .and .i64 x (m : Int) = (((x % 128).toNat &&& m : Nat) : Int) := by
 show IntKind.i64.wrap ((BitVec.ofInt 64 x &&& BitVec.ofInt 64 (m : Int)).toNat : Int) = _
 rw [BitVec.toNat_and]
 have hx := yZ x
 have oo := yZ (m : Int)
 generalize (BitVec.ofInt 64 x).toNat = a at *
 generalize (BitVec.ofInt 64 (m : Int)).toNat = b at *
 obtain rfl : b = m := by omega
 have h1 : a &&& b = (a % 128) &&& b := by
  have hb : b = b &&& 127 := by rw [nat_mask7]; omega
  rw [← nat_mask7 a, Nat.and_assoc, Nat.and_comm 127 b, ← hb]
 have h2 : a % 128 = (x % 128).toNat := by omega
 rw [h1, h2]
 have h3 : (x % 128).toNat &&& b ≤ b := Nat.and_le_right
 generalize (x % 128).toNat &&& b = c at *
 rw [IntKind.wrap_i64]
 omega
theorem zez (x : Int) : bits .and .i64 x 127 = x % 128 := by
 have h := Yi x 127 (by omega)
 rw [show ((127 : Nat) : Int) = 127 from rfl, nat_mask7] at h
 omega
theorem zcw (x : Int) : bits .and .i64 x 64 = if x % 128 < 64 then 0 else 64 := by
 have h := Yi x 64 (by omega)
 rw [show ((64 : Nat) : Int) = 64 from rfl] at h
 have h2 := nat_bit 6 (x % 128).toNat
 rw [show (2 : Nat) ^ 6 = 64 from rfl] at h2
 rw [h2] at h
 split <;> omega
def jq : Nat → Nat → List UInt8 → Option (Nat × List UInt8)
 | _, _, [] => none
 | s, a, b :: bs => if b.toNat < 128 then some (a ||| (b.toNat % 128 * 2 ^ s % 2 ^ 64), bs) else jq (s + 7) (a ||| (b.toNat % 128 * 2 ^ s % 2 ^ 64)) bs
theorem zjg (a s : Nat) : a * 2 ^ min s 64 % 2 ^ 64 = a * 2 ^ s % 2 ^ 64 := by
 rcases Nat.le_total s 64 with h | h
 ·rw [Nat.min_eq_left h]
 ·rw [Nat.min_eq_right h, Nat.mul_mod_left, show s = (s - 64) + 64 from by omega, Nat.pow_add, ← Nat.mul_assoc, Nat.mul_mod_left]
theorem stepU (a s t : Nat) (ha : a < 18446744073709551616) (ht : t < 256) :
 bits .or .u64 (a : Int) (IntKind.u64.wrap (bits .and .u64 (t : Int) 127 * 2 ^ min s 64)) = ((a ||| (t % 128 * 2 ^ s % 2 ^ 64) : Nat) : Int) ∧ a ||| (t % 128 * 2 ^ s % 2 ^ 64) < 18446744073709551616 := by
 have hb : t % 128 * 2 ^ s % 2 ^ 64 < 18446744073709551616 := Nat.mod_lt _ (by decide)
 have e1 : IntKind.u64.wrap (bits .and .u64 (t : Int) 127 * 2 ^ min s 64) = ((t % 128 * 2 ^ s % 2 ^ 64 : Nat) : Int) := by
  rw [zey _ (by omega) (by omega), IntKind.wrap_u64, ← zjg]
  simp
 rw [e1, u64_or_nat a _ ha hb]
 exact ⟨rfl, Nat.or_lt_two_pow (n := 64) ha hb⟩
def toS (a : Nat) : Int := ((a : Int) + 9223372036854775808) % 18446744073709551616 - 9223372036854775808
variable {b : Nat}
theorem zd6 {a : Nat} {x y : Int} (hx : x % 18446744073709551616 = a) (hy : y % 18446744073709551616 = b) : bits .or .i64 x y = toS (a ||| b) := by
 show IntKind.i64.wrap ((BitVec.ofInt 64 x ||| BitVec.ofInt 64 y).toNat : Int) = _
 have h1 := yZ x
 have h2 := yZ y
 rw [BitVec.toNat_or, show (BitVec.ofInt 64 x).toNat = a from by omega, show (BitVec.ofInt 64 y).toNat = b from by omega, IntKind.wrap_i64]
 rfl
theorem YH {a : Nat} (ha : a < 18446744073709551616) : toS a % 18446744073709551616 = a := by unfold toS; omega
theorem stepS (a s t : Nat) (ha : a < 18446744073709551616) :
 bits .or .i64 (toS a) (wrap64 (bits .and .i64 (t : Int) 127 * 2 ^ min s 64)) = toS (a ||| (t % 128 * 2 ^ s % 2 ^ 64)) ∧ a ||| (t % 128 * 2 ^ s % 2 ^ 64) < 18446744073709551616 := by
 have hb : t % 128 * 2 ^ s % 2 ^ 64 < 18446744073709551616 := Nat.mod_lt _ (by decide)
 refine ⟨zd6 (YH ha) ?_, Nat.or_lt_two_pow (n := 64) ha hb⟩
 have e1 : bits .and .i64 (t : Int) 127 * 2 ^ min s 64 = ((t % 128 * 2 ^ min s 64 : Nat) : Int) := by
  rw [show bits .and .i64 (t : Int) 127 = (t : Int) % 128 from zez _]; simp
 rw [e1, ← zjg]
 unfold wrap64
 generalize t % 128 * 2 ^ min s 64 = q
 omega
def yM : Nat → Nat → List UInt8 → Option (Int × List UInt8)
 | _, _, [] => none
 | s, a, b :: bs => if b.toNat < 128 then some (toS (if s + 7 < 32 ∧ 64 ≤ b.toNat then (a ||| (b.toNat % 128 * 2 ^ s % 2 ^ 64)) ||| (2 ^ 64 - 2 ^ (s + 7)) else a ||| (b.toNat % 128 * 2 ^ s % 2 ^ 64)), bs) else yM (s + 7) (a ||| (b.toNat % 128 * 2 ^ s % 2 ^ 64)) bs
theorem fillS (a s : Nat) (ha : a < 18446744073709551616) (hs : s < 32) : bits .or .i64 (toS a) (wrap64 (-2 ^ min s 64)) = toS (a ||| (2 ^ 64 - 2 ^ s)) := by
 have hp : 2 ^ s < 2 ^ 32 := Nat.pow_lt_pow_right (by decide) hs
 have dQ : 0 < 2 ^ s := Nat.pow_pos (by decide)
 refine zd6 (YH ha) ?_
 have e1 : (-2 ^ min s 64 : Int) = -((2 ^ s : Nat) : Int) := by rw [Nat.min_eq_left (by omega)]; simp
 rw [e1]
 unfold wrap64
 generalize 2 ^ s = q at *
 omega
theorem zau (t : Nat) (ht : t < 256) : bits .and .i64 (t : Int) 128 = if (t : Int) < 128 then 0 else 128 := by
 show IntKind.i64.wrap ((BitVec.ofInt 64 (t : Int) &&& BitVec.ofInt 64 (128 : Int)).toNat : Int) = _
 have h1 := yZ (t : Int)
 have h2 := yZ (128 : Int)
 rw [BitVec.toNat_and, show (BitVec.ofInt 64 (t : Int)).toNat = t from by omega, show (BitVec.ofInt 64 (128 : Int)).toNat = 2 ^ 7 from by omega, nat_bit 7 t, IntKind.wrap_i64]
 split <;> omega
theorem zih : ∀ w : World, (Instr.makeSlice 22 (.int .i64 1) (.int .i64 1)).run Tryz.prog w = .ok (.slice (some ⟨w.heap.size, 0, none⟩) 1 1) (w.alloc (.cells #[.int .u8 0] 5)) := fun w => by kernel_rfl
theorem zav {p : Addr} (h : w.cell? p = some v) : p.block < w.heap.size := by
 unfold World.cell? at h
 cases hb : w.heap[p.block]? with
 | none => rw [hb] at h; simp at h
 | some o => exact (Array.getElem?_eq_some_iff.1 hb).1
def zaw {α : Type} (S : Rdr) (D F : Nat → Prop) (g : Nat) (pe : Addr) (w : World) (r : Option (α × List UInt8)) (f : α → Value) (e : Ending) (w' : World) : Prop :=
 (∃ n rest, r = some (n, rest) ∧ e = .returned (.tuple #[f n, .nilIface]) ∧ RdS S D F g pe rest w' ∧ Fr F w w') ∨
  (r = none ∧ (∃ z, e = .returned (.tuple #[f z, eofV pe])) ∧ RdS S D F g pe [] w' ∧ Fr F w w')
variable {S : Rdr}
theorem zaf (hS : RdS S D F g pe bs w) :
 Calls Tryz.prog 161 #[.iface S.T (.pointer (some ⟨g, 0, none⟩))] w fun e w' => zaw S D F g pe w (jq 0 0 bs) (fun n => .int .u64 n) e w' := by
 have mN := S.nil g
 have mR := S.meth g
 have mV := S.call
 have oT := zih
 have H := qh hS
 have aT := hS.len
 have hg := (S.lt hS.is).2
 have xA := qh hg
 clear hS hg
 go_enter Tryz.func161, Tryz.ntmps161
 go_wp2_with fail
 go_loopw [4, 5, 7, 8, 9] (fun s4 s5 s7 s8 s9 w' => ∃ (bf sh : Nat) (fg : List UInt8) (x : Value), s4 = .int .u64 bf ∧ s5 = .int .u64 sh ∧ bf < 18446744073709551616 ∧ sh + 7 * fg.length = 7 * bs.length ∧ Hq (jq sh bf fg = jq 0 0 bs) ∧ Hq (RdS S D F g pe fg w') ∧ Hq (Blk w' w.heap.size #[x] 5) ∧ Hq (Fr (fun k => F k ∨ k = w.heap.size) w w')) (fun _ s5 _ _ _ _ => 7 * bs.length - (intOf s5).toNat)
 case atStart =>
  exact ⟨0, 0, bs, _, rfl, rfl, by omega, by omega, rfl, H.o.ext (za w _), zl _ _ _, (za w _).to⟩
 case round =>
  obtain ⟨bf, sh, fg, x, rfl, rfl, dG, og, hR, hI, hB, hF⟩ := hrel
  have oZ := xA.o
  have ag : ¬ F w.heap.size := fun h => by have := oZ.1 _ h; omega
  have qd : ¬ D w.heap.size := fun h => by have := (oZ.2 _ h).1; omega
  have qr := hI.o.cell
  have nk : ¬ js.block = w.heap.size := fun e => by have h1 := H.o.cell; have h2 := zav h1; omega
  have nk := qh nk
  clear oZ
  cases fg with
  | nil =>
   go_wp2_with fail
   refine (S.eof D F g _ _ _ _ (eofV pe) _ hI.o.is qr (by omega) hI.o.nf).mono ?_
   rintro e w2 ⟨rfl, fZ, dI⟩
   have aV : Hq (jq 0 0 bs = none ∧ RdS S D F g pe [] w2 ∧ Fr F w w2) := ⟨by rw [← hR.o]; rfl, hI.o.step fZ dI hI.o.nf (Nat.le_refl _), (Fr.trans hF.o dI (fun _ _ h => h) (fun _ _ h => .inl h)).mono (fun k hk h => h.elim id (fun h => by omega))⟩
   clear hI hB hF fZ dI hR ag qd qr
   go_wp2
   go_ret2
   exact .inr ⟨aV.o.1, ⟨0, rfl⟩, aV.o.2.1, aV.o.2.2⟩
  | cons y bs1 =>
  go_wp2_with fail
  refine (S.read D F g w.heap.size 0 1 1 (y :: bs1) #[x] 5 _ hI.o.is hB.o (by simp) (by omega) (by decide) ag qd (by omega) (by simp)).mono ?_
  rintro e w2 ⟨q, fq, cV, -, rfl, fZ, dI, bi⟩
  obtain rfl : q = 1 := by omega
  have tC : ¬ (F js.block ∨ js.block = w.heap.size) := fun e => e.elim hI.o.nf nk.o
  have qs : Hq (RdS S D F g pe bs1 w2) := hI.o.step fZ dI tC (by simp)
  have i7 : Blk w2 w.heap.size #[.int .u8 (y.toNat : Int)] 5 := bi
  have lS : Hq (Fr (fun k => F k ∨ k = w.heap.size) w w2) := hF.o.trans dI (fun _ _ h => h) (fun _ _ h => h)
  have hc := i7.cell 0
  simp only [List.getElem?_toArray, List.getElem?_cons_zero] at hc
  have ij := qh i7
  have hy := y.toNat_lt
  have kd : Hq (jq sh bf (y :: bs1) = jq 0 0 bs) := hR.o
  simp only [jq] at kd
  generalize y.toNat = t at *
  obtain ⟨e1, e2⟩ := stepU bf sh t dG hy
  generalize hz : bf ||| (t % 128 * 2 ^ sh % 2 ^ 64) = z at *
  clear hI hB hF fZ dI bi i7 hR ag qd qr tC nk
  by_cases ht : t < 128
  ·have e3 : bits .and .u64 (t : Int) 128 = 0 := by rw [zbw _ (by omega) (by omega), if_pos (by omega)]
   have aV : Hq (jq 0 0 bs = some (z, bs1)) := by have := kd.o; rw [if_pos ht] at this; exact this.symm
   clear ht hz kd
   go_wp2
   go_ret2
   exact .inl ⟨_, _, aV.o, rfl, qs.o, lS.o.mono (fun k hk h => h.elim id (fun h => by omega))⟩
  ·have e3 : bits .and .u64 (t : Int) 128 = 128 := by rw [zbw _ (by omega) (by omega), if_neg (by omega)]
   have aV : Hq (jq (sh + 7) z bs1 = jq 0 0 bs) := by have := kd.o; rw [if_neg ht] at this; exact this
   have hw := IntKind.wrap_u64 ((sh : Int) + 7)
   simp only [List.length_cons] at og
   have e4 : IntKind.u64.wrap ((sh : Int) + 7) = ((sh + 7 : Nat) : Int) := by rw [hw]; omega
   clear ht hz kd hw
   go_wp2
   go_roundw
   case rel => exact ⟨z, sh + 7, bs1, _, rfl, by go_num, e2, by omega, aV, qs, ij, lS⟩
   case measure => simp [intOf]; omega
theorem Zu (hS : RdS S D F g pe bs w) :
 Calls Tryz.prog 189 #[.iface S.T (.pointer (some ⟨g, 0, none⟩))] w fun e w' => zaw S D F g pe w (yM 0 0 bs) (fun n => .int .i64 n) e w' := by
 have mN := S.nil g
 have mR := S.meth g
 have mV := S.call
 have oT := zih
 have H := qh hS
 have aT := hS.len
 have hg := (S.lt hS.is).2
 have xA := qh hg
 clear hS hg
 go_enter Tryz.func189, Tryz.ntmps189
 go_wp2_with fail
 go_loopw [4, 5, 8, 9, 10] (fun s4 s5 s8 s9 tl w' => ∃ (bf sh : Nat) (fg : List UInt8) (x : Value), s4 = .int .i64 (toS bf) ∧ s5 = .int .u64 sh ∧ bf < 18446744073709551616 ∧ sh + 7 * fg.length = 7 * bs.length ∧ Hq (yM sh bf fg = yM 0 0 bs) ∧ Hq (RdS S D F g pe fg w') ∧ Hq (Blk w' w.heap.size #[x] 5) ∧ Hq (Fr (fun k => F k ∨ k = w.heap.size) w w')) (fun _ s5 _ _ _ _ => 7 * bs.length - (intOf s5).toNat)
 case atStart =>
  exact ⟨0, 0, bs, _, rfl, rfl, by omega, by omega, rfl, H.o.ext (za w _), zl _ _ _, (za w _).to⟩
 case round =>
  obtain ⟨bf, sh, fg, x, rfl, rfl, dG, og, hR, hI, hB, hF⟩ := hrel
  have oZ := xA.o
  have ag : ¬ F w.heap.size := fun h => by have := oZ.1 _ h; omega
  have qd : ¬ D w.heap.size := fun h => by have := (oZ.2 _ h).1; omega
  have qr := hI.o.cell
  have nk : ¬ js.block = w.heap.size := fun e => by have h1 := H.o.cell; have h2 := zav h1; omega
  have nk := qh nk
  clear oZ
  cases fg with
  | nil =>
   go_wp2_with fail
   refine (S.eof D F g _ _ _ _ (eofV pe) _ hI.o.is qr (by omega) hI.o.nf).mono ?_
   rintro e w2 ⟨rfl, fZ, dI⟩
   have aV : Hq (yM 0 0 bs = none ∧ RdS S D F g pe [] w2 ∧ Fr F w w2) := ⟨by rw [← hR.o]; rfl, hI.o.step fZ dI hI.o.nf (Nat.le_refl _), (Fr.trans hF.o dI (fun _ _ h => h) (fun _ _ h => .inl h)).mono (fun k hk h => h.elim id (fun h => by omega))⟩
   clear hI hB hF fZ dI hR ag qd qr
   go_wp2
   go_ret2
   exact .inr ⟨aV.o.1, ⟨0, rfl⟩, aV.o.2.1, aV.o.2.2⟩
  | cons y bs1 =>
  go_wp2_with fail
  refine (S.read D F g w.heap.size 0 1 1 (y :: bs1) #[x] 5 _ hI.o.is hB.o (by simp) (by omega) (by decide) ag qd (by omega) (by simp)).mono ?_
  rintro e w2 ⟨q, fq, cV, -, rfl, fZ, dI, bi⟩
  obtain rfl : q = 1 := by omega
  have tC : ¬ (F js.block ∨ js.block = w.heap.size) := fun e => e.elim hI.o.nf nk.o
  have qs : Hq (RdS S D F g pe bs1 w2) := hI.o.step fZ dI tC (by simp)
  have i7 : Blk w2 w.heap.size #[.int .u8 (y.toNat : Int)] 5 := bi
  have lS : Hq (Fr (fun k => F k ∨ k = w.heap.size) w w2) := hF.o.trans dI (fun _ _ h => h) (fun _ _ h => h)
  have hc := i7.cell 0
  simp only [List.getElem?_toArray, List.getElem?_cons_zero] at hc
  have ij := qh i7
  have hy := y.toNat_lt
  have kd : Hq (yM sh bf (y :: bs1) = yM 0 0 bs) := hR.o
  simp only [yM] at kd
  generalize y.toNat = t at *
  obtain ⟨e1, e2⟩ := stepS bf sh t dG
  generalize hz : bf ||| (t % 128 * 2 ^ sh % 2 ^ 64) = z at *
  clear hI hB hF fZ dI bi i7 hR ag qd qr tC nk
  have hw := IntKind.wrap_u64 ((sh : Int) + 7)
  simp only [List.length_cons] at og
  have e4 : IntKind.u64.wrap ((sh : Int) + 7) = ((sh + 7 : Nat) : Int) := by rw [hw]; omega
  clear hw
  by_cases ht : t < 128
  ·have e3 : bits .and .i64 (t : Int) 128 = 0 := by rw [zau t hy, if_pos (by omega)]
   by_cases hs : sh + 7 < 32
   ·have d1 : decide (((sh : Int) + 7) < 32) = true := by rw [decide_eq_true_eq]; omega
    have Aa : (0 : Int) ≤ (sh : Int) + 7 := by omega
    by_cases fk : 64 ≤ t
    ·have e5 : bits .and .i64 (t : Int) 64 = 64 := by rw [zcw, if_neg (by omega)]
     have e6 := fillS z (sh + 7) e2 hs
     have aV : Hq (yM 0 0 bs = some (toS (z ||| (2 ^ 64 - 2 ^ (sh + 7))), bs1)) := by have := kd.o; rw [if_pos ht, if_pos ⟨hs, fk⟩] at this; exact this.symm
     clear ht hz kd hs fk
     go_wp2
     go_ret2
     exact .inl ⟨_, _, aV.o, rfl, qs.o, lS.o.mono (fun k hk h => h.elim id (fun h => by omega))⟩
    ·have e5 : bits .and .i64 (t : Int) 64 = 0 := by rw [zcw, if_pos (by omega)]
     have aV : Hq (yM 0 0 bs = some (toS z, bs1)) := by have := kd.o; rw [if_pos ht, if_neg (fun h => fk h.2)] at this; exact this.symm
     clear ht hz kd hs fk
     go_wp2
     go_ret2
     exact .inl ⟨_, _, aV.o, rfl, qs.o, lS.o.mono (fun k hk h => h.elim id (fun h => by omega))⟩
   ·have d1 : decide (((sh : Int) + 7) < 32) = false := by rw [decide_eq_false_iff_not]; omega
    have aV : Hq (yM 0 0 bs = some (toS z, bs1)) := by have := kd.o; rw [if_pos ht, if_neg (fun h => hs h.1)] at this; exact this.symm
    clear ht hz kd hs
    go_wp2
    go_ret2
    exact .inl ⟨_, _, aV.o, rfl, qs.o, lS.o.mono (fun k hk h => h.elim id (fun h => by omega))⟩
  ·have e3 : bits .and .i64 (t : Int) 128 = 128 := by rw [zau t hy, if_neg (by omega)]
   have aV : Hq (yM (sh + 7) z bs1 = yM 0 0 bs) := by have := kd.o; rw [if_neg ht] at this; exact this
   clear ht hz kd
   go_wp2
   go_roundw
   case rel => exact ⟨z, sh + 7, bs1, _, rfl, by go_num, e2, by omega, aV, qs, ij, lS⟩
   case measure => simp [intOf]; omega
theorem Zl (hS : RdS S D F g pe bs w) :
 Calls Tryz.prog 127 #[.iface S.T (.pointer (some ⟨g, 0, none⟩))] w fun e w' => zaw S D F g pe w (jq 0 0 bs) (fun n => .int .u32 ((n % 4294967296 : Nat) : Int)) e w' := by
 have HC := qh (zaf hS)
 clear hS
 go_enter Tryz.func127, Tryz.ntmps127
 go_wp2_with fail
 refine HC.o.mono ?_
 rintro e w1 (⟨n, rest, hr, rfl, h1, h2⟩ | ⟨hr, ⟨n, rfl⟩, h1, h2⟩)
 ·have hw := (show IntKind.u32.wrap (n : Int) = ((n % 4294967296 : Nat) : Int) from by rw [IntKind.wrap_u32]; omega)
  have H1 := qh (anQ hr (anQ h1 h2))
  clear h1 h2 hr HC
  go_wp2
  go_ret2
  exact .inl ⟨_, _, H1.o.1, rfl, H1.o.2.1, H1.o.2.2⟩
 ·have hw := (show IntKind.u32.wrap (n : Int) = ((n % 4294967296 : Nat) : Int) from by rw [IntKind.wrap_u32]; omega)
  have H1 := qh (anQ hr (anQ h1 h2))
  clear h1 h2 hr HC
  go_wp2
  go_ret2
  exact .inr ⟨H1.o.1, ⟨n, rfl⟩, H1.o.2.1, H1.o.2.2⟩
theorem zax (hS : RdS S D F g pe bs w) :
 Calls Tryz.prog 188 #[.iface S.T (.pointer (some ⟨g, 0, none⟩))] w fun e w' => zaw S D F g pe w (yM 0 0 bs) (fun n => .int .i32 (wrap32 n)) e w' := by
 have HC := qh (Zu hS)
 clear hS
 go_enter Tryz.func188, Tryz.ntmps188
 go_wp2_with fail
 refine HC.o.mono ?_
 rintro e w1 (⟨n, rest, hr, rfl, h1, h2⟩ | ⟨hr, ⟨n, rfl⟩, h1, h2⟩)
 ·have H1 := qh (anQ hr (anQ h1 h2))
  clear h1 h2 hr HC
  go_wp2
  go_ret2
  exact .inl ⟨_, _, H1.o.1, rfl, H1.o.2.1, H1.o.2.2⟩
 ·have H1 := qh (anQ hr (anQ h1 h2))
  clear h1 h2 hr HC
  go_wp2
  go_ret2
  exact .inr ⟨H1.o.1, ⟨n, rfl⟩, H1.o.2.1, H1.o.2.2⟩
def rdB : List UInt8 → Option (UInt8 × List UInt8)
 | [] => none
 | c :: r => some (c, r)
theorem zbi {x : Value} (hS : RdS S D F g pe bs w) (hB : Blk w b #[x] 5) (hF : ¬ F b) (hD : ¬ D b) (hb : b ≠ js.block) :
 Calls Tryz.prog 162 #[.iface S.T (.pointer (some ⟨g, 0, none⟩)), .slice (some ⟨b, 0, none⟩) 1 1, .int .i64 1] w fun e w' =>
  (∃ c r, bs = c :: r ∧ e = .returned (.tuple #[.int .i64 1, .nilIface]) ∧ RdS S D F g pe r w' ∧ Blk w' b #[.int .u8 (c.toNat : Int)] 5 ∧ Fr (fun k => F k ∨ k = b) w w') ∨
  (bs = [] ∧ e = .returned (.tuple #[.int .i64 0, eofV pe]) ∧ RdS S D F g pe [] w' ∧ Blk w' b #[x] 5 ∧ Fr (fun k => F k ∨ k = b) w w') := by
 have mN := S.nil g
 have mR := S.meth g
 have mV := S.call
 have A2 : ∀ (fn : Fn) (first cap : Array Value) (w : World), (Instr.makeFunc fn first cap).run Tryz.prog w = .ok (.func fn first cap) w := fun _ _ _ _ => rfl
 have H := qh (anQ hS (anQ hB (anQ hF (anQ hD hb))))
 clear hS hB hF hD hb
 go_enter Tryz.func162, Tryz.ntmps162
 go_wp2_with fail
 go_loopw [6, 7, 8] (fun s6 s7 s8 w' => (s6 = .int .i64 0 ∧ s7 = .nilIface ∧ w' = w) ∨ (s6 = .int .i64 1 ∧ s7 = .nilIface ∧ Hq (∃ c r, bs = c :: r ∧ RdS S D F g pe r w' ∧ Blk w' b #[.int .u8 (c.toNat : Int)] 5 ∧ Fr (fun k => F k ∨ k = b) w w')) ∨ (s6 = .int .i64 0 ∧ s7 = eofV pe ∧ Hq (bs = [] ∧ RdS S D F g pe [] w' ∧ Blk w' b #[x] 5 ∧ Fr (fun k => F k ∨ k = b) w w'))) (fun s6 s7 _ _ => match s7 with | .nilIface => 1 - (intOf s6).toNat | _ => 0)
 case atStart => exact .inl ⟨rfl, rfl, rfl⟩
 case round =>
  rcases hrel with ⟨rfl, rfl, rfl⟩ | ⟨rfl, rfl, hr⟩ | ⟨rfl, rfl, hr⟩
  ·go_wp2_with fail
   refine zj (yX (fun k => F k ∨ k = b)) [kT 0, kT 1, kT 2, kT 3, kT 4, kT 5, kT 6, kR 7, kT 8, kT 9, kT 10, kT 11, kT 12] (by kernel_rfl) (by kernel_rfl) ?_
   simp only [zx, gzQ, gsQ]
   have hx := zb wr
   have xW := H.o.1.ext hx
   have xX := H.o.2.1.ext hx
   have Hd := qh (anQ xW (anQ xX hx))
   clear xW xX hx
   generalize wr.drew = W1 at *
   repeat (apply item_take; rfl; rfl; rfl; rfl; exact fun _ _ _ _ h => h; (intro _ _ _ k; go_simp; exact k))
   apply zg; rfl; intro K hK; go_simp
   cases bs with
   | nil =>
    refine (S.eof D F g _ _ _ _ (eofV pe) W1 Hd.o.1.is Hd.o.1.cell (by omega) Hd.o.1.nf).mono ?_
    rintro e w2 ⟨rfl, fZ, dI⟩
    refine hK _ _ (dI.mono (fun _ _ h => .inl h)) ?_
    have aV : Hq (([] : List UInt8) = [] ∧ RdS S D F g pe [] w2 ∧ Blk w2 b #[x] 5 ∧ Fr (fun k => F k ∨ k = b) wr w2) := ⟨rfl, Hd.o.1.step fZ dI Hd.o.1.nf (Nat.le_refl _), Hd.o.2.1.fr dI H.o.2.2.1, (Ext.fr Hd.o.2.2 dI).mono (fun _ _ h => .inl h)⟩
    clear hK K fZ dI
    repeat (apply item_take; rfl; rfl; rfl; rfl; exact fun _ _ _ _ h => h; (intro _ _ _ k; go_simp; exact k))
    apply zm
    go_wp2
    go_roundw
    case rel => exact .inr (.inr ⟨rfl, rfl, trivial, aV.o.2⟩)
    case measure => show (0 : Nat) < 1; omega
   | cons c r =>
    refine (S.read D F g b 0 1 1 (c :: r) #[x] 5 _ Hd.o.1.is Hd.o.2.1 (by simp) (by omega) (by decide) H.o.2.2.1 H.o.2.2.2.1 (by omega) (by simp)).mono ?_
    rintro e w2 ⟨q, fq, cV, -, rfl, fZ, dI, bi⟩
    obtain rfl : q = 1 := by omega
    refine hK _ _ dI ?_
    have aV : Hq (∃ c' r', c :: r = c' :: r' ∧ RdS S D F g pe r' w2 ∧ Blk w2 b #[.int .u8 (c'.toNat : Int)] 5 ∧ Fr (fun k => F k ∨ k = b) wr w2) := ⟨c, r, rfl, Hd.o.1.step fZ dI (fun e => e.elim Hd.o.1.nf (fun e => H.o.2.2.2.2 e.symm)) (by simp), bi, Ext.fr Hd.o.2.2 dI⟩
    clear hK K fZ dI bi fq cV
    repeat (apply item_take; rfl; rfl; rfl; rfl; exact fun _ _ _ _ h => h; (intro _ _ _ k; go_simp; exact k))
    apply zm
    go_wp2
    go_roundw
    case rel => exact .inr (.inl ⟨rfl, rfl, aV⟩)
    case measure => decide
  ·go_wp2
   go_ret2
   obtain ⟨c, r, h1, h2⟩ := hr.o
   exact .inl ⟨c, r, h1, rfl, h2⟩
  ·go_wp2
   go_ret2
   exact .inr ⟨hr.o.1, rfl, hr.o.2⟩
theorem zdt (S : Rdr) (D F : Nat → Prop) (g b : Nat) (pe : Addr) (bs : List UInt8) (x : Value) (w : World) (hS : RdS S D F g pe bs w) (hB : Blk w b #[x] 5) (hF : ¬ F b) (hD : ¬ D b) (hb : b ≠ js.block) :
 Calls Tryz.prog 128 #[.iface S.T (.pointer (some ⟨g, 0, none⟩)), .slice (some ⟨b, 0, none⟩) 1 1] w fun e w' =>
  (∃ c r, bs = c :: r ∧ e = .returned (.tuple #[.int .i64 1, .nilIface]) ∧ RdS S D F g pe r w' ∧ Blk w' b #[.int .u8 (c.toNat : Int)] 5 ∧ Fr (fun k => F k ∨ k = b) w w') ∨
  (bs = [] ∧ e = .returned (.tuple #[.int .i64 0, eofV pe]) ∧ RdS S D F g pe [] w' ∧ Blk w' b #[x] 5 ∧ Fr (fun k => F k ∨ k = b) w w') := by
 have HC := qh (zbi hS hB hF hD hb)
 clear hS hB hF hD hb
 go_enter Tryz.func128, Tryz.ntmps128
 go_wp2_with fail
 refine HC.o.mono ?_
 rintro e w1 (⟨c, r, h1, rfl, h2⟩ | ⟨h1, rfl, h2⟩)
 ·have H2 := qh h2
  have h1 := qh h1
  clear h2 HC
  go_wp2
  go_ret2
  exact .inl ⟨c, r, h1.o, rfl, H2.o⟩
 ·have H2 := qh h2
  have h1 := qh h1
  clear h2 HC
  go_wp2
  go_ret2
  exact .inr ⟨h1.o, rfl, H2.o⟩
theorem Z8 (hS : RdS S D F g pe bs w) :
 Calls Tryz.prog 126 #[.iface S.T (.pointer (some ⟨g, 0, none⟩))] w fun e w' => zaw S D F g pe w (rdB bs) (fun c => .int .u8 (c.toNat : Int)) e w' := by
 have oT := zih
 have aj := S.lt hS.is
 have Cg := zav hS.cell
 have HC := qh (zdt S D F g w.heap.size pe bs (.int .u8 0) (w.alloc (.cells #[.int .u8 0] 5)) (hS.ext (za w _)) (zl w _ _) (fun h => by have := aj.2.1 _ h; omega) (fun h => by have := (aj.2.2 _ h).1; omega) (by omega))
 clear hS aj Cg
 go_enter Tryz.func126, Tryz.ntmps126
 go_wp2_with fail
 refine HC.o.mono ?_
 rintro e w1 (⟨c, r, rfl, rfl, h2, h3, h4⟩ | ⟨rfl, rfl, h2, h3, h4⟩)
 ·have hc := h3.cell
  have H2 := qh (anQ h2 (show Fr F w w1 from (Ext.fr (za w _) h4).mono (fun k hk h => h.elim id (fun h => by omega))))
  have ht := c.toNat_lt
  clear h2 h3 h4 HC
  go_wp2
  go_ret2
  exact .inl ⟨c, r, rfl, rfl, H2.o.1, H2.o.2⟩
 ·have hc := h3.cell
  have H2 := qh (anQ h2 (show Fr F w w1 from (Ext.fr (za w _) h4).mono (fun k hk h => h.elim id (fun h => by omega))))
  clear h2 h3 h4 HC
  go_wp2
  go_ret2
  exact .inr ⟨rfl, ⟨0, rfl⟩, H2.o.1, H2.o.2⟩
inductive Ins where
 | mk (op : Int) (args : List (Int × UInt64)) (st : Bool) (ty : Int) (body : List Ins)
namespace Ins
def op : Ins → Int | mk o _ _ _ _ => o
def args : Ins → List (Int × UInt64) | mk _ a _ _ _ => a
def st : Ins → Bool | mk _ _ s _ _ => s
def ty : Ins → Int | mk _ _ _ t _ => t
def body : Ins → List Ins | mk _ _ _ _ b => b
end Ins
namespace Lay
def never (α : Type) (n : Nat) : Lay α where
 size := n
 rd _ _ _ _ := False
 len h := h.elim
 one h := h.elim
 frame h := h.elim
 mono h := h.elim
def arg : Lay (Int × UInt64) := int.pair u64
theorem flat_arg : arg.flat := flat_pair flat_int flat_u64
def ins : Nat → Lay Ins
 | 0 => never Ins 5
 | n + 1 => (int.pair (arg.slice.pair (bool.pair (int.pair (ins n).slice)))).via (fun i => (i.op, i.args, i.st, i.ty, i.body))
theorem ins_size : ∀ n, (ins n).size = 5
 | 0 => rfl
 | _ + 1 => rfl
theorem ins_cells {n : Nat} {A : Nat → Prop} {w : World} {cs : List Value} {x : Ins} (h : (ins n).rd A w cs x) :
 ∃ m aa an ac ba bn bc, n = m + 1 ∧ cs = [.int .i64 x.op, .slice aa an ac, .bool x.st, .int .i64 x.ty, .slice ba bn bc] ∧
  (-9223372036854775808 ≤ x.op ∧ x.op ≤ 9223372036854775807) ∧ (-9223372036854775808 ≤ x.ty ∧ x.ty ≤ 9223372036854775807) ∧
  arg.slice.rd A w [.slice aa an ac] x.args ∧ (ins m).slice.rd A w [.slice ba bn bc] x.body := by
 cases n with
 | zero => exact h.elim
 | succ m =>
  obtain ⟨c1, r1, rfl, ⟨rfl, o1, o2⟩, c2, r2, rfl, h2, c3, r3, rfl, h3, c4, r4, rfl, ⟨rfl, t1, t2⟩, h5⟩ := h
  obtain ⟨a2, k2, rfl, e1, e2, e3⟩ := id h2
  obtain ⟨a5, k5, rfl, f1, f2, f3⟩ := id h5
  obtain rfl : c3 = [.bool x.st] := h3
  exact ⟨m, a2, _, k2, a5, _, k5, rfl, rfl, ⟨o1, o2⟩, ⟨t1, t2⟩, h2, h5⟩
theorem ins_at {n : Nat} {A : Nat → Prop} {w : World} {aa : Option Addr} {m c : Nat} {l : List Ins} (h : (ins n).slice.rd A w [.slice aa m c] l) (i : Nat) (hi : i < l.length) :
 ∃ k b o a1 n1 c1 a2 n2 c2, n = k + 1 ∧ aa = some ⟨b, o, none⟩ ∧ A b ∧ w.cell? ⟨b, o + i * 5, none⟩ = some (.int .i64 l[i].op) ∧ w.cell? ⟨b, o + i * 5 + 1, none⟩ = some (.slice a1 n1 c1) ∧
  w.cell? ⟨b, o + i * 5 + 2, none⟩ = some (.bool l[i].st) ∧ w.cell? ⟨b, o + i * 5 + 3, none⟩ = some (.int .i64 l[i].ty) ∧ w.cell? ⟨b, o + i * 5 + 4, none⟩ = some (.slice a2 n2 c2) ∧
  (-9223372036854775808 ≤ l[i].op ∧ l[i].op ≤ 9223372036854775807) ∧ (-9223372036854775808 ≤ l[i].ty ∧ l[i].ty ≤ 9223372036854775807) ∧
  arg.slice.rd A w [.slice a1 n1 c1] l[i].args ∧ (ins k).slice.rd A w [.slice a2 n2 c2] l[i].body := by
 have hm : m = l.length := by obtain ⟨_, _, e, _⟩ := h; simp only [List.cons.injEq, Value.slice.injEq, and_true] at e; exact e.2.1
 obtain ⟨b, o, es, eY, e, hA, _, hr, hc⟩ := slice_at h i (by omega)
 obtain ⟨k, a1, n1, c1, a2, n2, c2, hn, he, h1, h2, h3, h4⟩ := ins_cells hr
 rw [ins_size] at hc
 subst he
 exact ⟨k, b, o, a1, n1, c1, a2, n2, c2, hn, e, hA, hc 0 (by omega), hc 1 (by omega), hc 2 (by omega), hc 3 (by omega), hc 4 (by omega), h1, h2, h3, h4⟩
end Lay
def z5 (op : Int) : Option (List Int) :=
 if op = 0 ∨ op = 1 ∨ op = 15 ∨ op = 26 ∨ op = 27 then some []
 else if op = 12 ∨ op = 13 ∨ op = 16 ∨ op = 32 ∨ op = 33 ∨ op = 34 ∨ op = 35 ∨ op = 36 then some [2]
 else if op = 17 then some [2, 5]
 else if op = 40 ∨ op = 54 then some [0, 0]
 else if op = 65 then some [0]
 else if op = 66 then some [1]
 else if op = 67 then some [3]
 else if op = 68 then some [4]
 else if 69 ≤ op ∧ op ≤ 191 then some [] else none
variable {a : Option Addr} {A : Nat → Prop} {cap : Nat}
theorem zhO {xs : List (Int × UInt64)} (h : Lay.arg.slice.rd A w [.slice a n cap] xs) (i : Nat) (hi : i < xs.length) :
 ∃ (b o : Nat), a = some ⟨b, o, none⟩ ∧ A b ∧ w.cell? ⟨b, o + i * 2, none⟩ = some (.int .i64 xs[i].1) ∧ w.cell? ⟨b, o + i * 2 + 1, none⟩ = some (.int .u64 (xs[i].2.toNat : Int)) ∧ -9223372036854775808 ≤ xs[i].1 ∧ xs[i].1 ≤ 9223372036854775807 := by
 have hn : xs.length = n := by
  obtain ⟨_, _, e, _⟩ := h
  simp only [List.cons.injEq, Value.slice.injEq, and_true] at e
  exact e.2.1.symm
 obtain ⟨b, o, es, eY, e, hA, _, hr, hc⟩ := Lay.slice_at h i (by omega)
 obtain ⟨c, d, rfl, h1, h2⟩ := hr
 obtain ⟨rfl, h3, h4⟩ := h1
 obtain rfl := h2
 exact ⟨b, o, e, hA, hc 0 (by decide), hc 1 (by decide), h3, h4⟩
abbrev Lay.loc : Lay (UInt32 × Int) := Lay.u32.pair Lay.int
theorem zag (g b o : Nat) (pe : Addr) (bs : List UInt8) (cs : Array Value) (T : TypeId) (w : World) (hS : RdS S D F g pe bs w) (hB : Blk w b cs T) (ho : o < cs.size) (hF : ¬ F b) (hD : ¬ D b) (hb : b ≠ js.block) :
 Calls Tryz.prog 185 #[.iface S.T (.pointer (some ⟨g, 0, none⟩)), .pointer (some ⟨b, o, none⟩)] w fun e w' =>
  (∃ n rest, jq 0 0 bs = some (n, rest) ∧ e = .returned .nilIface ∧ RdS S D F g pe rest w' ∧ Blk w' b (cs.setIfInBounds o (.int .u32 ((n % 4294967296 : Nat) : Int))) T ∧ Fr (fun k => F k ∨ k = b) w w') ∨
  (jq 0 0 bs = none ∧ (∃ te ve, e = .returned (.iface te ve)) ∧ Fr (fun k => F k ∨ k = b) w w') := by
 have HC := qh (Zl hS)
 have H := qh (anQ hS (anQ hB (anQ hF (anQ hD hb))))
 obtain ⟨x, hx⟩ : ∃ x, cs[o]? = some x := ⟨cs[o], Array.getElem?_eq_getElem ho⟩
 clear hS hB hF hD hb
 go_enter Tryz.func185, Tryz.ntmps185
 go_wp2_with fail
 refine HC.o.mono ?_
 rintro e w1 (⟨n, rest, hr, rfl, h1, h2⟩ | ⟨hr, ⟨n, rfl⟩, h1, h2⟩)
 ·have cz := H.o.2.1.fr h2 H.o.2.2.1
  have hc := cz.cell o
  rw [hx] at hc
  have hf := cz.frz o
  have H1 := qh (anQ hr (anQ h1 (anQ h2 cz)))
  clear h1 h2 hr HC cz
  go_wp2
  go_ret
  have hs := zf w1 ⟨b, o, none⟩ (.int .u32 ((n % 4294967296 : Nat) : Int))
  refine .inl ⟨_, _, H1.o.1, rfl, H1.o.2.1.fr hs (fun e => H.o.2.2.2.2 e.symm) (fun k hk e => by have e' : k = b := e; subst e'; exact H.o.2.2.1 hk) (fun k hk e => by have e' : k = b := e; subst e'; exact H.o.2.2.2.1 hk), H1.o.2.2.2.set o _, Fr.trans H1.o.2.2.1 hs (fun _ _ h => .inl h) (fun _ _ h => .inr h)⟩
 ·have cz := H.o.2.1.fr h2 H.o.2.2.1
  have hc := cz.cell o
  rw [hx] at hc
  have hf := cz.frz o
  have H1 := qh (anQ hr (anQ h1 (anQ h2 cz)))
  clear h1 h2 hr HC cz
  go_wp2
  go_ret
  have hs := zf w1 ⟨b, o, none⟩ (.int .u32 ((n % 4294967296 : Nat) : Int))
  exact .inr ⟨H1.o.1, ⟨_, _, rfl⟩, Fr.trans H1.o.2.2.1 hs (fun _ _ h => .inl h) (fun _ _ h => .inr h)⟩
structure St where
 b : List UInt8
 v : Nat
def St.fail (s : St) (n : Nat) : St := ⟨[], if s.v = 0 then n else s.v⟩
def zi (s : St) : Nat × St :=
 match s.b with
 | [] => (0, s.fail 3)
 | c :: r => (c.toNat, ⟨r, s.v⟩)
def unsG (bits : Nat) : Nat → Nat → Nat → List UInt8 → Nat × Nat
 | _, _, _, [] => (0, 0)
 | sh, bf, n, c :: r =>
  if bits ≤ sh then (0, 0)
  else if bits - sh < 7 ∧ c.toNat % 128 / 2 ^ (bits - sh) ≠ 0 then (0, 0)
  else if c.toNat < 128 then (bf ||| (c.toNat % 128 * 2 ^ sh % 2 ^ 64), n + 1)
  else unsG bits (sh + 7) (bf ||| (c.toNat % 128 * 2 ^ sh % 2 ^ 64)) (n + 1) r
def uns (bits : Nat) (b : List UInt8) : Nat × Nat := unsG bits 0 0 0 b
def jD (bits : Nat) (b : List UInt8) : Bool := b.all (fun c => decide (128 ≤ c.toNat)) && decide (7 * b.length < bits)
def zd7 (left c : Nat) : Bool :=
 let t : Int := (((c * 2 % 256 : Nat) : Int) + 128) % 256 - 128
 (decide (t / 2 ^ left ≠ 0) && decide (t / 2 ^ left ≠ -1)) || decide (128 ≤ c)
def sigG (bits : Nat) : Nat → Nat → Nat → List UInt8 → Nat × Nat
 | _, _, _, [] => (0, 0)
 | sh, bf, n, c :: r =>
  if bits ≤ sh then (0, 0)
  else if bits - sh < 7 ∧ zd7 (bits - sh) c.toNat = true then (0, 0)
  else if c.toNat < 128 then
   (if 64 ≤ c.toNat ∧ sh + 7 < 64 then (bf ||| (c.toNat % 128 * 2 ^ sh % 2 ^ 64)) ||| (2 ^ 64 - 2 ^ (sh + 7)) else bf ||| (c.toNat % 128 * 2 ^ sh % 2 ^ 64), n + 1)
  else sigG bits (sh + 7) (bf ||| (c.toNat % 128 * 2 ^ sh % 2 ^ 64)) (n + 1) r
def sig (bits : Nat) (b : List UInt8) : Nat × Nat := sigG bits 0 0 0 b
def zc (s : St) : Nat × St :=
 if (uns 32 s.b).2 = 0 then (0, s.fail (if jD 32 s.b then 3 else 2)) else ((uns 32 s.b).1 % 4294967296, ⟨s.b.drop (uns 32 s.b).2, s.v⟩)
def zJ (bits : Nat) (s : St) : Nat × St :=
 if (sig bits s.b).2 = 0 then (0, s.fail (if jD bits s.b then 3 else 2)) else ((if bits = 32 then (sig bits s.b).1 % 4294967296 else (sig bits s.b).1), ⟨s.b.drop (sig bits s.b).2, s.v⟩)
def zo (s : St) : Nat × St :=
 if (zc s).2.b.length < (zc s).1 then (0, if 10000 < (zc s).1 then ⟨[], 2⟩ else (zc s).2.fail 3) else zc s
def zk (s : St) : Int × St :=
 (127 - ((zi s).1 : Int), if (zi s).2.v = 0 ∧ ((zi s).1 < 124 ∨ 127 < (zi s).1) then (zi s).2.fail 1 else (zi s).2)
def zy (n : Nat) (s : St) : List UInt8 × St :=
 if s.b.length < n then ([], if 1048576 < n then ⟨[], 2⟩ else s.fail 3) else (s.b.take n, ⟨s.b.drop n, s.v⟩)
def YI : List UInt8 → Nat
 | [] => 0
 | c :: r => c.toNat + 256 * YI r
def y0 (k : Int) (s : St) : Nat × St :=
 if k = 0 then zJ 32 s
 else if k = 1 then ((zJ 64 s).1, if 9223372036854775808 ≤ (zJ 64 s).1 ∧ 4 + (zJ 64 s).2.b.length < s.b.length then (zJ 64 s).2.fail 2 else (zJ 64 s).2)
 else if k = 2 then zc s
 else if k = 5 then zi s
 else (YI (zy (if k = 3 then 4 else if k = 4 then 8 else 0) s).1, (zy (if k = 3 then 4 else if k = 4 then 8 else 0) s).2)
def y2 : List Int → St → List (Int × UInt64) × St
 | [], s => ([], s)
 | k :: ks, s => ((k, UInt64.ofNat (y0 k s).1) :: (y2 ks (y0 k s).2).1, (y2 ks (y0 k s).2).2)
theorem zjh : (Tryz.prog.info? 5).map (fun i => (i.zero, i.size, i.bytes)) = some (some (.int .u8 0), Lay.u8.size, 1) := by kernel_rfl
abbrev OwnB (lo : Nat) (w : World) (v : Value) (xs : List UInt8) : Prop := Own Lay.u8 5 lo w v xs
theorem appB {aw : Array Oper} {rest : List Oper} {o : Oper} {a : Act} {Q : Exit → Act → World → Prop} {W : World} (lo : Nat) (iI : o.guard = none) (s x : Operand)
 (ho : o.op = .call { callee := .builtin .append, args := #[s, x], argTypes := #[22, 22] })
 (v : Value) (xs : List UInt8) (y : UInt8) (c : Int) (hc : c = (y.toNat : Int)) (hs : a.eval s = v) (hx : a.eval x = .slice (some ⟨W.heap.size, 0, none⟩) 1 1)
 (HO : OwnB lo W v xs) (bj : lo ≤ W.heap.size) (hl : xs.length + 1 ≤ 140737488355328)
 (h : ∀ v1 w1, OwnB lo w1 v1 (xs ++ [y]) → Fr (fun k => some k = v.ownBlock) W w1 → (∀ k, v1.ownBlock = some k → v.ownBlock = some k ∨ W.heap.size ≤ k) → wpList Tryz.prog aw Q rest (a.put o.dst v1) w1) :
 wpList Tryz.prog aw Q (o :: rest) a (W.alloc (.cells #[.int .u8 c] 5)) := by
 subst hc
 exact Z7 Lay.u8 lo iI s x _ _ (.int .u8 0) 1 ho Tryz.underlying22 zjh rfl (by omega) (by decide) v xs y _ hs hx HO rfl bj (by omega) h
variable {wr : World} {s0 : Value}
theorem zhP {w1 : World} (hb : Fr (fun k => some k = v.ownBlock) w wr) (h2 : Fr (fun k => some k = s0.ownBlock) wr w1) (hk : ∀ k, s0.ownBlock = some k → v.ownBlock = some k ∨ w.heap.size ≤ k) : Fr (fun k => some k = v.ownBlock) w w1 :=
 hb.trans h2 (fun _ _ h => h) (fun k mY hs => by
  rcases hk k hs.symm with h | h
  ·exact h.symm
  ·omega)
theorem zfr {S : Nat → Prop} {v1 : Value} (hb : Fr S w wr) (hk : ∀ k, s0.ownBlock = some k → v.ownBlock = some k ∨ w.heap.size ≤ k) (h3 : ∀ k, v1.ownBlock = some k → s0.ownBlock = some k ∨ wr.heap.size ≤ k) : ∀ k, v1.ownBlock = some k → v.ownBlock = some k ∨ w.heap.size ≤ k := fun k mY => by
 rcases h3 k mY with h | h
 ·exact hk k h
 ·have := hb.size
  exact .inr (by omega)
theorem zfs (x : Nat) : ((x : Int) % 128 + 128) = ((UInt8.ofNat (x % 128 + 128)).toNat : Int) := by
 rw [UInt8.toNat_ofNat']
 omega
def SpR (D : Nat → Prop) (g : Nat) (lo : Bool) (s : St) (w : World) : Prop :=
 ∃ aa cap, Blk w g #[.slice aa s.b.length cap, .int .i64 (s.v : Int), .bool lo] 142 ∧ Lay.u8.slice.rd D w [.slice aa s.b.length cap] s.b ∧ (∀ k, D k → k < w.heap.size ∧ k ≠ g)
variable {lo : Bool} {s : St}
theorem SpR.lt (h : SpR D g lo s w) : g < w.heap.size ∧ ∀ k, D k → k < w.heap.size ∧ k ≠ g := by
 obtain ⟨aa, cap, hb, h1, h2⟩ := h
 exact ⟨hb.lt, h2⟩
theorem SpR.fr {S : Nat → Prop} (h : SpR D g lo s w) (hf : Fr S w w') (hg : ¬ S g) (hD : ∀ k, D k → ¬ S k) : SpR D g lo s w' := by
 obtain ⟨aa, cap, hb, h1, h2⟩ := h
 exact ⟨aa, cap, hb.fr hf hg, Lay.fr h1 hf (fun k hk => ⟨(h2 k hk).1, hD k hk⟩), fun k hk => ⟨nqQ (h2 k hk).1 hf.size, (h2 k hk).2⟩⟩
theorem SpR.ext (h : SpR D g lo s w) (hf : Ext w w') : SpR D g lo s w' := h.fr hf (fun h => h) (fun _ _ h => h)
theorem zbx {c : Nat} (hc : c ≤ maxLen) : Lay.u8.slice.rd D w [.slice a 0 c] [] := ⟨a, c, rfl, nzQ _, hc, fun h => absurd h (by simp)⟩
variable {aa : Option Addr}
theorem SpR.mk (hb : Blk w' g #[.slice aa s.b.length cap, .int .i64 (s.v : Int), .bool lo] 142) (hr : Lay.u8.slice.rd D w [.slice aa s.b.length cap] s.b)
 (hD : ∀ k, D k → k < w.heap.size ∧ k ≠ g) (hf : Fr (fun k => k = g) w w') : SpR D g lo s w' :=
 ⟨aa, cap, hb, Lay.fr hr hf (fun k hk => hD k hk), fun k hk => ⟨nqQ (hD k hk).1 hf.size, (hD k hk).2⟩⟩
theorem zp (D : Nat → Prop) (g : Nat) (lo : Bool) (s : St) (n : Nat) (w : World) (h : SpR D g lo s w) :
 Calls Tryz.prog 50 #[.pointer (some ⟨g, 0, none⟩), .int .i64 (n : Int)] w fun e w' => e = .returned (.tuple #[]) ∧ SpR D g lo (s.fail n) w' ∧ Fr (fun k => k = g) w w' := by
 obtain ⟨aa, cap, hb, h1, h2⟩ := h
 have hc := hb.cell
 have hf := hb.frz
 have H := qh (anQ hb (anQ h1 h2))
 by_cases hv : s.v = 0
 ·have hs := qh (show s.fail n = ⟨[], n⟩ from by simp [St.fail, hv])
  rw [hv] at hc
  clear hb h1 h2 hv
  go_enter Tryz.func50, Tryz.ntmps50
  go_wp2
  go_end0
  have hF : Fr (fun k => k = g) w ((w.setCell ⟨g, 1, none⟩ (.int .i64 (n : Int))).setCell ⟨g, 0, none⟩ (.slice none 0 0)) := Fr.setCell (Fr.setCell (Fr.refl (fun k => k = g) w) (p := ⟨g, 1, none⟩) (.inl rfl) _) (p := ⟨g, 0, none⟩) (.inl rfl) _
  refine ⟨rfl, ?_, hF⟩
  rw [hs.o]
  refine SpR.mk (aa := none) (cap := 0) ?_ (zbx (by decide)) H.o.2.2 hF
  have := (H.o.1.set 1 (.int .i64 (n : Int))).set 0 (.slice none 0 0)
  simpa using this
 ·have hs := qh (show s.fail n = ⟨[], s.v⟩ from by simp [St.fail, hv])
  have qm := bfQ (a := (s.v : Int)) (b := 0) (by omega)
  clear hb h1 h2 hv
  go_enter Tryz.func50, Tryz.ntmps50
  go_wp2
  go_end0
  have hF : Fr (fun k => k = g) w (w.setCell ⟨g, 0, none⟩ (.slice none 0 0)) := Fr.setCell (Fr.refl (fun k => k = g) w) (p := ⟨g, 0, none⟩) (.inl rfl) _
  refine ⟨rfl, ?_, hF⟩
  rw [hs.o]
  refine SpR.mk (aa := none) (cap := 0) ?_ (zbx (by decide)) H.o.2.2 hF
  have := H.o.1.set 0 (.slice none 0 0)
  simpa using this
theorem z8 (h : SpR D g lo s w) :
 Calls Tryz.prog 48 #[.pointer (some ⟨g, 0, none⟩)] w fun e w' => e = .returned (.bool (decide (s.v = 0))) ∧ w' = w := by
 obtain ⟨aa, cap, hb, h1, h2⟩ := h
 have hc := hb.cell
 clear hb h1 h2
 by_cases hv : s.v = 0
 ·have hs := qh (show decide (s.v = 0) = true from decide_eq_true hv)
  rw [hv] at hc
  clear hv
  go_enter Tryz.func48, Tryz.ntmps48
  go_wp2
  go_ret
  exact ⟨by rw [hs.o]; rfl, rfl⟩
 ·have hs := qh (show decide (s.v = 0) = false from decide_eq_false hv)
  have qm := bfQ (a := (s.v : Int)) (b := 0) (by omega)
  clear hv
  go_enter Tryz.func48, Tryz.ntmps48
  go_wp2
  go_ret
  exact ⟨by rw [hs.o]; rfl, rfl⟩
theorem zeA {xs : List UInt8} (h : Lay.u8.slice.rd A w [.slice a n cap] xs) (i : Nat) (hi : i < xs.length) :
 ∃ (b o : Nat), a = some ⟨b, o, none⟩ ∧ A b ∧ w.cell? ⟨b, o + i, none⟩ = some (.int .u8 (xs[i].toNat : Int)) := by
 have hn : xs.length = n := by
  obtain ⟨_, _, e, _⟩ := h
  simp only [List.cons.injEq, Value.slice.injEq, and_true] at e
  exact e.2.1.symm
 obtain ⟨b, o, es, eY, e, hA, _, hr, hc⟩ := Lay.slice_at h i (by omega)
 obtain rfl : es = _ := hr
 have := hc 0 (by decide)
 rw [show o + i * Lay.u8.size + 0 = o + i from by show o + i * 1 + 0 = o + i; omega] at this
 exact ⟨b, o, e, hA, this⟩
theorem SpR.drop {b : List UInt8} {v : Nat} (hb : Blk w g #[.slice aa b.length cap, .int .i64 (v : Int), .bool lo] 142) (h1 : Lay.u8.slice.rd D w [.slice aa b.length cap] b)
 (h2 : ∀ k, D k → k < w.heap.size ∧ k ≠ g) (n : Nat) (hn : n ≤ b.length) :
 SpR D g lo ⟨b.drop n, v⟩ (w.setCell ⟨g, 0, none⟩ (.slice (aa.map (·.add n)) (b.length - n) (cap - n))) ∧ (cap = n → SpR D g lo ⟨b.drop n, v⟩ (w.setCell ⟨g, 0, none⟩ (.slice aa (b.length - n) 0))) := by
 have hF : ∀ u, Fr (fun k => k = g) w (w.setCell ⟨g, 0, none⟩ u) := fun u => zf w ⟨g, 0, none⟩ u
 have hl := List.length_drop (l := b) (i := n)
 refine ⟨SpR.mk (aa := aa.map (·.add n)) (cap := cap - n) ?_ (zbT h1 hn) h2 (hF _), fun hc => SpR.mk (aa := aa) (cap := 0) ?_ ?_ h2 (hF _)⟩
 ·have := hb.set 0 (.slice (aa.map (·.add n)) (b.length - n) (cap - n))
  rw [hl]; simpa using this
 ·have := hb.set 0 (.slice aa (b.length - n) 0)
  rw [hl]; simpa using this
 ·obtain ⟨_, _, e, h5, _⟩ := h1
  simp only [List.cons.injEq, Value.slice.injEq, and_true] at e
  obtain ⟨-, -, rfl⟩ := e
  have h0 : (b.drop n).length = 0 := by omega
  rw [h0, List.eq_nil_of_length_eq_zero h0]
  exact zbx (by decide)
theorem yh (h : SpR D g lo s w) :
 Calls Tryz.prog 49 #[.pointer (some ⟨g, 0, none⟩)] w fun e w' => e = .returned (.int .i64 ((zi s).1 : Int)) ∧ SpR D g lo (zi s).2 w' ∧ Fr (fun k => k = g) w w' := by
 have hS := qh h
 obtain ⟨aa, cap, hb, h1, h2⟩ := h
 have hc := hb.cell
 have hf := hb.frz
 obtain ⟨b, v⟩ := s
 cases b with
 | nil =>
  clear hb h1 h2 hf
  go_enter Tryz.func49, Tryz.ntmps49
  go_wp2_with fail
  refine (zp D g lo _ 3 w hS.o).mono ?_
  rintro e w1 ⟨rfl, k1, k2⟩
  have HK := qh (anQ k1 k2)
  clear k1 k2 hc
  go_wp2
  go_ret
  exact ⟨rfl, HK.o.1, HK.o.2⟩
 | cons c r =>
  obtain ⟨bb, o, rfl, hA, e0⟩ := zeA h1 0 (by simp)
  simp only [Nat.add_zero, List.getElem_cons_zero] at e0
  obtain ⟨a', c', ee, c6, cn⟩ := Lay.slice_form h1
  simp only [Value.slice.injEq] at ee
  obtain ⟨-, -, rfl⟩ := ee
  simp only [List.length_cons] at c6
  have kQ : (cap : Int) ≤ 9223372036854775807 := by simp only [maxLen] at cn; omega
  have ht := c.toNat_lt
  have H := qh (SpR.drop hb h1 h2 1 (by simp))
  rw [show zi ⟨c :: r, v⟩ = (c.toNat, ⟨r, v⟩) from rfl]
  simp only [List.length_cons, List.drop_succ_cons, List.drop_zero, Nat.add_sub_cancel, Option.map_some, yY] at H
  generalize c.toNat = t at *
  clear hb h1 h2 hA hS cn
  go_enter Tryz.func49, Tryz.ntmps49
  go_wp2
  ·go_ret
   exact ⟨by simp only [Ending.returned.injEq]; go_num, H.o.2 (by omega), zf w ⟨g, 0, none⟩ _⟩
  ·go_ret
   exact ⟨by simp only [Ending.returned.injEq]; go_num, H.o.1, zf w ⟨g, 0, none⟩ _⟩
theorem zcx (t : Nat) (ht : t < 256) : bits .and .u8 (t : Int) 127 = ((t % 128 : Nat) : Int) := by
 rw [zfq _ (by omega) (by omega)]; omega
theorem zhQ (a s t : Nat) (ha : a < 18446744073709551616) :
 bits .or .u64 (a : Int) (IntKind.u64.wrap ((t : Int) % 128 * 2 ^ s)) = ((a ||| (t % 128 * 2 ^ s % 2 ^ 64) : Nat) : Int) ∧ a ||| (t % 128 * 2 ^ s % 2 ^ 64) < 18446744073709551616 := by
 have hb : t % 128 * 2 ^ s % 2 ^ 64 < 18446744073709551616 := Nat.mod_lt _ (by decide)
 have e1 : IntKind.u64.wrap ((t : Int) % 128 * 2 ^ s) = ((t % 128 * 2 ^ s % 2 ^ 64 : Nat) : Int) := by
  rw [IntKind.wrap_u64]
  simp
 rw [e1, u64_or_nat a _ ha hb]
 exact ⟨rfl, Nat.or_lt_two_pow (n := 64) ha hb⟩
theorem zbj (D : Nat → Prop) (aa : Option Addr) (cap : Nat) (bs : List UInt8) (bb : Nat) (qQ : bb ≤ 64) (xn : 0 < bb) (w : World) (h : Lay.u8.slice.rd D w [.slice aa bs.length cap] bs) :
 Calls Tryz.prog 89 #[.slice aa bs.length cap, .int .i64 (bb : Int)] w fun e w' => e = .returned (.tuple #[.int .u64 ((uns bb bs).1 : Int), .int .i64 ((uns bb bs).2 : Int)]) ∧ w' = w := by
 have H := qh h
 have aT : bs.length ≤ 9223372036854775807 := by
  obtain ⟨a', c', ee, c6, cn⟩ := Lay.slice_form h
  simp only [maxLen] at cn; omega
 clear h
 go_enter Tryz.func89, Tryz.ntmps89
 go_wp2_with fail
 go_loopw [4, 5, 6, 7, 8] (fun s4 s5 s6 s7 s8 w' => ∃ (bf n : Nat) (r : List UInt8), s4 = .int .u64 bf ∧ s5 = .int .i64 n ∧ s6 = .int .i64 (7 * n : Nat) ∧ bf < 18446744073709551616 ∧ n ≤ 10 ∧ n + r.length = bs.length ∧ Hq (bs.drop n = r) ∧ Hq (unsG bb (7 * n) bf n r = uns bb bs) ∧ w' = w) (fun _ s5 _ _ _ _ => 11 - (intOf s5).toNat)
 case atStart =>
  exact ⟨0, 0, bs, rfl, rfl, rfl, by omega, by omega, by omega, rfl, rfl, rfl⟩
 case round =>
  obtain ⟨bf, n, r, rfl, rfl, rfl, dG, vQ, hn, kW, hG, rfl⟩ := hrel
  cases r with
  | nil =>
   have eu := qh (show uns bb bs = (0, 0) from by rw [← hG.o]; simp [unsG])
   simp only [List.length_nil, Nat.add_zero] at hn
   clear hG kW
   go_wp2
   go_ret2
   rw [eu.o]
   exact ⟨rfl, rfl⟩
  | cons c r =>
   obtain ⟨ba, o, rfl, hA, e0⟩ := zeA H.o n (by simp only [List.length_cons] at hn; omega)
   have ec : bs[n]'(by simp only [List.length_cons] at hn; omega) = c := by
    have h1 := kW.o
    have h2 : (bs.drop n)[0]? = some c := by rw [h1]; rfl
    rw [List.getElem?_drop, Nat.add_zero] at h2
    exact List.getElem?_eq_some_iff.1 h2 |>.2
   rw [ec] at e0
   have eN : Hq (bs.drop (n + 1) = r) := by
    show _ = _
    rw [← List.drop_drop, kW.o]; rfl
   have cY := hG.o
   simp only [unsG] at cY
   have ht := c.toNat_lt
   simp only [List.length_cons] at hn
   generalize c.toNat = t at *
   have e7 := zcx t ht
   clear hA kW hG ec
   by_cases hs : bb ≤ 7 * n
   ·rw [if_pos hs] at cY
    have eu := qh cY
    clear cY
    go_wp2
    go_ret2
    rw [← eu.o]
    exact ⟨rfl, rfl⟩
   ·rw [if_neg hs] at cY
    by_cases hl : bb - 7 * n < 7
    ·have dl : decide ((bb : Int) - 7 * (n : Int) < 7) = true := by rw [decide_eq_true_eq]; omega
     by_cases hz : t % 128 / 2 ^ (bb - 7 * n) = 0
     ·have dz : (((t : Int) % 128 / 2 ^ (bb - 7 * n)) != 0) = false := by
       rw [bne_eq_false_iff_eq]; have := congrArg (Nat.cast (R := Int)) hz; simpa using this
      rw [if_neg (fun h => h.2 hz)] at cY
      have aU := zhQ bf (7 * n) t dG
      have gN := aU.2
      have qi := aU.1
      clear aU
      by_cases h128 : t < 128
      ·rw [if_pos h128] at cY
       have eu := qh cY
       have d8 : decide ((t : Int) < 128) = true := by rw [decide_eq_true_eq]; omega
       clear cY eN gN h128
       go_wp2
       go_ret2
       rw [← eu.o]
       exact ⟨rfl, rfl⟩
      ·rw [if_neg h128] at cY
       have eu := qh cY
       have d8 : decide ((t : Int) < 128) = false := by rw [decide_eq_false_iff_not]; omega
       clear cY h128
       go_wp2
       go_roundw
       case rel => exact ⟨_, n + 1, r, rfl, rfl, rfl, gN, by omega, by omega, eN, by show _ = _; rw [← eu.o, show 7 * (n + 1) = 7 * n + 7 from rfl], trivial⟩
       case measure => simp [intOf]; omega
     ·have dz : (((t : Int) % 128 / 2 ^ (bb - 7 * n)) != 0) = true := by
       rw [bne_iff_ne]; intro h; exact hz (by have : ((t % 128 / 2 ^ (bb - 7 * n) : Nat) : Int) = 0 := (by simpa using h); omega)
      rw [if_pos ⟨hl, hz⟩] at cY
      have eu := qh cY
      clear cY hz
      go_wp2
      go_ret2
      rw [← eu.o]
      exact ⟨rfl, rfl⟩
    ·have dl : decide ((bb : Int) - 7 * (n : Int) < 7) = false := by rw [decide_eq_false_iff_not]; omega
     rw [if_neg (fun h => hl h.1)] at cY
     have aU := zhQ bf (7 * n) t dG
     have gN := aU.2
     have qi := aU.1
     clear aU
     by_cases h128 : t < 128
     ·rw [if_pos h128] at cY
      have eu := qh cY
      have d8 : decide ((t : Int) < 128) = true := by rw [decide_eq_true_eq]; omega
      clear cY eN gN h128
      go_wp2
      go_ret2
      rw [← eu.o]
      exact ⟨rfl, rfl⟩
     ·rw [if_neg h128] at cY
      have eu := qh cY
      have d8 : decide ((t : Int) < 128) = false := by rw [decide_eq_false_iff_not]; omega
      clear cY h128
      go_wp2
      go_roundw
      case rel => exact ⟨_, n + 1, r, rfl, rfl, rfl, gN, by omega, by omega, eN, by show _ = _; rw [← eu.o, show 7 * (n + 1) = 7 * n + 7 from rfl], trivial⟩
      case measure => simp [intOf]; omega
theorem zay (D : Nat → Prop) (aa : Option Addr) (cap : Nat) (bs : List UInt8) (bb : Nat) (w : World) (h : Lay.u8.slice.rd D w [.slice aa bs.length cap] bs) (aT : bs.length ≤ 140737488355328) :
 Calls Tryz.prog 90 #[.slice aa bs.length cap, .int .i64 (bb : Int)] w fun e w' => e = .returned (.bool (jD bb bs)) ∧ w' = w := by
 have H := qh h
 clear h
 go_enter Tryz.func90, Tryz.ntmps90
 go_wp2_with fail
 go_loopw [6, 9] (fun s6 s9 w' => ∃ n : Nat, s9 = .int .i64 n ∧ n ≤ bs.length ∧ Hq ((bs.take n).all (fun c => decide (128 ≤ c.toNat)) = true) ∧ w' = w) (fun _ s9 _ => bs.length - (intOf s9).toNat)
 case atStart => exact ⟨0, rfl, by omega, rfl, rfl⟩
 case round =>
  obtain ⟨n, rfl, hn, hA, rfl⟩ := hrel
  by_cases aj : n < bs.length
  ·obtain ⟨ba, o, rfl, -, e0⟩ := zeA H.o n aj
   have ht := (bs[n]).toNat_lt
   have hT : bs.take (n + 1) = bs.take n ++ [bs[n]] := by simp
   have qy : bs = bs.take n ++ bs[n] :: bs.drop (n + 1) := by simp
   by_cases h128 : (bs[n]).toNat < 128
   ·have hE := qh (show jD bb bs = false from by
     unfold jD
     rw [qy, List.all_append, List.all_cons, decide_eq_false (p := 128 ≤ (bs[n]).toNat) (by omega)]; simp)
    generalize (bs[n]).toNat = t at *
    clear hA hT qy
    go_wp2
    go_ret
    rw [hE.o]
    exact ⟨rfl, rfl⟩
   ·have hE := qh (show (bs.take (n + 1)).all (fun c => decide (128 ≤ c.toNat)) = true from by
     rw [hT, List.all_append, hA.o]; simp; omega)
    generalize (bs[n]).toNat = t at *
    clear hA hT qy
    go_wp2
    go_roundw
    case rel => exact ⟨n + 1, rfl, by omega, hE, trivial⟩
    case measure => simp [intOf]; omega
  ·obtain rfl : n = bs.length := by omega
   have hE := qh (show jD bb bs = decide (7 * bs.length < bb) from by
    have := hA.o
    rw [tlQ] at this
    unfold jD; rw [this]; simp)
   clear hA
   go_wp2
   go_ret
   rw [hE.o]
   refine ⟨?_, rfl⟩
   show Ending.returned (.bool (decide (7 * (bs.length : Int) < (bb : Int)))) = _
   rw [show decide (7 * (bs.length : Int) < (bb : Int)) = decide (7 * bs.length < bb) from decide_eq_decide.2 (by omega)]
end Go.Proofs.YtejgninpjhcgnaaGreatDoor
