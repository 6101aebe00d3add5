/- Texts of the library, merged by wip/tools/merge.py: Rdr, ReadNum, ReadNum2, RdNum3, RdByte. -/
import Derived.Test.YtkbadfljmbeciaaGreatDoorSource
import Derived.Test.YtkbadfljmbeciaaGreatDoorLibA
import Derived.WalkSmall
/- What is read from, once more: objects behind an io.Reader that lie in several blocks. -/
namespace Go.Proofs.YtkbadfljmbeciaaGreatDoor
open Go.RowKit
/-- An object that holds bytes to be read: D: the blocks that they lie in; F: the blocks that reading turns. -/
structure Rdr where
  is : (Nat → Prop) → (Nat → Prop) → Nat → List UInt8 → World → Prop
  lt : ∀ {D F g bs w}, is D F g bs w → F g ∧ (∀ k, F k → k < w.heap.size) ∧ ∀ k, D k → k < w.heap.size ∧ ¬ F k
  frame : ∀ {D F g bs w w' S}, is D F g bs w → Fr S w w' → (∀ k, F k → ¬ S k) → (∀ k, D k → ¬ S k) → is D F g bs w'
  T : TypeId
  f : FuncId
  nil : ∀ (g : Nat) (W : World), (nilAhead 496 T (.pointer (some ⟨g, 0, none⟩)) "Read").run Tryz.prog W = .ok (some false) W
  meth : ∀ (g : Nat) (W : World), (method 496 T (.pointer (some ⟨g, 0, none⟩)) "Read").run Tryz.prog W = .ok (f, .pointer (some ⟨g, 0, none⟩)) W
  call : ∀ (args : Array Value) (W : World), (callFunc f args).run Tryz.prog W = .ok (.enter f args) W
  read : ∀ (D F : Nat → Prop) (g b o m c : Nat) (bs : List UInt8) (cs : Array Value) (Tb : TypeId) (w : World), is D F g bs w → Blk w b cs Tb → o + m ≤ cs.size → m ≤ c → c ≤ maxLen → ¬ F b → ¬ D b → 0 < m → 0 < bs.length →
    Calls Tryz.prog f #[.pointer (some ⟨g, 0, none⟩), .slice (some ⟨b, o, none⟩) m c] w fun e w' => ∃ n : Nat, 0 < n ∧ n ≤ m ∧ n ≤ bs.length ∧ e = .returned (.tuple #[.int .i64 n, .nilIface]) ∧ is D F g (bs.drop n) w' ∧
      Fr (fun k => F k ∨ k = b) w w' ∧ Blk w' b (splice cs.toList o (cellsOfB (bs.take n))).toArray Tb
  eof : ∀ (D F : Nat → Prop) (g : Nat) (p v : Value) (w : World), is D F g [] w → w.cell? eofAt = some v →
    Calls Tryz.prog f #[.pointer (some ⟨g, 0, none⟩), p] w fun e w' => e = .returned (.tuple #[.int .i64 0, v]) ∧ is D F g [] w' ∧ Fr F w w'
  left : Nat → World → Nat
  left_is : ∀ {D F g bs w}, is D F g bs w → left g w = bs.length
/-- The thin package's reader. -/
noncomputable def implR : Rdr where
  is D F g bs w := IsR D g bs w ∧ ∀ k, F k ↔ k = g
  lt h := ⟨(h.2 _).2 rfl, fun k hk => by obtain rfl := (h.2 k).1 hk; exact h.1.lt.1, fun k hk => ⟨(h.1.lt.2 k hk).1, fun e => (h.1.lt.2 k hk).2 ((h.2 k).1 e)⟩⟩
  frame h hf hF hD := ⟨h.1.frame hf (hF _ ((h.2 _).2 rfl)) hD, h.2⟩
  T := 157
  f := 122
  nil g W := by kernel_rfl
  meth g W := by kernel_rfl
  call args W := by kernel_rfl
  read D F g b o m c bs cs Tb w h hB hfit hmc hcm hF hD hm hbs := by
    refine (reader_Read_calls D g b o m c bs cs Tb w h.1 hB hfit hmc hcm (fun e => hF ((h.2 b).2 e)) hD hm hbs).mono ?_
    rintro e w' ⟨n, h0, h1, h2, h3, h4, h5, h6⟩
    exact ⟨n, h0, h1, h2, h3, ⟨h4, h.2⟩, h5.mono (fun k _ e => e.imp (fun e => (h.2 k).2 e) id), h6⟩
  eof D F g p v w h hv := by
    refine (reader_eof_calls D g p v w h.1 hv).mono ?_
    rintro e w' ⟨h3, h4, h5⟩
    exact ⟨h3, ⟨h4, h.2⟩, h5.mono (fun k _ e => (h.2 k).2 e)⟩
  left g w := match w.cell? ⟨g, 0, none⟩ with
    | some (.slice _ n _) => n
    | _ => 0
  left_is h := by
    obtain ⟨⟨aa, cap, pp, pn, pc, at', ps, hb, -, -, -, -⟩, -⟩ := h
    have := hb.cell 0
    simp at this
    rw [this]
/-! ### The package's reader, which counts -/
def IsE (R : Rdr) (D F : Nat → Prop) (g : Nat) (bs : List UInt8) (w : World) : Prop :=
  ∃ (gi : Nat) (F' : Nat → Prop) (n : Int), Blk w g #[.iface R.T (.pointer (some ⟨gi, 0, none⟩)), .int .i64 n] 283 ∧ R.is D F' gi bs w ∧ ¬ F' g ∧ ¬ D g ∧ ∀ k, F k ↔ (k = g ∨ F' k)
set_option maxRecDepth 100000 in
set_option maxHeartbeats 400000 in
theorem encRead_calls (R : Rdr) (D F : Nat → Prop) (g b o m c : Nat) (bs : List UInt8) (cs : Array Value) (Tb : TypeId) (w : World) (h : IsE R D F g bs w) (hB : Blk w b cs Tb) (hfit : o + m ≤ cs.size) (hmc : m ≤ c) (hcm : c ≤ maxLen) (hF : ¬ F b) (hD : ¬ D b) (hm : 0 < m) (hbs : 0 < bs.length) :
    Calls Tryz.prog 139 #[.pointer (some ⟨g, 0, none⟩), .slice (some ⟨b, o, none⟩) m c] w fun e w' => ∃ n : Nat, 0 < n ∧ n ≤ m ∧ n ≤ bs.length ∧ e = .returned (.tuple #[.int .i64 n, .nilIface]) ∧ IsE R D F g (bs.drop n) w' ∧
      Fr (fun k => F k ∨ k = b) w w' ∧ Blk w' b (splice cs.toList o (cellsOfB (bs.take n))).toArray Tb := by
  obtain ⟨gi, F', n, hb, hi, hFg, hDg, hFF⟩ := h
  have hna := R.nil gi
  have hme := R.meth gi
  have hcf := R.call
  have hc := hb.cell
  have H := Lib.hid (And.intro hb (And.intro hi (And.intro hB (And.intro hF hFF))))
  have HC := Lib.hid (R.read D F' gi b o m c bs cs Tb w hi hB hfit hmc hcm (fun e => hF ((hFF b).2 (.inr e))) hD hm hbs)
  have hne := Lib.hid (And.intro hFg hDg)
  clear hb hi hB hfit hmc hcm hF hD hm hbs hFF hFg hDg
  go_enter Tryz.func139, Tryz.ntmps139
  go_wp2_with fail
  refine HC.out.mono ?_
  rintro e w1 ⟨q, h0, h1, h2, rfl, h4, h5, h6⟩
  have hbg : ¬ b = g := fun e => H.out.2.2.2.1 ((H.out.2.2.2.2 b).2 (.inl e))
  have hb1 := H.out.1.fr h5 (fun e => e.elim hne.out.1 (fun e => hbg e.symm))
  have hc1 := hb1.cell
  have hf1 := hb1.frz
  have H1 := Lib.hid (And.intro h0 (And.intro h1 (And.intro h2 (And.intro h4 (And.intro h5 (And.intro h6 (And.intro hb1 hbg)))))))
  clear h0 h1 h2 h4 h5 h6 hb1 hc HC hbg
  go_wp2
  go_ret2
  obtain ⟨h0, h1, h2, h4, h5, h6, hb1, hbg⟩ := H1.out
  have hs := fr_setCell w1 ⟨g, 1, none⟩ (.int .i64 (wrap64 (n + (q : Int))))
  refine ⟨q, h0, h1, h2, rfl, ⟨gi, F', wrap64 (n + (q : Int)), ?_, R.frame h4 hs (fun k hk e => by have e' : k = g := e; subst e'; exact hne.out.1 hk) (fun k hk e => by have e' : k = g := e; subst e'; exact hne.out.2 hk), hne.out.1, hne.out.2, H.out.2.2.2.2⟩, Fr.trans h5 hs (fun k _ e => e.imp (fun e => (H.out.2.2.2.2 k).2 (.inr e)) id) (fun k _ e => .inl ((H.out.2.2.2.2 k).2 (.inl e))), h6.fr hs (fun e => hbg e)⟩
  have := hb1.set 1 (.int .i64 (wrap64 (n + (q : Int))))
  simpa using this
set_option maxRecDepth 100000 in
set_option maxHeartbeats 400000 in
theorem encEof_calls (R : Rdr) (D F : Nat → Prop) (g : Nat) (p v : Value) (w : World) (h : IsE R D F g [] w) (hv : w.cell? eofAt = some v) :
    Calls Tryz.prog 139 #[.pointer (some ⟨g, 0, none⟩), p] w fun e w' => e = .returned (.tuple #[.int .i64 0, v]) ∧ IsE R D F g [] w' ∧ Fr F w w' := by
  obtain ⟨gi, F', n, hb, hi, hFg, hDg, hFF⟩ := h
  have hna := R.nil gi
  have hme := R.meth gi
  have hcf := R.call
  have hc := hb.cell
  have H := Lib.hid (And.intro hb (And.intro hi hFF))
  have HC := Lib.hid (R.eof D F' gi p v w hi hv)
  have hne := Lib.hid (And.intro hFg hDg)
  clear hb hi hFF hFg hDg hv
  go_enter Tryz.func139, Tryz.ntmps139
  go_wp2_with fail
  refine HC.out.mono ?_
  rintro e w1 ⟨rfl, h4, h5⟩
  have hb1 := H.out.1.fr h5 (fun e => hne.out.1 e)
  have hc1 := hb1.cell
  have hf1 := hb1.frz
  have H1 := Lib.hid (And.intro h4 (And.intro h5 hb1))
  clear h4 h5 hb1 hc HC
  go_wp2
  go_ret2
  obtain ⟨h4, h5, hb1⟩ := H1.out
  have hs := fr_setCell w1 ⟨g, 1, none⟩ (.int .i64 (wrap64 n))
  refine ⟨rfl, ⟨gi, F', wrap64 n, ?_, R.frame h4 hs (fun k hk e => by have e' : k = g := e; subst e'; exact hne.out.1 hk) (fun k hk e => by have e' : k = g := e; subst e'; exact hne.out.2 hk), hne.out.1, hne.out.2, H.out.2.2⟩, Fr.trans h5 hs (fun k _ e => (H.out.2.2 k).2 (.inr e)) (fun k _ e => (H.out.2.2 k).2 (.inl e))⟩
  have := hb1.set 1 (.int .i64 (wrap64 n))
  simpa using this
noncomputable def encR (R : Rdr) : Rdr where
  is := IsE R
  lt := fun ⟨gi, F', n, hb, hi, hFg, hDg, hFF⟩ => ⟨(hFF _).2 (.inl rfl), fun k hk => ((hFF k).1 hk).elim (fun e => e ▸ hb.lt) (fun e => (R.lt hi).2.1 k e), fun k hk => ⟨((R.lt hi).2.2 k hk).1, fun e => ((hFF k).1 e).elim (fun e => hDg (e ▸ hk)) ((R.lt hi).2.2 k hk).2⟩⟩
  frame := fun ⟨gi, F', n, hb, hi, hFg, hDg, hFF⟩ hf hF hD => ⟨gi, F', n, hb.fr hf (hF _ ((hFF _).2 (.inl rfl))), R.frame hi hf (fun k hk => hF k ((hFF k).2 (.inr hk))) hD, hFg, hDg, hFF⟩
  T := 281
  f := 139
  nil g W := by kernel_rfl
  meth g W := by kernel_rfl
  call args W := by kernel_rfl
  read D F g b o m c bs cs Tb w h hB hfit hmc hcm hF hD hm hbs := encRead_calls R D F g b o m c bs cs Tb w h hB hfit hmc hcm hF hD hm hbs
  eof D F g p v w h hv := encEof_calls R D F g p v w h hv
  left g w := match w.cell? ⟨g, 0, none⟩ with
    | some (.iface _ (.pointer (some a))) => R.left a.block w
    | _ => 0
  left_is := fun ⟨gi, F', n, hb, hi, hFg, hDg, hFF⟩ => by
    have := hb.cell 0
    simp at this
    rw [this]
    exact R.left_is hi
/-- The value of io.EOF. -/
abbrev eofV (pe : Addr) : Value := .iface 330 (.pointer (some pe))
/-- What is read from, io.EOF being what it is. -/
structure RdS (R : Rdr) (D F : Nat → Prop) (g : Nat) (pe : Addr) (bs : List UInt8) (w : World) : Prop where
  is : R.is D F g bs w
  cell : w.cell? eofAt = some (eofV pe)
  nf : ¬ F eofAt.block
  len : bs.length ≤ 140737488355328
theorem eof_frame {w w' : World} {S : Nat → Prop} {v : Value} (h : w.cell? eofAt = some v) (hf : Fr S w w') (hs : ¬ S eofAt.block) : w'.cell? eofAt = some v := hf.cell h hs
theorem RdS.step {R : Rdr} {D F : Nat → Prop} {g : Nat} {pe : Addr} {bs bs' : List UInt8} {w w' : World} {S : Nat → Prop} (h : RdS R D F g pe bs w) (hi : R.is D F g bs' w') (hf : Fr S w w') (hs : ¬ S eofAt.block) (hl : bs'.length ≤ bs.length) : RdS R D F g pe bs' w' :=
  ⟨hi, eof_frame h.cell hf hs, h.nf, Nat.le_trans hl h.len⟩
theorem RdS.fr {R : Rdr} {D F : Nat → Prop} {g : Nat} {pe : Addr} {bs : List UInt8} {w w' : World} {S : Nat → Prop} (h : RdS R D F g pe bs w) (hf : Fr S w w') (hs : ¬ S eofAt.block) (hF : ∀ k, F k → ¬ S k) (hD : ∀ k, D k → ¬ S k) : RdS R D F g pe bs w' :=
  h.step (R.frame h.is hf hF hD) hf hs (Nat.le_refl _)
theorem RdS.ext {R : Rdr} {D F : Nat → Prop} {g : Nat} {pe : Addr} {bs : List UInt8} {w w' : World} (h : RdS R D F g pe bs w) (hf : Ext w w') : RdS R D F g pe bs w' := h.fr hf (fun h => h) (fun _ _ h => h) (fun _ _ h => h)
end Go.Proofs.YtkbadfljmbeciaaGreatDoor
/- LEB128 read from a source. -/
namespace Go.Proofs.YtkbadfljmbeciaaGreatDoor
open Go.RowKit
/-- What ReadVarUint64 makes of bytes: shift, what was gathered. -/
def readU : Nat → Nat → List UInt8 → Option (Nat × List UInt8)
  | _, _, [] => none
  | s, a, b :: bs => if b.toNat < 128 then some (a ||| (b.toNat % 128 * 2 ^ s % 2 ^ 64), bs) else readU (s + 7) (a ||| (b.toNat % 128 * 2 ^ s % 2 ^ 64)) bs
theorem shl64 (a s : Nat) : a * 2 ^ min s 64 % 2 ^ 64 = a * 2 ^ s % 2 ^ 64 := by
  rcases Nat.le_total s 64 with h | h
  · rw [Nat.min_eq_left h]
  · rw [Nat.min_eq_right h, Nat.mul_mod_left, show s = (s - 64) + 64 from by omega, Nat.pow_add, ← Nat.mul_assoc, Nat.mul_mod_left]
theorem stepU (a s t : Nat) (ha : a < 18446744073709551616) (ht : t < 256) :
    bits .or .u64 (a : Int) (IntKind.u64.wrap (bits .and .u64 (t : Int) 127 * 2 ^ min s 64)) = ((a ||| (t % 128 * 2 ^ s % 2 ^ 64) : Nat) : Int) ∧ a ||| (t % 128 * 2 ^ s % 2 ^ 64) < 18446744073709551616 := by
  have hb : t % 128 * 2 ^ s % 2 ^ 64 < 18446744073709551616 := Nat.mod_lt _ (by decide)
  have e1 : IntKind.u64.wrap (bits .and .u64 (t : Int) 127 * 2 ^ min s 64) = ((t % 128 * 2 ^ s % 2 ^ 64 : Nat) : Int) := by
    rw [u64_and127 _ (by omega) (by omega), IntKind.wrap_u64, ← shl64]
    simp
  rw [e1, u64_or_nat a _ ha hb]
  exact ⟨rfl, Nat.or_lt_two_pow (n := 64) ha hb⟩
/-- The 64 bits a, as a signed number. -/
def toS (a : Nat) : Int := ((a : Int) + 9223372036854775808) % 18446744073709551616 - 9223372036854775808
theorem toS_bits {a : Nat} (ha : a < 18446744073709551616) : (BitVec.ofInt 64 (toS a)).toNat = a := by
  have := ofInt64_toNat (toS a)
  unfold toS at *
  omega
theorem or_toS {a b : Nat} {x y : Int} (hx : x % 18446744073709551616 = a) (hy : y % 18446744073709551616 = b) : bits .or .i64 x y = toS (a ||| b) := by
  show IntKind.i64.wrap ((BitVec.ofInt 64 x ||| BitVec.ofInt 64 y).toNat : Int) = _
  have h1 := ofInt64_toNat x
  have h2 := ofInt64_toNat y
  rw [BitVec.toNat_or, show (BitVec.ofInt 64 x).toNat = a from by omega, show (BitVec.ofInt 64 y).toNat = b from by omega, IntKind.wrap_i64]
  rfl
theorem toS_mod {a : Nat} (ha : a < 18446744073709551616) : toS a % 18446744073709551616 = a := by unfold toS; omega
theorem stepS (a s t : Nat) (ha : a < 18446744073709551616) :
    bits .or .i64 (toS a) (wrap64 (bits .and .i64 (t : Int) 127 * 2 ^ min s 64)) = toS (a ||| (t % 128 * 2 ^ s % 2 ^ 64)) ∧ a ||| (t % 128 * 2 ^ s % 2 ^ 64) < 18446744073709551616 := by
  have hb : t % 128 * 2 ^ s % 2 ^ 64 < 18446744073709551616 := Nat.mod_lt _ (by decide)
  refine ⟨or_toS (toS_mod ha) ?_, Nat.or_lt_two_pow (n := 64) ha hb⟩
  have e1 : bits .and .i64 (t : Int) 127 * 2 ^ min s 64 = ((t % 128 * 2 ^ min s 64 : Nat) : Int) := by
    rw [show bits .and .i64 (t : Int) 127 = (t : Int) % 128 from i64_and127 _]; simp
  rw [e1, ← shl64]
  unfold wrap64
  generalize t % 128 * 2 ^ min s 64 = q
  omega
/-- What ReadVarInt64 makes of bytes. -/
def readS : Nat → Nat → List UInt8 → Option (Int × List UInt8)
  | _, _, [] => none
  | s, a, b :: bs => if b.toNat < 128 then some (toS (if s + 7 < 32 ∧ 64 ≤ b.toNat then (a ||| (b.toNat % 128 * 2 ^ s % 2 ^ 64)) ||| (2 ^ 64 - 2 ^ (s + 7)) else a ||| (b.toNat % 128 * 2 ^ s % 2 ^ 64)), bs) else readS (s + 7) (a ||| (b.toNat % 128 * 2 ^ s % 2 ^ 64)) bs
theorem fillS (a s : Nat) (ha : a < 18446744073709551616) (hs : s < 32) : bits .or .i64 (toS a) (wrap64 (-2 ^ min s 64)) = toS (a ||| (2 ^ 64 - 2 ^ s)) := by
  have hp : 2 ^ s < 2 ^ 32 := Nat.pow_lt_pow_right (by decide) hs
  have hp0 : 0 < 2 ^ s := Nat.pow_pos (by decide)
  refine or_toS (toS_mod ha) ?_
  have e1 : (-2 ^ min s 64 : Int) = -((2 ^ s : Nat) : Int) := by rw [Nat.min_eq_left (by omega)]; simp
  rw [e1]
  unfold wrap64
  generalize 2 ^ s = q at *
  omega
theorem i64_and128' (t : Nat) (ht : t < 256) : bits .and .i64 (t : Int) 128 = if (t : Int) < 128 then 0 else 128 := by
  show IntKind.i64.wrap ((BitVec.ofInt 64 (t : Int) &&& BitVec.ofInt 64 (128 : Int)).toNat : Int) = _
  have h1 := ofInt64_toNat (t : Int)
  have h2 := ofInt64_toNat (128 : Int)
  rw [BitVec.toNat_and, show (BitVec.ofInt 64 (t : Int)).toNat = t from by omega, show (BitVec.ofInt 64 (128 : Int)).toNat = 2 ^ 7 from by omega, nat_bit 7 t, IntKind.wrap_i64]
  split <;> omega
theorem make1 : ∀ w : World, (Instr.makeSlice 43 (.int .i64 1) (.int .i64 1)).run Tryz.prog w = .ok (.slice (some ⟨w.heap.size, 0, none⟩) 1 1) (w.alloc (.cells #[.int .u8 0] 5)) := fun w => by kernel_rfl
set_option maxRecDepth 100000 in
set_option maxHeartbeats 1000000 in
theorem ReadVarUint64_calls (S : Src) (D : Nat → Prop) (g : Nat) (bs : List UInt8) (w : World) (hS : S.is D g bs w) (hl : bs.length ≤ 140737488355328) (n : Nat) (rest : List UInt8) (hr : readU 0 0 bs = some (n, rest)) :
    Calls Tryz.prog 95 #[.iface S.T (.pointer (some ⟨g, 0, none⟩))] w fun e w' => e = .returned (.tuple #[.int .u64 n, .nilIface]) ∧ S.is D g rest w' ∧ Fr (fun k => k = g) w w' := by
  have hna := S.nil g
  have hme := S.meth g
  have hcf := S.call
  have hmk := make1
  have H := Lib.hid (And.intro hS (And.intro hl hr))
  clear hS hl hr
  go_enter Tryz.func95, Tryz.ntmps95
  go_wp2_with fail
  go_loopw [4, 5, 7, 8, 9] (fun s4 s5 s7 s8 s9 w' => ∃ (acc sh : Nat) (bs' : List UInt8) (x : Value), s4 = .int .u64 acc ∧ s5 = .int .u64 sh ∧ acc < 18446744073709551616 ∧ sh + 7 * bs'.length = 7 * bs.length ∧ Hid (readU sh acc bs' = some (n, rest)) ∧ Hid (S.is D g bs' w') ∧ Hid (Blk w' w.heap.size #[x] 5) ∧ Hid (Fr (fun k => k = g ∨ k = w.heap.size) w w')) (fun _ s5 _ _ _ _ => 7 * bs.length - (intOf s5).toNat)
  case atStart =>
    exact ⟨0, 0, bs, _, rfl, rfl, by omega, by omega, H.out.2.2, S.frame H.out.1 (ext_alloc w _) (fun h => h) (fun _ _ h => h), blk_new _ _ _, (ext_alloc w _).to⟩
  case round =>
    obtain ⟨acc, sh, bs', x, rfl, rfl, hacc, hsh, hR, hI, hB, hF⟩ := hrel
    obtain ⟨y, bs1, rfl⟩ : ∃ y bs1, bs' = y :: bs1 := by
      cases bs' with
      | nil => have := hR.out; simp [readU] at this
      | cons y bs1 => exact ⟨y, bs1, rfl⟩
    have hg := S.lt H.out.1
    have hne : w.heap.size ≠ g := by omega
    have hnD : ¬ D w.heap.size := fun h => by have := (hg.2 _ h).1; omega
    have hlen := H.out.2.1
    go_wp2_with fail
    refine (S.read D g w.heap.size 0 1 1 (y :: bs1) #[x] 5 _ hI.out hB.out (by simp) (by omega) (by decide) hne hnD (by omega) (by simp)).mono ?_
    rintro e w2 ⟨q, hq0, hq1, -, rfl, hI2, hF2, hB2⟩
    obtain rfl : q = 1 := by omega
    have hI3 : Hid (S.is D g bs1 w2) := hI2
    have hB3 : Blk w2 w.heap.size #[.int .u8 (y.toNat : Int)] 5 := hB2
    have hF3 : Hid (Fr (fun k => k = g ∨ k = w.heap.size) w w2) := hF.out.trans hF2 (fun _ _ h => h) (fun _ _ h => h)
    have hc := hB3.cell 0
    simp only [List.getElem?_toArray, List.getElem?_cons_zero] at hc
    have hB4 := Lib.hid hB3
    have hy := y.toNat_lt
    have hyy : Hid (readU sh acc (y :: bs1) = some (n, rest)) := hR.out
    simp only [readU] at hyy
    generalize y.toNat = t at *
    obtain ⟨e1, e2⟩ := stepU acc sh t hacc hy
    generalize hz : acc ||| (t % 128 * 2 ^ sh % 2 ^ 64) = z at *
    clear hI hB hF hI2 hF2 hB2 hB3 hR hg hne hnD
    by_cases ht : t < 128
    · have e3 : bits .and .u64 (t : Int) 128 = 0 := by rw [u64_and128 _ (by omega) (by omega), if_pos (by omega)]
      have hfin : Hid (z = n ∧ bs1 = rest) := by have := hyy.out; rw [if_pos ht] at this; show _ ∧ _; simpa using this
      clear ht hz hyy
      go_wp2
      go_ret2
      obtain ⟨rfl, rfl⟩ := hfin.out
      exact ⟨rfl, hI3.out, hF3.out.mono (fun k hk h => h.elim id (fun h => by omega))⟩
    · have e3 : bits .and .u64 (t : Int) 128 = 128 := by rw [u64_and128 _ (by omega) (by omega), if_neg (by omega)]
      have hfin : Hid (readU (sh + 7) z bs1 = some (n, rest)) := by have := hyy.out; rw [if_neg ht] at this; exact this
      have hw := IntKind.wrap_u64 ((sh : Int) + 7)
      simp only [List.length_cons] at hsh
      have e4 : IntKind.u64.wrap ((sh : Int) + 7) = ((sh + 7 : Nat) : Int) := by rw [hw]; omega
      clear ht hz hyy hw
      go_wp2
      go_roundw
      case rel => exact ⟨z, sh + 7, bs1, _, rfl, by go_num, e2, by omega, hfin, hI3, hB4, hF3⟩
      case measure => simp [intOf]; omega
set_option maxRecDepth 100000 in
set_option maxHeartbeats 1000000 in
theorem ReadVarInt64_calls (S : Src) (D : Nat → Prop) (g : Nat) (bs : List UInt8) (w : World) (hS : S.is D g bs w) (hl : bs.length ≤ 140737488355328) (n : Int) (rest : List UInt8) (hr : readS 0 0 bs = some (n, rest)) :
    Calls Tryz.prog 104 #[.iface S.T (.pointer (some ⟨g, 0, none⟩))] w fun e w' => e = .returned (.tuple #[.int .i64 n, .nilIface]) ∧ S.is D g rest w' ∧ Fr (fun k => k = g) w w' := by
  have hna := S.nil g
  have hme := S.meth g
  have hcf := S.call
  have hmk := make1
  have H := Lib.hid (And.intro hS (And.intro hl hr))
  clear hS hl hr
  go_enter Tryz.func104, Tryz.ntmps104
  go_wp2_with fail
  go_loopw [4, 5, 8, 9, 10] (fun s4 s5 s8 s9 s10 w' => ∃ (acc sh : Nat) (bs' : List UInt8) (x : Value), s4 = .int .i64 (toS acc) ∧ s5 = .int .u64 sh ∧ acc < 18446744073709551616 ∧ sh + 7 * bs'.length = 7 * bs.length ∧ Hid (readS sh acc bs' = some (n, rest)) ∧ Hid (S.is D g bs' w') ∧ Hid (Blk w' w.heap.size #[x] 5) ∧ Hid (Fr (fun k => k = g ∨ k = w.heap.size) w w')) (fun _ s5 _ _ _ _ => 7 * bs.length - (intOf s5).toNat)
  case atStart =>
    exact ⟨0, 0, bs, _, rfl, rfl, by omega, by omega, H.out.2.2, S.frame H.out.1 (ext_alloc w _) (fun h => h) (fun _ _ h => h), blk_new _ _ _, (ext_alloc w _).to⟩
  case round =>
    obtain ⟨acc, sh, bs', x, rfl, rfl, hacc, hsh, hR, hI, hB, hF⟩ := hrel
    obtain ⟨y, bs1, rfl⟩ : ∃ y bs1, bs' = y :: bs1 := by
      cases bs' with
      | nil => have := hR.out; simp [readS] at this
      | cons y bs1 => exact ⟨y, bs1, rfl⟩
    have hg := S.lt H.out.1
    have hne : w.heap.size ≠ g := by omega
    have hnD : ¬ D w.heap.size := fun h => by have := (hg.2 _ h).1; omega
    have hlen := H.out.2.1
    go_wp2_with fail
    refine (S.read D g w.heap.size 0 1 1 (y :: bs1) #[x] 5 _ hI.out hB.out (by simp) (by omega) (by decide) hne hnD (by omega) (by simp)).mono ?_
    rintro e w2 ⟨q, hq0, hq1, -, rfl, hI2, hF2, hB2⟩
    obtain rfl : q = 1 := by omega
    have hI3 : Hid (S.is D g bs1 w2) := hI2
    have hB3 : Blk w2 w.heap.size #[.int .u8 (y.toNat : Int)] 5 := hB2
    have hF3 : Hid (Fr (fun k => k = g ∨ k = w.heap.size) w w2) := hF.out.trans hF2 (fun _ _ h => h) (fun _ _ h => h)
    have hc := hB3.cell 0
    simp only [List.getElem?_toArray, List.getElem?_cons_zero] at hc
    have hB4 := Lib.hid hB3
    have hy := y.toNat_lt
    have hyy : Hid (readS sh acc (y :: bs1) = some (n, rest)) := hR.out
    simp only [readS] at hyy
    generalize y.toNat = t at *
    obtain ⟨e1, e2⟩ := stepS acc sh t hacc
    generalize hz : acc ||| (t % 128 * 2 ^ sh % 2 ^ 64) = z at *
    clear hI hB hF hI2 hF2 hB2 hB3 hR hg hne hnD
    have hw := IntKind.wrap_u64 ((sh : Int) + 7)
    simp only [List.length_cons] at hsh
    have e4 : IntKind.u64.wrap ((sh : Int) + 7) = ((sh + 7 : Nat) : Int) := by rw [hw]; omega
    clear hw
    by_cases ht : t < 128
    · have e3 : bits .and .i64 (t : Int) 128 = 0 := by rw [i64_and128' t hy, if_pos (by omega)]
      by_cases hs : sh + 7 < 32
      · have d1 : decide (((sh : Int) + 7) < 32) = true := by rw [decide_eq_true_eq]; omega
        have hs0 : (0 : Int) ≤ (sh : Int) + 7 := by omega
        by_cases h64 : 64 ≤ t
        · have e5 : bits .and .i64 (t : Int) 64 = 64 := by rw [i64_and64, if_neg (by omega)]
          have e6 := fillS z (sh + 7) e2 hs
          have hfin : Hid (toS (z ||| (2 ^ 64 - 2 ^ (sh + 7))) = n ∧ bs1 = rest) := by have := hyy.out; rw [if_pos ht, if_pos ⟨hs, h64⟩] at this; show _ ∧ _; simpa using this
          clear ht hz hyy hs h64
          go_wp2
          go_ret2
          obtain ⟨rfl, rfl⟩ := hfin.out
          exact ⟨rfl, hI3.out, hF3.out.mono (fun k hk h => h.elim id (fun h => by omega))⟩
        · have e5 : bits .and .i64 (t : Int) 64 = 0 := by rw [i64_and64, if_pos (by omega)]
          have hfin : Hid (toS z = n ∧ bs1 = rest) := by have := hyy.out; rw [if_pos ht, if_neg (fun h => h64 h.2)] at this; show _ ∧ _; simpa using this
          clear ht hz hyy hs h64
          go_wp2
          go_ret2
          obtain ⟨rfl, rfl⟩ := hfin.out
          exact ⟨rfl, hI3.out, hF3.out.mono (fun k hk h => h.elim id (fun h => by omega))⟩
      · have d1 : decide (((sh : Int) + 7) < 32) = false := by rw [decide_eq_false_iff_not]; omega
        have hfin : Hid (toS z = n ∧ bs1 = rest) := by have := hyy.out; rw [if_pos ht, if_neg (fun h => hs h.1)] at this; show _ ∧ _; simpa using this
        clear ht hz hyy hs
        go_wp2
        go_ret2
        obtain ⟨rfl, rfl⟩ := hfin.out
        exact ⟨rfl, hI3.out, hF3.out.mono (fun k hk h => h.elim id (fun h => by omega))⟩
    · have e3 : bits .and .i64 (t : Int) 128 = 128 := by rw [i64_and128' t hy, if_neg (by omega)]
      have hfin : Hid (readS (sh + 7) z bs1 = some (n, rest)) := by have := hyy.out; rw [if_neg ht] at this; exact this
      clear ht hz hyy
      go_wp2
      go_roundw
      case rel => exact ⟨z, sh + 7, bs1, _, rfl, by go_num, e2, by omega, hfin, hI3, hB4, hF3⟩
      case measure => simp [intOf]; omega
end Go.Proofs.YtkbadfljmbeciaaGreatDoor
/- LEB128 read from a source, what ends too early too. -/
namespace Go.Proofs.YtkbadfljmbeciaaGreatDoor
open Go.RowKit
theorem cell_lt {w : World} {p : Addr} {v : Value} (h : w.cell? p = some v) : p.block < w.heap.size := by
  unfold World.cell? at h
  cases hb : w.heap[p.block]? with
  | none => rw [hb] at h; simp at h
  | some o => exact (Array.getElem?_eq_some_iff.1 hb).1
/-- How a number is read: it is there, or the bytes end. -/
def NumPost {α : Type} (S : Rdr) (D F : Nat → Prop) (g : Nat) (pe : Addr) (w : World) (r : Option (α × List UInt8)) (f : α → Value) (e : Ending) (w' : World) : Prop :=
  (∃ n rest, r = some (n, rest) ∧ e = .returned (.tuple #[f n, .nilIface]) ∧ RdS S D F g pe rest w' ∧ Fr F w w') ∨
    (r = none ∧ (∃ z, e = .returned (.tuple #[f z, eofV pe])) ∧ RdS S D F g pe [] w' ∧ Fr F w w')
set_option maxRecDepth 100000 in
set_option maxHeartbeats 1000000 in
theorem ReadVarUint64_rd (S : Rdr) (D F : Nat → Prop) (g : Nat) (pe : Addr) (bs : List UInt8) (w : World) (hS : RdS S D F g pe bs w) :
    Calls Tryz.prog 95 #[.iface S.T (.pointer (some ⟨g, 0, none⟩))] w fun e w' => NumPost S D F g pe w (readU 0 0 bs) (fun n => .int .u64 n) e w' := by
  have hna := S.nil g
  have hme := S.meth g
  have hcf := S.call
  have hmk := make1
  have H := Lib.hid hS
  have hlen := hS.len
  have hg := (S.lt hS.is).2
  have hgF := Lib.hid hg
  clear hS hg
  go_enter Tryz.func95, Tryz.ntmps95
  go_wp2_with fail
  go_loopw [4, 5, 7, 8, 9] (fun s4 s5 s7 s8 s9 w' => ∃ (acc sh : Nat) (bs' : List UInt8) (x : Value), s4 = .int .u64 acc ∧ s5 = .int .u64 sh ∧ acc < 18446744073709551616 ∧ sh + 7 * bs'.length = 7 * bs.length ∧ Hid (readU sh acc bs' = readU 0 0 bs) ∧ Hid (RdS S D F g pe bs' w') ∧ Hid (Blk w' w.heap.size #[x] 5) ∧ Hid (Fr (fun k => F k ∨ k = w.heap.size) w w')) (fun _ s5 _ _ _ _ => 7 * bs.length - (intOf s5).toNat)
  case atStart =>
    exact ⟨0, 0, bs, _, rfl, rfl, by omega, by omega, rfl, H.out.ext (ext_alloc w _), blk_new _ _ _, (ext_alloc w _).to⟩
  case round =>
    obtain ⟨acc, sh, bs', x, rfl, rfl, hacc, hsh, hR, hI, hB, hF⟩ := hrel
    have hgo := hgF.out
    have hne : ¬ F w.heap.size := fun h => by have := hgo.1 _ h; omega
    have hnD : ¬ D w.heap.size := fun h => by have := (hgo.2 _ h).1; omega
    have hec := hI.out.cell
    have hwn : ¬ eofAt.block = w.heap.size := fun e => by have h1 := H.out.cell; have h2 := cell_lt h1; omega
    have hwn := Lib.hid hwn
    clear hgo
    cases bs' with
    | nil =>
      go_wp2_with fail
      refine (S.eof D F g _ (eofV pe) _ hI.out.is hec).mono ?_
      rintro e w2 ⟨rfl, hI2, hF2⟩
      have hfin : Hid (readU 0 0 bs = none ∧ RdS S D F g pe [] w2 ∧ Fr F w w2) := ⟨by rw [← hR.out]; rfl, hI.out.step hI2 hF2 hI.out.nf (Nat.le_refl _), (Fr.trans hF.out hF2 (fun _ _ h => h) (fun _ _ h => .inl h)).mono (fun k hk h => h.elim id (fun h => by omega))⟩
      clear hI hB hF hI2 hF2 hR hne hnD hec
      go_wp2
      go_ret2
      exact .inr ⟨hfin.out.1, ⟨0, rfl⟩, hfin.out.2.1, hfin.out.2.2⟩
    | cons y bs1 =>
    go_wp2_with fail
    refine (S.read D F g w.heap.size 0 1 1 (y :: bs1) #[x] 5 _ hI.out.is hB.out (by simp) (by omega) (by decide) hne hnD (by omega) (by simp)).mono ?_
    rintro e w2 ⟨q, hq0, hq1, -, rfl, hI2, hF2, hB2⟩
    obtain rfl : q = 1 := by omega
    have hen : ¬ (F eofAt.block ∨ eofAt.block = w.heap.size) := fun e => e.elim hI.out.nf hwn.out
    have hI3 : Hid (RdS S D F g pe bs1 w2) := hI.out.step hI2 hF2 hen (by simp)
    have hB3 : Blk w2 w.heap.size #[.int .u8 (y.toNat : Int)] 5 := hB2
    have hF3 : Hid (Fr (fun k => F k ∨ k = w.heap.size) w w2) := hF.out.trans hF2 (fun _ _ h => h) (fun _ _ h => h)
    have hc := hB3.cell 0
    simp only [List.getElem?_toArray, List.getElem?_cons_zero] at hc
    have hB4 := Lib.hid hB3
    have hy := y.toNat_lt
    have hyy : Hid (readU sh acc (y :: bs1) = readU 0 0 bs) := hR.out
    simp only [readU] at hyy
    generalize y.toNat = t at *
    obtain ⟨e1, e2⟩ := stepU acc sh t hacc hy
    generalize hz : acc ||| (t % 128 * 2 ^ sh % 2 ^ 64) = z at *
    clear hI hB hF hI2 hF2 hB2 hB3 hR hne hnD hec hen hwn
    by_cases ht : t < 128
    · have e3 : bits .and .u64 (t : Int) 128 = 0 := by rw [u64_and128 _ (by omega) (by omega), if_pos (by omega)]
      have hfin : Hid (readU 0 0 bs = some (z, bs1)) := by have := hyy.out; rw [if_pos ht] at this; exact this.symm
      clear ht hz hyy
      go_wp2
      go_ret2
      exact .inl ⟨_, _, hfin.out, rfl, hI3.out, hF3.out.mono (fun k hk h => h.elim id (fun h => by omega))⟩
    · have e3 : bits .and .u64 (t : Int) 128 = 128 := by rw [u64_and128 _ (by omega) (by omega), if_neg (by omega)]
      have hfin : Hid (readU (sh + 7) z bs1 = readU 0 0 bs) := by have := hyy.out; rw [if_neg ht] at this; exact this
      have hw := IntKind.wrap_u64 ((sh : Int) + 7)
      simp only [List.length_cons] at hsh
      have e4 : IntKind.u64.wrap ((sh : Int) + 7) = ((sh + 7 : Nat) : Int) := by rw [hw]; omega
      clear ht hz hyy hw
      go_wp2
      go_roundw
      case rel => exact ⟨z, sh + 7, bs1, _, rfl, by go_num, e2, by omega, hfin, hI3, hB4, hF3⟩
      case measure => simp [intOf]; omega
set_option maxRecDepth 100000 in
set_option maxHeartbeats 1000000 in
theorem ReadVarInt64_rd (S : Rdr) (D F : Nat → Prop) (g : Nat) (pe : Addr) (bs : List UInt8) (w : World) (hS : RdS S D F g pe bs w) :
    Calls Tryz.prog 104 #[.iface S.T (.pointer (some ⟨g, 0, none⟩))] w fun e w' => NumPost S D F g pe w (readS 0 0 bs) (fun n => .int .i64 n) e w' := by
  have hna := S.nil g
  have hme := S.meth g
  have hcf := S.call
  have hmk := make1
  have H := Lib.hid hS
  have hlen := hS.len
  have hg := (S.lt hS.is).2
  have hgF := Lib.hid hg
  clear hS hg
  go_enter Tryz.func104, Tryz.ntmps104
  go_wp2_with fail
  go_loopw [4, 5, 8, 9, 10] (fun s4 s5 s8 s9 s10 w' => ∃ (acc sh : Nat) (bs' : List UInt8) (x : Value), s4 = .int .i64 (toS acc) ∧ s5 = .int .u64 sh ∧ acc < 18446744073709551616 ∧ sh + 7 * bs'.length = 7 * bs.length ∧ Hid (readS sh acc bs' = readS 0 0 bs) ∧ Hid (RdS S D F g pe bs' w') ∧ Hid (Blk w' w.heap.size #[x] 5) ∧ Hid (Fr (fun k => F k ∨ k = w.heap.size) w w')) (fun _ s5 _ _ _ _ => 7 * bs.length - (intOf s5).toNat)
  case atStart =>
    exact ⟨0, 0, bs, _, rfl, rfl, by omega, by omega, rfl, H.out.ext (ext_alloc w _), blk_new _ _ _, (ext_alloc w _).to⟩
  case round =>
    obtain ⟨acc, sh, bs', x, rfl, rfl, hacc, hsh, hR, hI, hB, hF⟩ := hrel
    have hgo := hgF.out
    have hne : ¬ F w.heap.size := fun h => by have := hgo.1 _ h; omega
    have hnD : ¬ D w.heap.size := fun h => by have := (hgo.2 _ h).1; omega
    have hec := hI.out.cell
    have hwn : ¬ eofAt.block = w.heap.size := fun e => by have h1 := H.out.cell; have h2 := cell_lt h1; omega
    have hwn := Lib.hid hwn
    clear hgo
    cases bs' with
    | nil =>
      go_wp2_with fail
      refine (S.eof D F g _ (eofV pe) _ hI.out.is hec).mono ?_
      rintro e w2 ⟨rfl, hI2, hF2⟩
      have hfin : Hid (readS 0 0 bs = none ∧ RdS S D F g pe [] w2 ∧ Fr F w w2) := ⟨by rw [← hR.out]; rfl, hI.out.step hI2 hF2 hI.out.nf (Nat.le_refl _), (Fr.trans hF.out hF2 (fun _ _ h => h) (fun _ _ h => .inl h)).mono (fun k hk h => h.elim id (fun h => by omega))⟩
      clear hI hB hF hI2 hF2 hR hne hnD hec
      go_wp2
      go_ret2
      exact .inr ⟨hfin.out.1, ⟨0, rfl⟩, hfin.out.2.1, hfin.out.2.2⟩
    | cons y bs1 =>
    go_wp2_with fail
    refine (S.read D F g w.heap.size 0 1 1 (y :: bs1) #[x] 5 _ hI.out.is hB.out (by simp) (by omega) (by decide) hne hnD (by omega) (by simp)).mono ?_
    rintro e w2 ⟨q, hq0, hq1, -, rfl, hI2, hF2, hB2⟩
    obtain rfl : q = 1 := by omega
    have hen : ¬ (F eofAt.block ∨ eofAt.block = w.heap.size) := fun e => e.elim hI.out.nf hwn.out
    have hI3 : Hid (RdS S D F g pe bs1 w2) := hI.out.step hI2 hF2 hen (by simp)
    have hB3 : Blk w2 w.heap.size #[.int .u8 (y.toNat : Int)] 5 := hB2
    have hF3 : Hid (Fr (fun k => F k ∨ k = w.heap.size) w w2) := hF.out.trans hF2 (fun _ _ h => h) (fun _ _ h => h)
    have hc := hB3.cell 0
    simp only [List.getElem?_toArray, List.getElem?_cons_zero] at hc
    have hB4 := Lib.hid hB3
    have hy := y.toNat_lt
    have hyy : Hid (readS sh acc (y :: bs1) = readS 0 0 bs) := hR.out
    simp only [readS] at hyy
    generalize y.toNat = t at *
    obtain ⟨e1, e2⟩ := stepS acc sh t hacc
    generalize hz : acc ||| (t % 128 * 2 ^ sh % 2 ^ 64) = z at *
    clear hI hB hF hI2 hF2 hB2 hB3 hR hne hnD hec hen hwn
    have hw := IntKind.wrap_u64 ((sh : Int) + 7)
    simp only [List.length_cons] at hsh
    have e4 : IntKind.u64.wrap ((sh : Int) + 7) = ((sh + 7 : Nat) : Int) := by rw [hw]; omega
    clear hw
    by_cases ht : t < 128
    · have e3 : bits .and .i64 (t : Int) 128 = 0 := by rw [i64_and128' t hy, if_pos (by omega)]
      by_cases hs : sh + 7 < 32
      · have d1 : decide (((sh : Int) + 7) < 32) = true := by rw [decide_eq_true_eq]; omega
        have hs0 : (0 : Int) ≤ (sh : Int) + 7 := by omega
        by_cases h64 : 64 ≤ t
        · have e5 : bits .and .i64 (t : Int) 64 = 64 := by rw [i64_and64, if_neg (by omega)]
          have e6 := fillS z (sh + 7) e2 hs
          have hfin : Hid (readS 0 0 bs = some (toS (z ||| (2 ^ 64 - 2 ^ (sh + 7))), bs1)) := by have := hyy.out; rw [if_pos ht, if_pos ⟨hs, h64⟩] at this; exact this.symm
          clear ht hz hyy hs h64
          go_wp2
          go_ret2
          exact .inl ⟨_, _, hfin.out, rfl, hI3.out, hF3.out.mono (fun k hk h => h.elim id (fun h => by omega))⟩
        · have e5 : bits .and .i64 (t : Int) 64 = 0 := by rw [i64_and64, if_pos (by omega)]
          have hfin : Hid (readS 0 0 bs = some (toS z, bs1)) := by have := hyy.out; rw [if_pos ht, if_neg (fun h => h64 h.2)] at this; exact this.symm
          clear ht hz hyy hs h64
          go_wp2
          go_ret2
          exact .inl ⟨_, _, hfin.out, rfl, hI3.out, hF3.out.mono (fun k hk h => h.elim id (fun h => by omega))⟩
      · have d1 : decide (((sh : Int) + 7) < 32) = false := by rw [decide_eq_false_iff_not]; omega
        have hfin : Hid (readS 0 0 bs = some (toS z, bs1)) := by have := hyy.out; rw [if_pos ht, if_neg (fun h => hs h.1)] at this; exact this.symm
        clear ht hz hyy hs
        go_wp2
        go_ret2
        exact .inl ⟨_, _, hfin.out, rfl, hI3.out, hF3.out.mono (fun k hk h => h.elim id (fun h => by omega))⟩
    · have e3 : bits .and .i64 (t : Int) 128 = 128 := by rw [i64_and128' t hy, if_neg (by omega)]
      have hfin : Hid (readS (sh + 7) z bs1 = readS 0 0 bs) := by have := hyy.out; rw [if_neg ht] at this; exact this
      clear ht hz hyy
      go_wp2
      go_roundw
      case rel => exact ⟨z, sh + 7, bs1, _, rfl, by go_num, e2, by omega, hfin, hI3, hB4, hF3⟩
      case measure => simp [intOf]; omega
end Go.Proofs.YtkbadfljmbeciaaGreatDoor
/- Numbers of 32 bits, and those that panic. -/
namespace Go.Proofs.YtkbadfljmbeciaaGreatDoor
open Go.RowKit
/-- The panic of an error. -/
abbrev eofP (pe : Addr) : List PanicEntry := [{ v := eofV pe, recovered := false }]
def MustPost {α : Type} (S : Rdr) (D F : Nat → Prop) (g : Nat) (pe : Addr) (w : World) (r : Option (α × List UInt8)) (f : α → Value) (e : Ending) (w' : World) : Prop :=
  (∃ n rest, r = some (n, rest) ∧ e = .returned (f n) ∧ RdS S D F g pe rest w' ∧ Fr F w w') ∨
    (r = none ∧ e = .panicked (eofP pe) ∧ RdS S D F g pe [] w' ∧ Fr F w w')
set_option maxRecDepth 100000 in
set_option maxHeartbeats 400000 in
theorem ReadVarUint32_rd (S : Rdr) (D F : Nat → Prop) (g : Nat) (pe : Addr) (bs : List UInt8) (w : World) (hS : RdS S D F g pe bs w) :
    Calls Tryz.prog 89 #[.iface S.T (.pointer (some ⟨g, 0, none⟩))] w fun e w' => NumPost S D F g pe w (readU 0 0 bs) (fun n => .int .u32 ((n % 4294967296 : Nat) : Int)) e w' := by
  have HC := Lib.hid (ReadVarUint64_rd S D F g pe bs w hS)
  clear hS
  go_enter Tryz.func89, Tryz.ntmps89
  go_wp2_with fail
  refine HC.out.mono ?_
  rintro e w1 (⟨n, rest, hr, rfl, h1, h2⟩ | ⟨hr, ⟨n, rfl⟩, h1, h2⟩)
  · have hw := (show IntKind.u32.wrap (n : Int) = ((n % 4294967296 : Nat) : Int) from by rw [IntKind.wrap_u32]; omega)
    have H1 := Lib.hid (And.intro hr (And.intro h1 h2))
    clear h1 h2 hr HC
    go_wp2
    go_ret2
    exact .inl ⟨_, _, H1.out.1, rfl, H1.out.2.1, H1.out.2.2⟩
  · have hw := (show IntKind.u32.wrap (n : Int) = ((n % 4294967296 : Nat) : Int) from by rw [IntKind.wrap_u32]; omega)
    have H1 := Lib.hid (And.intro hr (And.intro h1 h2))
    clear h1 h2 hr HC
    go_wp2
    go_ret2
    exact .inr ⟨H1.out.1, ⟨n, rfl⟩, H1.out.2.1, H1.out.2.2⟩
set_option maxRecDepth 100000 in
set_option maxHeartbeats 400000 in
theorem ReadVarInt32_rd (S : Rdr) (D F : Nat → Prop) (g : Nat) (pe : Addr) (bs : List UInt8) (w : World) (hS : RdS S D F g pe bs w) :
    Calls Tryz.prog 103 #[.iface S.T (.pointer (some ⟨g, 0, none⟩))] w fun e w' => NumPost S D F g pe w (readS 0 0 bs) (fun n => .int .i32 (wrap32 n)) e w' := by
  have HC := Lib.hid (ReadVarInt64_rd S D F g pe bs w hS)
  clear hS
  go_enter Tryz.func103, Tryz.ntmps103
  go_wp2_with fail
  refine HC.out.mono ?_
  rintro e w1 (⟨n, rest, hr, rfl, h1, h2⟩ | ⟨hr, ⟨n, rfl⟩, h1, h2⟩)
  · have H1 := Lib.hid (And.intro hr (And.intro h1 h2))
    clear h1 h2 hr HC
    go_wp2
    go_ret2
    exact .inl ⟨_, _, H1.out.1, rfl, H1.out.2.1, H1.out.2.2⟩
  · have H1 := Lib.hid (And.intro hr (And.intro h1 h2))
    clear h1 h2 hr HC
    go_wp2
    go_ret2
    exact .inr ⟨H1.out.1, ⟨n, rfl⟩, H1.out.2.1, H1.out.2.2⟩
set_option maxRecDepth 100000 in
set_option maxHeartbeats 400000 in
theorem MustReadVarUint32_rd (S : Rdr) (D F : Nat → Prop) (g : Nat) (pe : Addr) (bs : List UInt8) (w : World) (hS : RdS S D F g pe bs w) :
    Calls Tryz.prog 99 #[.iface S.T (.pointer (some ⟨g, 0, none⟩))] w fun e w' => MustPost S D F g pe w (readU 0 0 bs) (fun n => .int .u32 ((n % 4294967296 : Nat) : Int)) e w' := by
  have HC := Lib.hid (ReadVarUint32_rd S D F g pe bs w hS)
  clear hS
  go_enter Tryz.func99, Tryz.ntmps99
  go_wp2_with fail
  refine HC.out.mono ?_
  rintro e w1 (⟨n, rest, hr, rfl, h1, h2⟩ | ⟨hr, ⟨n, rfl⟩, h1, h2⟩)
  · have H1 := Lib.hid (And.intro hr (And.intro h1 h2))
    clear h1 h2 hr HC
    go_wp2
    go_ret
    exact .inl ⟨_, _, H1.out.1, rfl, H1.out.2.1, H1.out.2.2⟩
  · have H1 := Lib.hid (And.intro hr (And.intro h1 h2))
    clear h1 h2 hr HC
    go_wp2
    exact ⟨rfl, .inr ⟨H1.out.1, rfl, H1.out.2.1, H1.out.2.2⟩⟩
set_option maxRecDepth 100000 in
set_option maxHeartbeats 400000 in
theorem MustReadVarInt32_rd (S : Rdr) (D F : Nat → Prop) (g : Nat) (pe : Addr) (bs : List UInt8) (w : World) (hS : RdS S D F g pe bs w) :
    Calls Tryz.prog 97 #[.iface S.T (.pointer (some ⟨g, 0, none⟩))] w fun e w' => MustPost S D F g pe w (readS 0 0 bs) (fun n => .int .i32 (wrap32 n)) e w' := by
  have HC := Lib.hid (ReadVarInt32_rd S D F g pe bs w hS)
  clear hS
  go_enter Tryz.func97, Tryz.ntmps97
  go_wp2_with fail
  refine HC.out.mono ?_
  rintro e w1 (⟨n, rest, hr, rfl, h1, h2⟩ | ⟨hr, ⟨n, rfl⟩, h1, h2⟩)
  · have H1 := Lib.hid (And.intro hr (And.intro h1 h2))
    clear h1 h2 hr HC
    go_wp2
    go_ret
    exact .inl ⟨_, _, H1.out.1, rfl, H1.out.2.1, H1.out.2.2⟩
  · have H1 := Lib.hid (And.intro hr (And.intro h1 h2))
    clear h1 h2 hr HC
    go_wp2
    exact ⟨rfl, .inr ⟨H1.out.1, rfl, H1.out.2.1, H1.out.2.2⟩⟩
set_option maxRecDepth 100000 in
set_option maxHeartbeats 400000 in
theorem MustReadVarInt64_rd (S : Rdr) (D F : Nat → Prop) (g : Nat) (pe : Addr) (bs : List UInt8) (w : World) (hS : RdS S D F g pe bs w) :
    Calls Tryz.prog 98 #[.iface S.T (.pointer (some ⟨g, 0, none⟩))] w fun e w' => MustPost S D F g pe w (readS 0 0 bs) (fun n => .int .i64 n) e w' := by
  have HC := Lib.hid (ReadVarInt64_rd S D F g pe bs w hS)
  clear hS
  go_enter Tryz.func98, Tryz.ntmps98
  go_wp2_with fail
  refine HC.out.mono ?_
  rintro e w1 (⟨n, rest, hr, rfl, h1, h2⟩ | ⟨hr, ⟨n, rfl⟩, h1, h2⟩)
  · have H1 := Lib.hid (And.intro hr (And.intro h1 h2))
    clear h1 h2 hr HC
    go_wp2
    go_ret
    exact .inl ⟨_, _, H1.out.1, rfl, H1.out.2.1, H1.out.2.2⟩
  · have H1 := Lib.hid (And.intro hr (And.intro h1 h2))
    clear h1 h2 hr HC
    go_wp2
    exact ⟨rfl, .inr ⟨H1.out.1, rfl, H1.out.2.1, H1.out.2.2⟩⟩
end Go.Proofs.YtkbadfljmbeciaaGreatDoor
/- One byte, read through io.ReadFull. -/
namespace Go.Proofs.YtkbadfljmbeciaaGreatDoor
open Go.RowKit
def rdB : List UInt8 → Option (UInt8 × List UInt8)
  | [] => none
  | c :: r => some (c, r)
set_option maxRecDepth 100000 in
set_option maxHeartbeats 1000000 in
theorem ReadAtLeast_rd (S : Rdr) (D F : Nat → Prop) (g b : Nat) (pe : Addr) (bs : List UInt8) (x : Value) (w : World) (hS : RdS S D F g pe bs w) (hB : Blk w b #[x] 5) (hF : ¬ F b) (hD : ¬ D b) (hb : b ≠ eofAt.block) :
    Calls Tryz.prog 105 #[.iface S.T (.pointer (some ⟨g, 0, none⟩)), .slice (some ⟨b, 0, none⟩) 1 1, .int .i64 1] w fun e w' =>
      (∃ c r, bs = c :: r ∧ e = .returned (.tuple #[.int .i64 1, .nilIface]) ∧ RdS S D F g pe r w' ∧ Blk w' b #[.int .u8 (c.toNat : Int)] 5 ∧ Fr (fun k => F k ∨ k = b) w w') ∨
      (bs = [] ∧ e = .returned (.tuple #[.int .i64 0, eofV pe]) ∧ RdS S D F g pe [] w' ∧ Blk w' b #[x] 5 ∧ Fr (fun k => F k ∨ k = b) w w') := by
  have hna := S.nil g
  have hme := S.meth g
  have hcf := S.call
  have hmf : ∀ (fn : Fn) (first cap : Array Value) (w : World), (Instr.makeFunc fn first cap).run Tryz.prog w = .ok (.func fn first cap) w := fun _ _ _ _ => rfl
  have H := Lib.hid (And.intro hS (And.intro hB (And.intro hF (And.intro hD hb))))
  clear hS hB hF hD hb
  go_enter Tryz.func105, Tryz.ntmps105
  go_wp2_with fail
  go_loopw [6, 7, 8] (fun s6 s7 s8 w' => (s6 = .int .i64 0 ∧ s7 = .nilIface ∧ w' = w) ∨ (s6 = .int .i64 1 ∧ s7 = .nilIface ∧ Hid (∃ c r, bs = c :: r ∧ RdS S D F g pe r w' ∧ Blk w' b #[.int .u8 (c.toNat : Int)] 5 ∧ Fr (fun k => F k ∨ k = b) w w')) ∨ (s6 = .int .i64 0 ∧ s7 = eofV pe ∧ Hid (bs = [] ∧ RdS S D F g pe [] w' ∧ Blk w' b #[x] 5 ∧ Fr (fun k => F k ∨ k = b) w w'))) (fun s6 s7 _ _ => match s7 with | .nilIface => 1 - (intOf s6).toNat | _ => 0)
  case atStart => exact .inl ⟨rfl, rfl, rfl⟩
  case round =>
    rcases hrel with ⟨rfl, rfl, rfl⟩ | ⟨rfl, rfl, hr⟩ | ⟨rfl, rfl, hr⟩
    · go_wp2_with fail
      refine region_items (frFrm (fun k => F k ∨ k = b)) [(0, .take), (1, .take), (2, .take), (3, .take), (4, .take), (5, .take), (6, .take), (7, .run), (8, .take), (9, .take), (10, .take), (11, .take), (12, .take)] (by kernel_rfl) (by kernel_rfl) ?_
      simp only [itemsOf, List.getD_cons_zero, List.getD_cons_succ]
      have hx := ext_drew wr
      have hSd := H.out.1.ext hx
      have hBd := H.out.2.1.ext hx
      have Hd := Lib.hid (And.intro hSd (And.intro hBd hx))
      clear hSd hBd hx
      generalize wr.drew = W1 at *
      repeat (apply item_take; rfl; rfl; rfl; rfl; exact fun _ _ _ _ h => h; (intro W hE K hK; go_simp; exact hK))
      apply item_run; rfl; intro K hK; go_simp
      cases bs with
      | nil =>
        refine (S.eof D F g _ (eofV pe) W1 Hd.out.1.is Hd.out.1.cell).mono ?_
        rintro e w2 ⟨rfl, hI2, hF2⟩
        refine hK _ _ (hF2.mono (fun _ _ h => .inl h)) ?_
        have hfin : Hid (([] : List UInt8) = [] ∧ RdS S D F g pe [] w2 ∧ Blk w2 b #[x] 5 ∧ Fr (fun k => F k ∨ k = b) wr w2) := ⟨rfl, Hd.out.1.step hI2 hF2 Hd.out.1.nf (Nat.le_refl _), Hd.out.2.1.fr hF2 H.out.2.2.1, (Ext.fr Hd.out.2.2 hF2).mono (fun _ _ h => .inl h)⟩
        clear hK K hI2 hF2
        repeat (apply item_take; rfl; rfl; rfl; rfl; exact fun _ _ _ _ h => h; (intro W hE K hK; go_simp; exact hK))
        apply items_done
        go_wp2
        go_roundw
        case rel => exact .inr (.inr ⟨rfl, rfl, trivial, hfin.out.2⟩)
        case measure => show (0 : Nat) < 1; omega
      | cons c r =>
        refine (S.read D F g b 0 1 1 (c :: r) #[x] 5 _ Hd.out.1.is Hd.out.2.1 (by simp) (by omega) (by decide) H.out.2.2.1 H.out.2.2.2.1 (by omega) (by simp)).mono ?_
        rintro e w2 ⟨q, hq0, hq1, -, rfl, hI2, hF2, hB2⟩
        obtain rfl : q = 1 := by omega
        refine hK _ _ hF2 ?_
        have hfin : Hid (∃ c' r', c :: r = c' :: r' ∧ RdS S D F g pe r' w2 ∧ Blk w2 b #[.int .u8 (c'.toNat : Int)] 5 ∧ Fr (fun k => F k ∨ k = b) wr w2) := ⟨c, r, rfl, Hd.out.1.step hI2 hF2 (fun e => e.elim Hd.out.1.nf (fun e => H.out.2.2.2.2 e.symm)) (by simp), hB2, Ext.fr Hd.out.2.2 hF2⟩
        clear hK K hI2 hF2 hB2 hq0 hq1
        repeat (apply item_take; rfl; rfl; rfl; rfl; exact fun _ _ _ _ h => h; (intro W hE K hK; go_simp; exact hK))
        apply items_done
        go_wp2
        go_roundw
        case rel => exact .inr (.inl ⟨rfl, rfl, hfin⟩)
        case measure => decide
    · go_wp2
      go_ret2
      obtain ⟨c, r, h1, h2⟩ := hr.out
      exact .inl ⟨c, r, h1, rfl, h2⟩
    · go_wp2
      go_ret2
      exact .inr ⟨hr.out.1, rfl, hr.out.2⟩
set_option maxRecDepth 100000 in
set_option maxHeartbeats 1000000 in
theorem ReadFull_rd (S : Rdr) (D F : Nat → Prop) (g b : Nat) (pe : Addr) (bs : List UInt8) (x : Value) (w : World) (hS : RdS S D F g pe bs w) (hB : Blk w b #[x] 5) (hF : ¬ F b) (hD : ¬ D b) (hb : b ≠ eofAt.block) :
    Calls Tryz.prog 102 #[.iface S.T (.pointer (some ⟨g, 0, none⟩)), .slice (some ⟨b, 0, none⟩) 1 1] w fun e w' =>
      (∃ c r, bs = c :: r ∧ e = .returned (.tuple #[.int .i64 1, .nilIface]) ∧ RdS S D F g pe r w' ∧ Blk w' b #[.int .u8 (c.toNat : Int)] 5 ∧ Fr (fun k => F k ∨ k = b) w w') ∨
      (bs = [] ∧ e = .returned (.tuple #[.int .i64 0, eofV pe]) ∧ RdS S D F g pe [] w' ∧ Blk w' b #[x] 5 ∧ Fr (fun k => F k ∨ k = b) w w') := by
  have HC := Lib.hid (ReadAtLeast_rd S D F g b pe bs x w hS hB hF hD hb)
  clear hS hB hF hD hb
  go_enter Tryz.func102, Tryz.ntmps102
  go_wp2_with fail
  refine HC.out.mono ?_
  rintro e w1 (⟨c, r, h1, rfl, h2⟩ | ⟨h1, rfl, h2⟩)
  · have H2 := Lib.hid h2
    have h1 := Lib.hid h1
    clear h2 HC
    go_wp2
    go_ret2
    exact .inl ⟨c, r, h1.out, rfl, H2.out⟩
  · have H2 := Lib.hid h2
    have h1 := Lib.hid h1
    clear h2 HC
    go_wp2
    go_ret2
    exact .inr ⟨h1.out, rfl, H2.out⟩
set_option maxRecDepth 100000 in
set_option maxHeartbeats 1000000 in
theorem readByte_rd (S : Rdr) (D F : Nat → Prop) (g : Nat) (pe : Addr) (bs : List UInt8) (w : World) (hS : RdS S D F g pe bs w) :
    Calls Tryz.prog 96 #[.iface S.T (.pointer (some ⟨g, 0, none⟩))] w fun e w' => NumPost S D F g pe w (rdB bs) (fun c => .int .u8 (c.toNat : Int)) e w' := by
  have hmk := make1
  have hlt := S.lt hS.is
  have hel := cell_lt hS.cell
  have HC := Lib.hid (ReadFull_rd S D F g w.heap.size pe bs (.int .u8 0) (w.alloc (.cells #[.int .u8 0] 5)) (hS.ext (ext_alloc w _)) (blk_new w _ _) (fun h => by have := hlt.2.1 _ h; omega) (fun h => by have := (hlt.2.2 _ h).1; omega) (by omega))
  clear hS hlt hel
  go_enter Tryz.func96, Tryz.ntmps96
  go_wp2_with fail
  refine HC.out.mono ?_
  rintro e w1 (⟨c, r, rfl, rfl, h2, h3, h4⟩ | ⟨rfl, rfl, h2, h3, h4⟩)
  · have hc := h3.cell
    have H2 := Lib.hid (And.intro h2 (show Fr F w w1 from (Ext.fr (ext_alloc w _) h4).mono (fun k hk h => h.elim id (fun h => by omega))))
    have ht := c.toNat_lt
    clear h2 h3 h4 HC
    go_wp2
    go_ret2
    exact .inl ⟨c, r, rfl, rfl, H2.out.1, H2.out.2⟩
  · have hc := h3.cell
    have H2 := Lib.hid (And.intro h2 (show Fr F w w1 from (Ext.fr (ext_alloc w _) h4).mono (fun k hk h => h.elim id (fun h => by omega))))
    clear h2 h3 h4 HC
    go_wp2
    go_ret2
    exact .inr ⟨rfl, ⟨0, rfl⟩, H2.out.1, H2.out.2⟩
set_option maxRecDepth 100000 in
set_option maxHeartbeats 400000 in
theorem mustReadByte_rd (S : Rdr) (D F : Nat → Prop) (g : Nat) (pe : Addr) (bs : List UInt8) (w : World) (hS : RdS S D F g pe bs w) :
    Calls Tryz.prog 100 #[.iface S.T (.pointer (some ⟨g, 0, none⟩))] w fun e w' => MustPost S D F g pe w (rdB bs) (fun c => .int .u8 (c.toNat : Int)) e w' := by
  have HC := Lib.hid (readByte_rd S D F g pe bs w hS)
  clear hS
  go_enter Tryz.func100, Tryz.ntmps100
  go_wp2_with fail
  refine HC.out.mono ?_
  rintro e w1 (⟨n, rest, hr, rfl, h1, h2⟩ | ⟨hr, ⟨n, rfl⟩, h1, h2⟩)
  · have H1 := Lib.hid (And.intro hr (And.intro h1 h2))
    clear h1 h2 hr HC
    go_wp2
    go_ret
    exact .inl ⟨_, _, H1.out.1, rfl, H1.out.2.1, H1.out.2.2⟩
  · have H1 := Lib.hid (And.intro hr (And.intro h1 h2))
    clear h1 h2 hr HC
    go_wp2
    exact ⟨rfl, .inr ⟨H1.out.1, rfl, H1.out.2.1, H1.out.2.2⟩⟩
end Go.Proofs.YtkbadfljmbeciaaGreatDoor
