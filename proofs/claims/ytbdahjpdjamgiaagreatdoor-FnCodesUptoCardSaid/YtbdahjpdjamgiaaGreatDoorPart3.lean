/- Texts of this proof, one behind the other. -/
import Derived.Test.YtbdahjpdjamgiaaGreatDoorPart2
import Derived.ProofKit
import Derived.OpenShut
import Derived.Carry
import Derived.WalkKit
import Derived.Lib.Strings
import Derived.Test.YtbdahjpdjamgiaaGreatDoorProg
import Derived.KernelRfl
/- From a walk to the row of a law: 'true, and each argument reads as it did'. No program here. -/
namespace Go.Proofs.YtbdahjpdjamgiaaGreatDoor
open Go.ChangeShapes Go.WideShapes Go.ChangeAt Go.RowKit
theorem trodAll_stays {H : Type} {enc : TypeId × Value → H} {P : Program} (hl : laidOutB P = true) {W W' : World} (hb : Below W.heap.size W W') :
    ∀ (ts : List TypeId) (vs : List Value) (ds : List (DataW H)) (ps : List MemPlace), (∀ t ∈ ts, P.readableRec t = true ∧ t < P.types.size) →
      DataW.TrodAll enc P W 0 (fun _ => true) true ts vs ds ps → (∀ x ∈ ps, x.block < W.heap.size) → DataW.TrodAll enc P W' 0 (fun b => decide (b < W.heap.size)) true ts vs ds ps
  | [], [], [], _, _, h, _ => h
  | t :: ts, v :: vs, d :: ds, _, ht, h, hlt => by
    obtain ⟨p, q, h1, h2, rfl⟩ := h
    refine ⟨p, q, Below.trod hl (ht t List.mem_cons_self).1 (ht t List.mem_cons_self).2 h1 hb (fun x hx => hlt x (List.mem_append_left _ hx)),
      trodAll_stays hl hb ts vs ds q (fun t h => ht t (List.mem_cons_of_mem _ h)) h2 (fun x hx => hlt x (List.mem_append_right _ hx)), rfl⟩
  | [], _ :: _, _, _, _, h, _ => h.elim
  | [], [], _ :: _, _, _, h, _ => h.elim
  | _ :: _, [], _, _, _, h, _ => h.elim
  | _ :: _, _ :: _, [], _, _, h, _ => h.elim
theorem post_true {H : Type} {enc : TypeId × Value → H} {P : Program} {f : Func} {s : ChangeSpec} {W W' : World} {args : Array Value} {ds : List (DataW H)} {before : List MemPlace}
    (hl : laidOutB P = true) (hts : ∀ t ∈ f.params.toList, P.readableRec t = true ∧ t < P.types.size) (hvars : s.vars = []) (hfn : s.fn H (ds ++ []) = { results := [.lit (.bool true)], args := ds })
    (tb : TypeId) (hres : f.resultTypes = #[tb]) (hb : P.underlying tb = some .bool) (hW : DataW.Whole enc P f.params.toList s.vars false W args.toList ds [] before) (hx : Ext W W') :
    s.post enc P f false true false false W args (.bool true) W' := by
  have hW' := hW
  obtain ⟨p, q, hA, hV, rfl, hfz, hnd⟩ := hW
  rw [hvars] at hV
  have hq : q = [] := hV
  subst hq
  have hlt := fun x hx => hW'.lt x hx
  rw [List.append_nil] at hlt
  refine ⟨ds, [], p ++ [], [], p, [], hW', ?_, ?_, ?_, hx.below.frame _, fun h => by cases h⟩
  · rw [hfn, hres]
    exact trodAll_cons_mk (shut_bool hb _) trodAll_mk0
  · rw [hfn]
    exact trodAll_stays hl hx.below _ _ _ _ hts hA hlt
  · rw [hvars]
    rw [hfn]
    exact rfl
end Go.Proofs.YtbdahjpdjamgiaaGreatDoor
/- Plain facts on numbers, bits and LEB128: no program, no memory. -/
namespace Go.Proofs.YtbdahjpdjamgiaaGreatDoor

/-- The unsigned form of LEB128. -/
def uleb (n : Nat) : List UInt8 :=
  if n < 128 then [UInt8.ofNat n] else UInt8.ofNat (n % 128 + 128) :: uleb (n / 128)
termination_by n
decreasing_by omega

/-- The signed form of LEB128. -/
def sleb (i : Int) : List UInt8 :=
  if -64 ≤ i ∧ i < 64 then [UInt8.ofNat (i % 128).toNat] else UInt8.ofNat ((i % 128).toNat + 128) :: sleb (i / 128)
termination_by i.natAbs
decreasing_by omega

theorem uleb_small {n : Nat} (h : n < 128) : uleb n = [UInt8.ofNat n] := by rw [uleb, if_pos h]
theorem uleb_big {n : Nat} (h : 128 ≤ n) : uleb n = UInt8.ofNat (n % 128 + 128) :: uleb (n / 128) := by rw [uleb, if_neg (by omega)]
theorem sleb_small {i : Int} (h : -64 ≤ i ∧ i < 64) : sleb i = [UInt8.ofNat (i % 128).toNat] := by rw [sleb, if_pos h]
theorem sleb_big {i : Int} (h : ¬ (-64 ≤ i ∧ i < 64)) : sleb i = UInt8.ofNat ((i % 128).toNat + 128) :: sleb (i / 128) := by rw [sleb, if_neg h]

theorem uleb_len : ∀ (k n : Nat), n < 128 ^ (k + 1) → (uleb n).length ≤ k + 1
  | 0, n, h => by rw [uleb_small (by omega)]; simp
  | k + 1, n, h => by
    by_cases hn : n < 128
    · rw [uleb_small hn]; simp
    · rw [uleb_big (by omega), List.length_cons]
      have := uleb_len k (n / 128) (by rw [Nat.pow_succ] at h; omega)
      omega
theorem uleb_len64 (n : Nat) (h : n < 18446744073709551616) : (uleb n).length ≤ 10 := uleb_len 9 n (by omega)
theorem sleb_len : ∀ (k : Nat) (i : Int), -64 * 128 ^ k ≤ i → i < 64 * 128 ^ k → (sleb i).length ≤ k + 1
  | 0, i, h, h' => by rw [sleb_small (by omega)]; simp
  | k + 1, i, h, h' => by
    by_cases hn : -64 ≤ i ∧ i < 64
    · rw [sleb_small hn]; simp
    · rw [sleb_big hn, List.length_cons]
      have ih := sleb_len k (i / 128)
      rw [Int.pow_succ] at h h'
      generalize (128 : Int) ^ k = q at h h' ih
      have := ih (by omega) (by omega)
      omega
theorem sleb_len64 (i : Int) (h : -9223372036854775808 ≤ i) (h' : i ≤ 9223372036854775807) : (sleb i).length ≤ 10 := sleb_len 9 i (by omega) (by omega)

theorem u64_and127 (x : Int) (h0 : 0 ≤ x) (h1 : x < 18446744073709551616) : bits .and .u64 x 127 = x % 128 := by
  obtain ⟨a, rfl⟩ := Int.eq_ofNat_of_zero_le h0
  rw [show (127 : Int) = ((127 : Nat) : Int) from rfl, u64_and_nat a 127 (by omega) (by omega), nat_mask7]
  omega
theorem u64_and128 (x : Int) (h0 : 0 ≤ x) (h1 : x < 256) : bits .and .u64 x 128 = if x < 128 then 0 else 128 := by
  obtain ⟨a, rfl⟩ := Int.eq_ofNat_of_zero_le h0
  rw [show (128 : Int) = ((128 : Nat) : Int) from rfl, u64_and_nat a 128 (by omega) (by omega), show (128 : Nat) = 2 ^ 7 from rfl, nat_bit 7 a]
  split <;> omega
theorem u8_and128 (x : Int) (h0 : 0 ≤ x) (h1 : x < 256) : bits .and .u8 x 128 = if x < 128 then 0 else 128 := by
  obtain ⟨a, rfl⟩ := Int.eq_ofNat_of_zero_le h0
  rw [show (128 : Int) = ((128 : Nat) : Int) from rfl, u8_and_nat a 128 (by omega) (by omega), show (128 : Nat) = 2 ^ 7 from rfl, nat_bit 7 a]
  split <;> omega
theorem u8_and127 (x : Int) (h0 : 0 ≤ x) (h1 : x < 256) : bits .and .u8 x 127 = x % 128 := by
  obtain ⟨a, rfl⟩ := Int.eq_ofNat_of_zero_le h0
  rw [show (127 : Int) = ((127 : Nat) : Int) from rfl, u8_and_nat a 127 (by omega) (by omega), nat_mask7]
  omega
theorem u8_or128_low (x : Int) (h0 : 0 ≤ x) (h1 : x < 256) : bits .or .u8 x 128 = x % 128 + 128 := by
  obtain ⟨a, rfl⟩ := Int.eq_ofNat_of_zero_le h0
  rw [show (128 : Int) = ((128 : Nat) : Int) from rfl, u8_or_nat a 128 (by omega) (by omega)]
  have h : a ||| 128 = a % 128 + 128 := by
    have : ∀ b : Fin 256, b.val ||| 128 = b.val % 128 + 128 := by decide +kernel
    exact this ⟨a, by omega⟩
  omega
theorem ofInt64_toNat (x : Int) : ((BitVec.ofInt 64 x).toNat : Int) = x % 18446744073709551616 := by
  rw [BitVec.toNat_ofInt]
  omega
theorem i64_and_small (x : Int) (m : Nat) (hm : m < 128) : bits .and .i64 x (m : Int) = (((x % 128).toNat &&& m : Nat) : Int) := by
  show IntKind.i64.wrap ((BitVec.ofInt 64 x &&& BitVec.ofInt 64 (m : Int)).toNat : Int) = _
  rw [BitVec.toNat_and]
  have hx := ofInt64_toNat x
  have hmm := ofInt64_toNat (m : Int)
  generalize (BitVec.ofInt 64 x).toNat = a at *
  generalize (BitVec.ofInt 64 (m : Int)).toNat = b at *
  obtain rfl : b = m := by omega
  have h1 : a &&& b = (a % 128) &&& b := by
    have hb : b = b &&& 127 := by rw [nat_mask7]; omega
    rw [← nat_mask7 a, Nat.and_assoc, Nat.and_comm 127 b, ← hb]
  have h2 : a % 128 = (x % 128).toNat := by omega
  rw [h1, h2]
  have h3 : (x % 128).toNat &&& b ≤ b := Nat.and_le_right
  generalize (x % 128).toNat &&& b = c at *
  rw [IntKind.wrap_i64]
  omega
theorem i64_and127 (x : Int) : bits .and .i64 x 127 = x % 128 := by
  have h := i64_and_small x 127 (by omega)
  rw [show ((127 : Nat) : Int) = 127 from rfl, nat_mask7] at h
  omega
theorem i64_and64 (x : Int) : bits .and .i64 x 64 = if x % 128 < 64 then 0 else 64 := by
  have h := i64_and_small x 64 (by omega)
  rw [show ((64 : Nat) : Int) = 64 from rfl] at h
  have h2 := nat_bit 6 (x % 128).toNat
  rw [show (2 : Nat) ^ 6 = 64 from rfl] at h2
  rw [h2] at h
  split <;> omega

end Go.Proofs.YtbdahjpdjamgiaaGreatDoor
/- Rows of bytes. -/
namespace Go.Proofs.YtbdahjpdjamgiaaGreatDoor
open Go.RowKit
theorem infoB : (Tryz.prog.info? 5).map (fun i => (i.zero, i.size, i.bytes)) = some (some (.int .u8 0), Lay.u8.size, 1) := by kernel_rfl
/-- A byte's row that the call owns. -/
abbrev OwnB (lo : Nat) (w : World) (v : Value) (xs : List UInt8) : Prop := Own Lay.u8 5 lo w v xs

/-- append(v, one byte): behind 'at_builtin'. -/
theorem appB {ops : Array Oper} {rest : List Oper} {o : Oper} {a : Act} {Q : Exit → Act → World → Prop} {W : World} (lo : Nat) (hgd : o.guard = none) (s x : Operand)
    (ho : o.op = .call { callee := .builtin .append, args := #[s, x], argTypes := #[43, 43] })
    (v : Value) (xs : List UInt8) (y : UInt8) (c : Int) (hc : c = (y.toNat : Int)) (hs : a.eval s = v) (hx : a.eval x = .slice (some ⟨W.heap.size, 0, none⟩) 1 1)
    (HO : OwnB lo W v xs) (hlo : lo ≤ W.heap.size) (hl : xs.length + 1 ≤ 140737488355328)
    (h : ∀ v1 w1, OwnB lo w1 v1 (xs ++ [y]) → Fr (fun k => some k = v.ownBlock) W w1 → (∀ k, v1.ownBlock = some k → v.ownBlock = some k ∨ W.heap.size ≤ k) → wpList Tryz.prog ops Q rest (a.put o.dst v1) w1) :
    wpList Tryz.prog ops Q (o :: rest) a (W.alloc (.cells #[.int .u8 c] 5)) := by
  subst hc
  exact own_append1 Lay.u8 lo hgd s x _ _ (.int .u8 0) 1 ho Tryz.underlying43 infoB rfl (by omega) (by decide) v xs y _ hs hx HO rfl hlo (by omega) h

theorem fr_row {w wr w1 : World} {v s0 : Value} (hb : Fr (fun k => some k = v.ownBlock) w wr) (h2 : Fr (fun k => some k = s0.ownBlock) wr w1) (hk : ∀ k, s0.ownBlock = some k → v.ownBlock = some k ∨ w.heap.size ≤ k) : Fr (fun k => some k = v.ownBlock) w w1 :=
  hb.trans h2 (fun _ _ h => h) (fun k hk' hs => by
    rcases hk k hs.symm with h | h
    · exact h.symm
    · omega)
theorem row_row {S : Nat → Prop} {w wr : World} {v s0 v1 : Value} (hb : Fr S w wr) (hk : ∀ k, s0.ownBlock = some k → v.ownBlock = some k ∨ w.heap.size ≤ k) (h3 : ∀ k, v1.ownBlock = some k → s0.ownBlock = some k ∨ wr.heap.size ≤ k) : ∀ k, v1.ownBlock = some k → v.ownBlock = some k ∨ w.heap.size ≤ k := fun k hk' => by
  rcases h3 k hk' with h | h
  · exact hk k h
  · have := hb.size
    exact .inr (by omega)
theorem byte_low (x : Nat) : ((x : Int) % 128) = ((UInt8.ofNat (x % 128)).toNat : Int) := by
  rw [UInt8.toNat_ofNat']
  omega
theorem byte_high (x : Nat) : ((x : Int) % 128 + 128) = ((UInt8.ofNat (x % 128 + 128)).toNat : Int) := by
  rw [UInt8.toNat_ofNat']
  omega

end Go.Proofs.YtbdahjpdjamgiaaGreatDoor
/- spec.AppendUnsigned. -/
namespace Go.Proofs.YtbdahjpdjamgiaaGreatDoor
open Go.RowKit
set_option maxRecDepth 100000 in
set_option maxHeartbeats 400000 in
theorem specAppendUnsigned_calls (n : Nat) (hv : n < 18446744073709551616) (lo : Nat) (v : Value) (bs : List UInt8) (w : World) (hO : OwnB lo w v bs) (hlo : lo ≤ w.heap.size) (hl : bs.length + 10 ≤ 140737488355328) :
    Calls Tryz.prog 15 #[v, .int .u64 n] w fun e w' => ∃ v1, e = .returned v1 ∧ OwnB lo w' v1 (bs ++ uleb n) ∧ Fr (fun k => some k = v.ownBlock) w w' ∧ (∀ k, v1.ownBlock = some k → v.ownBlock = some k ∨ w.heap.size ≤ k) := by
  have hul := uleb_len64 n hv
  have hul := Lib.hid hul
  have hO := Lib.hid hO
  have hlo := Lib.hid hlo
  have hl := Lib.hid hl
  go_enter Tryz.func15, Tryz.ntmps15
  go_wp2_with fail
  go_loopw [0, 1] (fun s0 s1 w' => ∃ (x : Nat) (pre : List UInt8), s1 = .int .u64 x ∧ Hid (pre ++ uleb x = uleb n) ∧ Hid (x ≤ n) ∧ Hid (OwnB lo w' s0 (bs ++ pre)) ∧ Hid (Fr (fun k => some k = v.ownBlock) w w') ∧ Hid (∀ k, s0.ownBlock = some k → v.ownBlock = some k ∨ w.heap.size ≤ k)) (fun _ s1 _ => (intOf s1).toNat)
  case atStart => exact ⟨n, [], rfl, rfl, Nat.le_refl _, (by rw [List.append_nil]; exact hO.out), Fr.refl _ _, fun k h => .inl h⟩
  case round =>
    obtain ⟨x, pre, rfl, hp, hx, hown, hb, hk⟩ := hrel
    have hxn : x < 18446744073709551616 := Nat.lt_of_le_of_lt hx.out hv
    have hloW : Hid (lo ≤ wr.heap.size) := Nat.le_trans hlo.out hb.out.size
    have hlW : Hid ((bs ++ pre).length + 1 ≤ 140737488355328) := by
      have h1 := congrArg List.length hp.out
      rw [List.length_append] at h1
      have h2 : 0 < (uleb x).length := by rw [uleb]; split <;> simp
      have h3 := hul.out
      have h4 := hl.out
      show _ ≤ _
      rw [List.length_append]
      omega
    by_cases hc : x < 128
    · have hc1 : decide (128 ≤ (x : Int)) = false := by rw [decide_eq_false_iff_not]; omega
      have hlow : Hid ((x : Int) = ((UInt8.ofNat x).toNat : Int)) := by show _ = _; rw [UInt8.toNat_ofNat']; omega
      go_wp2_with (at_builtin; refine Hid.out ?_)
      refine appB lo rfl (.tmp 15) (.tmp 18) rfl _ (bs ++ pre) (UInt8.ofNat x) _ hlow.out rfl rfl hown.out hloW.out hlW.out ?_
      intro v1 w1 h1 h2 h3
      have H := Lib.hid (And.intro h1 (And.intro h2 h3))
      clear h1 h2 h3
      go_wp2
      go_ret
      obtain ⟨h1, h2, h3⟩ := H.out
      exact ⟨_, rfl, by rw [← hp.out, uleb_small hc, ← List.append_assoc]; exact h1, fr_row hb.out h2 hk.out, row_row hb.out hk.out h3⟩
    · have hc1 : decide (128 ≤ (x : Int)) = true := by rw [decide_eq_true_eq]; omega
      have e2 : bits .or .u8 ((x : Int) % 256) 128 = (x : Int) % 128 + 128 := by rw [u8_or128_low _ (by omega) (by omega)]; omega
      go_wp2_with (at_builtin; refine Hid.out ?_)
      refine appB lo rfl (.tmp 7) (.tmp 11) rfl _ (bs ++ pre) (UInt8.ofNat (x % 128 + 128)) _ (byte_high x) rfl rfl hown.out hloW.out hlW.out ?_
      intro v1 w1 h1 h2 h3
      have H := Lib.hid (And.intro h1 (And.intro h2 h3))
      clear h1 h2 h3
      go_wp2
      go_roundw
      case rel =>
        obtain ⟨h1, h2, h3⟩ := H.out
        refine ⟨x / 128, pre ++ [UInt8.ofNat (x % 128 + 128)], by go_num, ?_, ?_, ?_, fr_row hb.out h2 hk.out, row_row hb.out hk.out h3⟩
        · show _ = _
          rw [← hp.out, uleb_big (n := x) (by omega), List.append_assoc, List.singleton_append]
        · have := hx.out
          show _ ≤ _
          omega
        · rw [← List.append_assoc]; exact h1
      case measure => simp [intOf]; omega
end Go.Proofs.YtbdahjpdjamgiaaGreatDoor
/- Objects that hold bytes. -/
namespace Go.Proofs.YtbdahjpdjamgiaaGreatDoor
open Go.RowKit

/-- The block g and the array that its first cell leads to. -/
def foot1 (w : World) (g : Nat) : Nat → Prop := fun k => k = g ∨ ∃ v, w.cell? ⟨g, 0, none⟩ = some v ∧ v.ownBlock = some k

/-- An object that holds bytes, and the blocks that are its own. -/
structure Hold where
  is : Nat → Nat → List UInt8 → World → Prop
  foot : World → Nat → Nat → Prop
  lt : ∀ {lo g bs w}, is lo g bs w → ∀ k, foot w g k → lo ≤ k ∧ k < w.heap.size
  frame : ∀ {lo g bs w w' S}, is lo g bs w → Fr S w w' → (∀ k, foot w g k → ¬ S k) → is lo g bs w' ∧ ∀ k, foot w' g k ↔ foot w g k
/-- What a write leaves. -/
structure Wrote (S : Hold) (lo g : Nat) (w : World) (bs : List UInt8) (w' : World) : Prop where
  is : S.is lo g bs w'
  fr : Fr (S.foot w g) w w'
  foot : ∀ k, S.foot w' g k → S.foot w g k ∨ w.heap.size ≤ k
theorem Wrote.trans {S : Hold} {lo g : Nat} {w w1 w2 : World} {bs bs' : List UInt8} (h : Wrote S lo g w bs w1) (k : Wrote S lo g w1 bs' w2) : Wrote S lo g w bs' w2 :=
  ⟨k.is, h.fr.trans k.fr (fun _ _ h => h) (fun i hi hs => by
    rcases h.foot i hs with h' | h'
    · exact h'
    · omega), fun i hi => by
    rcases k.foot i hi with h' | h'
    · exact h.foot i h'
    · have := h.fr.size
      exact .inr (by omega)⟩
theorem Wrote.refl {S : Hold} {lo g : Nat} {w : World} {bs : List UInt8} (h : S.is lo g bs w) : Wrote S lo g w bs w := ⟨h, Fr.refl _ _, fun _ h => .inl h⟩
/-- Something new is made first. -/
theorem Wrote.after {S : Hold} {lo g : Nat} {w w1 w2 : World} {bs bs' : List UInt8} (h : S.is lo g bs w) (hx : Ext w w1) (k : Wrote S lo g w1 bs' w2) : Wrote S lo g w bs' w2 :=
  Wrote.trans ⟨(S.frame h hx (fun _ _ h => h)).1, hx.to, fun i hi => .inl (((S.frame h hx (fun _ _ h => h)).2 i).1 hi)⟩ k
theorem Wrote.ext {S : Hold} {lo g : Nat} {w w1 w2 : World} {bs : List UInt8} (h : Wrote S lo g w bs w1) (hx : Ext w1 w2) : Wrote S lo g w bs w2 :=
  h.trans ⟨(S.frame h.is hx (fun _ _ h => h)).1, hx.to, fun i hi => .inl (((S.frame h.is hx (fun _ _ h => h)).2 i).1 hi)⟩
/-- All that lies below lo stands. -/
theorem Wrote.below {S : Hold} {lo g : Nat} {w w' : World} {bs0 bs : List UInt8} (h : S.is lo g bs0 w) (hw : Wrote S lo g w bs w') : Fr (fun k => lo ≤ k) w w' := hw.fr.mono fun k _ hk => (S.lt h k hk).1

/-! ### A block of one cell that leads to bytes -/
def IsB (T : TypeId) (lo g : Nat) (bs : List UInt8) (w : World) : Prop := lo ≤ g ∧ ∃ v, Blk w g #[v] T ∧ OwnB lo w v bs ∧ v.ownBlock ≠ some g
theorem IsB.lt {T : TypeId} {lo g : Nat} {bs : List UInt8} {w : World} (h : IsB T lo g bs w) : ∀ k, foot1 w g k → lo ≤ k ∧ k < w.heap.size := by
  obtain ⟨hg, v, hb, ho, hne⟩ := h
  rintro k (rfl | ⟨v', hc, hk⟩)
  · exact ⟨hg, hb.lt⟩
  · rw [hb.cell 0] at hc
    simp only [List.getElem?_toArray, List.getElem?_cons_zero, Option.some.injEq] at hc
    subst hc
    exact ho.lt k hk
theorem IsB.frame {T : TypeId} {lo g : Nat} {bs : List UInt8} {w w' : World} {S : Nat → Prop} (h : IsB T lo g bs w) (hf : Fr S w w') (hs : ∀ k, foot1 w g k → ¬ S k) : IsB T lo g bs w' ∧ ∀ k, foot1 w' g k ↔ foot1 w g k := by
  have hlt := h.lt
  obtain ⟨hg, v, hb, ho, hne⟩ := h
  have hc0 : w.cell? ⟨g, 0, none⟩ = some v := hb.cell 0
  have hb' := hb.fr hf (hs g (.inl rfl))
  have hc1 : w'.cell? ⟨g, 0, none⟩ = some v := hb'.cell 0
  refine ⟨⟨hg, v, hb', ?_, hne⟩, fun k => ?_⟩
  · exact Own.only Lay.flat_u8 ho hf (fun k hk => hs k (.inr ⟨v, hc0, hk⟩))
  · unfold foot1
    rw [hc0, hc1]
def holdB (T : TypeId) : Hold := ⟨IsB T, foot1, IsB.lt, IsB.frame⟩
theorem isB_new (T : TypeId) (w : World) : IsB T w.heap.size w.heap.size [] (w.alloc (.cells #[.slice none 0 0] T)) :=
  ⟨Nat.le_refl _, .slice none 0 0, blk_new w _ _, own_nil _ _ _ _, by simp [Value.ownBlock]⟩
/-- What was written to one of the call's own, read back off its one field. -/
theorem wrote_new {T : TypeId} {w w1 : World} {bs : List UInt8} (h : Wrote (holdB T) w.heap.size w.heap.size (w.alloc (.cells #[.slice none 0 0] T)) bs w1) :
    ∃ v, w1.cell? ⟨w.heap.size, 0, none⟩ = some v ∧ OwnB w.heap.size w1 v bs ∧ Ext w w1 := by
  obtain ⟨⟨hg, v, hb, ho, hne⟩, hf, -⟩ := h
  refine ⟨v, hb.cell 0, ho, Ext.fr (ext_alloc w _) hf |>.mono fun k hk hs => ?_⟩
  rcases hs with rfl | ⟨v', hc, hk'⟩
  · omega
  · rw [(blk_new w _ _).cell 0] at hc
    simp at hc
    subst hc
    simp [Value.ownBlock] at hk'
theorem isB_at (T : TypeId) (w : World) (n : Nat) (hn : w.heap.size = n) : (holdB T).is n n [] (w.alloc (.cells #[.slice none 0 0] T)) := by subst hn; exact isB_new T w
theorem wrote_at {T : TypeId} {w w1 : World} {bs : List UInt8} {n : Nat} (hn : w.heap.size = n) (h : Wrote (holdB T) n n (w.alloc (.cells #[.slice none 0 0] T)) bs w1) :
    ∃ v, w1.cell? ⟨n, 0, none⟩ = some v ∧ OwnB n w1 v bs ∧ Ext w w1 := by subst hn; exact wrote_new h
/-- The cell is read, a slice with more bytes in the same row or a new one is stored. -/
theorem isB_step {T : TypeId} {lo g : Nat} {bs' : List UInt8} {w w1 : World} {v v1 : Value} (hg : lo ≤ g) (hb : Blk w g #[v] T) (hne : v.ownBlock ≠ some g)
    (h1 : OwnB lo w1 v1 bs') (h2 : Fr (fun k => some k = v.ownBlock) w w1) (h3 : ∀ k, v1.ownBlock = some k → v.ownBlock = some k ∨ w.heap.size ≤ k) : Wrote (holdB T) lo g w bs' (w1.setCell ⟨g, 0, none⟩ v1) := by
  have hb1 := hb.fr h2 (fun e => hne e.symm)
  have hne1 : v1.ownBlock ≠ some g := fun e => by
    rcases h3 g e with h | h
    · exact hne h
    · have := hb.lt
      omega
  have hc0 : w.cell? ⟨g, 0, none⟩ = some v := hb.cell 0
  have hb2 : Blk (w1.setCell ⟨g, 0, none⟩ v1) g #[v1] _ := hb1.set 0 _
  refine ⟨⟨hg, _, hb2, Own.only Lay.flat_u8 h1 (fr_setCell w1 _ _) (fun k hk e => hne1 (by rw [hk, e])), hne1⟩, ?_, ?_⟩
  · exact h2.trans (fr_setCell w1 _ _) (fun k _ e => .inr ⟨v, hc0, e.symm⟩) (fun k _ e => .inl e)
  · rintro k (rfl | ⟨v', hc, hk⟩)
    · exact .inl (.inl rfl)
    · rw [hb2.cell 0] at hc
      simp at hc
      subst hc
      rcases h3 k hk with h | h
      · exact .inl (.inr ⟨v, hc0, h⟩)
      · exact .inr h

end Go.Proofs.YtbdahjpdjamgiaaGreatDoor
/- The reference's keys: numbers, lists of numbers, function types. -/
namespace Go.Proofs.YtbdahjpdjamgiaaGreatDoor
open Go.RowKit
abbrev holdK : Hold := holdB 131
/-- uint64(n) of an int, written. -/
def ulebI (n : Int) : List UInt8 := uleb (n % 18446744073709551616).toNat
theorem ulebI_len (n : Int) : (ulebI n).length ≤ 10 := uleb_len64 _ (by omega)
def keyNums (l : List Int) : List UInt8 := uleb l.length ++ l.flatMap ulebI
theorem flat_len (l : List Int) : (l.flatMap ulebI).length ≤ 10 * l.length := by
  induction l with
  | nil => simp
  | cons a l ih =>
    have := ulebI_len a
    simp only [List.flatMap_cons, List.length_append, List.length_cons]
    omega
/-- A contract's bounds: bytes there, and to come. -/
abbrev KeyCap : Nat := 70368744177664

set_option maxRecDepth 100000 in
set_option maxHeartbeats 400000 in
theorem key_number_calls (lo g n : Nat) (hn : n < 18446744073709551616) (bs : List UInt8) (w : World) (hS : holdK.is lo g bs w) (hlo : lo ≤ w.heap.size) (hl : bs.length + 10 ≤ KeyCap) :
    Calls Tryz.prog 30 #[.pointer (some ⟨g, 0, none⟩), .int .u64 n] w fun e w' => e = .returned (.tuple #[]) ∧ Wrote holdK lo g w (bs ++ uleb n) w' := by
  obtain ⟨hg, v, hb, ho, hne⟩ := hS
  have hc := hb.cell 0
  simp only [List.getElem?_toArray, List.getElem?_cons_zero] at hc
  have H := Lib.hid (And.intro hg (And.intro hb (And.intro ho (And.intro hne (And.intro hlo (And.intro hn hl))))))
  clear hg hb ho hne hlo hl hn
  go_enter Tryz.func30, Tryz.ntmps30
  go_wp2_with (go_at_call 15; refine Hid.out ?_)
  obtain ⟨hg, hb, ho, hne, hlo, hn, hl⟩ := H.out
  refine (specAppendUnsigned_calls n hn lo v bs w ho hlo (by simp only [KeyCap] at hl; omega)).mono ?_
  rintro e w1 ⟨v1, rfl, h1, h2, h3⟩
  clear hc
  have hb1 := hb.fr h2 (fun e => hne e.symm)
  have hc1 := hb1.cell 0
  have hf1 := hb1.frz 0
  simp only [List.getElem?_toArray, List.getElem?_cons_zero] at hc1
  obtain ⟨aa1, n1, cap1, e1⟩ := h1.shape
  subst e1
  have H1 := Lib.hid (And.intro h1 (And.intro h2 h3))
  clear hg hb ho hne hlo hn hl h1 h2 h3 hb1
  go_wp2
  go_end0
  obtain ⟨hg, hb, ho, hne, hlo, hn, hl⟩ := H.out
  obtain ⟨h1, h2, h3⟩ := H1.out
  exact ⟨rfl, isB_step hg hb hne h1 h2 h3⟩

end Go.Proofs.YtbdahjpdjamgiaaGreatDoor
/- Instructions as trees, and how they lie. -/
namespace Go.Proofs.YtbdahjpdjamgiaaGreatDoor
open Go.RowKit
/-- An instruction of plain data: opcode, arguments (kind, bits), structured, type, body. -/
inductive Ins where
  | mk (op : Int) (args : List (Int × UInt64)) (st : Bool) (ty : Int) (body : List Ins)
namespace Ins
def op : Ins → Int | mk o _ _ _ _ => o
def args : Ins → List (Int × UInt64) | mk _ a _ _ _ => a
def st : Ins → Bool | mk _ _ s _ _ => s
def ty : Ins → Int | mk _ _ _ t _ => t
def body : Ins → List Ins | mk _ _ _ _ b => b
end Ins
namespace Lay
/-- Nothing lies so. -/
def never (α : Type) (n : Nat) : Lay α where
  size := n
  rd _ _ _ _ := False
  len h := h.elim
  one h := h.elim
  frame h := h.elim
  mono h := h.elim
def arg : Lay (Int × UInt64) := int.pair u64
theorem flat_arg : arg.flat := flat_pair flat_int flat_u64
/-- Trees of depth below n. -/
def ins : Nat → Lay Ins
  | 0 => never Ins 5
  | n + 1 => (int.pair (arg.slice.pair (bool.pair (int.pair (ins n).slice)))).via (fun i => (i.op, i.args, i.st, i.ty, i.body))
theorem ins_size : ∀ n, (ins n).size = 5
  | 0 => rfl
  | _ + 1 => rfl
/-- An instruction's five cells. -/
theorem ins_cells {n : Nat} {A : Nat → Prop} {w : World} {cs : List Value} {x : Ins} (h : (ins n).rd A w cs x) :
    ∃ m aa an ac ba bn bc, n = m + 1 ∧ cs = [.int .i64 x.op, .slice aa an ac, .bool x.st, .int .i64 x.ty, .slice ba bn bc] ∧
      (-9223372036854775808 ≤ x.op ∧ x.op ≤ 9223372036854775807) ∧ (-9223372036854775808 ≤ x.ty ∧ x.ty ≤ 9223372036854775807) ∧
      arg.slice.rd A w [.slice aa an ac] x.args ∧ (ins m).slice.rd A w [.slice ba bn bc] x.body := by
  cases n with
  | zero => exact h.elim
  | succ m =>
    obtain ⟨c1, r1, rfl, ⟨rfl, o1, o2⟩, c2, r2, rfl, h2, c3, r3, rfl, h3, c4, r4, rfl, ⟨rfl, t1, t2⟩, h5⟩ := h
    obtain ⟨a2, k2, rfl, e1, e2, e3⟩ := id h2
    obtain ⟨a5, k5, rfl, f1, f2, f3⟩ := id h5
    obtain rfl : c3 = [.bool x.st] := h3
    exact ⟨m, a2, _, k2, a5, _, k5, rfl, rfl, ⟨o1, o2⟩, ⟨t1, t2⟩, h2, h5⟩
theorem all_imp {α : Type} {l l' : Lay α} {A : Nat → Prop} {w : World} (h : ∀ cs x, l.rd A w cs x → l'.rd A w cs x) : ∀ {xs : List α} {cs : List Value}, l.all A w cs xs → l'.all A w cs xs
  | [], _, k => k
  | x :: xs, _, k => by
    obtain ⟨c, d, e, h1, h2⟩ := k
    exact ⟨c, d, e, h _ _ h1, all_imp h h2⟩
theorem slice_imp {α : Type} {l l' : Lay α} {A : Nat → Prop} {w : World} (h : ∀ cs x, l.rd A w cs x → l'.rd A w cs x) {cs : List Value} {xs : List α} (k : l.slice.rd A w cs xs) : l'.slice.rd A w cs xs := by
  obtain ⟨a, cap, e, h1, h2, h3⟩ := k
  refine ⟨a, cap, e, h1, h2, fun hp => ?_⟩
  obtain ⟨b, o, cur, T, fz, flat, e, hA, hh, hall, hc⟩ := h3 hp
  exact ⟨b, o, cur, T, fz, flat, e, hA, hh, all_imp h hall, hc⟩
theorem ins_succ {A : Nat → Prop} {w : World} : ∀ (n : Nat) (cs : List Value) (x : Ins), (ins n).rd A w cs x → (ins (n + 1)).rd A w cs x
  | 0, _, _, h => h.elim
  | n + 1, _, _, h => by
    obtain ⟨c1, r1, rfl, h1, c2, r2, rfl, h2, c3, r3, rfl, h3, c4, r4, rfl, h4, h5⟩ := h
    exact ⟨c1, _, rfl, h1, c2, _, rfl, h2, c3, _, rfl, h3, c4, _, rfl, h4, slice_imp (ins_succ n) h5⟩
theorem ins_le {A : Nat → Prop} {w : World} {n m : Nat} (h : n ≤ m) {cs : List Value} {x : Ins} (k : (ins n).rd A w cs x) : (ins m).rd A w cs x := by
  induction h with
  | refl => exact k
  | step _ ih => exact ins_succ _ _ _ ih
/-- Instruction i of a row: its five cells, as the walk reads them. -/
theorem ins_at {n : Nat} {A : Nat → Prop} {w : World} {aa : Option Addr} {m c : Nat} {l : List Ins} (h : (ins n).slice.rd A w [.slice aa m c] l) (i : Nat) (hi : i < l.length) :
    ∃ k b o a1 n1 c1 a2 n2 c2, n = k + 1 ∧ aa = some ⟨b, o, none⟩ ∧ A b ∧ w.cell? ⟨b, o + i * 5, none⟩ = some (.int .i64 l[i].op) ∧ w.cell? ⟨b, o + i * 5 + 1, none⟩ = some (.slice a1 n1 c1) ∧
      w.cell? ⟨b, o + i * 5 + 2, none⟩ = some (.bool l[i].st) ∧ w.cell? ⟨b, o + i * 5 + 3, none⟩ = some (.int .i64 l[i].ty) ∧ w.cell? ⟨b, o + i * 5 + 4, none⟩ = some (.slice a2 n2 c2) ∧
      (-9223372036854775808 ≤ l[i].op ∧ l[i].op ≤ 9223372036854775807) ∧ (-9223372036854775808 ≤ l[i].ty ∧ l[i].ty ≤ 9223372036854775807) ∧
      arg.slice.rd A w [.slice a1 n1 c1] l[i].args ∧ (ins k).slice.rd A w [.slice a2 n2 c2] l[i].body := by
  have hm : m = l.length := by obtain ⟨_, _, e, _⟩ := h; simp only [List.cons.injEq, Value.slice.injEq, and_true] at e; exact e.2.1
  obtain ⟨b, o, es, hi', e, hA, _, hr, hc⟩ := slice_at h i (by omega)
  obtain ⟨k, a1, n1, c1, a2, n2, c2, hn, he, h1, h2, h3, h4⟩ := ins_cells hr
  rw [ins_size] at hc
  subst he
  exact ⟨k, b, o, a1, n1, c1, a2, n2, c2, hn, e, hA, hc 0 (by omega), hc 1 (by omega), hc 2 (by omega), hc 3 (by omega), hc 4 (by omega), h1, h2, h3, h4⟩
end Lay
end Go.Proofs.YtbdahjpdjamgiaaGreatDoor
