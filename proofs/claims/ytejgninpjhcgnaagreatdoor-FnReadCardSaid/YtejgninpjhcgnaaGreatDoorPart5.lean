/- Texts of this proof, one behind the other. -/
import Derived.Test.YtejgninpjhcgnaaGreatDoorPart4
import Derived.Maps.Own
namespace Go.Proofs.YtejgninpjhcgnaaGreatDoor
open Go.RowKit
open Go.Maps (Keyed)
set_option linter.unusedSimpArgs false
set_option linter.unusedVariables false
set_option maxRecDepth 100000
set_option maxHeartbeats 4000000
theorem z0 (s : St) : (zo s).1 ≤ s.b.length ∧ (zo s).2.b.length ≤ s.b.length := by
 have := zF s
 unfold zo
 split
 ·refine ⟨nzQ _, ?_⟩
  show (if _ then _ else _ : St).b.length ≤ _
  split <;> exact nzQ _
 ·omega
theorem ZO (s : St) : (rNum s).2.b.length ≤ s.b.length := zF s
variable {D : Nat → Prop} {g : Nat} {lo : Bool} {s : St} {w : World}
theorem zaC (h : SpR D g lo s w) (hl : s.b.length ≤ 140737488355328) :
 Calls Tryz.prog 97 #[.pointer (some ⟨g, 0, none⟩)] w fun e w' => e = .returned (.agg #[.int .u32 ((zX s).1.min.toNat : Int), .bool (zX s).1.bounded, .int .u32 ((zX s).1.max.toNat : Int)]) ∧ SpR D g lo (zX s).2 w' ∧ Fr (fun k => k = g) w w' := by
 have df := za w (.cells #[.int .u32 0, .bool false, .int .u32 0] 63)
 have dS := zl w #[.int .u32 0, .bool false, .int .u32 0] 63
 have H := qh (anQ h.lt.1 (anQ hl (h.ext df)))
 have xS := qh (fun k (hk : D k) => (h.lt.2 k hk).1)
 have nC := yc s
 clear h hl
 go_enter Tryz.func97, Tryz.ntmps97
 go_wp2_with fail
 have df := qh df
 have dS := qh dS
 generalize (w.alloc (.cells #[.int .u32 0, .bool false, .int .u32 0] 63)) = W0 at *
 obtain ⟨gl, bo⟩ := exQ (w.heap.size)
 have ag := qh (show ¬ gl = g from by have := H.o.1; omega)
 rw [bo] at dS ⊢
 have bo := qh bo
 have fG := qh (show ∀ k, D k → ¬ k = gl from fun k hk e => by have := xS.o k hk; have := bo.o; omega)
 refine (yh H.o.2.2).mono ?_
 rintro e w1 ⟨rfl, k1, k2⟩
 have HR := qh (show zX s = zD (if (zi s).2.v = 0 ∧ (zi s).1 ≠ 112 then (zi s).2.fail 1 else (zi s).2) from rfl)
 generalize (zi s).1 = c at *
 generalize (zi s).2 = s1 at *
 have l8 := qh (show s1.b.length ≤ 140737488355328 from by have := H.o.2.1; omega)
 have H1 := qh (anQ k1 (anQ k2 (dS.o.fr k2 ag.o)))
 clear k1 k2 nC
 go_wp2_with fail
 refine (z8 H1.o.1).mono ?_
 rintro e w2 ⟨rfl, rfl⟩
 by_cases hv : s1.v = 0 ∧ c ≠ 112
 ·have dv : decide (s1.v = 0) = true := decide_eq_true hv.1
  have dc : ((c : Int) != 112) = true := by rw [bne_iff_ne]; have := hv.2; omega
  have HR := qh (show zX s = zD (s1.fail 1) from by rw [HR.o, if_pos hv])
  go_wp2_with fail
  refine (zp D g lo s1 1 w2 H1.o.1).mono ?_
  rintro e w3 ⟨rfl, k1, k2⟩
  have ct := H1.o.2.2.fr k2 ag.o
  have H2 := qh (anQ k1 (anQ (Fr.trans H1.o.2.1 k2 (U := fun k => k = g) (fun _ _ h => h) (fun _ _ h => h)) ct))
  clear k1 k2 ct
  go_wp2_with fail
  refine (J6 D g lo (s1.fail 1) w3 H2.o.1 (nzQ _)).mono ?_
  rintro e w4 ⟨rfl, k1, k2⟩
  have sF := H2.o.2.2.fr k2 ag.o
  have H4 := qh (anQ k1 (anQ (Fr.trans H2.o.2.1 k2 (U := fun k => k = g) (fun _ _ h => h) (fun _ _ h => h)) sF))
  clear k1 k2
  go_wp2_with (with_reducible refine jl 63 ?_)
  refine qh ?_
  refine sF.wpList_store rfl 63 (.tmp 2) (.tmp 15) rfl rfl rfl (by kernel_rfl) rfl rfl ?_
  refine wpList_nil ?_
  go_wp2
  have hs := z9 w4 gl #[.int .u32 ((zD (s1.fail 1)).1.min.toNat : Int), .bool (zD (s1.fail 1)).1.bounded, .int .u32 ((zD (s1.fail 1)).1.max.toNat : Int)]
  have c8 := H4.o.2.2.setRow #[.int .u32 ((zD (s1.fail 1)).1.min.toNat : Int), .bool (zD (s1.fail 1)).1.bounded, .int .u32 ((zD (s1.fail 1)).1.max.toNat : Int)]
  have aV := qh (anQ (H4.o.1.fr hs (fun e => ag.o e.symm) (fun k hk e => fG.o k hk e)) ((Ext.fr df.o (Fr.trans H4.o.2.1 hs (U := fun k => k = g ∨ k = gl) (fun _ _ h => .inl h) (fun _ _ h => .inr h))).mono (fun k hk e => e.elim id (fun e => by have := bo.o; omega)) : Fr (fun k => k = g) w _))
  refine bodyPost_ret (v := .agg #[.int .u32 ((zD (s1.fail 1)).1.min.toNat : Int), .bool (zD (s1.fail 1)).1.bounded, .int .u32 ((zD (s1.fail 1)).1.max.toNat : Int)]) (yq Tryz.results97 _ rfl c8 _ Tryz.underlying63 rfl (by kernel_rfl)) rfl ?_
  rw [HR.o]
  exact ⟨rfl, aV.o.1, aV.o.2⟩
 ·have HR := qh (show zX s = zD s1 from by rw [HR.o, if_neg hv])
  have key : ∃ b1 b2 : Bool, decide (s1.v = 0) = b1 ∧ ((c : Int) != 112) = b2 ∧ (b1 && b2) = false := by
   refine ⟨_, _, rfl, rfl, ?_⟩
   by_cases h0 : s1.v = 0
   ·have : c = 112 := by by_cases hc : c = 112; exact hc; exact absurd ⟨h0, hc⟩ hv
    subst this
    simp
   ·rw [decide_eq_false h0]; rfl
  obtain ⟨b1, b2, e1, e2, e3⟩ := key
  clear hv
  cases b1
  case' true =>
   obtain rfl : b2 = false := by simpa using e3
  all_goals
   go_wp2_with fail
   refine (J6 D g lo s1 w2 H1.o.1 l8.o).mono ?_
   rintro e w4 ⟨rfl, k1, k2⟩
   have sF := H1.o.2.2.fr k2 ag.o
   have H4 := qh (anQ k1 (anQ (Fr.trans H1.o.2.1 k2 (U := fun k => k = g) (fun _ _ h => h) (fun _ _ h => h)) sF))
   clear k1 k2
   go_wp2_with (with_reducible refine jl 63 ?_)
   refine qh ?_
   refine sF.wpList_store rfl 63 (.tmp 2) (.tmp 15) rfl rfl rfl (by kernel_rfl) rfl rfl ?_
   refine wpList_nil ?_
   go_wp2
   have hs := z9 w4 gl #[.int .u32 ((zD s1).1.min.toNat : Int), .bool (zD s1).1.bounded, .int .u32 ((zD s1).1.max.toNat : Int)]
   have c8 := H4.o.2.2.setRow #[.int .u32 ((zD s1).1.min.toNat : Int), .bool (zD s1).1.bounded, .int .u32 ((zD s1).1.max.toNat : Int)]
   have aV := qh (anQ (H4.o.1.fr hs (fun e => ag.o e.symm) (fun k hk e => fG.o k hk e)) ((Ext.fr df.o (Fr.trans H4.o.2.1 hs (U := fun k => k = g ∨ k = gl) (fun _ _ h => .inl h) (fun _ _ h => .inr h))).mono (fun k hk e => e.elim id (fun e => by have := bo.o; omega)) : Fr (fun k => k = g) w _))
   refine bodyPost_ret (v := .agg #[.int .u32 ((zD s1).1.min.toNat : Int), .bool (zD s1).1.bounded, .int .u32 ((zD s1).1.max.toNat : Int)]) (yq Tryz.results97 _ rfl c8 _ Tryz.underlying63 rfl (by kernel_rfl)) rfl ?_
   rw [HR.o]
   exact ⟨rfl, aV.o.1, aV.o.2⟩
theorem zij : (Tryz.prog.info? 24).map (fun i => (i.zero, i.size, i.bytes)) = some (some (.int .u32 0), Lay.u32.size, 4) := by kernel_rfl
theorem Yl (h : SpR D g lo s w) (hl : s.b.length ≤ 33554432) :
 Calls Tryz.prog 95 #[.pointer (some ⟨g, 0, none⟩)] w fun e w' => ∃ v, e = .returned v ∧ Own Lay.u32 24 w.heap.size w' v (zZ s).1 ∧ SpR D g lo (zZ s).2 w' ∧ Fr (fun k => k = g) w w' := by
 have H := qh (anQ h (anQ hl h.lt.1))
 have c6 := qh (z0 s)
 clear h hl
 go_enter Tryz.func95, Tryz.ntmps95
 go_wp2_with fail
 refine (z6 H.o.1 (by have := H.o.2.1; omega)).mono ?_
 rintro e w1 ⟨rfl, k1, k2⟩
 have HR := qh (show zZ s = rVec rNum (zo s).1 (zo s).2 from rfl)
 generalize (zo s).1 = n at *
 generalize (zo s).2 = s1 at *
 have H1 := qh (anQ k1 k2)
 clear k1 k2
 have iD : (n : Int) ≤ 33554432 := by have := H.o.2.1; have := c6.o.1; omega
 go_wp2_with fail
 go_loopw [2, 5] (fun s2 s5 w' => ∃ (i : Nat), i ≤ n ∧ s5 = .int .i64 i ∧ Hq (Own Lay.u32 24 w.heap.size w' s2 (rVec rNum i s1).1 ∧ SpR D g lo (rVec rNum i s1).2 w' ∧ Fr (fun k => k = g) w w')) (fun _ s5 _ => n - (intOf s5).toNat)
 case atStart => exact ⟨0, nzQ _, rfl, J3 _ _ _ _, H1.o⟩
 case round =>
  obtain ⟨i, hi, rfl, hV⟩ := hrel
  obtain ⟨ap, am, ar, rfl⟩ := hV.o.1.shape
  by_cases aj : i < n
  ·have aU := qh (yD rNum i s1)
   have gM := qh (yP rNum i s1)
   have c8 := qh (show (rVec rNum i s1).2.b.length ≤ 33554432 from nlQ (yw rNum ZO i s1) (nlQ c6.o.2 H.o.2.1))
   generalize (rVec rNum i s1).1 = xs at *
   generalize (rVec rNum i s1).2 = si at *
   go_wp2_with fail
   refine (zK D g lo si wr hV.o.2.1 (by have := c8.o; omega)).mono ?_
   rintro e w3 ⟨rfl, k1, k2⟩
   have iV := qh (zL si)
   have nj := qh (show rNum si = (UInt32.ofNat (zc si).1, (zc si).2) from rfl)
   generalize (zc si).1 = x at *
   generalize (zc si).2 = s3 at *
   have x9 := qh (hV.o.1.only Lay.flat_u32 k2 (fun k hk e => by have := (hV.o.1.lt k hk).1; have := H.o.2.2; have e' : k = g := e; omega))
   have H3 := qh (anQ k1 (Fr.trans hV.o.2.2 k2 (U := fun k => k = g) (fun _ _ h => h) (fun _ _ h => h)))
   clear k1 k2
   go_wp2_with (at_builtin; refine Hq.o ?_)
   refine jk Lay.u32 w.heap.size w3.heap.size rfl rfl (.tmp 7) (.tmp 10) _ _ _ 4 rfl Tryz.underlying27 zij rfl (by omega) (by decide) (.slice ap am ar) xs (UInt32.ofNat x) _ rfl rfl x9.o ?_ H3.o.2.size (by have := gM.o; omega) ?_
   ·show [Value.int .u32 (x : Int)] = [Value.int .u32 ((UInt32.ofNat x).toNat : Int)]
    rw [UInt32.toNat_ofNat', Nat.mod_eq_of_lt iV.o]
   ·intro v1 w4 h1 h2 h3
    have ag : ∀ k, some k = (Value.slice ap am ar).ownBlock → w.heap.size ≤ k := fun k e => (x9.o.lt k e.symm).1
    have hg := H.o.2.2
    have bO : Hq (Own Lay.u32 24 w.heap.size w4 v1 (rVec rNum (i + 1) s1).1 ∧ SpR D g lo (rVec rNum (i + 1) s1).2 w4 ∧ Fr (fun k => k = g) w w4) := by
     rw [aU.o, nj.o]
     refine ⟨h1, H3.o.1.fr h2 (fun e => by have := ag g e; omega) (fun k hk e => by have := ag k e; have := (H.o.1.lt.2 k hk).1; omega), ?_⟩
     exact Fr.trans H3.o.2 h2 (fun _ _ h => h) (fun k hk e => absurd hk (by have := ag k e; omega))
    obtain ⟨az, aR, aO, rfl⟩ := h1.shape
    clear h1 h2 h3 ag
    go_wp2
    go_roundw
    case rel => exact ⟨i + 1, by omega, by go_num, bO⟩
    case measure => simp [intOf]; omega
  ·obtain rfl : i = n := by omega
   have ky := qh (show Own Lay.u32 24 w.heap.size wr (.slice ap am ar) (zZ s).1 ∧ SpR D g lo (zZ s).2 wr ∧ Fr (fun k => k = g) w wr from by rw [HR.o]; exact hV.o)
   clear hV
   go_wp2
   go_ret
   exact ⟨_, rfl, ky.o⟩
theorem zg2 (w : World) : (zeroValue 3).run Tryz.prog w = .ok (.int .i64 0) w := by
 simp [zeroValue]
 rfl
theorem zjl (w : World) (k n : Int) (hk : k = 3 ∧ n = 4 ∨ k = 4 ∧ n = 8) : ∃ w1 w2, (Instr.mapUpdate 424 (.map (some w.heap.size)) (.int .i64 3) (.int .i64 4)).run Tryz.prog (w.alloc (.map #[] 0)) = .ok () w1 ∧
 (Instr.mapUpdate 424 (.map (some w.heap.size)) (.int .i64 4) (.int .i64 8)).run Tryz.prog w1 = .ok () w2 ∧
 (Instr.lookup 424 (.map (some w.heap.size)) (.int .i64 k) false).run Tryz.prog w2 = .ok (.int .i64 n) w2 ∧ Ext w w2 := by
 have K : Keyed Tryz.prog 3 := Maps.int_keyed Tryz.underlying3
 have oT : ∀ a : Int, (Lit.int .i64 a).wf = true → keyOf Tryz.prog 3 (.int .i64 a) = some (.int .i64 a) := fun a h => Maps.keyOf_int_mk Tryz.underlying3 h
 have h0 := World.ownsMap_made (H := Unit) w Tryz.prog 3 (plainElem Tryz.prog 3)
 obtain ⟨w1, r1, o1, g1⟩ := h0.update K Tryz.underlying424 (by decide) (oT 3 (by decide)) (plainElem_int Tryz.underlying3 (a := 4) (by decide))
 obtain ⟨w2, r2, o2, g2⟩ := o1.update K Tryz.underlying424 (by decide) (oT 4 (by decide)) (plainElem_int Tryz.underlying3 (a := 8) (by decide))
 obtain ⟨c, r3, ic, -⟩ := o2.lookup_int (q := .i64) K Tryz.underlying424 Tryz.underlying3 (zg2 w2) (oT k (by rcases hk with ⟨rfl, rfl⟩ | ⟨rfl, rfl⟩ <;> decide))
 have hc : c = n := by
  rcases hk with ⟨rfl, rfl⟩ | ⟨rfl, rfl⟩
  ·have : (DataW.lit (.int .i64 4) : DataW Unit) = .lit (.int .i64 c) := ic
   simpa using this.symm
  ·have : (DataW.lit (.int .i64 8) : DataW Unit) = .lit (.int .i64 c) := ic
   simpa using this.symm
 subst hc
 refine ⟨w1, w2, r1, r2, r3, ?_⟩
 exact Fr.new (S := fun k => w.heap.size ≤ k) (((za w _).to (S := fun k => w.heap.size ≤ k)).trans ((yW g1).trans (yW g2) (U := fun k => w.heap.size ≤ k) (fun k _ e => by simp only [Option.some.injEq] at e; show w.heap.size ≤ k; omega) (fun k _ e => by simp only [Option.some.injEq] at e; show w.heap.size ≤ k; omega)) (fun _ _ h => h) (fun _ _ h => h)) (fun _ h => h)
theorem zbz : ∀ (l : List UInt8) (c : UInt8), YI (l ++ [c]) = YI l + c.toNat * 2 ^ (8 * l.length)
 | [], c => by simp [YI]
 | x :: l, c => by
  simp only [List.cons_append, YI, zbz l c, List.length_cons]
  rw [show 8 * (l.length + 1) = 8 * l.length + 8 from by omega, Nat.pow_add]
  generalize 2 ^ (8 * l.length) = q
  rw [show c.toNat * (q * 2 ^ 8) = 256 * (c.toNat * q) from by rw [← Nat.mul_assoc, Nat.mul_comm _ (2 ^ 8)]]
  omega
theorem zan : ∀ (l : List UInt8), YI l < 2 ^ (8 * l.length)
 | [] => by simp [YI]
 | x :: l => by
  have := zan l
  have hx := x.toNat_lt
  simp only [YI, List.length_cons]
  rw [show 8 * (l.length + 1) = 8 * l.length + 8 from by omega, Nat.pow_add]
  generalize 2 ^ (8 * l.length) = q at *
  omega
theorem zik (a c i : Nat) (ha : a < 2 ^ (8 * i)) (hc : c < 256) (hi : i < 8) : bits .or .u64 (a : Int) (IntKind.u64.wrap ((c : Int) * 2 ^ (8 * i))) = ((a + c * 2 ^ (8 * i) : Nat) : Int) ∧ a + c * 2 ^ (8 * i) < 18446744073709551616 := by
 have h2 : 2 ^ (8 * i) ≤ 2 ^ 56 := Nat.pow_le_pow_right (by decide) (by omega)
 have e1 : ((c : Int) * 2 ^ (8 * i)) = ((c * 2 ^ (8 * i) : Nat) : Int) := by simp
 have d4 : c * 2 ^ (8 * i) ≤ 255 * 2 ^ (8 * i) := Nat.mul_le_mul_right _ (by omega)
 have e2 : a + c * 2 ^ (8 * i) = a ||| (c * 2 ^ (8 * i)) := by
  rw [Nat.mul_comm c, Nat.add_comm a, Nat.two_pow_add_eq_or_of_lt ha c, Nat.or_comm]
 have aj : c * 2 ^ (8 * i) < 18446744073709551616 := by
  have : 255 * 2 ^ (8 * i) ≤ 255 * 2 ^ 56 := Nat.mul_le_mul_left _ h2
  omega
 rw [e1, IntKind.wrap_u64]
 have e3 : ((c * 2 ^ (8 * i) : Nat) : Int) % 18446744073709551616 = ((c * 2 ^ (8 * i) : Nat) : Int) := by
  have := aj
  generalize c * 2 ^ (8 * i) = z at *
  omega
 rw [e3, u64_or_nat a _ (by omega) aj, e2]
 refine ⟨rfl, ?_⟩
 rw [← e2]
 have : 255 * 2 ^ (8 * i) ≤ 255 * 2 ^ 56 := Nat.mul_le_mul_left _ h2
 omega
theorem zaD (k n : Nat) (hk : (k : Int) = 3 ∧ (n : Int) = 4 ∨ (k : Int) = 4 ∧ (n : Int) = 8) (D : Nat → Prop) (g : Nat) (lo : Bool) (s : St) (w : World) (h : SpR D g lo s w) (hl : s.b.length ≤ 140737488355328) :
 Calls Tryz.prog 160 #[.pointer (some ⟨g, 0, none⟩), .int .i64 (k : Int)] w fun e w' => e = .returned (.int .u64 ((y0 k s).1 : Int)) ∧ SpR D g lo (y0 k s).2 w' ∧ Fr (fun k => k = g) w w' := by
 have hR := qh (show y0 k s = (YI (zy n s).1, (zy n s).2) from by rcases hk with ⟨h1, h2⟩ | ⟨h1, h2⟩ <;> (obtain rfl : k = _ := Int.ofNat.inj h1; obtain rfl : n = _ := Int.ofNat.inj h2; rfl))
 have Dj : n ≤ 8 := by omega
 have H := qh (anQ h hl)
 clear h hl
 obtain ⟨w1, w2, r1, r2, r3, hx⟩ := zjl w k n hk
 have hx := qh hx
 have oo := @run_makeMap Tryz.prog
 have BN : ((k : Int) == 0) = false ∧ ((k : Int) == 1) = false ∧ ((k : Int) == 2) = false ∧ ((k : Int) == 5) = false := by rcases hk with ⟨h1, h2⟩ | ⟨h1, h2⟩ <;> (rw [h1]; decide)
 obtain ⟨e0, e1, e2, e5⟩ := BN
 clear hk
 go_enter Tryz.func160, Tryz.ntmps160
 go_wp2_with fail
 refine (j9 n (by omega) D g lo s w2 (H.o.1.ext hx.o) H.o.2).mono ?_
 rintro e w3 ⟨ta, tm, tc, rfl, k1, k2, k3⟩
 have A5 := qh (show (zy n s).1.length ≤ n from by
  unfold zy; split
  ·exact nzQ _
  ·simp; omega)
 generalize (zy n s).1 = l at *
 generalize (zy n s).2 = s2 at *
 obtain ⟨uy, fV, ee, c6, cn⟩ := Lay.slice_form k1
 simp only [Value.slice.injEq] at ee
 obtain ⟨rfl, rfl, rfl⟩ := ee
 have HK := qh (anQ k1 (anQ k2 (Ext.fr hx.o k3)))
 have DV : (l.length : Int) ≤ 8 := by have := A5.o; omega
 clear k1 k2 k3 oo r1 r2 r3 c6 cn
 go_wp2_with fail
 go_loopw [7, 8, 9, 58] (fun s7 s8 s9 xP w' => ∃ (bf i : Nat), s7 = .int .u64 bf ∧ xP = .int .i64 i ∧ i ≤ l.length ∧ Hq (bf = YI (l.take i)) ∧ w' = w3) (fun _ _ _ xP _ => l.length - (intOf xP).toNat)
 case atStart => exact ⟨0, 0, rfl, rfl, nzQ _, rfl, rfl⟩
 case round =>
  obtain ⟨bf, i, rfl, rfl, hi, dG, rfl⟩ := hrel
  by_cases aj : i < l.length
  ·obtain ⟨ba, o, rfl, hA, ec⟩ := zeA HK.o.1 i aj
   have aU := zik bf (l[i]).toNat i (by rw [dG.o]; have := zan (l.take i); rw [ltQ, Nat.min_eq_left hi] at this; exact this) (l[i]).toNat_lt (by omega)
   have ey := qh (show bf + (l[i]).toNat * 2 ^ (8 * i) = YI (l.take (i + 1)) from by
    rw [dG.o, show l.take (i + 1) = l.take i ++ [l[i]] from by simp, zbz, ltQ, Nat.min_eq_left hi])
   have fM := (l[i]).toNat_lt
   have ed := aU.1
   have cT := aU.2
   have nL : bf < 18446744073709551616 := by omega
   generalize (l[i]).toNat = c at *
   generalize hz : bf + c * 2 ^ (8 * i) = z at *
   clear aU hA dG hz
   go_wp2
   go_roundw
   case rel => exact ⟨z, i + 1, rfl, by go_num, by omega, ey, trivial⟩
   case measure => simp [intOf]; omega
  ·obtain rfl : i = l.length := by omega
   have aV := qh (show bf = YI l from by rw [dG.o, tlQ])
   clear dG
   go_wp2
   go_ret
   rw [hR.o, ← aV.o]
   exact ⟨rfl, HK.o.2⟩
theorem zbY (k : Int) (hk : k = 0 ∨ k = 1 ∨ k = 2 ∨ k = 3 ∨ k = 4 ∨ k = 5) (D : Nat → Prop) (g : Nat) (lo : Bool) (s : St) (w : World) (h : SpR D g lo s w) (hl : s.b.length ≤ 140737488355328) :
 Calls Tryz.prog 160 #[.pointer (some ⟨g, 0, none⟩), .int .i64 k] w fun e w' => e = .returned (.int .u64 ((y0 k s).1 : Int)) ∧ SpR D g lo (y0 k s).2 w' ∧ Fr (fun k => k = g) w w' := by
 rcases hk with rfl | rfl | rfl | rfl | rfl | rfl
 ·exact ZN 0 (by decide) D g lo s w h hl
 ·exact ZN 1 (by decide) D g lo s w h hl
 ·exact ZN 2 (by decide) D g lo s w h hl
 ·exact zaD 3 4 (by decide) D g lo s w h hl
 ·exact zaD 4 8 (by decide) D g lo s w h hl
 ·exact ZN 5 (by decide) D g lo s w h hl
theorem yR (n : Nat) (s : St) : (zy n s).2.b.length ≤ s.b.length := by
 unfold zy
 split
 ·show (if _ then _ else _ : St).b.length ≤ _
  split <;> exact nzQ _
 ·simp
theorem zeb (n : Nat) (s : St) : (zy n s).1.length ≤ n := by
 unfold zy; split
 ·exact nzQ _
 ·simp; omega
theorem zcH (k : Int) (hk : k = 0 ∨ k = 1 ∨ k = 2 ∨ k = 3 ∨ k = 4 ∨ k = 5) (s : St) : (y0 k s).2.b.length ≤ s.b.length := by
 rcases hk with rfl | rfl | rfl | rfl | rfl | rfl
 ·exact Yk 0 (by decide) s
 ·exact Yk 1 (by decide) s
 ·exact Yk 2 (by decide) s
 ·exact yR 4 s
 ·exact yR 8 s
 ·exact Yk 5 (by decide) s
theorem zdw (k : Int) (hk : k = 0 ∨ k = 1 ∨ k = 2 ∨ k = 3 ∨ k = 4 ∨ k = 5) (s : St) : (y0 k s).1 < 18446744073709551616 := by
 rcases hk with rfl | rfl | rfl | rfl | rfl | rfl
 ·exact zam 0 (by decide) s
 ·exact zam 1 (by decide) s
 ·exact zam 2 (by decide) s
 ·exact nqQ (zan _) (nlQ (Nat.pow_le_pow_right (by decide) (Nat.mul_le_mul_left 8 (zeb 4 s))) (by decide))
 ·exact nqQ (zan _) (nlQ (Nat.pow_le_pow_right (by decide) (Nat.mul_le_mul_left 8 (zeb 8 s))) (by decide))
 ·exact zam 5 (by decide) s
theorem J7 : ∀ (ks : List Int) (_ : ∀ k ∈ ks, k = 0 ∨ k = 1 ∨ k = 2 ∨ k = 3 ∨ k = 4 ∨ k = 5) (s : St), (y2 ks s).2.b.length ≤ s.b.length
 | [], _, _ => Nat.le_refl _
 | k :: ks, h, s => nlQ (J7 ks (fun k hk => h k (List.mem_cons_of_mem _ hk)) _) (zcH k (h k (List.mem_cons_self ..)) s)
theorem zaE (op : Int) : (∀ k ∈ (z5 op).getD [], k = 0 ∨ k = 1 ∨ k = 2 ∨ k = 3 ∨ k = 4 ∨ k = 5) ∧ ((z5 op).getD []).length ≤ 2 := by
 unfold z5
 repeat' split
 all_goals simp
def jV (op : Int) (s : St) : St := if s.v = 0 ∧ z5 op = none then s.fail 2 else s
theorem JE (op : Nat) (oy : op < 256) (D : Nat → Prop) (g : Nat) (lo : Bool) (s : St) (w : World) (h : SpR D g lo s w) (hl : s.b.length ≤ 140737488355328) :
 Calls Tryz.prog 124 #[.pointer (some ⟨g, 0, none⟩), .int .i64 (op : Int)] w fun e w' => ∃ a1 n1 c1, e = .returned (.agg #[.int .i64 (op : Int), .slice a1 n1 c1, .bool false, .int .i64 0, .slice none 0 0]) ∧
  Own Lay.arg 239 w.heap.size w' (.slice a1 n1 c1) (y2 ((z5 op).getD []) (jV op s)).1 ∧ SpR D g lo (y2 ((z5 op).getD []) (jV op s)).2 w' ∧ Fr (fun k => k = g) w w' := by
 obtain ⟨qJ, wW⟩ := zaE (op : Int)
 obtain ⟨ks, nl⟩ : ∃ ks, (z5 (op : Int)).getD [] = ks := ⟨_, rfl⟩
 rw [nl] at qJ wW ⊢
 obtain ⟨s1, ed⟩ : ∃ s1, jV (op : Int) s = s1 := ⟨_, rfl⟩
 have rD := qh ed
 rw [ed]
 clear ed
 have hg := h.lt
 have fe := hg.1
 have HC := qh (zaA (op : Int))
 have HS := qh (anQ h (anQ hl (anQ nl qJ)))
 have CD : (op : Int) ≤ 255 := by omega
 clear h hl nl hg qJ oy
 go_enter Tryz.func124, Tryz.ntmps124
 go_wp2_with fail
 obtain ⟨W2, gi, lY, eK, H2⟩ : ∃ W2 gi, ((w.alloc (.cells #[.int .i64 0, .slice none 0 0, .bool false, .int .i64 0, .slice none 0 0] 76)).alloc (.cells #[.int .i64 (op : Int), .slice none 0 0, .bool false, .int .i64 0, .slice none 0 0] 76)) = W2 ∧ w.heap.size + 1 = gi ∧
  Hq (Ext w W2 ∧ Blk W2 gi #[.int .i64 (op : Int), .slice none 0 0, .bool false, .int .i64 0, .slice none 0 0] 76 ∧ Blk W2 w.heap.size #[.int .i64 0, .slice none 0 0, .bool false, .int .i64 0, .slice none 0 0] 76 ∧ g < w.heap.size ∧ w.heap.size < gi) := by
  refine ⟨_, _, rfl, rfl, Ext.trans (za _ _) (za _ _), ?_, (zl w _ _).ext (za _ _), fe, by omega⟩
  have := zl (w.alloc (.cells #[.int .i64 0, .slice none 0 0, .bool false, .int .i64 0, .slice none 0 0] 76)) #[.int .i64 (op : Int), .slice none 0 0, .bool false, .int .i64 0, .slice none 0 0] 76
  simpa using this
 rw [lY, eK]
 clear lY eK fe
 refine (HC.o W2).mono ?_
 rintro e w3 ⟨v, rfl, hv, kS⟩
 obtain ⟨av, cv, rfl, gI, cn⟩ := Lay.slice_form hv
 rw [HS.o.2.2.1] at hv gI ⊢
 have H3 := qh (anQ hv (anQ kS (Ext.trans H2.o.1 kS)))
 clear hv gI cn kS HC
 go_wp2_with fail
 refine (z8 (HS.o.1.ext H3.o.2.2)).mono ?_
 rintro e w4 ⟨rfl, rfl⟩
 have nV := qh (show g < W2.heap.size ∧ gi < W2.heap.size ∧ g ≠ gi from ⟨by have := H2.o.1.size; have := H2.o.2.2.2.1; omega, H2.o.2.1.lt, by have := H2.o.2.2.2; omega⟩)
 obtain ⟨bv, qP⟩ : ∃ b, decide (s.v = 0) = b := ⟨_, rfl⟩
 obtain ⟨bs, bz⟩ : ∃ b, (z5 (op : Int)).isSome = b := ⟨_, rfl⟩
 have oR := qh (show s1 = if bv = true ∧ bs = false then s.fail 2 else s from by
  rw [← rD.o, ← qP, ← bz]
  unfold jV
  cases z5 (op : Int) <;> simp)
 rw [qP, bz]
 clear qP bz rD
 by_cases hff : bv = true ∧ bs = false
 case' pos =>
  obtain ⟨rfl, rfl⟩ := hff
  go_wp2_with fail
  refine (zp D g lo s 2 w4 (HS.o.1.ext H3.o.2.2)).mono ?_
  rintro e wo ⟨rfl, k1, k2⟩
  have HO : Hq (SpR D g lo s1 wo ∧ Fr (fun k => k = g) w4 wo ∧ s1.b.length ≤ 140737488355328) := ⟨by rw [oR.o]; exact k1, k2, by rw [oR.o, if_pos (by decide)]; exact nzQ _⟩
  clear k1 k2
  go_wp2_with fail
 case' neg =>
  have A0 : Hq (SpR D g lo s1 w4 ∧ Fr (fun k => k = g) w4 w4 ∧ s1.b.length ≤ 140737488355328) := ⟨by rw [oR.o, if_neg hff]; exact HS.o.1.ext H3.o.2.2, Fr.refl _ _, by rw [oR.o, if_neg hff]; exact HS.o.2.1⟩
  obtain ⟨wo, HO⟩ : ∃ wo, Hq (SpR D g lo s1 wo ∧ Fr (fun k => k = g) w4 wo ∧ s1.b.length ≤ 140737488355328) ∧ wo = w4 := ⟨w4, A0, rfl⟩
  obtain ⟨HO, C4⟩ := HO
  have key : (bv && !bs) = false := by
   cases bv <;> cases bs <;> simp_all
  clear hff A0
  cases bv
  case' false =>
   clear key
  case' true =>
   obtain rfl : bs = true := by simpa using key
  all_goals
   go_wp2_with fail
   rw [← C4]
 all_goals
  go_loopw [9, 27] (fun s9 ut w' => ∃ (j : Nat) (va : Value), j ≤ ks.length ∧ ut = .int .i64 j ∧ Hq (Blk w' gi #[.int .i64 (op : Int), va, .bool false, .int .i64 0, .slice none 0 0] 76 ∧ Own Lay.arg 239 wo.heap.size w' va (y2 (ks.take j) s1).1 ∧ SpR D g lo (y2 (ks.take j) s1).2 w' ∧ Fr (fun k => k = g ∨ k = gi) wo w')) (fun _ ut _ => ks.length - (intOf ut).toNat)
  case atStart => exact ⟨0, _, nzQ _, rfl, (H2.o.2.1.ext H3.o.2.1).fr HO.o.2.1 (fun e => nV.o.2.2 e.symm), J3 _ _ _ _, HO.o.1, Fr.refl _ _⟩
  case round =>
   obtain ⟨j, va, hj, rfl, hV⟩ := hrel
   have lg : Hq (g < W2.heap.size ∧ gi < W2.heap.size ∧ W2.heap.size ≤ wo.heap.size ∧ g ≠ gi) := ⟨nV.o.1, nV.o.2.1, nlQ H3.o.2.1.size HO.o.2.1.size, nV.o.2.2⟩
   obtain ⟨ap, am, ar, rfl⟩ := hV.o.2.1.shape
   by_cases hjl : j < ks.length
   ·have rA := Lay.fr (Lay.fr H3.o.1 HO.o.2.1 (fun k hk => ⟨hk.2, fun e => by have := lg.o; have := hk.1; omega⟩)) hV.o.2.2.2 (fun k hk => ⟨nqQ hk.2 HO.o.2.1.size, fun e => by have := lg.o; have := hk.1; omega⟩)
    obtain ⟨b3, o3, rfl, -, e0, e1, e2⟩ := zd4 rA j hjl
    have qJ := qh (HS.o.2.2.2 _ (List.getElem_mem hjl))
    have sZ := qh (show y2 (ks.take (j + 1)) s1 = ((y2 (ks.take j) s1).1 ++ [(ks[j], UInt64.ofNat (y0 ks[j] (y2 (ks.take j) s1).2).1)], (y0 ks[j] (y2 (ks.take j) s1).2).2) from by
     rw [tsQ hjl, Y7]; rfl)
    have c8 := qh (nlQ (J7 (ks.take j) (fun k hk => HS.o.2.2.2 k (List.mem_of_mem_take hk)) s1) HO.o.2.2)
    have kI := qh (zcG (ks.take j) s1)
    generalize ks[j] = kj at *
    generalize aY : y2 (ks.take (j + 1)) s1 = r2 at *
    have aY := qh aY
    generalize y2 (ks.take j) s1 = r1 at *
    clear rA
    have eq := hV.o.1.cell
    go_wp2_with fail
    refine zj (yX (fun k => k = g)) [kT 0, kT 1, kT 2, kT 3, kT 4, kR 5, kT 6, kR 7, kL 8, kT 9, kL 10] (by kernel_rfl) (by kernel_rfl) ?_
    simp only [zx, gzQ, gsQ]
    have HC := qh (fun W' (h : Fr (fun k => k = g) wr.drew W') => (hV.o.1.fr ((zb _).fr h) (fun e => lg.o.2.2.2 e.symm)).cell)
    have sK : Hq (Blk wr.drew gi #[.int .i64 (op : Int), .slice ap am ar, .bool false, .int .i64 0, .slice none 0 0] 76 ∧ Own Lay.arg 239 wo.heap.size wr.drew (.slice ap am ar) r1.1 ∧ SpR D g lo r1.2 wr.drew ∧ Fr (fun k => k = g ∨ k = gi) wo wr.drew) := ⟨hV.o.1.ext (zb _), hV.o.2.1.ext (zb _), hV.o.2.2.1.ext (zb _), hV.o.2.2.2.ext (zb _)⟩
    clear eq hV
    generalize wr.drew = W3 at *
    repeat (apply item_take; rfl; rfl; rfl; rfl; exact fun _ _ _ _ h => h; (intro W e _ k; have q := HC.o W e; go_simp; exact k))
    apply zg; rfl; intro K hK; go_simp
    have ov := zbY kj qJ.o D g lo r1.2 W3 sK.o.2.2.1 c8.o
    have wj := zdw kj qJ.o r1.2
    generalize pI : y0 kj r1.2 = rb at *
    refine ov.mono ?_
    clear ov
    rintro e w5 ⟨rfl, k1, k2⟩
    refine hK _ _ k2 ?_
    have lQ : Hq (∀ k, (Value.slice ap am ar).ownBlock = some k → wo.heap.size ≤ k) := fun k hk => (sK.o.2.1.lt k hk).1
    have h5 : Hq (Blk w5 gi #[.int .i64 (op : Int), .slice ap am ar, .bool false, .int .i64 0, .slice none 0 0] 76 ∧ Own Lay.arg 239 wo.heap.size w5 (.slice ap am ar) r1.1 ∧ SpR D g lo rb.2 w5 ∧ Fr (fun k => k = g ∨ k = gi) wo w5) :=
     ⟨sK.o.1.fr k2 (fun e => lg.o.2.2.2 e.symm), sK.o.2.1.fr k2 (fun k h1 h2 e => by have := lg.o; have e' : k = g := e; omega), k1, sK.o.2.2.2.trans k2 (fun _ _ h => h) (fun _ _ h => .inl h)⟩
    clear hK K k1 k2 HC
    repeat (apply item_take; rfl; rfl; rfl; rfl; exact fun _ _ _ _ h => h; (intro _ _ _ k; go_simp; exact k))
    apply zg; rfl; intro K hK; go_simp
    refine hK _ _ (za _ _).to ?_
    clear hK K
    apply zn; rfl; intro K hK
    refine JC Lay.arg wo.heap.size (.tmp 32) (.tmp 38) _ _ _ 16 rfl Tryz.underlying74 zg1 rfl (by omega) (by decide) (.slice ap am ar) r1.1 (kj, UInt64.ofNat rb.1) _ rfl rfl h5.o.2.1 ⟨[_], [_], rfl, ⟨rfl, e1, e2⟩, by show [Value.int .u64 (rb.1 : Int)] = [Value.int .u64 ((UInt64.ofNat rb.1).toNat : Int)]; rw [show (UInt64.ofNat rb.1).toNat = rb.1 from Nat.mod_eq_of_lt wj]⟩ h5.o.2.2.2.size (by rw [kI.o, ltQ]; have := H3.o.1; omega) ?_
    intro v1 w6 h1 h2 h3
    refine hK _ _ ?_
    clear hK K
    obtain ⟨az, aR, aO, rfl⟩ := h1.shape
    have h6 : Hq (Blk w6 gi #[.int .i64 (op : Int), .slice ap am ar, .bool false, .int .i64 0, .slice none 0 0] 76 ∧ Own Lay.arg 239 wo.heap.size w6 (.slice az aR aO) r2.1 ∧ SpR D g lo r2.2 w6 ∧ Fr (fun k => k = g ∨ k = gi) wo w6) := by
     rw [sZ.o]
     refine ⟨h5.o.1.fr h2 (fun e => by have := lQ.o gi e.symm; have := lg.o; omega), h1, h5.o.2.2.1.fr h2 (fun e => by have := lQ.o g e.symm; have := lg.o; omega) (fun k hk e => by have := lQ.o k e.symm; have := (HS.o.1.lt.2 k hk).1; have := H2.o.1.size; have := lg.o; omega), Fr.trans h5.o.2.2.2 h2 (fun _ _ h => h) (fun k hk e => absurd hk (by have := lQ.o k e.symm; omega))⟩
    clear h1 h2 h3 h5 lQ
    have fp := h6.o.1.cell
    have ep := h6.o.1.frz
    repeat (apply item_take; rfl; rfl; rfl; rfl; exact fun _ _ _ _ h => h; (intro _ _ _ k; go_simp; exact k))
    apply zn; rfl; intro K hK; go_simp
    refine hK _ _ ?_
    clear hK K fp ep
    apply zm
    have bO : Hq (Blk (w6.setCell ⟨gi, 1, none⟩ (.slice az aR aO)) gi #[.int .i64 (op : Int), .slice az aR aO, .bool false, .int .i64 0, .slice none 0 0] 76 ∧ Own Lay.arg 239 wo.heap.size (w6.setCell ⟨gi, 1, none⟩ (.slice az aR aO)) (.slice az aR aO) r2.1 ∧ SpR D g lo r2.2 (w6.setCell ⟨gi, 1, none⟩ (.slice az aR aO)) ∧ Fr (fun k => k = g ∨ k = gi) wo (w6.setCell ⟨gi, 1, none⟩ (.slice az aR aO))) := by
     refine ⟨?_, Own.only Lay.flat_arg h6.o.2.1 (zf _ _ _) (fun k' h e => by have := (h6.o.2.1.lt k' h).1; have e' : k' = gi := e; have := lg.o; omega), h6.o.2.2.1.fr (zf _ _ _) (fun e => lg.o.2.2.2 e) (fun k hk e => by have e' : k = gi := e; have := (HS.o.1.lt.2 k hk).1; have := H2.o; omega), h6.o.2.2.2.setCell (.inl (.inr rfl)) _⟩
     have := h6.o.1.set 1 (.slice az aR aO)
     simpa using this
    go_wp2
    go_roundw
    case rel => exact ⟨j + 1, _, by omega, by go_num, by rw [aY.o]; exact bO⟩
    case measure => simp [intOf]; omega
   ·obtain rfl : j = ks.length := by omega
    have bh : Hq (Blk wr gi #[.int .i64 (op : Int), .slice ap am ar, .bool false, .int .i64 0, .slice none 0 0] 76 ∧ Own Lay.arg 239 wo.heap.size wr (.slice ap am ar) (y2 ks s1).1 ∧ SpR D g lo (y2 ks s1).2 wr ∧ Fr (fun k => k = g ∨ k = gi) wo wr) := by
     have := hV.o
     rw [tlQ] at this
     exact this
    have eH := qh (((H2.o.2.2.1.ext H3.o.2.1).fr HO.o.2.1 (fun e => by have := H2.o.2.2.2; omega)).fr bh.o.2.2.2 (fun e => by have := H2.o.2.2.2; omega))
    have eq := bh.o.1.cell
    have xf := eH.o.cell
    have dA := eH.o.frz
    go_wp2
    have iO : Fr (fun k => k = w.heap.size) wr (((((wr.setCell ⟨w.heap.size, 0, none⟩ (.int .i64 (op : Int))).setCell ⟨w.heap.size, 1, none⟩ (.slice ap am ar)).setCell ⟨w.heap.size, 2, none⟩ (.bool false)).setCell ⟨w.heap.size, 3, none⟩ (.int .i64 0)).setCell ⟨w.heap.size, 4, none⟩ (.slice none 0 0)) := Fr.setCell (Fr.setCell (Fr.setCell (Fr.setCell (Fr.setCell (Fr.refl (fun k => k = w.heap.size) wr) (p := ⟨w.heap.size, 0, none⟩) (.inl rfl) _) (p := ⟨w.heap.size, 1, none⟩) (.inl rfl) _) (p := ⟨w.heap.size, 2, none⟩) (.inl rfl) _) (p := ⟨w.heap.size, 3, none⟩) (.inl rfl) _) (p := ⟨w.heap.size, 4, none⟩) (.inl rfl) _
    have c8 := (((((eH.o.set 0 (.int .i64 (op : Int))).set 1 (.slice ap am ar)).set 2 (.bool false)).set 3 (.int .i64 0)).set 4 (.slice none 0 0)).cell
    have aV := qh (show Own Lay.arg 239 w.heap.size (((((wr.setCell ⟨w.heap.size, 0, none⟩ (.int .i64 (op : Int))).setCell ⟨w.heap.size, 1, none⟩ (.slice ap am ar)).setCell ⟨w.heap.size, 2, none⟩ (.bool false)).setCell ⟨w.heap.size, 3, none⟩ (.int .i64 0)).setCell ⟨w.heap.size, 4, none⟩ (.slice none 0 0)) (.slice ap am ar) (y2 ks s1).1 ∧ SpR D g lo (y2 ks s1).2 (((((wr.setCell ⟨w.heap.size, 0, none⟩ (.int .i64 (op : Int))).setCell ⟨w.heap.size, 1, none⟩ (.slice ap am ar)).setCell ⟨w.heap.size, 2, none⟩ (.bool false)).setCell ⟨w.heap.size, 3, none⟩ (.int .i64 0)).setCell ⟨w.heap.size, 4, none⟩ (.slice none 0 0)) ∧ Fr (fun k => k = g) w (((((wr.setCell ⟨w.heap.size, 0, none⟩ (.int .i64 (op : Int))).setCell ⟨w.heap.size, 1, none⟩ (.slice ap am ar)).setCell ⟨w.heap.size, 2, none⟩ (.bool false)).setCell ⟨w.heap.size, 3, none⟩ (.int .i64 0)).setCell ⟨w.heap.size, 4, none⟩ (.slice none 0 0)) from by
     have oZ := lg.o
     have h2 := H2.o
     have DY := h2.2.2.2
     refine ⟨(bh.o.2.1.fr iO (fun k h1 _ e => by cases e; omega)).lower (by omega), bh.o.2.2.1.fr iO (fun e => by have e' : g = w.heap.size := e; omega) (fun k hk e => by have e' : k = w.heap.size := e; have := (HS.o.1.lt.2 k hk).1; omega), ?_⟩
     have gd : Fr (fun k => (k = g ∨ k = gi) ∨ k = w.heap.size) wo _ := Fr.trans bh.o.2.2.2 iO (fun _ _ h => .inl h) (fun _ _ h => .inr h)
     refine (Ext.fr H3.o.2.2 (Fr.trans HO.o.2.1 gd (U := fun k => (k = g ∨ k = gi) ∨ k = w.heap.size) (fun _ _ h => .inl (.inl h)) (fun _ _ h => h))).mono (fun k hk e => ?_)
     rcases e with (e | e) | e
     ·exact e
     ·omega
     ·omega)
    clear iO xf dA eq
    exact bodyPost_ret (v := .agg #[.int .i64 (op : Int), .slice ap am ar, .bool false, .int .i64 0, .slice none 0 0]) (by simp [results, Tryz.results124, go_sem, c8]) rfl ⟨_, _, _, rfl, aV.o⟩
variable {A : Nat → Prop} {v1 : Value}
theorem zfD {n : Nat} {op ty : Int} {args : List (Int × UInt64)} {st : Bool} {body : List Ins} {v2 : Value} (h1 : -9223372036854775808 ≤ op ∧ op ≤ 9223372036854775807) (h2 : -9223372036854775808 ≤ ty ∧ ty ≤ 9223372036854775807)
 (ha : Lay.arg.slice.rd A w [v1] args) (hb : (Lay.ins n).slice.rd A w [v2] body) : (Lay.ins (n + 1)).rd A w [.int .i64 op, v1, .bool st, .int .i64 ty, v2] (.mk op args st ty body) :=
 ⟨[_], _, rfl, ⟨rfl, h1⟩, [_], _, rfl, ha, [_], _, rfl, rfl, [_], _, rfl, ⟨rfl, h2⟩, hb⟩
variable {α : Type}
theorem zcI (l : Lay α) : l.slice.rd A w [.slice none 0 0] [] := ⟨none, 0, rfl, Nat.le_refl _, by decide, fun h => absurd h (by simp)⟩
def zdx (op : Nat) : Bool := decide (op = 65 ∨ op = 66 ∨ op = 67 ∨ op = 68)
theorem zfE (op : Nat) (w : World) : Calls Tryz.prog 68 #[.int .i64 (op : Int)] w fun e w' => e = .returned (.bool (zdx op)) ∧ w' = w := by
 by_cases h : op = 65 ∨ op = 66 ∨ op = 67 ∨ op = 68
 ·rcases h with rfl | rfl | rfl | rfl
  all_goals
   go_enter Tryz.func68, Tryz.ntmps68
   go_wp2
   go_ret
   exact ⟨rfl, rfl⟩
 ·have hr := qh (show zdx op = false from decide_eq_false h)
  have hh : ((op : Int) == 65) = false ∧ ((op : Int) == 66) = false ∧ ((op : Int) == 67) = false ∧ ((op : Int) == 68) = false := by
   simp only [beq_eq_false_iff_ne]
   omega
  obtain ⟨h1, h2, h3, h4⟩ := hh
  clear h
  go_enter Tryz.func68, Tryz.ntmps68
  go_wp2
  go_ret
  exact ⟨by rw [hr.o]; rfl, rfl⟩
def JF (s : St) : St := if (zi s).2.v = 0 ∧ zdx (zi s).1 = false then (zi s).2.fail 2 else (zi s).2
def JG (s : St) : St := if (zi s).2.v = 0 ∧ (zi s).1 ≠ 11 then (zi s).2.fail 2 else (zi s).2
def zI (op : Nat) (s : St) : List (Int × UInt64) × St := y2 ((z5 (op : Int)).getD []) (jV (op : Int) s)
def ya (s : St) : List Ins × St :=
 ([.mk ((zi s).1 : Int) (zI (zi s).1 (JF s)).1 false 0 []], JG (zI (zi s).1 (JF s)).2)
theorem zdy (op : Int) (s : St) : (jV op s).b.length ≤ s.b.length := by
 unfold jV; split
 ·exact nzQ _
 ·exact Nat.le_refl _
theorem zdz (op : Nat) (s : St) : (zI op s).2.b.length ≤ s.b.length :=
 nlQ (J7 _ (zaE op).1 _) (zdy _ _)
theorem zdA (s : St) : (JF s).b.length ≤ s.b.length := by
 have := yc s
 unfold JF; split
 ·exact nzQ _
 ·exact this
theorem zdB (s : St) : (JG s).b.length ≤ s.b.length := by
 have := yc s
 unfold JG; split
 ·exact nzQ _
 ·exact this
theorem Jb (s : St) : (ya s).2.b.length ≤ s.b.length :=
 nlQ (zdB _) (nlQ (zdz _ _) (zdA _))
theorem JH (N : Nat) (D : Nat → Prop) (g : Nat) (lo : Bool) (s : St) (w : World) (h : SpR D g lo s w) (hl : s.b.length ≤ 140737488355328) :
 Calls Tryz.prog 101 #[.pointer (some ⟨g, 0, none⟩)] w fun e w' => ∃ v, e = .returned v ∧ (Lay.ins (N + 1)).slice.rd (fun k => w.heap.size ≤ k ∧ k < w'.heap.size) w' [v] (ya s).1 ∧ SpR D g lo (ya s).2 w' ∧ Fr (fun k => k = g) w w' := by
 have H := qh (anQ h (anQ hl h.lt.1))
 have nC := qh (yc s)
 have oy := y4 s
 have HR : Hq ((ya s).1 = [.mk ((zi s).1 : Int) (zI (zi s).1 (JF s)).1 false 0 []] ∧ (ya s).2 = JG (zI (zi s).1 (JF s)).2) := ⟨rfl, rfl⟩
 obtain ⟨rc, AO⟩ := exQ (ya s)
 rw [AO] at HR ⊢
 clear h hl AO
 go_enter Tryz.func101, Tryz.ntmps101
 go_wp2_with fail
 refine (yh H.o.1).mono ?_
 rintro e w1 ⟨rfl, k1, k2⟩
 have H1 := qh (anQ k1 k2)
 have ed := qh (show JF s = if (zi s).2.v = 0 ∧ zdx (zi s).1 = false then (zi s).2.fail 2 else (zi s).2 from rfl)
 generalize (zi s).1 = op at *
 generalize (zi s).2 = s1 at *
 generalize JF s = s2 at *
 clear k1 k2
 go_wp2_with fail
 refine (z8 H1.o.1).mono ?_
 rintro e uk ⟨rfl, rfl⟩
 by_cases hv : s1.v = 0
 ·rw [decide_eq_true hv]
  go_wp2_with fail
  refine (zfE op uk).mono ?_
  rintro e nE ⟨rfl, rfl⟩
  cases ho : zdx op
  case' false =>
   go_wp2_with fail
   refine (zp D g lo s1 2 nE H1.o.1).mono ?_
   rintro e w2 ⟨rfl, k1, k2⟩
   have H2 : Hq (SpR D g lo s2 w2 ∧ Fr (fun k => k = g) w w2 ∧ s2.b.length ≤ 140737488355328) := ⟨by rw [ed.o, if_pos ⟨hv, ho⟩]; exact k1, Fr.trans H1.o.2 k2 (fun _ _ h => h) (fun _ _ h => h), by rw [ed.o, if_pos ⟨hv, ho⟩]; exact nzQ _⟩
   clear k1 k2 ed hv ho H1
   go_wp2_with fail
   refine (JE op oy D g lo s2 w2 H2.o.1 H2.o.2.2).mono ?_
   rintro e w3 ⟨a1, n1, c1, rfl, k1, k2, k3⟩
   have mu := qh (show zI op s2 = y2 ((z5 (op : Int)).getD []) (jV (op : Int) s2) from rfl)
   have oU : SpR D g lo (zI op s2).2 w3 := k2
   have pg : Own Lay.arg 239 w2.heap.size w3 (.slice a1 n1 c1) (zI op s2).1 := k1
   clear k1 k2 mu
   have aY := qh (show JG (zI op s2).2 = if (zi (zI op s2).2).2.v = 0 ∧ (zi (zI op s2).2).1 ≠ 11 then (zi (zI op s2).2).2.fail 2 else (zi (zI op s2).2).2 from rfl)
   generalize JG (zI op s2).2 = s5 at *
   generalize (zI op s2).1 = args at *
   generalize (zI op s2).2 = s3 at *
   have H3 := qh (anQ oU (anQ (Fr.trans H2.o.2.1 k3 (U := fun k => k = g) (fun _ _ h => h) (fun _ _ h => h)) pg))
   clear pg oU k3
   go_wp2_with fail
   have eW := qh (show w.heap.size ≤ w2.heap.size from H2.o.2.1.size)
   obtain ⟨gi, eK⟩ := exQ (w3.heap.size)
   obtain ⟨W3, fi⟩ : ∃ W3, w3.alloc (.cells #[.int .i64 (op : Int), .slice a1 n1 c1, .bool false, .int .i64 0, .slice none 0 0] 76) = W3 := ⟨_, rfl⟩
   have HI : Hq (SpR D g lo s3 W3 ∧ Fr (fun k => k = g) w W3 ∧ Own Lay.arg 239 w2.heap.size W3 (.slice a1 n1 c1) args ∧ Blk W3 gi #[.int .i64 (op : Int), .slice a1 n1 c1, .bool false, .int .i64 0, .slice none 0 0] 76 ∧ w.heap.size ≤ gi ∧ gi ≠ g ∧ w.heap.size ≤ w2.heap.size) := by
    subst fi
    subst eK
    exact ⟨H3.o.1.ext (za _ _), H3.o.2.1.ext (za _ _), H3.o.2.2.ext (za _ _), zl _ _ _, H3.o.2.1.size, by have := H3.o.1.lt.1; omega, H2.o.2.1.size⟩
   rw [fi, eK]
   clear fi eK H3
   refine (yh HI.o.1).mono ?_
   rintro e w4 ⟨rfl, k1, k2⟩
   have rI := y4 s3
   generalize (zi s3).1 = c at *
   generalize (zi s3).2 = s4 at *
   have HJ : Hq (SpR D g lo s4 w4 ∧ Fr (fun k => k = g) w w4 ∧ Own Lay.arg 239 w2.heap.size w4 (.slice a1 n1 c1) args ∧ Blk w4 gi #[.int .i64 (op : Int), .slice a1 n1 c1, .bool false, .int .i64 0, .slice none 0 0] 76) :=
    ⟨k1, Fr.trans HI.o.2.1 k2 (fun _ _ h => h) (fun _ _ h => h), HI.o.2.2.1.fr k2 (fun k h1 _ e => by have e' : k = g := e; have := H.o.2.2; have := HI.o.2.2.2.2.2.2; omega), HI.o.2.2.2.1.fr k2 HI.o.2.2.2.2.2.1⟩
   clear k1 k2
   go_wp2_with fail
   refine (z8 HJ.o.1).mono ?_
   rintro e w5 ⟨rfl, rfl⟩
   by_cases hv4 : s4.v = 0
   case' neg =>
    rw [decide_eq_false hv4]
    have HF : Hq (SpR D g lo s5 w5) := by show SpR D g lo s5 w5; rw [aY.o, if_neg (fun h => hv4 h.1)]; exact HJ.o.1
    obtain ⟨w6, rfl⟩ : ∃ w6, w6 = w5 := ⟨_, rfl⟩
    have HB := qh HJ.o.2
    clear hv4 aY HI HJ
   case' pos =>
    rw [decide_eq_true hv4]
    by_cases hc : c = 11
    case' neg =>
     have dc : ((c : Int) != 11) = true := by rw [bne_iff_ne]; omega
     go_wp2_with fail
     refine (zp D g lo s4 2 w5 HJ.o.1).mono ?_
     rintro e w6 ⟨rfl, k1, k2⟩
     have HF : Hq (SpR D g lo s5 w6) := by show SpR D g lo s5 w6; rw [aY.o, if_pos ⟨hv4, hc⟩]; exact k1
     have HB : Hq (Fr (fun k => k = g) w w6 ∧ Own Lay.arg 239 w2.heap.size w6 (.slice a1 n1 c1) args ∧ Blk w6 gi #[.int .i64 (op : Int), .slice a1 n1 c1, .bool false, .int .i64 0, .slice none 0 0] 76) :=
      ⟨Fr.trans HJ.o.2.1 k2 (fun _ _ h => h) (fun _ _ h => h), HJ.o.2.2.1.fr k2 (fun k h1 _ e => by have e' : k = g := e; have := H.o.2.2; have := HI.o.2.2.2.2.2.2; omega), HJ.o.2.2.2.fr k2 HI.o.2.2.2.2.2.1⟩
     clear k1 k2 hv4 aY HI HJ
    case' pos =>
     have dc : ((c : Int) != 11) = false := by rw [bne_eq_false_iff_eq]; omega
     have HF : Hq (SpR D g lo s5 w5) := by show SpR D g lo s5 w5; rw [aY.o, if_neg (fun h => h.2 hc)]; exact HJ.o.1
     obtain ⟨w6, rfl⟩ : ∃ w6, w6 = w5 := ⟨_, rfl⟩
     have HB := qh HJ.o.2
     clear hv4 aY HI HJ
  case' true =>
   have H2 : Hq (SpR D g lo s2 nE ∧ Fr (fun k => k = g) w nE ∧ s2.b.length ≤ 140737488355328) := ⟨by rw [ed.o, if_neg (fun h => by rw [ho] at h; cases h.2)]; exact H1.o.1, H1.o.2, by rw [ed.o, if_neg (fun h => by rw [ho] at h; cases h.2)]; have := nC.o; have := H.o.2.1; omega⟩
   obtain ⟨w2, rfl⟩ : ∃ w2, w2 = nE := ⟨_, rfl⟩
   clear ed hv ho H1
   go_wp2_with fail
   refine (JE op oy D g lo s2 w2 H2.o.1 H2.o.2.2).mono ?_
   rintro e w3 ⟨a1, n1, c1, rfl, k1, k2, k3⟩
   have mu := qh (show zI op s2 = y2 ((z5 (op : Int)).getD []) (jV (op : Int) s2) from rfl)
   have oU : SpR D g lo (zI op s2).2 w3 := k2
   have pg : Own Lay.arg 239 w2.heap.size w3 (.slice a1 n1 c1) (zI op s2).1 := k1
   clear k1 k2 mu
   have aY := qh (show JG (zI op s2).2 = if (zi (zI op s2).2).2.v = 0 ∧ (zi (zI op s2).2).1 ≠ 11 then (zi (zI op s2).2).2.fail 2 else (zi (zI op s2).2).2 from rfl)
   generalize JG (zI op s2).2 = s5 at *
   generalize (zI op s2).1 = args at *
   generalize (zI op s2).2 = s3 at *
   have H3 := qh (anQ oU (anQ (Fr.trans H2.o.2.1 k3 (U := fun k => k = g) (fun _ _ h => h) (fun _ _ h => h)) pg))
   clear pg oU k3
   go_wp2_with fail
   have eW := qh (show w.heap.size ≤ w2.heap.size from H2.o.2.1.size)
   obtain ⟨gi, eK⟩ := exQ (w3.heap.size)
   obtain ⟨W3, fi⟩ : ∃ W3, w3.alloc (.cells #[.int .i64 (op : Int), .slice a1 n1 c1, .bool false, .int .i64 0, .slice none 0 0] 76) = W3 := ⟨_, rfl⟩
   have HI : Hq (SpR D g lo s3 W3 ∧ Fr (fun k => k = g) w W3 ∧ Own Lay.arg 239 w2.heap.size W3 (.slice a1 n1 c1) args ∧ Blk W3 gi #[.int .i64 (op : Int), .slice a1 n1 c1, .bool false, .int .i64 0, .slice none 0 0] 76 ∧ w.heap.size ≤ gi ∧ gi ≠ g ∧ w.heap.size ≤ w2.heap.size) := by
    subst fi
    subst eK
    exact ⟨H3.o.1.ext (za _ _), H3.o.2.1.ext (za _ _), H3.o.2.2.ext (za _ _), zl _ _ _, H3.o.2.1.size, by have := H3.o.1.lt.1; omega, H2.o.2.1.size⟩
   rw [fi, eK]
   clear fi eK H3
   refine (yh HI.o.1).mono ?_
   rintro e w4 ⟨rfl, k1, k2⟩
   have rI := y4 s3
   generalize (zi s3).1 = c at *
   generalize (zi s3).2 = s4 at *
   have HJ : Hq (SpR D g lo s4 w4 ∧ Fr (fun k => k = g) w w4 ∧ Own Lay.arg 239 w2.heap.size w4 (.slice a1 n1 c1) args ∧ Blk w4 gi #[.int .i64 (op : Int), .slice a1 n1 c1, .bool false, .int .i64 0, .slice none 0 0] 76) :=
    ⟨k1, Fr.trans HI.o.2.1 k2 (fun _ _ h => h) (fun _ _ h => h), HI.o.2.2.1.fr k2 (fun k h1 _ e => by have e' : k = g := e; have := H.o.2.2; have := HI.o.2.2.2.2.2.2; omega), HI.o.2.2.2.1.fr k2 HI.o.2.2.2.2.2.1⟩
   clear k1 k2
   go_wp2_with fail
   refine (z8 HJ.o.1).mono ?_
   rintro e w5 ⟨rfl, rfl⟩
   by_cases hv4 : s4.v = 0
   case' neg =>
    rw [decide_eq_false hv4]
    have HF : Hq (SpR D g lo s5 w5) := by show SpR D g lo s5 w5; rw [aY.o, if_neg (fun h => hv4 h.1)]; exact HJ.o.1
    obtain ⟨w6, rfl⟩ : ∃ w6, w6 = w5 := ⟨_, rfl⟩
    have HB := qh HJ.o.2
    clear hv4 aY HI HJ
   case' pos =>
    rw [decide_eq_true hv4]
    by_cases hc : c = 11
    case' neg =>
     have dc : ((c : Int) != 11) = true := by rw [bne_iff_ne]; omega
     go_wp2_with fail
     refine (zp D g lo s4 2 w5 HJ.o.1).mono ?_
     rintro e w6 ⟨rfl, k1, k2⟩
     have HF : Hq (SpR D g lo s5 w6) := by show SpR D g lo s5 w6; rw [aY.o, if_pos ⟨hv4, hc⟩]; exact k1
     have HB : Hq (Fr (fun k => k = g) w w6 ∧ Own Lay.arg 239 w2.heap.size w6 (.slice a1 n1 c1) args ∧ Blk w6 gi #[.int .i64 (op : Int), .slice a1 n1 c1, .bool false, .int .i64 0, .slice none 0 0] 76) :=
      ⟨Fr.trans HJ.o.2.1 k2 (fun _ _ h => h) (fun _ _ h => h), HJ.o.2.2.1.fr k2 (fun k h1 _ e => by have e' : k = g := e; have := H.o.2.2; have := HI.o.2.2.2.2.2.2; omega), HJ.o.2.2.2.fr k2 HI.o.2.2.2.2.2.1⟩
     clear k1 k2 hv4 aY HI HJ
    case' pos =>
     have dc : ((c : Int) != 11) = false := by rw [bne_eq_false_iff_eq]; omega
     have HF : Hq (SpR D g lo s5 w5) := by show SpR D g lo s5 w5; rw [aY.o, if_neg (fun h => h.2 hc)]; exact HJ.o.1
     obtain ⟨w6, rfl⟩ : ∃ w6, w6 = w5 := ⟨_, rfl⟩
     have HB := qh HJ.o.2
     clear hv4 aY HI HJ
  all_goals
   have fM := HB.o.2.2.cell
   go_wp2
   go_ret
   have hx := za w6 (.cells #[.int .i64 (op : Int), .slice a1 n1 c1, .bool false, .int .i64 0, .slice none 0 0] 76)
   refine ⟨_, rfl, ?_, ?_, ?_⟩
   ·rw [HR.o.1]
    have l6 := HB.o.2.1.slice
    exact Lay.rd_new1 (A := fun k => w.heap.size ≤ k ∧ k < w6.heap.size) (zfD ⟨by omega, by omega⟩ (by decide) (Lay.mono _ l6 (fun k hk => ⟨by have := hk.1; have := eW.o; omega, hk.2⟩)) (zcI _)) (fun k hk => hk.2) (fun k hk => ⟨hk.1, nqQ hk.2 hx.size⟩) ⟨HB.o.1.size, by show _ < (w6.alloc _).heap.size; simp⟩
   ·rw [HR.o.2]
    exact HF.o.ext (za _ _)
   ·exact HB.o.1.ext (za _ _)
 ·rw [decide_eq_false hv]
  have H2 : Hq (SpR D g lo s2 uk ∧ Fr (fun k => k = g) w uk ∧ s2.b.length ≤ 140737488355328) := ⟨by rw [ed.o, if_neg (fun h => hv h.1)]; exact H1.o.1, H1.o.2, by rw [ed.o, if_neg (fun h => hv h.1)]; have := nC.o; have := H.o.2.1; omega⟩
  obtain ⟨w2, rfl⟩ : ∃ w2, w2 = uk := ⟨_, rfl⟩
  clear ed hv H1
  go_wp2_with fail
  refine (JE op oy D g lo s2 w2 H2.o.1 H2.o.2.2).mono ?_
  rintro e w3 ⟨a1, n1, c1, rfl, k1, k2, k3⟩
  have mu := qh (show zI op s2 = y2 ((z5 (op : Int)).getD []) (jV (op : Int) s2) from rfl)
  have oU : SpR D g lo (zI op s2).2 w3 := k2
  have pg : Own Lay.arg 239 w2.heap.size w3 (.slice a1 n1 c1) (zI op s2).1 := k1
  clear k1 k2 mu
  have aY := qh (show JG (zI op s2).2 = if (zi (zI op s2).2).2.v = 0 ∧ (zi (zI op s2).2).1 ≠ 11 then (zi (zI op s2).2).2.fail 2 else (zi (zI op s2).2).2 from rfl)
  generalize JG (zI op s2).2 = s5 at *
  generalize (zI op s2).1 = args at *
  generalize (zI op s2).2 = s3 at *
  have H3 := qh (anQ oU (anQ (Fr.trans H2.o.2.1 k3 (U := fun k => k = g) (fun _ _ h => h) (fun _ _ h => h)) pg))
  clear pg oU k3
  go_wp2_with fail
  have eW := qh (show w.heap.size ≤ w2.heap.size from H2.o.2.1.size)
  obtain ⟨gi, eK⟩ := exQ (w3.heap.size)
  obtain ⟨W3, fi⟩ : ∃ W3, w3.alloc (.cells #[.int .i64 (op : Int), .slice a1 n1 c1, .bool false, .int .i64 0, .slice none 0 0] 76) = W3 := ⟨_, rfl⟩
  have HI : Hq (SpR D g lo s3 W3 ∧ Fr (fun k => k = g) w W3 ∧ Own Lay.arg 239 w2.heap.size W3 (.slice a1 n1 c1) args ∧ Blk W3 gi #[.int .i64 (op : Int), .slice a1 n1 c1, .bool false, .int .i64 0, .slice none 0 0] 76 ∧ w.heap.size ≤ gi ∧ gi ≠ g ∧ w.heap.size ≤ w2.heap.size) := by
   subst fi
   subst eK
   exact ⟨H3.o.1.ext (za _ _), H3.o.2.1.ext (za _ _), H3.o.2.2.ext (za _ _), zl _ _ _, H3.o.2.1.size, by have := H3.o.1.lt.1; omega, H2.o.2.1.size⟩
  rw [fi, eK]
  clear fi eK H3
  refine (yh HI.o.1).mono ?_
  rintro e w4 ⟨rfl, k1, k2⟩
  have rI := y4 s3
  generalize (zi s3).1 = c at *
  generalize (zi s3).2 = s4 at *
  have HJ : Hq (SpR D g lo s4 w4 ∧ Fr (fun k => k = g) w w4 ∧ Own Lay.arg 239 w2.heap.size w4 (.slice a1 n1 c1) args ∧ Blk w4 gi #[.int .i64 (op : Int), .slice a1 n1 c1, .bool false, .int .i64 0, .slice none 0 0] 76) :=
   ⟨k1, Fr.trans HI.o.2.1 k2 (fun _ _ h => h) (fun _ _ h => h), HI.o.2.2.1.fr k2 (fun k h1 _ e => by have e' : k = g := e; have := H.o.2.2; have := HI.o.2.2.2.2.2.2; omega), HI.o.2.2.2.1.fr k2 HI.o.2.2.2.2.2.1⟩
  clear k1 k2
  go_wp2_with fail
  refine (z8 HJ.o.1).mono ?_
  rintro e w5 ⟨rfl, rfl⟩
  by_cases hv4 : s4.v = 0
  case' neg =>
   rw [decide_eq_false hv4]
   have HF : Hq (SpR D g lo s5 w5) := by show SpR D g lo s5 w5; rw [aY.o, if_neg (fun h => hv4 h.1)]; exact HJ.o.1
   obtain ⟨w6, rfl⟩ : ∃ w6, w6 = w5 := ⟨_, rfl⟩
   have HB := qh HJ.o.2
   clear hv4 aY HI HJ
  case' pos =>
   rw [decide_eq_true hv4]
   by_cases hc : c = 11
   case' neg =>
    have dc : ((c : Int) != 11) = true := by rw [bne_iff_ne]; omega
    go_wp2_with fail
    refine (zp D g lo s4 2 w5 HJ.o.1).mono ?_
    rintro e w6 ⟨rfl, k1, k2⟩
    have HF : Hq (SpR D g lo s5 w6) := by show SpR D g lo s5 w6; rw [aY.o, if_pos ⟨hv4, hc⟩]; exact k1
    have HB : Hq (Fr (fun k => k = g) w w6 ∧ Own Lay.arg 239 w2.heap.size w6 (.slice a1 n1 c1) args ∧ Blk w6 gi #[.int .i64 (op : Int), .slice a1 n1 c1, .bool false, .int .i64 0, .slice none 0 0] 76) :=
     ⟨Fr.trans HJ.o.2.1 k2 (fun _ _ h => h) (fun _ _ h => h), HJ.o.2.2.1.fr k2 (fun k h1 _ e => by have e' : k = g := e; have := H.o.2.2; have := HI.o.2.2.2.2.2.2; omega), HJ.o.2.2.2.fr k2 HI.o.2.2.2.2.2.1⟩
    clear k1 k2 hv4 aY HI HJ
   case' pos =>
    have dc : ((c : Int) != 11) = false := by rw [bne_eq_false_iff_eq]; omega
    have HF : Hq (SpR D g lo s5 w5) := by show SpR D g lo s5 w5; rw [aY.o, if_neg (fun h => h.2 hc)]; exact HJ.o.1
    obtain ⟨w6, rfl⟩ : ∃ w6, w6 = w5 := ⟨_, rfl⟩
    have HB := qh HJ.o.2
    clear hv4 aY HI HJ
  all_goals
   have fM := HB.o.2.2.cell
   go_wp2
   go_ret
   have hx := za w6 (.cells #[.int .i64 (op : Int), .slice a1 n1 c1, .bool false, .int .i64 0, .slice none 0 0] 76)
   refine ⟨_, rfl, ?_, ?_, ?_⟩
   ·rw [HR.o.1]
    have l6 := HB.o.2.1.slice
    exact Lay.rd_new1 (A := fun k => w.heap.size ≤ k ∧ k < w6.heap.size) (zfD ⟨by omega, by omega⟩ (by decide) (Lay.mono _ l6 (fun k hk => ⟨by have := hk.1; have := eW.o; omega, hk.2⟩)) (zcI _)) (fun k hk => hk.2) (fun k hk => ⟨hk.1, nqQ hk.2 hx.size⟩) ⟨HB.o.1.size, by show _ < (w6.alloc _).heap.size; simp⟩
   ·rw [HR.o.2]
    exact HF.o.ext (za _ _)
   ·exact HB.o.1.ext (za _ _)
abbrev aE (D : Nat → Prop) (W0 W : World) : Nat → Prop := fun k => (D k ∨ W0.heap.size ≤ k) ∧ k < W.heap.size
variable {l : Lay α} {W0 W : World} {cs : List Value} {x : α}
theorem zfF {W' : World} (h : l.rd (aE D W0 W) W cs x) (hg : g < W0.heap.size) (hD : ∀ k, D k → k ≠ g) (hf : Fr (fun k => k = g) W W') : l.rd (aE D W0 W') W' cs x :=
 l.mono (Lay.fr h hf (fun k hk => ⟨hk.2, fun e => by
  have e' : k = g := e
  rcases hk.1 with h1 | h1
  ·exact hD k h1 e'
  ·omega⟩)) (fun k hk => ⟨hk.1, nqQ hk.2 hf.size⟩)
variable {wL : World} {v : Value}
theorem zjm {gb : Nat} (h : l.rd (aE D W0 W) W cs x) (hg : g < W0.heap.size) (bt : gb < W0.heap.size) (hD : ∀ k, D k → k ≠ g ∧ k ≠ gb ∧ k < wL.heap.size) (hv : ∀ k, v.ownBlock = some k → wL.heap.size ≤ k ∧ k < W0.heap.size) :
 l.rd (fun k => ¬ (k = g ∨ k = gb) ∧ k < W.heap.size ∧ some k ≠ v.ownBlock) W cs x :=
 l.mono h fun k hk => by
  rcases hk.1 with h1 | h1
  ·have h2 := hD k h1
   refine ⟨fun e => e.elim h2.1 h2.2.1, hk.2, fun e => ?_⟩
   have := (hv k e.symm).1
   omega
  ·refine ⟨fun e => by rcases e with e | e <;> omega, hk.2, fun e => ?_⟩
   have := (hv k e.symm).2
   omega
theorem zbA (h : l.rd (aE D W0 W) W cs x) (h0 : wL.heap.size ≤ W0.heap.size) (hD : ∀ k, D k → k < wL.heap.size) (hv : ∀ k, v.ownBlock = some k → wL.heap.size ≤ k ∧ k < W0.heap.size) :
 l.rd (fun k => ¬ (¬ D k ∧ k < wL.heap.size) ∧ k < W.heap.size ∧ some k ≠ v.ownBlock) W cs x :=
 l.mono h fun k hk => by
  rcases hk.1 with h1 | h1
  ·refine ⟨fun q => q.1 h1, hk.2, fun e => ?_⟩
   have h2 := hD k h1
   have := (hv k e.symm).1
   omega
  ·refine ⟨fun q => by have := q.2; omega, hk.2, fun e => ?_⟩
   have := (hv k e.symm).2
   omega
section
variable {P : Program} {aw : Array Oper} {rest : List Oper} {o : Oper} {a : Act} {Q : Exit → Act → World → Prop} {K : Act → World → Prop}
theorem zu {α : Type} (l : Lay α) {W : World} (lo : Nat) {X : Nat → Prop} (s x : Operand) (t e : TypeId) (z : Value) (bytes : Nat)
 (ho : o.op = .call { callee := .builtin .append, args := #[s, x], argTypes := #[t, t] })
 (ht : P.underlying t = some (.slice e)) (bR : (P.info? e).map (fun i => (i.zero, i.size, i.bytes)) = some (some z, l.size, bytes)) (hz : z.cells.size = l.size) (dS : 0 < bytes) (fc : 0 < l.size)
 (v : Value) (xs : List α) (y : α) (cs : Array Value) (hs : a.eval s = v) (hx : a.eval x = .slice (some ⟨W.heap.size, 0, none⟩) 1 1)
 (HO : OwnG l e lo X W v xs) (HY : l.rd (fun k => ¬ X k ∧ k < W.heap.size ∧ some k ≠ v.ownBlock) W cs.toList y)
 (bj : lo ≤ W.heap.size) (hl : (xs.length + 1) * bytes ≤ 140737488355328)
 (h : ∀ v1 w1, OwnG l e lo X w1 v1 (xs ++ [y]) → Fr (fun k => some k = v.ownBlock) W w1 → Fr (fun k => some k = v.ownBlock) (W.alloc (.cells cs e)) w1 → (∀ k, v1.ownBlock = some k → v.ownBlock = some k ∨ W.heap.size ≤ k) → K (a.put o.dst v1) w1) :
 o.wp P a (W.alloc (.cells cs e)) K Q := by
 have aj := HO.lt
 refine Z1 l lo s x t e z bytes ho ht bR hz dS fc v xs [y] cs.toList ⟨W.heap.size, 0, none⟩ 1 1 hs hx rfl (HO.ext (za _ _)) ?_ ?_ (by simp; omega) hl ?_
 ·exact Lay.all_single (l.mono (l.frame HY (fun k hk => Below.heap_alloc _ _ _ hk.2.1)) (fun k hk => ⟨hk.1, by simp; omega, hk.2.2⟩))
 ·intro j u hj
  rw [show ((⟨W.heap.size, 0, none⟩ : Addr).add j) = ⟨W.heap.size, j, none⟩ from by unfold Addr.add; split <;> simp_all, (zl W cs e).cell j]
  simpa using hj
 ·intro v1 w1 h1 h2 h3
  refine h v1 w1 h1 (Fr.trans (za W _) h2 (fun _ _ h => h.elim) (fun _ _ h => h)) h2 (fun k hk => ?_)
  rcases h3 with h3 | h3
  ·exact .inl (h3 ▸ hk)
  ·rw [h3] at hk
   injection hk with hk
   refine .inr ?_
   simp at hk
   omega
theorem OwnG.sliceD {α : Type} {l : Lay α} {e : TypeId} {lo : Nat} {D : Nat → Prop} {w : World} {v : Value} {xs : List α} (h : OwnG l e lo (fun k => ¬ D k) w v xs) : l.slice.rd (fun k => (D k ∨ lo ≤ k) ∧ k < w.heap.size) w [v] xs := by
 obtain ⟨flat, ⟨h1, h2⟩, k⟩ := h
 rcases h2 with ⟨rfl, h0⟩ | ⟨g, cap, cX, rfl, hg, hh, hn, hm, hs, ht⟩
 ·have : xs = [] := List.eq_nil_of_length_eq_zero h0
  subst this
  exact ⟨none, 0, rfl, Nat.le_refl _, by simp [maxLen], fun h => absurd h (by simp)⟩
 ·refine ⟨_, cap, rfl, hn, hm, fun _ => ⟨g, 0, cX, e, (0, 0), flat, rfl, ⟨.inr hg, (Z6 hh)⟩, hh, Lay.all_mono (fun k hk => ⟨.inl (Classical.byContradiction fun q => hk.1 q), hk.2.1⟩) k, fun j hj => ?_⟩⟩
  rw [Nat.zero_add, ← ht, List.getElem?_take, if_pos (by omega)]
  simp
end
variable {e : TypeId} {xs : List α}
theorem OwnG.sliceE (h : OwnG l e wL.heap.size (fun k => ¬ D k ∧ k < wL.heap.size) W v xs) (hw : w.heap.size ≤ wL.heap.size) : l.slice.rd (aE D w W) W [v] xs :=
 Lay.mono _ (h.slice (fun k hk q => by have := q.2; omega)) fun k hk => ⟨by
  by_cases hD : D k
  ·exact .inl hD
  ·exact .inr (Classical.byContradiction fun q => hk.1 ⟨hD, by omega⟩), hk.2⟩
theorem zil : Lay.lim.flat := Lay.flat_via (Lay.flat_pair Lay.flat_u32 (Lay.flat_pair Lay.flat_bool Lay.flat_u32)) _
theorem zim : Lay.imp.flat := Lay.flat_via (Lay.flat_pair Lay.flat_strB (Lay.flat_pair Lay.flat_strB (Lay.flat_pair Lay.flat_int (Lay.flat_pair Lay.flat_u32 (Lay.flat_pair zil (Lay.flat_pair Lay.flat_int Lay.flat_bool)))))) _
theorem zg3 : Lay.expo.flat := Lay.flat_via (Lay.flat_pair Lay.flat_strB (Lay.flat_pair Lay.flat_int Lay.flat_u32)) _
theorem z7 : Lay.nam.flat := Lay.flat_via (Lay.flat_pair Lay.flat_u32 (Lay.flat_pair Lay.flat_u32 Lay.flat_strB)) _
theorem y5 (h : l.slice.rd A w [v] xs) : ∃ a m c, v = .slice a m c := by
 obtain ⟨a, c, e, _⟩ := h
 injection e with e
 exact ⟨a, _, c, e⟩
variable {X : Nat → Prop}
theorem yS {lo f : Nat} {S : Nat → Prop} {w0 w1 : World} {ys : List α} {cs : Array Value} {T : TypeId}
 (hB : Blk W g cs T) (hO : OwnG l e lo X W v xs) (hF : Fr S w0 W) (hX : X g) (hS : S g) (hg : g < lo) (bj : lo = w0.heap.size)
 (h1 : OwnG l e lo X w1 v1 ys) (h2 : Fr (fun k => some k = v.ownBlock) W w1) :
 Blk w1 g cs T ∧ (Blk (w1.setCell ⟨g, f, none⟩ v1) g (cs.setIfInBounds f v1) T ∧ OwnG l e lo X (w1.setCell ⟨g, f, none⟩ v1) v1 ys ∧ Fr S w0 (w1.setCell ⟨g, f, none⟩ v1)) := by
 have cz := hB.fr h2 (fun e => by have := (hO.lt g e.symm).1; omega)
 have hs := zf w1 ⟨g, f, none⟩ v1
 refine ⟨cz, cz.set f v1, h1.fr hs (fun k e => .inl (by have e' : k = g := e; rw [e']; exact hX)) (fun k hk e => by have := (h1.lt k hk).1; have e' : k = g := e; omega), ?_⟩
 exact Fr.trans (Fr.trans hF h2 (fun _ _ h => h) (fun k hk e => absurd hk (by have := (hO.lt k e.symm).1; omega))) hs (fun _ _ h => h) (fun k _ e => by have e' : k = g := e; rw [e']; exact hS)
theorem OwnG.sliceF (hl : l.flat) {lo : Nat} (h : OwnG l e lo X w v xs) : l.slice.rd (fun k => lo ≤ k ∧ k < w.heap.size) w [v] xs := by
 obtain ⟨flat, ⟨h1, h2⟩, k⟩ := h
 rcases h2 with ⟨rfl, h0⟩ | ⟨g, cap, cX, rfl, hg, hh, hn, hm, hs, ht⟩
 ·have : xs = [] := List.eq_nil_of_length_eq_zero h0
  subst this
  exact ⟨none, 0, rfl, Nat.le_refl _, by simp [maxLen], fun h => absurd h (by simp)⟩
 ·refine ⟨_, cap, rfl, hn, hm, fun _ => ⟨g, 0, cX, e, (0, 0), flat, rfl, ⟨hg, (Z6 hh)⟩, hh, Lay.all_flat hl k, fun j hj => ?_⟩⟩
  rw [Nat.zero_add, ← ht, List.getElem?_take, if_pos (by omega)]
  simp
end Go.Proofs.YtejgninpjhcgnaaGreatDoor
