/- Texts of this proof, one behind the other. -/
import Derived.Test.YtejgninpjhcgnaaGreatDoorPart5
import Derived.Maps.Own
namespace Go.Proofs.YtejgninpjhcgnaaGreatDoor
open Go.RowKit
open Go.Maps (Keyed)
set_option linter.unusedSimpArgs false
set_option linter.unusedVariables false
set_option maxRecDepth 100000
set_option maxHeartbeats 4000000
theorem yg (s : St) : (zv s).1 ≤ s.b.length ∧ (zv s).2.b.length ≤ s.b.length := by
 have := zJ s
 unfold zv
 split
 ·refine ⟨nzQ _, ?_⟩
  show (if _ then _ else _ : St).b.length ≤ _
  split <;> exact nzQ _
 ·omega
theorem Yb (s : St) : (rNum s).2.b.length ≤ s.b.length := zJ s
variable {D : Nat → Prop} {g : Nat} {lo : Bool} {s : St} {w : World}
theorem zbi (h : SpR D g lo s w) (hl : s.b.length ≤ 140737488355328) :
 Calls Tryz.prog 97 #[.pointer (some ⟨g, 0, none⟩)] w fun e w' => e = .returned (.agg #[.int .u32 ((z6 s).1.min.toNat : Int), .bool (z6 s).1.bounded, .int .u32 ((z6 s).1.max.toNat : Int)]) ∧ SpR D g lo (z6 s).2 w' ∧ Fr (fun k => k = g) w w' := by
 have cU := za w (.cells #[.int .u32 0, .bool false, .int .u32 0] 63)
 have ct := zk w #[.int .u32 0, .bool false, .int .u32 0] 63
 have H := qh (anQ h.lt.1 (anQ hl (h.ext cU)))
 have xm := qh (fun k (hk : D k) => (h.lt.2 k hk).1)
 have oh := yu s
 clear h hl
 go_enter Tryz.func97, Tryz.ntmps97
 go_wp2_with fail
 have cU := qh cU
 have ct := qh ct
 generalize (w.alloc (.cells #[.int .u32 0, .bool false, .int .u32 0] 63)) = W0 at *
 obtain ⟨gl, cj⟩ := exQ (w.heap.size)
 have aO := qh (show ¬ gl = g from by have := H.o.1; omega)
 rw [cj] at ct ⊢
 have cj := qh cj
 have eT := qh (show ∀ k, D k → ¬ k = gl from fun k hk e => by have := xm.o k hk; have := cj.o; omega)
 refine (yo H.o.2.2).mono ?_
 rintro e w1 ⟨rfl, k1, k2⟩
 have HR := qh (show z6 s = zE (if (zn s).2.v = 0 ∧ (zn s).1 ≠ 112 then (zn s).2.fail 1 else (zn s).2) from rfl)
 generalize (zn s).1 = c at *
 generalize (zn s).2 = s1 at *
 have oz := qh (show s1.b.length ≤ 140737488355328 from by have := H.o.2.1; omega)
 have H1 := qh (anQ k1 (anQ k2 (ct.o.fr k2 aO.o)))
 clear k1 k2 oh
 go_wp2_with fail
 refine (yh H1.o.1).mono ?_
 rintro e w2 ⟨rfl, rfl⟩
 by_cases hv : s1.v = 0 ∧ c ≠ 112
 ·have dv : decide (s1.v = 0) = true := decide_eq_true hv.1
  have dc : ((c : Int) != 112) = true := by rw [bne_iff_ne]; have := hv.2; omega
  have HR := qh (show z6 s = zE (s1.fail 1) from by rw [HR.o, if_pos hv])
  go_wp2_with fail
  refine (zr D g lo s1 1 w2 H1.o.1).mono ?_
  rintro e w3 ⟨rfl, k1, k2⟩
  have cV := H1.o.2.2.fr k2 aO.o
  have H2 := qh (anQ k1 (anQ (Fr.trans H1.o.2.1 k2 (U := fun k => k = g) (fun _ _ h => h) (fun _ _ h => h)) cV))
  clear k1 k2 cV
  go_wp2_with fail
  refine (ZB D g lo (s1.fail 1) w3 H2.o.1 (nzQ _)).mono ?_
  rintro e w4 ⟨rfl, k1, k2⟩
  have uf := H2.o.2.2.fr k2 aO.o
  have H4 := qh (anQ k1 (anQ (Fr.trans H2.o.2.1 k2 (U := fun k => k = g) (fun _ _ h => h) (fun _ _ h => h)) uf))
  clear k1 k2
  go_wp2_with (with_reducible refine Jx 63 ?_)
  refine qh ?_
  refine uf.wpList_store rfl 63 (.tmp 2) (.tmp 15) rfl rfl rfl (by kernel_rfl) rfl rfl ?_
  refine wpList_nil ?_
  go_wp2
  have hs := yE w4 gl #[.int .u32 ((zE (s1.fail 1)).1.min.toNat : Int), .bool (zE (s1.fail 1)).1.bounded, .int .u32 ((zE (s1.fail 1)).1.max.toNat : Int)]
  have dG := H4.o.2.2.setRow #[.int .u32 ((zE (s1.fail 1)).1.min.toNat : Int), .bool (zE (s1.fail 1)).1.bounded, .int .u32 ((zE (s1.fail 1)).1.max.toNat : Int)]
  have ai := qh (anQ (H4.o.1.fr hs (fun e => aO.o e.symm) (fun k hk e => eT.o k hk e)) ((Ext.fr cU.o (Fr.trans H4.o.2.1 hs (U := fun k => k = g ∨ k = gl) (fun _ _ h => .inl h) (fun _ _ h => .inr h))).mono (fun k hk e => e.elim id (fun e => by have := cj.o; omega)) : Fr (fun k => k = g) w _))
  refine bodyPost_ret (v := .agg #[.int .u32 ((zE (s1.fail 1)).1.min.toNat : Int), .bool (zE (s1.fail 1)).1.bounded, .int .u32 ((zE (s1.fail 1)).1.max.toNat : Int)]) (jG Tryz.results97 _ rfl dG _ Tryz.underlying63 rfl (by kernel_rfl)) rfl ?_
  rw [HR.o]
  exact ⟨rfl, ai.o.1, ai.o.2⟩
 ·have HR := qh (show z6 s = zE s1 from by rw [HR.o, if_neg hv])
  have key : ∃ b1 b2 : Bool, decide (s1.v = 0) = b1 ∧ ((c : Int) != 112) = b2 ∧ (b1 && b2) = false := by
   refine ⟨_, _, rfl, rfl, ?_⟩
   by_cases h0 : s1.v = 0
   ·have : c = 112 := by by_cases hc : c = 112; exact hc; exact absurd ⟨h0, hc⟩ hv
    subst this
    simp
   ·rw [decide_eq_false h0]; rfl
  obtain ⟨b1, b2, e1, e2, e3⟩ := key
  clear hv
  cases b1
  case' true =>
   obtain rfl : b2 = false := by simpa using e3
  all_goals
   go_wp2_with fail
   refine (ZB D g lo s1 w2 H1.o.1 oz.o).mono ?_
   rintro e w4 ⟨rfl, k1, k2⟩
   have uf := H1.o.2.2.fr k2 aO.o
   have H4 := qh (anQ k1 (anQ (Fr.trans H1.o.2.1 k2 (U := fun k => k = g) (fun _ _ h => h) (fun _ _ h => h)) uf))
   clear k1 k2
   go_wp2_with (with_reducible refine Jx 63 ?_)
   refine qh ?_
   refine uf.wpList_store rfl 63 (.tmp 2) (.tmp 15) rfl rfl rfl (by kernel_rfl) rfl rfl ?_
   refine wpList_nil ?_
   go_wp2
   have hs := yE w4 gl #[.int .u32 ((zE s1).1.min.toNat : Int), .bool (zE s1).1.bounded, .int .u32 ((zE s1).1.max.toNat : Int)]
   have dG := H4.o.2.2.setRow #[.int .u32 ((zE s1).1.min.toNat : Int), .bool (zE s1).1.bounded, .int .u32 ((zE s1).1.max.toNat : Int)]
   have ai := qh (anQ (H4.o.1.fr hs (fun e => aO.o e.symm) (fun k hk e => eT.o k hk e)) ((Ext.fr cU.o (Fr.trans H4.o.2.1 hs (U := fun k => k = g ∨ k = gl) (fun _ _ h => .inl h) (fun _ _ h => .inr h))).mono (fun k hk e => e.elim id (fun e => by have := cj.o; omega)) : Fr (fun k => k = g) w _))
   refine bodyPost_ret (v := .agg #[.int .u32 ((zE s1).1.min.toNat : Int), .bool (zE s1).1.bounded, .int .u32 ((zE s1).1.max.toNat : Int)]) (jG Tryz.results97 _ rfl dG _ Tryz.underlying63 rfl (by kernel_rfl)) rfl ?_
   rw [HR.o]
   exact ⟨rfl, ai.o.1, ai.o.2⟩
theorem zi9 : (Tryz.prog.info? 24).map (fun i => (i.zero, i.size, i.bytes)) = some (some (.int .u32 0), Lay.u32.size, 4) := by kernel_rfl
theorem YI (h : SpR D g lo s w) (hl : s.b.length ≤ 33554432) :
 Calls Tryz.prog 95 #[.pointer (some ⟨g, 0, none⟩)] w fun e w' => ∃ v, e = .returned v ∧ Own Lay.u32 24 w.heap.size w' v (yp s).1 ∧ SpR D g lo (yp s).2 w' ∧ Fr (fun k => k = g) w w' := by
 have H := qh (anQ h (anQ hl h.lt.1))
 have dh := qh (yg s)
 clear h hl
 go_enter Tryz.func95, Tryz.ntmps95
 go_wp2_with fail
 refine (ye H.o.1 (by have := H.o.2.1; omega)).mono ?_
 rintro e w1 ⟨rfl, k1, k2⟩
 have HR := qh (show yp s = rVec rNum (zv s).1 (zv s).2 from rfl)
 generalize (zv s).1 = n at *
 generalize (zv s).2 = s1 at *
 have H1 := qh (anQ k1 k2)
 clear k1 k2
 have mX : (n : Int) ≤ 33554432 := by have := H.o.2.1; have := dh.o.1; omega
 go_wp2_with fail
 go_loopw [2, 5] (fun s2 s5 w' => ∃ (i : Nat), i ≤ n ∧ s5 = .int .i64 i ∧ Hd (Own Lay.u32 24 w.heap.size w' s2 (rVec rNum i s1).1 ∧ SpR D g lo (rVec rNum i s1).2 w' ∧ Fr (fun k => k = g) w w')) (fun _ s5 _ => n - (intOf s5).toNat)
 case atStart => exact ⟨0, nzQ _, rfl, jz _ _ _ _, H1.o⟩
 case round =>
  obtain ⟨i, hi, rfl, hV⟩ := hrel
  obtain ⟨aN, aw, az, rfl⟩ := hV.o.1.shape
  by_cases ah : i < n
  ·have hst := qh (yP rNum i s1)
   have gC := qh (jg rNum i s1)
   have dG := qh (show (rVec rNum i s1).2.b.length ≤ 33554432 from nlQ (yK rNum Yb i s1) (nlQ dh.o.2 H.o.2.1))
   generalize (rVec rNum i s1).1 = xs at *
   generalize (rVec rNum i s1).2 = si at *
   go_wp2_with fail
   refine (zN D g lo si wr hV.o.2.1 (by have := dG.o; omega)).mono ?_
   rintro e w3 ⟨rfl, k1, k2⟩
   have mi := qh (zX si)
   have oT := qh (show rNum si = (UInt32.ofNat (zd si).1, (zd si).2) from rfl)
   generalize (zd si).1 = x at *
   generalize (zd si).2 = s3 at *
   have Cc := qh (hV.o.1.only Lay.flat_u32 k2 (fun k hk e => by have := (hV.o.1.lt k hk).1; have := H.o.2.2; have e' : k = g := e; omega))
   have H3 := qh (anQ k1 (Fr.trans hV.o.2.2 k2 (U := fun k => k = g) (fun _ _ h => h) (fun _ _ h => h)))
   clear k1 k2
   go_wp2_with (at_builtin; refine Hd.o ?_)
   refine yT Lay.u32 w.heap.size w3.heap.size rfl rfl (.tmp 7) (.tmp 10) _ _ _ 4 rfl Tryz.underlying27 zi9 rfl (by omega) (by decide) (.slice aN aw az) xs (UInt32.ofNat x) _ rfl rfl Cc.o ?_ H3.o.2.size (by have := gC.o; omega) ?_
   ·show [Value.int .u32 (x : Int)] = [Value.int .u32 ((UInt32.ofNat x).toNat : Int)]
    rw [UInt32.toNat_ofNat', Nat.mod_eq_of_lt mi.o]
   ·intro v1 w4 h1 h2 h3
    have aO : ∀ k, some k = (Value.slice aN aw az).ownBlock → w.heap.size ≤ k := fun k e => (Cc.o.lt k e.symm).1
    have hg := H.o.2.2
    have bf : Hd (Own Lay.u32 24 w.heap.size w4 v1 (rVec rNum (i + 1) s1).1 ∧ SpR D g lo (rVec rNum (i + 1) s1).2 w4 ∧ Fr (fun k => k = g) w w4) := by
     rw [hst.o, oT.o]
     refine ⟨h1, H3.o.1.fr h2 (fun e => by have := aO g e; omega) (fun k hk e => by have := aO k e; have := (H.o.1.lt.2 k hk).1; omega), ?_⟩
     exact Fr.trans H3.o.2 h2 (fun _ _ h => h) (fun k hk e => absurd hk (by have := aO k e; omega))
    obtain ⟨aR, aV, aU, rfl⟩ := h1.shape
    clear h1 h2 h3 aO
    go_wp2
    go_roundw
    case rel => exact ⟨i + 1, by omega, by go_num, bf⟩
    case measure => simp [intOf]; omega
  ·obtain rfl : i = n := by omega
   have lS := qh (show Own Lay.u32 24 w.heap.size wr (.slice aN aw az) (yp s).1 ∧ SpR D g lo (yp s).2 wr ∧ Fr (fun k => k = g) w wr from by rw [HR.o]; exact hV.o)
   clear hV
   go_wp2
   go_ret
   exact ⟨_, rfl, lS.o⟩
theorem zh3 (w : World) : (zeroValue 3).run Tryz.prog w = .ok (.int .i64 0) w := by
 simp [zeroValue]
 rfl
theorem zjX (w : World) (k n : Int) (hk : k = 3 ∧ n = 4 ∨ k = 4 ∧ n = 8) : ∃ w1 w2, (Instr.mapUpdate 424 (.map (some w.heap.size)) (.int .i64 3) (.int .i64 4)).run Tryz.prog (w.alloc (.map #[] 0)) = .ok () w1 ∧
 (Instr.mapUpdate 424 (.map (some w.heap.size)) (.int .i64 4) (.int .i64 8)).run Tryz.prog w1 = .ok () w2 ∧
 (Instr.lookup 424 (.map (some w.heap.size)) (.int .i64 k) false).run Tryz.prog w2 = .ok (.int .i64 n) w2 ∧ Ext w w2 := by
 have K : Keyed Tryz.prog 3 := Maps.int_keyed Tryz.underlying3
 have ry : ∀ a : Int, (Lit.int .i64 a).wf = true → keyOf Tryz.prog 3 (.int .i64 a) = some (.int .i64 a) := fun a h => Maps.keyOf_int_mk Tryz.underlying3 h
 have h0 := World.ownsMap_made (H := Unit) w Tryz.prog 3 (plainElem Tryz.prog 3)
 obtain ⟨w1, r1, o1, g1⟩ := h0.update K Tryz.underlying424 (by decide) (ry 3 (by decide)) (plainElem_int Tryz.underlying3 (a := 4) (by decide))
 obtain ⟨w2, r2, o2, g2⟩ := o1.update K Tryz.underlying424 (by decide) (ry 4 (by decide)) (plainElem_int Tryz.underlying3 (a := 8) (by decide))
 obtain ⟨c, r3, fo, -⟩ := o2.lookup_int (q := .i64) K Tryz.underlying424 Tryz.underlying3 (zh3 w2) (ry k (by rcases hk with ⟨rfl, rfl⟩ | ⟨rfl, rfl⟩ <;> decide))
 have hc : c = n := by
  rcases hk with ⟨rfl, rfl⟩ | ⟨rfl, rfl⟩
  ·have : (DataW.lit (.int .i64 4) : DataW Unit) = .lit (.int .i64 c) := fo
   simpa using this.symm
  ·have : (DataW.lit (.int .i64 8) : DataW Unit) = .lit (.int .i64 c) := fo
   simpa using this.symm
 subst hc
 refine ⟨w1, w2, r1, r2, r3, ?_⟩
 exact Fr.new (S := fun k => w.heap.size ≤ k) (((za w _).to (S := fun k => w.heap.size ≤ k)).trans ((Jp g1).trans (Jp g2) (U := fun k => w.heap.size ≤ k) (fun k _ e => by simp only [Option.some.injEq] at e; show w.heap.size ≤ k; omega) (fun k _ e => by simp only [Option.some.injEq] at e; show w.heap.size ≤ k; omega)) (fun _ _ h => h) (fun _ _ h => h)) (fun _ h => h)
theorem zb2 : ∀ (l : List UInt8) (c : UInt8), ZQ (l ++ [c]) = ZQ l + c.toNat * 2 ^ (8 * l.length)
 | [], c => by simp [ZQ]
 | x :: l, c => by
  simp only [List.cons_append, ZQ, zb2 l c, List.length_cons]
  rw [show 8 * (l.length + 1) = 8 * l.length + 8 from by omega, Nat.pow_add]
  generalize 2 ^ (8 * l.length) = q
  rw [show c.toNat * (q * 2 ^ 8) = 256 * (c.toNat * q) from by rw [← Nat.mul_assoc, Nat.mul_comm _ (2 ^ 8)]]
  omega
theorem za2 : ∀ (l : List UInt8), ZQ l < 2 ^ (8 * l.length)
 | [] => by simp [ZQ]
 | x :: l => by
  have := za2 l
  have hx := x.toNat_lt
  simp only [ZQ, List.length_cons]
  rw [show 8 * (l.length + 1) = 8 * l.length + 8 from by omega, Nat.pow_add]
  generalize 2 ^ (8 * l.length) = q at *
  omega
theorem zja (a c i : Nat) (ha : a < 2 ^ (8 * i)) (hc : c < 256) (hi : i < 8) : bits .or .u64 (a : Int) (IntKind.u64.wrap ((c : Int) * 2 ^ (8 * i))) = ((a + c * 2 ^ (8 * i) : Nat) : Int) ∧ a + c * 2 ^ (8 * i) < 18446744073709551616 := by
 have h2 : 2 ^ (8 * i) ≤ 2 ^ 56 := Nat.pow_le_pow_right (by decide) (by omega)
 have e1 : ((c : Int) * 2 ^ (8 * i)) = ((c * 2 ^ (8 * i) : Nat) : Int) := by simp
 have cX : c * 2 ^ (8 * i) ≤ 255 * 2 ^ (8 * i) := Nat.mul_le_mul_right _ (by omega)
 have e2 : a + c * 2 ^ (8 * i) = a ||| (c * 2 ^ (8 * i)) := by
  rw [Nat.mul_comm c, Nat.add_comm a, Nat.two_pow_add_eq_or_of_lt ha c, Nat.or_comm]
 have ah : c * 2 ^ (8 * i) < 18446744073709551616 := by
  have : 255 * 2 ^ (8 * i) ≤ 255 * 2 ^ 56 := Nat.mul_le_mul_left _ h2
  omega
 rw [e1, IntKind.wrap_u64]
 have e3 : ((c * 2 ^ (8 * i) : Nat) : Int) % 18446744073709551616 = ((c * 2 ^ (8 * i) : Nat) : Int) := by
  have := ah
  generalize c * 2 ^ (8 * i) = z at *
  omega
 rw [e3, u64_or_nat a _ (by omega) ah, e2]
 refine ⟨rfl, ?_⟩
 rw [← e2]
 have : 255 * 2 ^ (8 * i) ≤ 255 * 2 ^ 56 := Nat.mul_le_mul_left _ h2
 omega
theorem zbj (k n : Nat) (hk : (k : Int) = 3 ∧ (n : Int) = 4 ∨ (k : Int) = 4 ∧ (n : Int) = 8) (D : Nat → Prop) (g : Nat) (lo : Bool) (s : St) (w : World) (h : SpR D g lo s w) (hl : s.b.length ≤ 140737488355328) :
 Calls Tryz.prog 160 #[.pointer (some ⟨g, 0, none⟩), .int .i64 (k : Int)] w fun e w' => e = .returned (.int .u64 ((yV k s).1 : Int)) ∧ SpR D g lo (yV k s).2 w' ∧ Fr (fun k => k = g) w w' := by
 have hR := qh (show yV k s = (ZQ (zW n s).1, (zW n s).2) from by rcases hk with ⟨h1, h2⟩ | ⟨h1, h2⟩ <;> (obtain rfl : k = _ := Int.ofNat.inj h1; obtain rfl : n = _ := Int.ofNat.inj h2; rfl))
 have EL : n ≤ 8 := by omega
 have H := qh (anQ h hl)
 clear h hl
 obtain ⟨w1, w2, r1, r2, r3, hx⟩ := zjX w k n hk
 have hx := qh hx
 have dR := @run_makeMap Tryz.prog
 have DJ : ((k : Int) == 0) = false ∧ ((k : Int) == 1) = false ∧ ((k : Int) == 2) = false ∧ ((k : Int) == 5) = false := by rcases hk with ⟨h1, h2⟩ | ⟨h1, h2⟩ <;> (rw [h1]; decide)
 obtain ⟨e0, e1, e2, e5⟩ := DJ
 clear hk
 go_enter Tryz.func160, Tryz.ntmps160
 go_wp2_with fail
 refine (Jy n (by omega) D g lo s w2 (H.o.1.ext hx.o) H.o.2).mono ?_
 rintro e w3 ⟨ta, tm, tc, rfl, k1, k2, k3⟩
 have Dk := qh (show (zW n s).1.length ≤ n from by
  unfold zW; split
  ·exact nzQ _
  ·simp; omega)
 generalize (zW n s).1 = l at *
 generalize (zW n s).2 = s2 at *
 obtain ⟨BD, eV, ee, dh, bh⟩ := Lay.slice_form k1
 simp only [Value.slice.injEq] at ee
 obtain ⟨rfl, rfl, rfl⟩ := ee
 have HK := qh (anQ k1 (anQ k2 (Ext.fr hx.o k3)))
 have Ew : (l.length : Int) ≤ 8 := by have := Dk.o; omega
 clear k1 k2 k3 dR r1 r2 r3 dh bh
 go_wp2_with fail
 go_loopw [7, 8, 9, 58] (fun s7 s8 s9 Ae w' => ∃ (bz i : Nat), s7 = .int .u64 bz ∧ Ae = .int .i64 i ∧ i ≤ l.length ∧ Hd (bz = ZQ (l.take i)) ∧ w' = w3) (fun _ _ _ Ae _ => l.length - (intOf Ae).toNat)
 case atStart => exact ⟨0, 0, rfl, rfl, nzQ _, rfl, rfl⟩
 case round =>
  obtain ⟨bz, i, rfl, rfl, hi, gA, rfl⟩ := hrel
  by_cases ah : i < l.length
  ·obtain ⟨ba, o, rfl, hA, ec⟩ := zfv HK.o.1 i ah
   have hst := zja bz (l[i]).toNat i (by rw [gA.o]; have := za2 (l.take i); rw [ltQ, Nat.min_eq_left hi] at this; exact this) (l[i]).toNat_lt (by omega)
   have lV := qh (show bz + (l[i]).toNat * 2 ^ (8 * i) = ZQ (l.take (i + 1)) from by
    rw [gA.o, show l.take (i + 1) = l.take i ++ [l[i]] from by simp, zb2, ltQ, Nat.min_eq_left hi])
   have sm := (l[i]).toNat_lt
   have cZ := hst.1
   have fI := hst.2
   have pv : bz < 18446744073709551616 := by omega
   generalize (l[i]).toNat = c at *
   generalize hz : bz + c * 2 ^ (8 * i) = z at *
   clear hst hA gA hz
   go_wp2
   go_roundw
   case rel => exact ⟨z, i + 1, rfl, by go_num, by omega, lV, trivial⟩
   case measure => simp [intOf]; omega
  ·obtain rfl : i = l.length := by omega
   have ai := qh (show bz = ZQ l from by rw [gA.o, tlQ])
   clear gA
   go_wp2
   go_ret
   rw [hR.o, ← ai.o]
   exact ⟨rfl, HK.o.2⟩
theorem zcG (k : Int) (hk : k = 0 ∨ k = 1 ∨ k = 2 ∨ k = 3 ∨ k = 4 ∨ k = 5) (D : Nat → Prop) (g : Nat) (lo : Bool) (s : St) (w : World) (h : SpR D g lo s w) (hl : s.b.length ≤ 140737488355328) :
 Calls Tryz.prog 160 #[.pointer (some ⟨g, 0, none⟩), .int .i64 k] w fun e w' => e = .returned (.int .u64 ((yV k s).1 : Int)) ∧ SpR D g lo (yV k s).2 w' ∧ Fr (fun k => k = g) w w' := by
 rcases hk with rfl | rfl | rfl | rfl | rfl | rfl
 ·exact Ya 0 (by decide) D g lo s w h hl
 ·exact Ya 1 (by decide) D g lo s w h hl
 ·exact Ya 2 (by decide) D g lo s w h hl
 ·exact zbj 3 4 (by decide) D g lo s w h hl
 ·exact zbj 4 8 (by decide) D g lo s w h hl
 ·exact Ya 5 (by decide) D g lo s w h hl
theorem jQ (n : Nat) (s : St) : (zW n s).2.b.length ≤ s.b.length := by
 unfold zW
 split
 ·show (if _ then _ else _ : St).b.length ≤ _
  split <;> exact nzQ _
 ·simp
theorem ze6 (n : Nat) (s : St) : (zW n s).1.length ≤ n := by
 unfold zW; split
 ·exact nzQ _
 ·simp; omega
theorem zdt (k : Int) (hk : k = 0 ∨ k = 1 ∨ k = 2 ∨ k = 3 ∨ k = 4 ∨ k = 5) (s : St) : (yV k s).2.b.length ≤ s.b.length := by
 rcases hk with rfl | rfl | rfl | rfl | rfl | rfl
 ·exact YH 0 (by decide) s
 ·exact YH 1 (by decide) s
 ·exact YH 2 (by decide) s
 ·exact jQ 4 s
 ·exact jQ 8 s
 ·exact YH 5 (by decide) s
theorem zel (k : Int) (hk : k = 0 ∨ k = 1 ∨ k = 2 ∨ k = 3 ∨ k = 4 ∨ k = 5) (s : St) : (yV k s).1 < 18446744073709551616 := by
 rcases hk with rfl | rfl | rfl | rfl | rfl | rfl
 ·exact za1 0 (by decide) s
 ·exact za1 1 (by decide) s
 ·exact za1 2 (by decide) s
 ·exact nqQ (za2 _) (nlQ (Nat.pow_le_pow_right (by decide) (Nat.mul_le_mul_left 8 (ze6 4 s))) (by decide))
 ·exact nqQ (za2 _) (nlQ (Nat.pow_le_pow_right (by decide) (Nat.mul_le_mul_left 8 (ze6 8 s))) (by decide))
 ·exact za1 5 (by decide) s
theorem ZC : ∀ (ks : List Int) (_ : ∀ k ∈ ks, k = 0 ∨ k = 1 ∨ k = 2 ∨ k = 3 ∨ k = 4 ∨ k = 5) (s : St), (jB ks s).2.b.length ≤ s.b.length
 | [], _, _ => Nat.le_refl _
 | k :: ks, h, s => nlQ (ZC ks (fun k hk => h k (List.mem_cons_of_mem _ hk)) _) (zdt k (h k (List.mem_cons_self ..)) s)
theorem zbk (op : Int) : (∀ k ∈ (z4 op).getD [], k = 0 ∨ k = 1 ∨ k = 2 ∨ k = 3 ∨ k = 4 ∨ k = 5) ∧ ((z4 op).getD []).length ≤ 2 := by
 unfold z4
 repeat' split
 all_goals simp
def JG (op : Int) (s : St) : St := if s.v = 0 ∧ z4 op = none then s.fail 2 else s
theorem J2 (op : Nat) (lk : op < 256) (D : Nat → Prop) (g : Nat) (lo : Bool) (s : St) (w : World) (h : SpR D g lo s w) (hl : s.b.length ≤ 140737488355328) :
 Calls Tryz.prog 124 #[.pointer (some ⟨g, 0, none⟩), .int .i64 (op : Int)] w fun e w' => ∃ a1 n1 c1, e = .returned (.agg #[.int .i64 (op : Int), .slice a1 n1 c1, .bool false, .int .i64 0, .slice none 0 0]) ∧
  Own Lay.arg 239 w.heap.size w' (.slice a1 n1 c1) (jB ((z4 op).getD []) (JG op s)).1 ∧ SpR D g lo (jB ((z4 op).getD []) (JG op s)).2 w' ∧ Fr (fun k => k = g) w w' := by
 obtain ⟨sj, xB⟩ := zbk (op : Int)
 obtain ⟨ks, nE⟩ : ∃ ks, (z4 (op : Int)).getD [] = ks := ⟨_, rfl⟩
 rw [nE] at sj xB ⊢
 obtain ⟨s1, cZ⟩ : ∃ s1, JG (op : Int) s = s1 := ⟨_, rfl⟩
 have tJ := qh cZ
 rw [cZ]
 clear cZ
 have hg := h.lt
 have ie := hg.1
 have HC := qh (ZY (op : Int))
 have HS := qh (anQ h (anQ hl (anQ nE sj)))
 have DM : (op : Int) ≤ 255 := by omega
 clear h hl nE hg sj lk
 go_enter Tryz.func124, Tryz.ntmps124
 go_wp2_with fail
 obtain ⟨W2, gi, lZ, eh, H2⟩ : ∃ W2 gi, ((w.alloc (.cells #[.int .i64 0, .slice none 0 0, .bool false, .int .i64 0, .slice none 0 0] 76)).alloc (.cells #[.int .i64 (op : Int), .slice none 0 0, .bool false, .int .i64 0, .slice none 0 0] 76)) = W2 ∧ w.heap.size + 1 = gi ∧
  Hd (Ext w W2 ∧ Blk W2 gi #[.int .i64 (op : Int), .slice none 0 0, .bool false, .int .i64 0, .slice none 0 0] 76 ∧ Blk W2 w.heap.size #[.int .i64 0, .slice none 0 0, .bool false, .int .i64 0, .slice none 0 0] 76 ∧ g < w.heap.size ∧ w.heap.size < gi) := by
  refine ⟨_, _, rfl, rfl, Ext.trans (za _ _) (za _ _), ?_, (zk w _ _).ext (za _ _), ie, by omega⟩
  have := zk (w.alloc (.cells #[.int .i64 0, .slice none 0 0, .bool false, .int .i64 0, .slice none 0 0] 76)) #[.int .i64 (op : Int), .slice none 0 0, .bool false, .int .i64 0, .slice none 0 0] 76
  simpa using this
 rw [lZ, eh]
 clear lZ eh ie
 refine (HC.o W2).mono ?_
 rintro e w3 ⟨v, rfl, hv, eZ⟩
 obtain ⟨av, cv, rfl, eN, bh⟩ := Lay.slice_form hv
 rw [HS.o.2.2.1] at hv eN ⊢
 have H3 := qh (anQ hv (anQ eZ (Ext.trans H2.o.1 eZ)))
 clear hv eN bh eZ HC
 go_wp2_with fail
 refine (yh (HS.o.1.ext H3.o.2.2)).mono ?_
 rintro e w4 ⟨rfl, rfl⟩
 have oP := qh (show g < W2.heap.size ∧ gi < W2.heap.size ∧ g ≠ gi from ⟨by have := H2.o.1.size; have := H2.o.2.2.2.1; omega, H2.o.2.1.lt, by have := H2.o.2.2.2; omega⟩)
 obtain ⟨bv, xj⟩ : ∃ b, decide (s.v = 0) = b := ⟨_, rfl⟩
 obtain ⟨bs, ch⟩ : ∃ b, (z4 (op : Int)).isSome = b := ⟨_, rfl⟩
 have rR := qh (show s1 = if bv = true ∧ bs = false then s.fail 2 else s from by
  rw [← tJ.o, ← xj, ← ch]
  unfold JG
  cases z4 (op : Int) <;> simp)
 rw [xj, ch]
 clear xj ch tJ
 by_cases hff : bv = true ∧ bs = false
 case' pos =>
  obtain ⟨rfl, rfl⟩ := hff
  go_wp2_with fail
  refine (zr D g lo s 2 w4 (HS.o.1.ext H3.o.2.2)).mono ?_
  rintro e wo ⟨rfl, k1, k2⟩
  have HO : Hd (SpR D g lo s1 wo ∧ Fr (fun k => k = g) w4 wo ∧ s1.b.length ≤ 140737488355328) := ⟨by rw [rR.o]; exact k1, k2, by rw [rR.o, if_pos (by decide)]; exact nzQ _⟩
  clear k1 k2
  go_wp2_with fail
 case' neg =>
  have Bn : Hd (SpR D g lo s1 w4 ∧ Fr (fun k => k = g) w4 w4 ∧ s1.b.length ≤ 140737488355328) := ⟨by rw [rR.o, if_neg hff]; exact HS.o.1.ext H3.o.2.2, Fr.refl _ _, by rw [rR.o, if_neg hff]; exact HS.o.2.1⟩
  obtain ⟨wo, HO⟩ : ∃ wo, Hd (SpR D g lo s1 wo ∧ Fr (fun k => k = g) w4 wo ∧ s1.b.length ≤ 140737488355328) ∧ wo = w4 := ⟨w4, Bn, rfl⟩
  obtain ⟨HO, Ea⟩ := HO
  have key : (bv && !bs) = false := by
   cases bv <;> cases bs <;> simp_all
  clear hff Bn
  cases bv
  case' false =>
   clear key
  case' true =>
   obtain rfl : bs = true := by simpa using key
  all_goals
   go_wp2_with fail
   rw [← Ea]
 all_goals
  go_loopw [9, 27] (fun s9 vp w' => ∃ (j : Nat) (va : Value), j ≤ ks.length ∧ vp = .int .i64 j ∧ Hd (Blk w' gi #[.int .i64 (op : Int), va, .bool false, .int .i64 0, .slice none 0 0] 76 ∧ Own Lay.arg 239 wo.heap.size w' va (jB (ks.take j) s1).1 ∧ SpR D g lo (jB (ks.take j) s1).2 w' ∧ Fr (fun k => k = g ∨ k = gi) wo w')) (fun _ vp _ => ks.length - (intOf vp).toNat)
  case atStart => exact ⟨0, _, nzQ _, rfl, (H2.o.2.1.ext H3.o.2.1).fr HO.o.2.1 (fun e => oP.o.2.2 e.symm), jz _ _ _ _, HO.o.1, Fr.refl _ _⟩
  case round =>
   obtain ⟨j, va, hj, rfl, hV⟩ := hrel
   have mQ : Hd (g < W2.heap.size ∧ gi < W2.heap.size ∧ W2.heap.size ≤ wo.heap.size ∧ g ≠ gi) := ⟨oP.o.1, oP.o.2.1, nlQ H3.o.2.1.size HO.o.2.1.size, oP.o.2.2⟩
   obtain ⟨aN, aw, az, rfl⟩ := hV.o.2.1.shape
   by_cases ep : j < ks.length
   ·have tI := Lay.fr (Lay.fr H3.o.1 HO.o.2.1 (fun k hk => ⟨hk.2, fun e => by have := mQ.o; have := hk.1; omega⟩)) hV.o.2.2.2 (fun k hk => ⟨nqQ hk.2 HO.o.2.1.size, fun e => by have := mQ.o; have := hk.1; omega⟩)
    obtain ⟨b3, o3, rfl, -, e0, e1, e2⟩ := zbX tI j ep
    have sj := qh (HS.o.2.2.2 _ (List.getElem_mem ep))
    have td := qh (show jB (ks.take (j + 1)) s1 = ((jB (ks.take j) s1).1 ++ [(ks[j], UInt64.ofNat (yV ks[j] (jB (ks.take j) s1).2).1)], (yV ks[j] (jB (ks.take j) s1).2).2) from by
     rw [tsQ ep, zav]; rfl)
    have dG := qh (nlQ (ZC (ks.take j) (fun k hk => HS.o.2.2.2 k (List.mem_of_mem_take hk)) s1) HO.o.2.2)
    have qS := qh (zds (ks.take j) s1)
    generalize ks[j] = kj at *
    generalize bR : jB (ks.take (j + 1)) s1 = r2 at *
    have bR := qh bR
    generalize jB (ks.take j) s1 = r1 at *
    clear tI
    have dY := hV.o.1.cell
    go_wp2_with fail
    refine zi (y4 (fun k => k = g)) [kT 0, kT 1, kT 2, kT 3, kT 4, kR 5, kT 6, kR 7, kL 8, kT 9, kL 10] (by kernel_rfl) (by kernel_rfl) ?_
    simp only [zy, gzQ, gsQ]
    have HC := qh (fun W' (h : Fr (fun k => k = g) wr.drew W') => (hV.o.1.fr ((zb _).fr h) (fun e => mQ.o.2.2.2 e.symm)).cell)
    have tB : Hd (Blk wr.drew gi #[.int .i64 (op : Int), .slice aN aw az, .bool false, .int .i64 0, .slice none 0 0] 76 ∧ Own Lay.arg 239 wo.heap.size wr.drew (.slice aN aw az) r1.1 ∧ SpR D g lo r1.2 wr.drew ∧ Fr (fun k => k = g ∨ k = gi) wo wr.drew) := ⟨hV.o.1.ext (zb _), hV.o.2.1.ext (zb _), hV.o.2.2.1.ext (zb _), hV.o.2.2.2.ext (zb _)⟩
    clear dY hV
    generalize wr.drew = W3 at *
    repeat (apply item_take; rfl; rfl; rfl; rfl; exact fun _ _ _ _ h => h; (intro W e _ k; have q := HC.o W e; go_simp; exact k))
    apply ze; rfl; intro K hK; go_simp
    have py := zcG kj sj.o D g lo r1.2 W3 tB.o.2.2.1 dG.o
    have xl := zel kj sj.o r1.2
    generalize lW : yV kj r1.2 = rb at *
    refine py.mono ?_
    clear py
    rintro e w5 ⟨rfl, k1, k2⟩
    refine hK _ _ k2 ?_
    have mf : Hd (∀ k, (Value.slice aN aw az).ownBlock = some k → wo.heap.size ≤ k) := fun k hk => (tB.o.2.1.lt k hk).1
    have h5 : Hd (Blk w5 gi #[.int .i64 (op : Int), .slice aN aw az, .bool false, .int .i64 0, .slice none 0 0] 76 ∧ Own Lay.arg 239 wo.heap.size w5 (.slice aN aw az) r1.1 ∧ SpR D g lo rb.2 w5 ∧ Fr (fun k => k = g ∨ k = gi) wo w5) :=
     ⟨tB.o.1.fr k2 (fun e => mQ.o.2.2.2 e.symm), tB.o.2.1.fr k2 (fun k h1 h2 e => by have := mQ.o; have e' : k = g := e; omega), k1, tB.o.2.2.2.trans k2 (fun _ _ h => h) (fun _ _ h => .inl h)⟩
    clear hK K k1 k2 HC
    repeat (apply item_take; rfl; rfl; rfl; rfl; exact fun _ _ _ _ h => h; (intro _ _ _ k; go_simp; exact k))
    apply ze; rfl; intro K hK; go_simp
    refine hK _ _ (za _ _).to ?_
    clear hK K
    apply zu; rfl; intro K hK
    refine JZ Lay.arg wo.heap.size (.tmp 32) (.tmp 38) _ _ _ 16 rfl Tryz.underlying74 zh2 rfl (by omega) (by decide) (.slice aN aw az) r1.1 (kj, UInt64.ofNat rb.1) _ rfl rfl h5.o.2.1 ⟨[_], [_], rfl, ⟨rfl, e1, e2⟩, by show [Value.int .u64 (rb.1 : Int)] = [Value.int .u64 ((UInt64.ofNat rb.1).toNat : Int)]; rw [show (UInt64.ofNat rb.1).toNat = rb.1 from Nat.mod_eq_of_lt xl]⟩ h5.o.2.2.2.size (by rw [qS.o, ltQ]; have := H3.o.1; omega) ?_
    intro v1 w6 h1 h2 h3
    refine hK _ _ ?_
    clear hK K
    obtain ⟨aR, aV, aU, rfl⟩ := h1.shape
    have h6 : Hd (Blk w6 gi #[.int .i64 (op : Int), .slice aN aw az, .bool false, .int .i64 0, .slice none 0 0] 76 ∧ Own Lay.arg 239 wo.heap.size w6 (.slice aR aV aU) r2.1 ∧ SpR D g lo r2.2 w6 ∧ Fr (fun k => k = g ∨ k = gi) wo w6) := by
     rw [td.o]
     refine ⟨h5.o.1.fr h2 (fun e => by have := mf.o gi e.symm; have := mQ.o; omega), h1, h5.o.2.2.1.fr h2 (fun e => by have := mf.o g e.symm; have := mQ.o; omega) (fun k hk e => by have := mf.o k e.symm; have := (HS.o.1.lt.2 k hk).1; have := H2.o.1.size; have := mQ.o; omega), Fr.trans h5.o.2.2.2 h2 (fun _ _ h => h) (fun k hk e => absurd hk (by have := mf.o k e.symm; omega))⟩
    clear h1 h2 h3 h5 mf
    have fV := h6.o.1.cell
    have dV := h6.o.1.frz
    repeat (apply item_take; rfl; rfl; rfl; rfl; exact fun _ _ _ _ h => h; (intro _ _ _ k; go_simp; exact k))
    apply zu; rfl; intro K hK; go_simp
    refine hK _ _ ?_
    clear hK K fV dV
    apply zl
    have bf : Hd (Blk (w6.setCell ⟨gi, 1, none⟩ (.slice aR aV aU)) gi #[.int .i64 (op : Int), .slice aR aV aU, .bool false, .int .i64 0, .slice none 0 0] 76 ∧ Own Lay.arg 239 wo.heap.size (w6.setCell ⟨gi, 1, none⟩ (.slice aR aV aU)) (.slice aR aV aU) r2.1 ∧ SpR D g lo r2.2 (w6.setCell ⟨gi, 1, none⟩ (.slice aR aV aU)) ∧ Fr (fun k => k = g ∨ k = gi) wo (w6.setCell ⟨gi, 1, none⟩ (.slice aR aV aU))) := by
     refine ⟨?_, Own.only Lay.flat_arg h6.o.2.1 (zh _ _ _) (fun k' h e => by have := (h6.o.2.1.lt k' h).1; have e' : k' = gi := e; have := mQ.o; omega), h6.o.2.2.1.fr (zh _ _ _) (fun e => mQ.o.2.2.2 e) (fun k hk e => by have e' : k = gi := e; have := (HS.o.1.lt.2 k hk).1; have := H2.o; omega), h6.o.2.2.2.setCell (.inl (.inr rfl)) _⟩
     have := h6.o.1.set 1 (.slice aR aV aU)
     simpa using this
    go_wp2
    go_roundw
    case rel => exact ⟨j + 1, _, by omega, by go_num, by rw [bR.o]; exact bf⟩
    case measure => simp [intOf]; omega
   ·obtain rfl : j = ks.length := by omega
    have bk : Hd (Blk wr gi #[.int .i64 (op : Int), .slice aN aw az, .bool false, .int .i64 0, .slice none 0 0] 76 ∧ Own Lay.arg 239 wo.heap.size wr (.slice aN aw az) (jB ks s1).1 ∧ SpR D g lo (jB ks s1).2 wr ∧ Fr (fun k => k = g ∨ k = gi) wo wr) := by
     have := hV.o
     rw [tlQ] at this
     exact this
    have eg := qh (((H2.o.2.2.1.ext H3.o.2.1).fr HO.o.2.1 (fun e => by have := H2.o.2.2.2; omega)).fr bk.o.2.2.2 (fun e => by have := H2.o.2.2.2; omega))
    have dY := bk.o.1.cell
    have CJ := eg.o.cell
    have eK := eg.o.frz
    go_wp2
    have gG : Fr (fun k => k = w.heap.size) wr (((((wr.setCell ⟨w.heap.size, 0, none⟩ (.int .i64 (op : Int))).setCell ⟨w.heap.size, 1, none⟩ (.slice aN aw az)).setCell ⟨w.heap.size, 2, none⟩ (.bool false)).setCell ⟨w.heap.size, 3, none⟩ (.int .i64 0)).setCell ⟨w.heap.size, 4, none⟩ (.slice none 0 0)) := Fr.setCell (Fr.setCell (Fr.setCell (Fr.setCell (Fr.setCell (Fr.refl (fun k => k = w.heap.size) wr) (p := ⟨w.heap.size, 0, none⟩) (.inl rfl) _) (p := ⟨w.heap.size, 1, none⟩) (.inl rfl) _) (p := ⟨w.heap.size, 2, none⟩) (.inl rfl) _) (p := ⟨w.heap.size, 3, none⟩) (.inl rfl) _) (p := ⟨w.heap.size, 4, none⟩) (.inl rfl) _
    have dG := (((((eg.o.set 0 (.int .i64 (op : Int))).set 1 (.slice aN aw az)).set 2 (.bool false)).set 3 (.int .i64 0)).set 4 (.slice none 0 0)).cell
    have ai := qh (show Own Lay.arg 239 w.heap.size (((((wr.setCell ⟨w.heap.size, 0, none⟩ (.int .i64 (op : Int))).setCell ⟨w.heap.size, 1, none⟩ (.slice aN aw az)).setCell ⟨w.heap.size, 2, none⟩ (.bool false)).setCell ⟨w.heap.size, 3, none⟩ (.int .i64 0)).setCell ⟨w.heap.size, 4, none⟩ (.slice none 0 0)) (.slice aN aw az) (jB ks s1).1 ∧ SpR D g lo (jB ks s1).2 (((((wr.setCell ⟨w.heap.size, 0, none⟩ (.int .i64 (op : Int))).setCell ⟨w.heap.size, 1, none⟩ (.slice aN aw az)).setCell ⟨w.heap.size, 2, none⟩ (.bool false)).setCell ⟨w.heap.size, 3, none⟩ (.int .i64 0)).setCell ⟨w.heap.size, 4, none⟩ (.slice none 0 0)) ∧ Fr (fun k => k = g) w (((((wr.setCell ⟨w.heap.size, 0, none⟩ (.int .i64 (op : Int))).setCell ⟨w.heap.size, 1, none⟩ (.slice aN aw az)).setCell ⟨w.heap.size, 2, none⟩ (.bool false)).setCell ⟨w.heap.size, 3, none⟩ (.int .i64 0)).setCell ⟨w.heap.size, 4, none⟩ (.slice none 0 0)) from by
     have sn := mQ.o
     have h2 := H2.o
     have EQ := h2.2.2.2
     refine ⟨(bk.o.2.1.fr gG (fun k h1 _ e => by cases e; omega)).lower (by omega), bk.o.2.2.1.fr gG (fun e => by have e' : g = w.heap.size := e; omega) (fun k hk e => by have e' : k = w.heap.size := e; have := (HS.o.1.lt.2 k hk).1; omega), ?_⟩
     have pu : Fr (fun k => (k = g ∨ k = gi) ∨ k = w.heap.size) wo _ := Fr.trans bk.o.2.2.2 gG (fun _ _ h => .inl h) (fun _ _ h => .inr h)
     refine (Ext.fr H3.o.2.2 (Fr.trans HO.o.2.1 pu (U := fun k => (k = g ∨ k = gi) ∨ k = w.heap.size) (fun _ _ h => .inl (.inl h)) (fun _ _ h => h))).mono (fun k hk e => ?_)
     rcases e with (e | e) | e
     ·exact e
     ·omega
     ·omega)
    clear gG CJ eK dY
    exact bodyPost_ret (v := .agg #[.int .i64 (op : Int), .slice aN aw az, .bool false, .int .i64 0, .slice none 0 0]) (by simp [results, Tryz.results124, go_sem, dG]) rfl ⟨_, _, _, rfl, ai.o⟩
variable {A : Nat → Prop} {v1 : Value}
theorem zgA {n : Nat} {op ty : Int} {args : List (Int × UInt64)} {st : Bool} {body : List Ins} {v2 : Value} (h1 : -9223372036854775808 ≤ op ∧ op ≤ 9223372036854775807) (h2 : -9223372036854775808 ≤ ty ∧ ty ≤ 9223372036854775807)
 (ha : Lay.arg.slice.rd A w [v1] args) (hb : (Lay.ins n).slice.rd A w [v2] body) : (Lay.ins (n + 1)).rd A w [.int .i64 op, v1, .bool st, .int .i64 ty, v2] (.mk op args st ty body) :=
 ⟨[_], _, rfl, ⟨rfl, h1⟩, [_], _, rfl, ha, [_], _, rfl, rfl, [_], _, rfl, ⟨rfl, h2⟩, hb⟩
variable {α : Type}
theorem zdu (l : Lay α) : l.slice.rd A w [.slice none 0 0] [] := ⟨none, 0, rfl, Nat.le_refl _, by decide, fun h => absurd h (by simp)⟩
def zem (op : Nat) : Bool := decide (op = 65 ∨ op = 66 ∨ op = 67 ∨ op = 68)
theorem zgB (op : Nat) (w : World) : Calls Tryz.prog 68 #[.int .i64 (op : Int)] w fun e w' => e = .returned (.bool (zem op)) ∧ w' = w := by
 by_cases h : op = 65 ∨ op = 66 ∨ op = 67 ∨ op = 68
 ·rcases h with rfl | rfl | rfl | rfl
  all_goals
   go_enter Tryz.func68, Tryz.ntmps68
   go_wp2
   go_ret
   exact ⟨rfl, rfl⟩
 ·have hr := qh (show zem op = false from decide_eq_false h)
  have hh : ((op : Int) == 65) = false ∧ ((op : Int) == 66) = false ∧ ((op : Int) == 67) = false ∧ ((op : Int) == 68) = false := by
   simp only [beq_eq_false_iff_ne]
   omega
  obtain ⟨h1, h2, h3, h4⟩ := hh
  clear h
  go_enter Tryz.func68, Tryz.ntmps68
  go_wp2
  go_ret
  exact ⟨by rw [hr.o]; rfl, rfl⟩
def ZD (s : St) : St := if (zn s).2.v = 0 ∧ zem (zn s).1 = false then (zn s).2.fail 2 else (zn s).2
def JH (s : St) : St := if (zn s).2.v = 0 ∧ (zn s).1 ≠ 11 then (zn s).2.fail 2 else (zn s).2
def zQ (op : Nat) (s : St) : List (Int × UInt64) × St := jB ((z4 (op : Int)).getD []) (JG (op : Int) s)
def yH (s : St) : List Ins × St :=
 ([.mk ((zn s).1 : Int) (zQ (zn s).1 (ZD s)).1 false 0 []], JH (zQ (zn s).1 (ZD s)).2)
theorem zen (op : Int) (s : St) : (JG op s).b.length ≤ s.b.length := by
 unfold JG; split
 ·exact nzQ _
 ·exact Nat.le_refl _
theorem zeo (op : Nat) (s : St) : (zQ op s).2.b.length ≤ s.b.length :=
 nlQ (ZC _ (zbk op).1 _) (zen _ _)
theorem zep (s : St) : (ZD s).b.length ≤ s.b.length := by
 have := yu s
 unfold ZD; split
 ·exact nzQ _
 ·exact this
theorem zeq (s : St) : (JH s).b.length ≤ s.b.length := by
 have := yu s
 unfold JH; split
 ·exact nzQ _
 ·exact this
theorem JA (s : St) : (yH s).2.b.length ≤ s.b.length :=
 nlQ (zeq _) (nlQ (zeo _ _) (zep _))
theorem J3 (N : Nat) (D : Nat → Prop) (g : Nat) (lo : Bool) (s : St) (w : World) (h : SpR D g lo s w) (hl : s.b.length ≤ 140737488355328) :
 Calls Tryz.prog 101 #[.pointer (some ⟨g, 0, none⟩)] w fun e w' => ∃ v, e = .returned v ∧ (Lay.ins (N + 1)).slice.rd (fun k => w.heap.size ≤ k ∧ k < w'.heap.size) w' [v] (yH s).1 ∧ SpR D g lo (yH s).2 w' ∧ Fr (fun k => k = g) w w' := by
 have H := qh (anQ h (anQ hl h.lt.1))
 have oh := qh (yu s)
 have lk := jr s
 have HR : Hd ((yH s).1 = [.mk ((zn s).1 : Int) (zQ (zn s).1 (ZD s)).1 false 0 []] ∧ (yH s).2 = JH (zQ (zn s).1 (ZD s)).2) := ⟨rfl, rfl⟩
 obtain ⟨rc, BO⟩ := exQ (yH s)
 rw [BO] at HR ⊢
 clear h hl BO
 go_enter Tryz.func101, Tryz.ntmps101
 go_wp2_with fail
 refine (yo H.o.1).mono ?_
 rintro e w1 ⟨rfl, k1, k2⟩
 have H1 := qh (anQ k1 k2)
 have cZ := qh (show ZD s = if (zn s).2.v = 0 ∧ zem (zn s).1 = false then (zn s).2.fail 2 else (zn s).2 from rfl)
 generalize (zn s).1 = op at *
 generalize (zn s).2 = s1 at *
 generalize ZD s = s2 at *
 clear k1 k2
 go_wp2_with fail
 refine (yh H1.o.1).mono ?_
 rintro e uG ⟨rfl, rfl⟩
 by_cases hv : s1.v = 0
 ·rw [decide_eq_true hv]
  go_wp2_with fail
  refine (zgB op uG).mono ?_
  rintro e o8 ⟨rfl, rfl⟩
  cases ho : zem op
  case' false =>
   go_wp2_with fail
   refine (zr D g lo s1 2 o8 H1.o.1).mono ?_
   rintro e w2 ⟨rfl, k1, k2⟩
   have H2 : Hd (SpR D g lo s2 w2 ∧ Fr (fun k => k = g) w w2 ∧ s2.b.length ≤ 140737488355328) := ⟨by rw [cZ.o, if_pos ⟨hv, ho⟩]; exact k1, Fr.trans H1.o.2 k2 (fun _ _ h => h) (fun _ _ h => h), by rw [cZ.o, if_pos ⟨hv, ho⟩]; exact nzQ _⟩
   clear k1 k2 cZ hv ho H1
   go_wp2_with fail
   refine (J2 op lk D g lo s2 w2 H2.o.1 H2.o.2.2).mono ?_
   rintro e w3 ⟨a1, n1, c1, rfl, k1, k2, k3⟩
   have tz := qh (show zQ op s2 = jB ((z4 (op : Int)).getD []) (JG (op : Int) s2) from rfl)
   have pk : SpR D g lo (zQ op s2).2 w3 := k2
   have pD : Own Lay.arg 239 w2.heap.size w3 (.slice a1 n1 c1) (zQ op s2).1 := k1
   clear k1 k2 tz
   have bR := qh (show JH (zQ op s2).2 = if (zn (zQ op s2).2).2.v = 0 ∧ (zn (zQ op s2).2).1 ≠ 11 then (zn (zQ op s2).2).2.fail 2 else (zn (zQ op s2).2).2 from rfl)
   generalize JH (zQ op s2).2 = s5 at *
   generalize (zQ op s2).1 = args at *
   generalize (zQ op s2).2 = s3 at *
   have H3 := qh (anQ pk (anQ (Fr.trans H2.o.2.1 k3 (U := fun k => k = g) (fun _ _ h => h) (fun _ _ h => h)) pD))
   clear pD pk k3
   go_wp2_with fail
   have dQ := qh (show w.heap.size ≤ w2.heap.size from H2.o.2.1.size)
   obtain ⟨gi, eh⟩ := exQ (w3.heap.size)
   obtain ⟨W3, eS⟩ : ∃ W3, w3.alloc (.cells #[.int .i64 (op : Int), .slice a1 n1 c1, .bool false, .int .i64 0, .slice none 0 0] 76) = W3 := ⟨_, rfl⟩
   have HI : Hd (SpR D g lo s3 W3 ∧ Fr (fun k => k = g) w W3 ∧ Own Lay.arg 239 w2.heap.size W3 (.slice a1 n1 c1) args ∧ Blk W3 gi #[.int .i64 (op : Int), .slice a1 n1 c1, .bool false, .int .i64 0, .slice none 0 0] 76 ∧ w.heap.size ≤ gi ∧ gi ≠ g ∧ w.heap.size ≤ w2.heap.size) := by
    subst eS
    subst eh
    exact ⟨H3.o.1.ext (za _ _), H3.o.2.1.ext (za _ _), H3.o.2.2.ext (za _ _), zk _ _ _, H3.o.2.1.size, by have := H3.o.1.lt.1; omega, H2.o.2.1.size⟩
   rw [eS, eh]
   clear eS eh H3
   refine (yo HI.o.1).mono ?_
   rintro e w4 ⟨rfl, k1, k2⟩
   have t5 := jr s3
   generalize (zn s3).1 = c at *
   generalize (zn s3).2 = s4 at *
   have HJ : Hd (SpR D g lo s4 w4 ∧ Fr (fun k => k = g) w w4 ∧ Own Lay.arg 239 w2.heap.size w4 (.slice a1 n1 c1) args ∧ Blk w4 gi #[.int .i64 (op : Int), .slice a1 n1 c1, .bool false, .int .i64 0, .slice none 0 0] 76) :=
    ⟨k1, Fr.trans HI.o.2.1 k2 (fun _ _ h => h) (fun _ _ h => h), HI.o.2.2.1.fr k2 (fun k h1 _ e => by have e' : k = g := e; have := H.o.2.2; have := HI.o.2.2.2.2.2.2; omega), HI.o.2.2.2.1.fr k2 HI.o.2.2.2.2.2.1⟩
   clear k1 k2
   go_wp2_with fail
   refine (yh HJ.o.1).mono ?_
   rintro e w5 ⟨rfl, rfl⟩
   by_cases hv4 : s4.v = 0
   case' neg =>
    rw [decide_eq_false hv4]
    have HF : Hd (SpR D g lo s5 w5) := by show SpR D g lo s5 w5; rw [bR.o, if_neg (fun h => hv4 h.1)]; exact HJ.o.1
    obtain ⟨w6, rfl⟩ : ∃ w6, w6 = w5 := ⟨_, rfl⟩
    have HB := qh HJ.o.2
    clear hv4 bR HI HJ
   case' pos =>
    rw [decide_eq_true hv4]
    by_cases hc : c = 11
    case' neg =>
     have dc : ((c : Int) != 11) = true := by rw [bne_iff_ne]; omega
     go_wp2_with fail
     refine (zr D g lo s4 2 w5 HJ.o.1).mono ?_
     rintro e w6 ⟨rfl, k1, k2⟩
     have HF : Hd (SpR D g lo s5 w6) := by show SpR D g lo s5 w6; rw [bR.o, if_pos ⟨hv4, hc⟩]; exact k1
     have HB : Hd (Fr (fun k => k = g) w w6 ∧ Own Lay.arg 239 w2.heap.size w6 (.slice a1 n1 c1) args ∧ Blk w6 gi #[.int .i64 (op : Int), .slice a1 n1 c1, .bool false, .int .i64 0, .slice none 0 0] 76) :=
      ⟨Fr.trans HJ.o.2.1 k2 (fun _ _ h => h) (fun _ _ h => h), HJ.o.2.2.1.fr k2 (fun k h1 _ e => by have e' : k = g := e; have := H.o.2.2; have := HI.o.2.2.2.2.2.2; omega), HJ.o.2.2.2.fr k2 HI.o.2.2.2.2.2.1⟩
     clear k1 k2 hv4 bR HI HJ
    case' pos =>
     have dc : ((c : Int) != 11) = false := by rw [bne_eq_false_iff_eq]; omega
     have HF : Hd (SpR D g lo s5 w5) := by show SpR D g lo s5 w5; rw [bR.o, if_neg (fun h => h.2 hc)]; exact HJ.o.1
     obtain ⟨w6, rfl⟩ : ∃ w6, w6 = w5 := ⟨_, rfl⟩
     have HB := qh HJ.o.2
     clear hv4 bR HI HJ
  case' true =>
   have H2 : Hd (SpR D g lo s2 o8 ∧ Fr (fun k => k = g) w o8 ∧ s2.b.length ≤ 140737488355328) := ⟨by rw [cZ.o, if_neg (fun h => by rw [ho] at h; cases h.2)]; exact H1.o.1, H1.o.2, by rw [cZ.o, if_neg (fun h => by rw [ho] at h; cases h.2)]; have := oh.o; have := H.o.2.1; omega⟩
   obtain ⟨w2, rfl⟩ : ∃ w2, w2 = o8 := ⟨_, rfl⟩
   clear cZ hv ho H1
   go_wp2_with fail
   refine (J2 op lk D g lo s2 w2 H2.o.1 H2.o.2.2).mono ?_
   rintro e w3 ⟨a1, n1, c1, rfl, k1, k2, k3⟩
   have tz := qh (show zQ op s2 = jB ((z4 (op : Int)).getD []) (JG (op : Int) s2) from rfl)
   have pk : SpR D g lo (zQ op s2).2 w3 := k2
   have pD : Own Lay.arg 239 w2.heap.size w3 (.slice a1 n1 c1) (zQ op s2).1 := k1
   clear k1 k2 tz
   have bR := qh (show JH (zQ op s2).2 = if (zn (zQ op s2).2).2.v = 0 ∧ (zn (zQ op s2).2).1 ≠ 11 then (zn (zQ op s2).2).2.fail 2 else (zn (zQ op s2).2).2 from rfl)
   generalize JH (zQ op s2).2 = s5 at *
   generalize (zQ op s2).1 = args at *
   generalize (zQ op s2).2 = s3 at *
   have H3 := qh (anQ pk (anQ (Fr.trans H2.o.2.1 k3 (U := fun k => k = g) (fun _ _ h => h) (fun _ _ h => h)) pD))
   clear pD pk k3
   go_wp2_with fail
   have dQ := qh (show w.heap.size ≤ w2.heap.size from H2.o.2.1.size)
   obtain ⟨gi, eh⟩ := exQ (w3.heap.size)
   obtain ⟨W3, eS⟩ : ∃ W3, w3.alloc (.cells #[.int .i64 (op : Int), .slice a1 n1 c1, .bool false, .int .i64 0, .slice none 0 0] 76) = W3 := ⟨_, rfl⟩
   have HI : Hd (SpR D g lo s3 W3 ∧ Fr (fun k => k = g) w W3 ∧ Own Lay.arg 239 w2.heap.size W3 (.slice a1 n1 c1) args ∧ Blk W3 gi #[.int .i64 (op : Int), .slice a1 n1 c1, .bool false, .int .i64 0, .slice none 0 0] 76 ∧ w.heap.size ≤ gi ∧ gi ≠ g ∧ w.heap.size ≤ w2.heap.size) := by
    subst eS
    subst eh
    exact ⟨H3.o.1.ext (za _ _), H3.o.2.1.ext (za _ _), H3.o.2.2.ext (za _ _), zk _ _ _, H3.o.2.1.size, by have := H3.o.1.lt.1; omega, H2.o.2.1.size⟩
   rw [eS, eh]
   clear eS eh H3
   refine (yo HI.o.1).mono ?_
   rintro e w4 ⟨rfl, k1, k2⟩
   have t5 := jr s3
   generalize (zn s3).1 = c at *
   generalize (zn s3).2 = s4 at *
   have HJ : Hd (SpR D g lo s4 w4 ∧ Fr (fun k => k = g) w w4 ∧ Own Lay.arg 239 w2.heap.size w4 (.slice a1 n1 c1) args ∧ Blk w4 gi #[.int .i64 (op : Int), .slice a1 n1 c1, .bool false, .int .i64 0, .slice none 0 0] 76) :=
    ⟨k1, Fr.trans HI.o.2.1 k2 (fun _ _ h => h) (fun _ _ h => h), HI.o.2.2.1.fr k2 (fun k h1 _ e => by have e' : k = g := e; have := H.o.2.2; have := HI.o.2.2.2.2.2.2; omega), HI.o.2.2.2.1.fr k2 HI.o.2.2.2.2.2.1⟩
   clear k1 k2
   go_wp2_with fail
   refine (yh HJ.o.1).mono ?_
   rintro e w5 ⟨rfl, rfl⟩
   by_cases hv4 : s4.v = 0
   case' neg =>
    rw [decide_eq_false hv4]
    have HF : Hd (SpR D g lo s5 w5) := by show SpR D g lo s5 w5; rw [bR.o, if_neg (fun h => hv4 h.1)]; exact HJ.o.1
    obtain ⟨w6, rfl⟩ : ∃ w6, w6 = w5 := ⟨_, rfl⟩
    have HB := qh HJ.o.2
    clear hv4 bR HI HJ
   case' pos =>
    rw [decide_eq_true hv4]
    by_cases hc : c = 11
    case' neg =>
     have dc : ((c : Int) != 11) = true := by rw [bne_iff_ne]; omega
     go_wp2_with fail
     refine (zr D g lo s4 2 w5 HJ.o.1).mono ?_
     rintro e w6 ⟨rfl, k1, k2⟩
     have HF : Hd (SpR D g lo s5 w6) := by show SpR D g lo s5 w6; rw [bR.o, if_pos ⟨hv4, hc⟩]; exact k1
     have HB : Hd (Fr (fun k => k = g) w w6 ∧ Own Lay.arg 239 w2.heap.size w6 (.slice a1 n1 c1) args ∧ Blk w6 gi #[.int .i64 (op : Int), .slice a1 n1 c1, .bool false, .int .i64 0, .slice none 0 0] 76) :=
      ⟨Fr.trans HJ.o.2.1 k2 (fun _ _ h => h) (fun _ _ h => h), HJ.o.2.2.1.fr k2 (fun k h1 _ e => by have e' : k = g := e; have := H.o.2.2; have := HI.o.2.2.2.2.2.2; omega), HJ.o.2.2.2.fr k2 HI.o.2.2.2.2.2.1⟩
     clear k1 k2 hv4 bR HI HJ
    case' pos =>
     have dc : ((c : Int) != 11) = false := by rw [bne_eq_false_iff_eq]; omega
     have HF : Hd (SpR D g lo s5 w5) := by show SpR D g lo s5 w5; rw [bR.o, if_neg (fun h => h.2 hc)]; exact HJ.o.1
     obtain ⟨w6, rfl⟩ : ∃ w6, w6 = w5 := ⟨_, rfl⟩
     have HB := qh HJ.o.2
     clear hv4 bR HI HJ
  all_goals
   have sm := HB.o.2.2.cell
   go_wp2
   go_ret
   have hx := za w6 (.cells #[.int .i64 (op : Int), .slice a1 n1 c1, .bool false, .int .i64 0, .slice none 0 0] 76)
   refine ⟨_, rfl, ?_, ?_, ?_⟩
   ·rw [HR.o.1]
    have n8 := HB.o.2.1.slice
    exact Lay.rd_new1 (A := fun k => w.heap.size ≤ k ∧ k < w6.heap.size) (zgA ⟨by omega, by omega⟩ (by decide) (Lay.mono _ n8 (fun k hk => ⟨by have := hk.1; have := dQ.o; omega, hk.2⟩)) (zdu _)) (fun k hk => hk.2) (fun k hk => ⟨hk.1, nqQ hk.2 hx.size⟩) ⟨HB.o.1.size, by show _ < (w6.alloc _).heap.size; simp⟩
   ·rw [HR.o.2]
    exact HF.o.ext (za _ _)
   ·exact HB.o.1.ext (za _ _)
 ·rw [decide_eq_false hv]
  have H2 : Hd (SpR D g lo s2 uG ∧ Fr (fun k => k = g) w uG ∧ s2.b.length ≤ 140737488355328) := ⟨by rw [cZ.o, if_neg (fun h => hv h.1)]; exact H1.o.1, H1.o.2, by rw [cZ.o, if_neg (fun h => hv h.1)]; have := oh.o; have := H.o.2.1; omega⟩
  obtain ⟨w2, rfl⟩ : ∃ w2, w2 = uG := ⟨_, rfl⟩
  clear cZ hv H1
  go_wp2_with fail
  refine (J2 op lk D g lo s2 w2 H2.o.1 H2.o.2.2).mono ?_
  rintro e w3 ⟨a1, n1, c1, rfl, k1, k2, k3⟩
  have tz := qh (show zQ op s2 = jB ((z4 (op : Int)).getD []) (JG (op : Int) s2) from rfl)
  have pk : SpR D g lo (zQ op s2).2 w3 := k2
  have pD : Own Lay.arg 239 w2.heap.size w3 (.slice a1 n1 c1) (zQ op s2).1 := k1
  clear k1 k2 tz
  have bR := qh (show JH (zQ op s2).2 = if (zn (zQ op s2).2).2.v = 0 ∧ (zn (zQ op s2).2).1 ≠ 11 then (zn (zQ op s2).2).2.fail 2 else (zn (zQ op s2).2).2 from rfl)
  generalize JH (zQ op s2).2 = s5 at *
  generalize (zQ op s2).1 = args at *
  generalize (zQ op s2).2 = s3 at *
  have H3 := qh (anQ pk (anQ (Fr.trans H2.o.2.1 k3 (U := fun k => k = g) (fun _ _ h => h) (fun _ _ h => h)) pD))
  clear pD pk k3
  go_wp2_with fail
  have dQ := qh (show w.heap.size ≤ w2.heap.size from H2.o.2.1.size)
  obtain ⟨gi, eh⟩ := exQ (w3.heap.size)
  obtain ⟨W3, eS⟩ : ∃ W3, w3.alloc (.cells #[.int .i64 (op : Int), .slice a1 n1 c1, .bool false, .int .i64 0, .slice none 0 0] 76) = W3 := ⟨_, rfl⟩
  have HI : Hd (SpR D g lo s3 W3 ∧ Fr (fun k => k = g) w W3 ∧ Own Lay.arg 239 w2.heap.size W3 (.slice a1 n1 c1) args ∧ Blk W3 gi #[.int .i64 (op : Int), .slice a1 n1 c1, .bool false, .int .i64 0, .slice none 0 0] 76 ∧ w.heap.size ≤ gi ∧ gi ≠ g ∧ w.heap.size ≤ w2.heap.size) := by
   subst eS
   subst eh
   exact ⟨H3.o.1.ext (za _ _), H3.o.2.1.ext (za _ _), H3.o.2.2.ext (za _ _), zk _ _ _, H3.o.2.1.size, by have := H3.o.1.lt.1; omega, H2.o.2.1.size⟩
  rw [eS, eh]
  clear eS eh H3
  refine (yo HI.o.1).mono ?_
  rintro e w4 ⟨rfl, k1, k2⟩
  have t5 := jr s3
  generalize (zn s3).1 = c at *
  generalize (zn s3).2 = s4 at *
  have HJ : Hd (SpR D g lo s4 w4 ∧ Fr (fun k => k = g) w w4 ∧ Own Lay.arg 239 w2.heap.size w4 (.slice a1 n1 c1) args ∧ Blk w4 gi #[.int .i64 (op : Int), .slice a1 n1 c1, .bool false, .int .i64 0, .slice none 0 0] 76) :=
   ⟨k1, Fr.trans HI.o.2.1 k2 (fun _ _ h => h) (fun _ _ h => h), HI.o.2.2.1.fr k2 (fun k h1 _ e => by have e' : k = g := e; have := H.o.2.2; have := HI.o.2.2.2.2.2.2; omega), HI.o.2.2.2.1.fr k2 HI.o.2.2.2.2.2.1⟩
  clear k1 k2
  go_wp2_with fail
  refine (yh HJ.o.1).mono ?_
  rintro e w5 ⟨rfl, rfl⟩
  by_cases hv4 : s4.v = 0
  case' neg =>
   rw [decide_eq_false hv4]
   have HF : Hd (SpR D g lo s5 w5) := by show SpR D g lo s5 w5; rw [bR.o, if_neg (fun h => hv4 h.1)]; exact HJ.o.1
   obtain ⟨w6, rfl⟩ : ∃ w6, w6 = w5 := ⟨_, rfl⟩
   have HB := qh HJ.o.2
   clear hv4 bR HI HJ
  case' pos =>
   rw [decide_eq_true hv4]
   by_cases hc : c = 11
   case' neg =>
    have dc : ((c : Int) != 11) = true := by rw [bne_iff_ne]; omega
    go_wp2_with fail
    refine (zr D g lo s4 2 w5 HJ.o.1).mono ?_
    rintro e w6 ⟨rfl, k1, k2⟩
    have HF : Hd (SpR D g lo s5 w6) := by show SpR D g lo s5 w6; rw [bR.o, if_pos ⟨hv4, hc⟩]; exact k1
    have HB : Hd (Fr (fun k => k = g) w w6 ∧ Own Lay.arg 239 w2.heap.size w6 (.slice a1 n1 c1) args ∧ Blk w6 gi #[.int .i64 (op : Int), .slice a1 n1 c1, .bool false, .int .i64 0, .slice none 0 0] 76) :=
     ⟨Fr.trans HJ.o.2.1 k2 (fun _ _ h => h) (fun _ _ h => h), HJ.o.2.2.1.fr k2 (fun k h1 _ e => by have e' : k = g := e; have := H.o.2.2; have := HI.o.2.2.2.2.2.2; omega), HJ.o.2.2.2.fr k2 HI.o.2.2.2.2.2.1⟩
    clear k1 k2 hv4 bR HI HJ
   case' pos =>
    have dc : ((c : Int) != 11) = false := by rw [bne_eq_false_iff_eq]; omega
    have HF : Hd (SpR D g lo s5 w5) := by show SpR D g lo s5 w5; rw [bR.o, if_neg (fun h => h.2 hc)]; exact HJ.o.1
    obtain ⟨w6, rfl⟩ : ∃ w6, w6 = w5 := ⟨_, rfl⟩
    have HB := qh HJ.o.2
    clear hv4 bR HI HJ
  all_goals
   have sm := HB.o.2.2.cell
   go_wp2
   go_ret
   have hx := za w6 (.cells #[.int .i64 (op : Int), .slice a1 n1 c1, .bool false, .int .i64 0, .slice none 0 0] 76)
   refine ⟨_, rfl, ?_, ?_, ?_⟩
   ·rw [HR.o.1]
    have n8 := HB.o.2.1.slice
    exact Lay.rd_new1 (A := fun k => w.heap.size ≤ k ∧ k < w6.heap.size) (zgA ⟨by omega, by omega⟩ (by decide) (Lay.mono _ n8 (fun k hk => ⟨by have := hk.1; have := dQ.o; omega, hk.2⟩)) (zdu _)) (fun k hk => hk.2) (fun k hk => ⟨hk.1, nqQ hk.2 hx.size⟩) ⟨HB.o.1.size, by show _ < (w6.alloc _).heap.size; simp⟩
   ·rw [HR.o.2]
    exact HF.o.ext (za _ _)
   ·exact HB.o.1.ext (za _ _)
abbrev aE (D : Nat → Prop) (W0 W : World) : Nat → Prop := fun k => (D k ∨ W0.heap.size ≤ k) ∧ k < W.heap.size
variable {l : Lay α} {W0 W : World} {cs : List Value} {x : α}
theorem zgC {W' : World} (h : l.rd (aE D W0 W) W cs x) (hg : g < W0.heap.size) (hD : ∀ k, D k → k ≠ g) (hf : Fr (fun k => k = g) W W') : l.rd (aE D W0 W') W' cs x :=
 l.mono (Lay.fr h hf (fun k hk => ⟨hk.2, fun e => by
  have e' : k = g := e
  rcases hk.1 with h1 | h1
  ·exact hD k h1 e'
  ·omega⟩)) (fun k hk => ⟨hk.1, nqQ hk.2 hf.size⟩)
variable {wL : World} {v : Value}
theorem zjY {gb : Nat} (h : l.rd (aE D W0 W) W cs x) (hg : g < W0.heap.size) (b9 : gb < W0.heap.size) (hD : ∀ k, D k → k ≠ g ∧ k ≠ gb ∧ k < wL.heap.size) (hv : ∀ k, v.ownBlock = some k → wL.heap.size ≤ k ∧ k < W0.heap.size) :
 l.rd (fun k => ¬ (k = g ∨ k = gb) ∧ k < W.heap.size ∧ some k ≠ v.ownBlock) W cs x :=
 l.mono h fun k hk => by
  rcases hk.1 with h1 | h1
  ·have h2 := hD k h1
   refine ⟨fun e => e.elim h2.1 h2.2.1, hk.2, fun e => ?_⟩
   have := (hv k e.symm).1
   omega
  ·refine ⟨fun e => by rcases e with e | e <;> omega, hk.2, fun e => ?_⟩
   have := (hv k e.symm).2
   omega
theorem zb3 (h : l.rd (aE D W0 W) W cs x) (h0 : wL.heap.size ≤ W0.heap.size) (hD : ∀ k, D k → k < wL.heap.size) (hv : ∀ k, v.ownBlock = some k → wL.heap.size ≤ k ∧ k < W0.heap.size) :
 l.rd (fun k => ¬ (¬ D k ∧ k < wL.heap.size) ∧ k < W.heap.size ∧ some k ≠ v.ownBlock) W cs x :=
 l.mono h fun k hk => by
  rcases hk.1 with h1 | h1
  ·refine ⟨fun q => q.1 h1, hk.2, fun e => ?_⟩
   have h2 := hD k h1
   have := (hv k e.symm).1
   omega
  ·refine ⟨fun q => by have := q.2; omega, hk.2, fun e => ?_⟩
   have := (hv k e.symm).2
   omega
section
variable {P : Program} {ar : Array Oper} {rest : List Oper} {o : Oper} {a : Act} {Q : Exit → Act → World → Prop} {K : Act → World → Prop}
theorem zY {α : Type} (l : Lay α) {W : World} (lo : Nat) {X : Nat → Prop} (s x : Operand) (t e : TypeId) (z : Value) (bytes : Nat)
 (ho : o.op = .call { callee := .builtin .append, args := #[s, x], argTypes := #[t, t] })
 (ht : P.underlying t = some (.slice e)) (bj : (P.info? e).map (fun i => (i.zero, i.size, i.bytes)) = some (some z, l.size, bytes)) (hz : z.cells.size = l.size) (ct : 0 < bytes) (dr : 0 < l.size)
 (v : Value) (xs : List α) (y : α) (cs : Array Value) (hs : a.eval s = v) (hx : a.eval x = .slice (some ⟨W.heap.size, 0, none⟩) 1 1)
 (HO : OwnG l e lo X W v xs) (HY : l.rd (fun k => ¬ X k ∧ k < W.heap.size ∧ some k ≠ v.ownBlock) W cs.toList y)
 (ap : lo ≤ W.heap.size) (hl : (xs.length + 1) * bytes ≤ 140737488355328)
 (h : ∀ v1 w1, OwnG l e lo X w1 v1 (xs ++ [y]) → Fr (fun k => some k = v.ownBlock) W w1 → Fr (fun k => some k = v.ownBlock) (W.alloc (.cells cs e)) w1 → (∀ k, v1.ownBlock = some k → v.ownBlock = some k ∨ W.heap.size ≤ k) → K (a.put o.dst v1) w1) :
 o.wp P a (W.alloc (.cells cs e)) K Q := by
 have ah := HO.lt
 refine Yi l lo s x t e z bytes ho ht bj hz ct dr v xs [y] cs.toList ⟨W.heap.size, 0, none⟩ 1 1 hs hx rfl (HO.ext (za _ _)) ?_ ?_ (by simp; omega) hl ?_
 ·exact Lay.all_single (l.mono (l.frame HY (fun k hk => Below.heap_alloc _ _ _ hk.2.1)) (fun k hk => ⟨hk.1, by simp; omega, hk.2.2⟩))
 ·intro j u hj
  rw [show ((⟨W.heap.size, 0, none⟩ : Addr).add j) = ⟨W.heap.size, j, none⟩ from by unfold Addr.add; split <;> simp_all, (zk W cs e).cell j]
  simpa using hj
 ·intro v1 w1 h1 h2 h3
  refine h v1 w1 h1 (Fr.trans (za W _) h2 (fun _ _ h => h.elim) (fun _ _ h => h)) h2 (fun k hk => ?_)
  rcases h3 with h3 | h3
  ·exact .inl (h3 ▸ hk)
  ·rw [h3] at hk
   injection hk with hk
   refine .inr ?_
   simp at hk
   omega
theorem OwnG.sliceD {α : Type} {l : Lay α} {e : TypeId} {lo : Nat} {D : Nat → Prop} {w : World} {v : Value} {xs : List α} (h : OwnG l e lo (fun k => ¬ D k) w v xs) : l.slice.rd (fun k => (D k ∨ lo ≤ k) ∧ k < w.heap.size) w [v] xs := by
 obtain ⟨flat, ⟨h1, h2⟩, k⟩ := h
 rcases h2 with ⟨rfl, h0⟩ | ⟨g, cap, bO, rfl, hg, hh, hn, hm, hs, ht⟩
 ·have : xs = [] := List.eq_nil_of_length_eq_zero h0
  subst this
  exact ⟨none, 0, rfl, Nat.le_refl _, by simp [maxLen], fun h => absurd h (by simp)⟩
 ·refine ⟨_, cap, rfl, hn, hm, fun _ => ⟨g, 0, bO, e, (0, 0), flat, rfl, ⟨.inr hg, (Zw hh)⟩, hh, Lay.all_mono (fun k hk => ⟨.inl (Classical.byContradiction fun q => hk.1 q), hk.2.1⟩) k, fun j hj => ?_⟩⟩
  rw [Nat.zero_add, ← ht, List.getElem?_take, if_pos (by omega)]
  simp
end
variable {e : TypeId} {xs : List α}
theorem OwnG.sliceE (h : OwnG l e wL.heap.size (fun k => ¬ D k ∧ k < wL.heap.size) W v xs) (hw : w.heap.size ≤ wL.heap.size) : l.slice.rd (aE D w W) W [v] xs :=
 Lay.mono _ (h.slice (fun k hk q => by have := q.2; omega)) fun k hk => ⟨by
  by_cases hD : D k
  ·exact .inl hD
  ·exact .inr (Classical.byContradiction fun q => hk.1 ⟨hD, by omega⟩), hk.2⟩
theorem zjb : Lay.lim.flat := Lay.flat_via (Lay.flat_pair Lay.flat_u32 (Lay.flat_pair Lay.flat_bool Lay.flat_u32)) _
theorem zjc : Lay.imp.flat := Lay.flat_via (Lay.flat_pair Lay.flat_strB (Lay.flat_pair Lay.flat_strB (Lay.flat_pair Lay.flat_int (Lay.flat_pair Lay.flat_u32 (Lay.flat_pair zjb (Lay.flat_pair Lay.flat_int Lay.flat_bool)))))) _
theorem zh4 : Lay.expo.flat := Lay.flat_via (Lay.flat_pair Lay.flat_strB (Lay.flat_pair Lay.flat_int Lay.flat_u32)) _
theorem yW : Lay.nam.flat := Lay.flat_via (Lay.flat_pair Lay.flat_u32 (Lay.flat_pair Lay.flat_u32 Lay.flat_strB)) _
theorem jh (h : l.slice.rd A w [v] xs) : ∃ a m c, v = .slice a m c := by
 obtain ⟨a, c, e, _⟩ := h
 injection e with e
 exact ⟨a, _, c, e⟩
variable {X : Nat → Prop}
theorem jc {lo f : Nat} {S : Nat → Prop} {w0 w1 : World} {ys : List α} {cs : Array Value} {T : TypeId}
 (hB : Blk W g cs T) (hO : OwnG l e lo X W v xs) (hF : Fr S w0 W) (hX : X g) (hS : S g) (hg : g < lo) (ap : lo = w0.heap.size)
 (h1 : OwnG l e lo X w1 v1 ys) (h2 : Fr (fun k => some k = v.ownBlock) W w1) :
 Blk w1 g cs T ∧ (Blk (w1.setCell ⟨g, f, none⟩ v1) g (cs.setIfInBounds f v1) T ∧ OwnG l e lo X (w1.setCell ⟨g, f, none⟩ v1) v1 ys ∧ Fr S w0 (w1.setCell ⟨g, f, none⟩ v1)) := by
 have cY := hB.fr h2 (fun e => by have := (hO.lt g e.symm).1; omega)
 have hs := zh w1 ⟨g, f, none⟩ v1
 refine ⟨cY, cY.set f v1, h1.fr hs (fun k e => .inl (by have e' : k = g := e; rw [e']; exact hX)) (fun k hk e => by have := (h1.lt k hk).1; have e' : k = g := e; omega), ?_⟩
 exact Fr.trans (Fr.trans hF h2 (fun _ _ h => h) (fun k hk e => absurd hk (by have := (hO.lt k e.symm).1; omega))) hs (fun _ _ h => h) (fun k _ e => by have e' : k = g := e; rw [e']; exact hS)
theorem OwnG.sliceF (hl : l.flat) {lo : Nat} (h : OwnG l e lo X w v xs) : l.slice.rd (fun k => lo ≤ k ∧ k < w.heap.size) w [v] xs := by
 obtain ⟨flat, ⟨h1, h2⟩, k⟩ := h
 rcases h2 with ⟨rfl, h0⟩ | ⟨g, cap, bO, rfl, hg, hh, hn, hm, hs, ht⟩
 ·have : xs = [] := List.eq_nil_of_length_eq_zero h0
  subst this
  exact ⟨none, 0, rfl, Nat.le_refl _, by simp [maxLen], fun h => absurd h (by simp)⟩
 ·refine ⟨_, cap, rfl, hn, hm, fun _ => ⟨g, 0, bO, e, (0, 0), flat, rfl, ⟨hg, (Zw hh)⟩, hh, Lay.all_flat hl k, fun j hj => ?_⟩⟩
  rw [Nat.zero_add, ← ht, List.getElem?_take, if_pos (by omega)]
  simp
end Go.Proofs.YtejgninpjhcgnaaGreatDoor
