/- Texts of this proof, one behind the other. -/
import Derived.Test.YtejgninpjhcgnaaGreatDoorPart6
import Derived.LaidEql
import Derived.Maps.OwnSet
import Derived.Maps.Views
namespace Go.Proofs.YtejgninpjhcgnaaGreatDoor
open Go.RowKit
open Go.Maps (Keyed)
set_option linter.unusedSimpArgs false
set_option linter.unusedVariables false
set_option maxRecDepth 100000
set_option maxHeartbeats 8000000
abbrev zio : Addr := ⟨4, 0, none⟩
structure Spec (pe pu : Addr) (L : Nat) (w : World) : Prop where
 eof : w.cell? js = some (eofV pe)
 unx : w.cell? zio = some (eofV pu)
 ne : pu ≠ pe
 be : ∃ cs T, Blk w pe.block cs T
 bu : ∃ cs T, Blk w pu.block cs T
 l1 : js.block < L
 l2 : zio.block < L
 l3 : pe.block < L
 l4 : pu.block < L
 lw : L ≤ w.heap.size
variable {pe pu : Addr} {L : Nat} {w w' : World} {S : Nat → Prop}
theorem Spec.fr (h : Spec pe pu L w) (hf : Fr S w w') (hS : ∀ k, S k → L ≤ k) : Spec pe pu L w' := by
 obtain ⟨a, b, c, ⟨cs, T, d⟩, ⟨fb, T', e⟩, l1, l2, l3, l4, lw⟩ := h
 exact ⟨hf.cell a (fun q => by have := hS _ q; omega), hf.cell b (fun q => by have := hS _ q; omega), c, ⟨cs, T, d.fr hf (fun q => by have := hS _ q; omega)⟩, ⟨fb, T', e.fr hf (fun q => by have := hS _ q; omega)⟩, l1, l2, l3, l4, nlQ lw hf.size⟩
theorem Spec.ext (h : Spec pe pu L w) (hf : Ext w w') : Spec pe pu L w' := h.fr hf (fun _ q => q.elim)
structure RdX (R : Rdr) (D F : Nat → Prop) (g : Nat) (pe pu : Addr) (L : Nat) (bs : List UInt8) (w : World) : Prop where
 is : R.is D F g bs w
 sp : Spec pe pu L w
 hF : ∀ k, F k → L ≤ k
 len : bs.length ≤ 140737488355328
section
variable {R : Rdr} {D F : Nat → Prop} {g : Nat} {pe pu : Addr} {L : Nat} {bs fg : List UInt8} {w w' : World} {S : Nat → Prop}
theorem RdX.s (h : RdX R D F g pe pu L bs w) : RdS R D F g pe bs w := ⟨h.is, h.sp.eof, fun q => by have := h.hF _ q; have := h.sp.l1; omega, h.len⟩
theorem RdX.step (h : RdX R D F g pe pu L bs w) (hi : R.is D F g fg w') (hf : Fr S w w') (hS : ∀ k, S k → L ≤ k) (hl : fg.length ≤ bs.length) : RdX R D F g pe pu L fg w' :=
 ⟨hi, h.sp.fr hf hS, h.hF, nlQ hl h.len⟩
theorem RdX.stepS (h : RdX R D F g pe pu L bs w) (hi : RdS R D F g pe fg w') (hf : Fr F w w') : RdX R D F g pe pu L fg w' := ⟨hi.is, h.sp.fr hf h.hF, h.hF, hi.len⟩
theorem RdX.fr (h : RdX R D F g pe pu L bs w) (hf : Fr S w w') (hS : ∀ k, S k → L ≤ k) (hF : ∀ k, F k → ¬ S k) (hD : ∀ k, D k → ¬ S k) : RdX R D F g pe pu L bs w' :=
 ⟨R.frame h.is hf hF hD, h.sp.fr hf hS, h.hF, h.len⟩
theorem RdX.ext (h : RdX R D F g pe pu L bs w) (hf : Ext w w') : RdX R D F g pe pu L bs w' := h.fr hf (fun _ q => q.elim) (fun _ _ h => h) (fun _ _ h => h)
end
def BadV (pe : Addr) (w : World) (v : Value) : Prop := ∃ (p : Addr) (cs : Array Value) (T : TypeId), v = eofV p ∧ p ≠ pe ∧ Blk w p.block cs T
theorem jO (x : ByteArray) (w : World) (h : Spec pe pu L w) : Calls Tryz.prog 113 #[.string x] w fun e w' => ∃ v, e = .returned v ∧ BadV pe w' v ∧ Ext w w' := by
 have H := qh h
 clear h
 go_enter Tryz.func113, Tryz.ntmps113
 go_wp2
 go_ret
 exact ⟨_, rfl, ⟨⟨w.heap.size, 0, none⟩, _, _, rfl, fun e => by have h1 := congrArg Addr.block e; have h2 := H.o.l3; have h3 := H.o.lw; simp only at h1; omega, zl _ _ _⟩, za _ _⟩
theorem zb1 (p : Addr) (w : World) : (binOp .eql 79 (eofV p) (eofV p)).run Tryz.prog w = .ok (.bool true) w := by
 obtain ⟨i, hi, hc⟩ := Option.map_eq_some_iff.1 (show (Tryz.prog.info? 380).map (·.comparable) = some true from by kernel_rfl)
 obtain ⟨j, hj, _⟩ := Option.map_eq_some_iff.1 (show (Tryz.prog.info? 382).map (fun _ => true) = some true from by kernel_rfl)
 exact run_eql_iface_ptr_same w p Tryz.underlying79 Tryz.underlying380 hi hc hj
theorem Yn (bs : List UInt8) (cs : List Value) (i n : Nat) (hi : i ≤ bs.length) (hc : i + n ≤ cs.length) (hn : n ≤ (bs.drop i).length) :
 splice (zC (bs.take i) ++ cs.drop i) i (zC ((bs.drop i).take n)) = zC (bs.take (i + n)) ++ cs.drop (i + n) := by
 have h1 : (zC (bs.take i)).length = i := by rw [yv, ltQ]; omega
 have h2 : (zC ((bs.drop i).take n)).length = n := by rw [yv, ltQ]; omega
 unfold splice
 rw [h2, List.take_left' h1, List.drop_append, h1, List.drop_of_length_le (by omega : (zC (bs.take i)).length ≤ i + n), show i + n - i = n from by omega, List.drop_drop]
 rw [show bs.take (i + n) = bs.take i ++ (bs.drop i).take n from by rw [List.take_add]]
 unfold zC
 rw [List.map_append]
 simp [Nat.add_comm]
def zao (Tb : TypeId) (S : Rdr) (D F : Nat → Prop) (g b : Nat) (pe pu : Addr) (L : Nat) (bs : List UInt8) (n : Nat) (w : World) (e : Ending) (w' : World) : Prop :=
 (n ≤ bs.length ∧ e = .returned (.tuple #[.int .i64 (n : Int), .nilIface]) ∧ RdX S D F g pe pu L (bs.drop n) w' ∧ Blk w' b (zC (bs.take n)).toArray Tb ∧ Fr (fun k => F k ∨ k = b) w w') ∨
  (bs.length < n ∧ e = .returned (.tuple #[.int .i64 (bs.length : Int), if bs = [] then eofV pe else eofV pu]) ∧ Spec pe pu L w' ∧ Fr (fun k => F k ∨ k = b) w w')
def nilN : Value → Nat
 | .nilIface => 1
 | _ => 0
variable {Tb : TypeId} {D F : Nat → Prop} {g b : Nat} {bs : List UInt8}
theorem zb2 {S : Rdr} (n : Nat) (cs : Array Value) (w : World) (hS : RdX S D F g pe pu L bs w) (hB : Blk w b cs Tb) (iF : cs.size = n) (hn : n ≤ 4294967296) (hF : ¬ F b) (hD : ¬ D b) (hb : L ≤ b) :
 Calls Tryz.prog 162 #[.iface S.T (.pointer (some ⟨g, 0, none⟩)), .slice (some ⟨b, 0, none⟩) n n, .int .i64 (n : Int)] w fun e w' =>
  zao Tb S D F g b pe pu L bs n w e w' := by
 have mN := S.nil g
 have mR := S.meth g
 have mV := S.call
 have A2 : ∀ (fn : Fn) (first cap : Array Value) (w : World), (Instr.makeFunc fn first cap).run Tryz.prog w = .ok (.func fn first cap) w := fun _ _ _ _ => rfl
 have H := qh (anQ hS (anQ hB (anQ hF (anQ hD (anQ hb iF)))))
 have iD : (n : Int) ≤ 4294967296 := by omega
 clear hS hB hF hD hb
 go_enter Tryz.func162, Tryz.ntmps162
 go_wp2_with fail
 go_loopw [6, 7, 8] (fun s6 s7 s8 w' => (∃ i : Nat, i ≤ n ∧ s6 = .int .i64 (i : Int) ∧ s7 = .nilIface ∧ Hq (i ≤ bs.length ∧ RdX S D F g pe pu L (bs.drop i) w' ∧ Blk w' b (zC (bs.take i) ++ cs.toList.drop i).toArray Tb ∧ Fr (fun k => F k ∨ k = b) w w')) ∨ (bs.length < n ∧ s6 = .int .i64 (bs.length : Int) ∧ s7 = eofV pe ∧ Hq (RdX S D F g pe pu L [] w' ∧ Fr (fun k => F k ∨ k = b) w w'))) (fun s6 s7 _ _ => n - (intOf s6).toNat + nilN s7)
 case atStart => exact .inl ⟨0, nzQ _, rfl, rfl, nzQ _, H.o.1, by simpa [zC] using H.o.2.1, Fr.refl _ _⟩
 case round =>
  rcases hrel with ⟨i, hi, rfl, rfl, hV⟩ | ⟨aj, rfl, rfl, hV⟩
  ·by_cases aj : i < n
   ·go_wp2_with fail
    refine zj (yX (fun k => F k ∨ k = b)) [kT 0, kT 1, kT 2, kT 3, kT 4, kT 5, kT 6, kR 7, kT 8, kT 9, kT 10, kT 11, kT 12] (by kernel_rfl) (by kernel_rfl) ?_
    simp only [zx, gzQ, gsQ]
    have hx := zb wr
    have Hd := qh (anQ (hV.o.2.1.ext hx) (anQ (hV.o.2.2.1.ext hx) (hV.o.2.2.2.ext hx)))
    have wd := qh hV.o.1
    clear hx hV
    generalize wr.drew = W1 at *
    repeat (apply item_take; rfl; rfl; rfl; rfl; exact fun _ _ _ _ h => h; (intro _ _ _ k; go_simp; exact k))
    apply zg; rfl; intro K hK; go_simp
    rw [if_neg (show ¬ n = i by omega)]
    have dw : (zC (bs.take i) ++ cs.toList.drop i).length = n := by
     have h1 : cs.toList.length = n := by have := Array.length_toList (xs := cs); have := H.o.2.2.2.2.2; omega
     have h2 := wd.o
     rw [laQ, yv, ltQ, ldQ, h1]
     omega
    by_cases hd : bs.length = i
    ·have kW : bs.drop i = [] := List.drop_eq_nil_of_le (Nat.le_of_eq hd)
     have Hi := Hd.o.1.is
     rw [kW] at Hi
     refine (S.eof D F g _ _ _ _ (eofV pe) W1 Hi Hd.o.1.sp.eof (by omega) Hd.o.1.s.nf).mono ?_
     rintro e w2 ⟨rfl, fZ, dI⟩
     refine hK _ _ (dI.mono (fun _ _ h => .inl h)) ?_
     have aV : Hq (bs.length < n ∧ RdX S D F g pe pu L [] w2 ∧ Fr (fun k => F k ∨ k = b) w w2) := ⟨by omega, Hd.o.1.step fZ dI Hd.o.1.hF (nzQ _), Fr.trans Hd.o.2.2 dI (fun _ _ h => h) (fun _ _ h => .inl h)⟩
     obtain rfl := hd
     clear hK K fZ dI
     repeat (apply item_take; rfl; rfl; rfl; rfl; exact fun _ _ _ _ h => h; (intro _ _ _ k; go_simp; exact k))
     apply zm
     go_wp2
     go_roundw
     case rel => exact .inr ⟨aV.o.1, by go_num, rfl, aV.o.2⟩
     case measure => simp [intOf, nilN]
    ·refine (S.read D F g b i (n - i) (n - i) (bs.drop i) (zC (bs.take i) ++ cs.toList.drop i).toArray Tb W1 Hd.o.1.is Hd.o.2.1 (by rw [List.size_toArray, dw]; omega) (Nat.le_refl _) (by simp only [maxLen]; omega) H.o.2.2.1 H.o.2.2.2.1 (by omega) (by rw [ldQ]; have := wd.o; omega)).mono ?_
     rintro e w2 ⟨q, fq, cV, ev, rfl, fZ, dI, bi⟩
     refine hK _ _ dI ?_
     rw [ldQ] at ev
     have aV : Hq (i + q ≤ bs.length ∧ RdX S D F g pe pu L (bs.drop (i + q)) w2 ∧ Blk w2 b (zC (bs.take (i + q)) ++ cs.toList.drop (i + q)).toArray Tb ∧ Fr (fun k => F k ∨ k = b) w w2) := by
      have vi := wd.o
      have iF := H.o.2.2.2.2.2
      refine ⟨by omega, ?_, ?_, Fr.trans Hd.o.2.2 dI (fun _ _ h => h) (fun _ _ h => h)⟩
      ·rw [List.drop_drop] at fZ
       exact Hd.o.1.step fZ dI (fun k e => e.elim (Hd.o.1.hF k) (fun e => by have := H.o.2.2.2.2.1; omega)) (by rw [ldQ, ldQ]; omega)
      ·have := Yn bs cs.toList i q vi (by have := Array.length_toList (xs := cs); omega) (by rw [ldQ]; omega)
       rw [← this]
       exact bi
     have B8 : i + q ≤ n := by omega
     clear hK K fZ dI bi cV ev
     repeat (apply item_take; rfl; rfl; rfl; rfl; exact fun _ _ _ _ h => h; (intro _ _ _ k; go_simp; exact k))
     apply zm
     go_wp2
     go_roundw
     case rel => exact .inl ⟨i + q, B8, by go_num, rfl, aV.o⟩
     case measure => simp [intOf, nilN]; omega
   ·have la : i = n := by omega
    have bh := qh (show n ≤ bs.length ∧ RdX S D F g pe pu L (bs.drop n) wr ∧ Blk wr b (zC (bs.take n)).toArray Tb ∧ Fr (fun k => F k ∨ k = b) w wr from by
     subst la
     exact ⟨hV.o.1, hV.o.2.1, by
      have := hV.o.2.2.1
      rw [show cs.toList.drop i = [] from List.drop_eq_nil_of_le (by rw [Array.length_toList]; have := H.o.2.2.2.2.2; omega), List.append_nil] at this
      exact this, hV.o.2.2.2⟩)
    subst la
    clear hV
    go_wp2
    go_ret2
    exact .inl ⟨bh.o.1, rfl, bh.o.2⟩
  ·have tK := hV.o.1.sp.eof
   have kn := hV.o.1.sp.unx
   have un := zb1 pe
   have dn : decide ((n : Int) ≤ (bs.length : Int)) = false := decide_eq_false (by omega)
   have Dh : decide (n ≤ bs.length) = false := decide_eq_false (by omega)
   have ry := qh aj
   by_cases h0 : 0 < bs.length
   ·have d0 : decide ((0 : Int) < (bs.length : Int)) = true := decide_eq_true (by omega)
    have CM : decide (0 < bs.length) = true := decide_eq_true h0
    have ag : Hq (¬ bs = []) := List.length_pos_iff.1 h0
    clear aj h0
    go_wp2
    go_ret2
    exact .inr ⟨ry.o, by rw [if_neg ag.o]; rfl, hV.o.1.sp, hV.o.2⟩
   ·have d0 : decide ((0 : Int) < (bs.length : Int)) = false := decide_eq_false (by omega)
    have CM : decide (0 < bs.length) = false := decide_eq_false h0
    have ag : Hq (bs = []) := List.eq_nil_of_length_eq_zero (by omega)
    clear aj h0
    go_wp2
    go_ret2
    exact .inr ⟨ry.o, by rw [if_pos ag.o, ag.o]; rfl, hV.o.1.sp, hV.o.2⟩
theorem ZR (S : Rdr) (D F : Nat → Prop) (g b : Nat) (pe pu : Addr) (L : Nat) (bs : List UInt8) (n : Nat) (cs : Array Value) (w : World) (hS : RdX S D F g pe pu L bs w) (hB : Blk w b cs Tb) (iF : cs.size = n) (hn : n ≤ 4294967296) (hF : ¬ F b) (hD : ¬ D b) (hb : L ≤ b) :
 Calls Tryz.prog 128 #[.iface S.T (.pointer (some ⟨g, 0, none⟩)), .slice (some ⟨b, 0, none⟩) n n] w fun e w' => zao Tb S D F g b pe pu L bs n w e w' := by
 have HC := qh (zb2 n cs w hS hB iF hn hF hD hb)
 clear hS hB hF hD hb
 go_enter Tryz.func128, Tryz.ntmps128
 go_wp2_with fail
 refine HC.o.mono ?_
 rintro e w1 (⟨h1, rfl, h2⟩ | ⟨h1, rfl, h2⟩)
 ·have H2 := qh (anQ h1 h2)
  clear h1 h2 HC
  go_wp2
  go_ret2
  exact .inl ⟨H2.o.1, rfl, H2.o.2⟩
 ·have H2 := qh (anQ h1 h2)
  clear h1 h2 HC
  obtain ⟨v, hv⟩ := exQ ((if bs = [] then eofV pe else eofV pu))
  rw [hv]
  have hv := qh hv
  go_wp2
  go_ret2
  exact .inr ⟨H2.o.1, by rw [hv.o]; rfl, H2.o.2⟩
theorem zai {S : Rdr} (g b o : Nat) (pe pu : Addr) (L : Nat) (bs : List UInt8) (cs : Array Value) (T : TypeId) (w : World) (At : RdX S D F g pe pu L bs w) (hS : RdS S D F g pe bs w) (hB : Blk w b cs T) (ho : o < cs.size) (hF : ¬ F b) (hD : ¬ D b) (hb : b ≠ js.block) :
 Calls Tryz.prog 183 #[.iface S.T (.pointer (some ⟨g, 0, none⟩)), .pointer (some ⟨b, o, none⟩)] w fun e w' =>
  (∃ c r, bs = c :: r ∧ 124 ≤ c.toNat ∧ c.toNat ≤ 127 ∧ e = .returned .nilIface ∧ RdS S D F g pe r w' ∧ Blk w' b (cs.setIfInBounds o (.int .i64 (127 - (c.toNat : Int)))) T ∧ Fr (fun k => F k ∨ k = b) w w') ∨
  ((bs = [] ∨ ∃ c r, bs = c :: r ∧ ¬ (124 ≤ c.toNat ∧ c.toNat ≤ 127) ∧ ∃ v, e = .returned v ∧ BadV pe w' v) ∧ Fr (fun k => F k ∨ k = b) w w') := by
 have AN := qh At
 clear At
 have HC := qh (Z8 hS)
 have H := qh (anQ hS (anQ hB (anQ hF (anQ hD hb))))
 obtain ⟨x, hx⟩ : ∃ x, cs[o]? = some x := ⟨cs[o], Array.getElem?_eq_getElem ho⟩
 clear hS hB hF hD hb
 go_enter Tryz.func183, Tryz.ntmps183
 go_wp2_with fail
 refine HC.o.mono ?_
 rintro e w1 (⟨c, rest, hr, rfl, h1, h2⟩ | ⟨hr, ⟨n, rfl⟩, h1, h2⟩)
 ·have bz : bs = c :: rest := by
   cases bs with
   | nil => cases hr
   | cons a r => simp only [rdB, Option.some.injEq, Prod.mk.injEq] at hr; rw [hr.1, hr.2]
  have bz := qh bz
  have cz := H.o.2.1.fr h2 H.o.2.2.1
  have hc := cz.cell o
  rw [hx] at hc
  have hf := cz.frz o
  have ht := c.toNat_lt
  have hs : ∀ v, RdS S D F g pe rest (w1.setCell ⟨b, o, none⟩ v) ∧ Blk (w1.setCell ⟨b, o, none⟩ v) b (cs.setIfInBounds o v) T ∧ Fr (fun k => F k ∨ k = b) w (w1.setCell ⟨b, o, none⟩ v) := fun v => by
   have hs := zf w1 ⟨b, o, none⟩ v
   exact ⟨h1.fr hs (fun e => H.o.2.2.2.2 e.symm) (fun k hk e => by have e' : k = b := e; subst e'; exact H.o.2.2.1 hk) (fun k hk e => by have e' : k = b := e; subst e'; exact H.o.2.2.2.1 hk), cz.set o _, Fr.trans h2 hs (fun _ _ h => .inl h) (fun _ _ h => .inr h)⟩
  have hs := qh hs
  have h2 := qh h2
  clear h1 hr HC cz
  have ag : ∀ k : Nat, c.toNat ≠ k → ((c.toNat : Int) == (k : Int)) = false := fun k h => by rw [beq_eq_false_iff_ne]; omega
  by_cases h127 : c.toNat = 127
  ·have xN : ((c.toNat : Int) == 127) = true := by rw [beq_iff_eq]; omega
   have bj : 124 ≤ c.toNat ∧ c.toNat ≤ 127 := by omega
   have he : Hq (127 - (c.toNat : Int) = 0) := by show _ = _; omega
   go_wp2
   go_ret
   refine .inl ⟨c, rest, bz.o, bj.1, bj.2, rfl, (hs.o _).1, ?_, (hs.o _).2.2⟩
   rw [he.o]
   exact (hs.o _).2.1
  ·have xN : ((c.toNat : Int) == 127) = false := ag 127 h127
   by_cases h126 : c.toNat = 126
   ·have wY : ((c.toNat : Int) == 126) = true := by rw [beq_iff_eq]; omega
    have bj : 124 ≤ c.toNat ∧ c.toNat ≤ 127 := by omega
    have he : Hq (127 - (c.toNat : Int) = 1) := by show _ = _; omega
    go_wp2
    go_ret
    refine .inl ⟨c, rest, bz.o, bj.1, bj.2, rfl, (hs.o _).1, ?_, (hs.o _).2.2⟩
    rw [he.o]
    exact (hs.o _).2.1
   ·have wY : ((c.toNat : Int) == 126) = false := ag 126 h126
    by_cases h125 : c.toNat = 125
    ·have wZ : ((c.toNat : Int) == 125) = true := by rw [beq_iff_eq]; omega
     have bj : 124 ≤ c.toNat ∧ c.toNat ≤ 127 := by omega
     have he : Hq (127 - (c.toNat : Int) = 2) := by show _ = _; omega
     go_wp2
     go_ret
     refine .inl ⟨c, rest, bz.o, bj.1, bj.2, rfl, (hs.o _).1, ?_, (hs.o _).2.2⟩
     rw [he.o]
     exact (hs.o _).2.1
    ·have wZ : ((c.toNat : Int) == 125) = false := ag 125 h125
     by_cases h124 : c.toNat = 124
     ·have xI : ((c.toNat : Int) == 124) = true := by rw [beq_iff_eq]; omega
      have bj : 124 ≤ c.toNat ∧ c.toNat ≤ 127 := by omega
      have he : Hq (127 - (c.toNat : Int) = 3) := by show _ = _; omega
      go_wp2
      go_ret
      refine .inl ⟨c, rest, bz.o, bj.1, bj.2, rfl, (hs.o _).1, ?_, (hs.o _).2.2⟩
      rw [he.o]
      exact (hs.o _).2.1
     ·have xI : ((c.toNat : Int) == 124) = false := ag 124 h124
      have bj : ¬ (124 ≤ c.toNat ∧ c.toNat ≤ 127) := by omega
      clear ag
      have em := qh (AN.o.sp.fr h2.o AN.o.hF)
      go_wp2_with fail
      refine (jO _ _ em.o).mono ?_
      rintro e w2 ⟨v, rfl, qP, eQ⟩
      have eQ := qh (anQ qP eQ)
      clear hc hf qP
      go_wp2
      go_ret
      exact .inr ⟨.inr ⟨c, rest, bz.o, bj, _, rfl, eQ.o.1⟩, (h2.o.mono (fun _ _ h => .inl h)).ext eQ.o.2⟩
 ·have bz : bs = [] := by
   cases bs with
   | nil => rfl
   | cons a r => cases hr
  have H1 := qh (anQ bz h2)
  clear h1 h2 hr HC bz
  go_wp2
  go_ret
  exact .inr ⟨.inl H1.o.1, H1.o.2.mono (fun _ _ h => .inl h)⟩
theorem YO : ∀ (s a : Nat) (bs : List UInt8) {n : Nat} {r : List UInt8}, jq s a bs = some (n, r) → r.length < bs.length
 | _, _, [], _, _, h => by cases h
 | s, a, b :: bs, n, r, h => by
  unfold jq at h
  split at h
  ·simp only [Option.some.injEq, Prod.mk.injEq] at h; rw [← h.2]; exact Nat.lt_succ_self _
  ·have := YO _ _ _ h
   exact Nat.lt_succ_of_lt this
theorem jx {n : UInt32} {r : List UInt8} (h : pNum bs = .ok n r) : r.length < bs.length := by
 unfold pNum at h
 split at h
 ·rename_i m r' hr
  injection h with h1 h2
  rw [← h2]
  exact YO _ _ _ hr
 ·cases h
def PX {α : Type} (S : Rdr) (D F : Nat → Prop) (g : Nat) (pe pu : Addr) (L b : Nat) (r : PR α) (lx : α → World → Prop) (w : World) (e : Ending) (w' : World) : Prop :=
 (∃ x rest, r = .ok x rest ∧ e = .returned .nilIface ∧ RdX S D F g pe pu L rest w' ∧ lx x w' ∧ Fr (fun k => F k ∨ k = b) w w') ∨
  (r = .bad ∧ ∃ v, e = .returned v ∧ BadV pe w' v ∧ Spec pe pu L w' ∧ Fr (fun k => F k ∨ k = b) w w')
section
variable (S : Rdr) (D F : Nat → Prop) (g : Nat) (pe pu : Addr) (L : Nat) (bs : List UInt8) (w : World) (h : RdX S D F g pe pu L bs w)
include h
theorem jS (ag : pNum bs ≠ .any) : Calls Tryz.prog 127 #[.iface S.T (.pointer (some ⟨g, 0, none⟩))] w fun e w' => ∃ n r, pNum bs = .ok n r ∧ e = .returned (.tuple #[.int .u32 (n.toNat : Int), .nilIface]) ∧ RdX S D F g pe pu L r w' ∧ Fr F w w' := by
 refine (Zl h.s).mono ?_
 rintro e w' (⟨n, rest, hr, rfl, h1, h2⟩ | ⟨hr, _⟩)
 ·refine ⟨UInt32.ofNat (n % 4294967296), rest, by unfold pNum; rw [hr], ?_, h.stepS h1 h2, h2⟩
  rw [jw (Nat.mod_lt _ (by decide))]
 ·exact absurd (by unfold pNum; rw [hr]) ag
theorem Y8 (ag : y7 bs ≠ .any) : Calls Tryz.prog 126 #[.iface S.T (.pointer (some ⟨g, 0, none⟩))] w fun e w' => ∃ c r, bs = c :: r ∧ e = .returned (.tuple #[.int .u8 (c.toNat : Int), .nilIface]) ∧ RdX S D F g pe pu L r w' ∧ Fr F w w' := by
 refine (Z8 h.s).mono ?_
 rintro e w' (⟨c, rest, hr, rfl, h1, h2⟩ | ⟨hr, _⟩)
 ·cases bs with
  | nil => cases hr
  | cons a r =>
   simp only [rdB, Option.some.injEq, Prod.mk.injEq] at hr
   obtain ⟨rfl, rfl⟩ := hr
   exact ⟨a, r, rfl, rfl, h.stepS h1 h2, h2⟩
 ·cases bs with
  | nil => exact absurd rfl ag
  | cons a r => cases hr
theorem zfK : Calls Tryz.prog 126 #[.iface S.T (.pointer (some ⟨g, 0, none⟩))] w fun e w' => (∃ c r, bs = c :: r ∧ e = .returned (.tuple #[.int .u8 (c.toNat : Int), .nilIface]) ∧ RdX S D F g pe pu L r w' ∧ Fr F w w') ∨ (bs = [] ∧ (∃ z : UInt8, e = .returned (.tuple #[.int .u8 (z.toNat : Int), eofV pe])) ∧ RdX S D F g pe pu L [] w' ∧ Fr F w w') := by
 refine (Z8 h.s).mono ?_
 rintro e w' (⟨c, rest, hr, rfl, h1, h2⟩ | ⟨hr, ⟨z, rfl⟩, h1, h2⟩)
 ·cases bs with
  | nil => cases hr
  | cons a r =>
   simp only [rdB, Option.some.injEq, Prod.mk.injEq] at hr
   obtain ⟨rfl, rfl⟩ := hr
   exact .inl ⟨a, r, rfl, rfl, h.stepS h1 h2, h2⟩
 ·cases bs with
  | nil => exact .inr ⟨rfl, ⟨z, rfl⟩, h.stepS h1 h2, h2⟩
  | cons a r => cases hr
theorem i32_y (ag : pA32 bs ≠ .any) : Calls Tryz.prog 188 #[.iface S.T (.pointer (some ⟨g, 0, none⟩))] w fun e w' => ∃ v r, pA32 bs = .ok [(0, yK (wrap32 v % 4294967296))] r ∧ e = .returned (.tuple #[.int .i32 (wrap32 v), .nilIface]) ∧ RdX S D F g pe pu L r w' ∧ Fr F w w' := by
 refine (zax h.s).mono ?_
 rintro e w' (⟨n, rest, hr, rfl, h1, h2⟩ | ⟨hr, _⟩)
 ·exact ⟨n, rest, by unfold pA32; rw [hr], rfl, h.stepS h1 h2, h2⟩
 ·exact absurd (by unfold pA32; rw [hr]) ag
theorem i64_y (ag : pA64 bs ≠ .any) : Calls Tryz.prog 189 #[.iface S.T (.pointer (some ⟨g, 0, none⟩))] w fun e w' => ∃ v r, yM 0 0 bs = some (v, r) ∧ pA64 bs = .ok [(1, yK v)] r ∧ e = .returned (.tuple #[.int .i64 v, .nilIface]) ∧ RdX S D F g pe pu L r w' ∧ Fr F w w' := by
 refine (Zu h.s).mono ?_
 rintro e w' (⟨n, rest, hr, rfl, h1, h2⟩ | ⟨hr, _⟩)
 ·exact ⟨n, rest, hr, by unfold pA64; rw [hr], rfl, h.stepS h1 h2, h2⟩
 ·exact absurd (by unfold pA64; rw [hr]) ag
variable (b o : Nat) (cs : Array Value) (T : TypeId) (hB : Blk w b cs T) (ho : o < cs.size) (hF : ¬ F b) (hD : ¬ D b) (hb : L ≤ b)
include hB ho hF hD hb
theorem zfL (ag : pNum bs ≠ .any) : Calls Tryz.prog 185 #[.iface S.T (.pointer (some ⟨g, 0, none⟩)), .pointer (some ⟨b, o, none⟩)] w fun e w' => PX S D F g pe pu L b (pNum bs) (fun n W => Blk W b (cs.setIfInBounds o (.int .u32 (n.toNat : Int))) T) w e w' := by
 refine (zag g b o pe bs cs T w h.s hB ho hF hD (by have := h.sp.l1; omega)).mono ?_
 rintro e w' (⟨n, rest, hr, rfl, h1, h2, h3⟩ | ⟨hr, _⟩)
 ·refine .inl ⟨UInt32.ofNat (n % 4294967296), rest, by unfold pNum; rw [hr], rfl, h.step h1.is h3 (fun k e => e.elim (h.hF k) (fun e => by omega)) (by have := YO _ _ _ hr; omega), ?_, h3⟩
  show Blk w' b (cs.setIfInBounds o (.int .u32 ((UInt32.ofNat (n % 4294967296)).toNat : Int))) T
  rw [jw (Nat.mod_lt _ (by decide))]
  exact h2
 ·exact absurd (by unfold pNum; rw [hr]) ag
theorem zjo (ag : pVT bs ≠ .any) : Calls Tryz.prog 183 #[.iface S.T (.pointer (some ⟨g, 0, none⟩)), .pointer (some ⟨b, o, none⟩)] w fun e w' => PX S D F g pe pu L b (pVT bs) (fun x W => Blk W b (cs.setIfInBounds o (.int .i64 x)) T ∧ 0 ≤ x ∧ x ≤ 3) w e w' := by
 refine (zai g b o pe pu L bs cs T w h h.s hB ho hF hD (by have := h.sp.l1; omega)).mono ?_
 rintro e w' (⟨c, r, rfl, cw, bS, rfl, h1, h2, h3⟩ | ⟨rfl | ⟨c, r, rfl, hc, v, rfl, hv⟩, h3⟩)
 ·refine .inl ⟨127 - (c.toNat : Int), r, ?_, rfl, h.step h1.is h3 (fun k e => e.elim (h.hF k) (fun e => by omega)) (by simp), ⟨h2, by omega, by omega⟩, h3⟩
  unfold pVT pChk
  show (if _ then _ else _ : PR Unit).bind _ = _
  rw [if_pos ⟨cw, bS⟩]; rfl
 ·exact absurd rfl ag
 ·refine .inr ⟨?_, v, rfl, hv, h.sp.fr h3 (fun k e => e.elim (h.hF k) (fun e => by omega)), h3⟩
  unfold pVT pChk
  show (if _ then _ else _ : PR Unit).bind _ = _
  rw [if_neg hc]; rfl
end
variable {lo : Nat} {e : TypeId}
theorem J8 {P : Program} {w1 w2 : World} {m sz : Nat} {flat : List Value} (hO : w2.ownsRow lo e sz (.slice (some ⟨b, 0, none⟩) m m) m flat) : ∃ cX, Blk w2 b cX e ∧ cX.size = m * sz := by
 obtain ⟨hl, h | ⟨gb, cap, cX, hv, hg, hh, cw, bS, fH, eM⟩⟩ := hO
 ·exact absurd h.1 (by simp)
 ·simp only [Value.slice.injEq, Option.some.injEq, Addr.mk.injEq, true_and, and_true] at hv
  obtain ⟨rfl, rfl⟩ := hv
  exact ⟨cX, hh, by omega⟩
theorem zb3 (A : Nat → Prop) (W : World) : ∀ l : List UInt8, Lay.u8.all A W (zC l) l
 | [] => rfl
 | c :: r => ⟨[_], zC r, rfl, rfl, zb3 A W r⟩
theorem zb4 {W : World} {l : List UInt8} {T : TypeId} (h : Blk W b (zC l).toArray T) (hl : l.length ≤ maxLen) {A : Nat → Prop} (hA : A b) : Lay.u8.slice.rd A W [.slice (some ⟨b, 0, none⟩) l.length l.length] l :=
 ⟨_, l.length, rfl, Nat.le_refl _, hl, fun _ => ⟨b, 0, _, T, (0, 0), zC l, rfl, hA, h, zb3 A W l, fun j hj => by rw [Nat.zero_add]; simp⟩⟩
theorem zdD (S : Rdr) (D F : Nat → Prop) (g : Nat) (pe pu : Addr) (L : Nat) (bs : List UInt8) (w : World) (h : RdX S D F g pe pu L bs w) (b o : Nat) (cs : Array Value) (T : TypeId) (hB : Blk w b cs T) (ho : o < cs.size) (hF : ¬ F b) (hD : ¬ D b) (hb : L ≤ b) (ag : zR bs ≠ .any) :
 Calls Tryz.prog 163 #[.iface S.T (.pointer (some ⟨g, 0, none⟩)), .pointer (some ⟨b, o, none⟩)] w fun e w' => PX S D F g pe pu L b (zR bs) (fun l W => ∃ v, Blk W b (cs.setIfInBounds o v) T ∧ Lay.u8.slice.rd (fun k => w.heap.size ≤ k ∧ k < W.heap.size) W [v] l ∧ ∃ a m c, v = .slice a m c) w e w' := by
 have HC := qh (jS S D F g pe pu L bs w h (PR.ne_any ag))
 have H := qh (anQ h (anQ hB (anQ hF (anQ hD (anQ hb (S.lt h.is))))))
 obtain ⟨x, hx⟩ : ∃ x, cs[o]? = some x := ⟨cs[o], Array.getElem?_eq_getElem ho⟩
 have ag := qh ag
 clear h hB hF hD hb
 go_enter Tryz.func163, Tryz.ntmps163
 go_wp2_with fail
 refine HC.o.mono ?_
 rintro e w1 ⟨n, rest, hr, rfl, h1, h2⟩
 have hp := qh (show zR bs = ZY n.toNat rest from by unfold zR; rw [hr]; rfl)
 have ff : n.toNat ≤ rest.length := by
  have := ag.o
  rw [hp.o] at this
  unfold ZY at this
  exact Classical.byContradiction fun q => this (if_neg q)
 have hp := qh (show zR bs = .ok (rest.take n.toNat) (rest.drop n.toNat) from by rw [hp.o]; unfold ZY; rw [if_pos ff])
 have eZ := n.toNat_lt
 have uo := qh (show rest.length ≤ 140737488355328 from h1.len)
 have H1 := qh (anQ h1 h2)
 have ff := qh ff
 generalize n.toNat = m at *
 clear h1 h2 hr HC ag
 obtain ⟨kU, hi, dt, dO, en⟩ := info_parts (show (Tryz.prog.info? 5).map (fun i => (i.zero, i.size, i.bytes)) = some (some (.int .u8 0), 1, 1) from by kernel_rfl)
 have gV := qh (anQ hi (anQ dt (anQ dO en)))
 clear hi dt dO en
 go_wp2_with (at_make; refine Hq.o ?_)
 obtain ⟨hi, dt, dO, en⟩ := gV.o
 refine wpList_make_full _ rfl (.tmp 18) (.tmp 18) 22 rfl w1.heap.size 5 kU (.int .u8 0) 1 Tryz.underlying22 hi dt dO .u32 .u32 (m : Int) (m : Int) m rfl rfl rfl rfl (by rw [en]; omega) (by show m ≤ 9223372036854775807; omega) (Nat.le_refl _) ?_
 intro w2 hO hG
 obtain ⟨c2, ct, cT⟩ := J8 (P := Tryz.prog) (w1 := w1) hO
 have hx : Ext w1 w2 := (yW hG).mono (fun _ _ h => by cases h)
 obtain ⟨gb, bt⟩ := exQ (w1.heap.size)
 have bo : Hq (w.heap.size ≤ gb ∧ ¬ F gb ∧ ¬ D gb ∧ ¬ gb = b ∧ L ≤ gb) := by
  have h1 := H1.o.2.size
  have h3 := H.o.2.2.2.2.2
  refine ⟨by omega, fun q => by have := h3.2.1 _ q; omega, fun q => by have := (h3.2.2 _ q).1; omega, by have := H.o.2.1.lt; omega, by have := H.o.1.sp.lw; omega⟩
 rw [bt] at ct
 rw [bt]
 have H2 := qh (anQ (H1.o.1.ext hx) (anQ ct (anQ (show c2.size = m by omega) (H1.o.2.ext hx))))
 clear hO hG hi dt dO en gV hx ct cT bt
 go_wp2_with fail
 refine (ZR S D F g gb pe pu L rest m c2 w2 H2.o.1 H2.o.2.1 H2.o.2.2.1 (by omega) bo.o.2.1 bo.o.2.2.1 bo.o.2.2.2.2).mono ?_
 rintro e w3 (⟨k1, rfl, k2, k3, k4⟩ | ⟨k1, _⟩)
 ·have lS := Fr.trans H2.o.2.2.2 k4 (U := fun k => F k ∨ k = gb) (fun _ _ h => .inl h) (fun _ _ h => h)
  have i7 := H.o.2.1.fr lS (fun e => e.elim H.o.2.2.1 (fun e => bo.o.2.2.2.1 e.symm))
  have au := i7.cell o
  rw [hx] at au
  have eR := i7.frz o
  have H3 := qh (anQ k2 (anQ k3 (anQ lS i7)))
  clear k1 k2 k3 k4 lS i7
  go_wp2
  go_ret
  have hs := zf w3 ⟨b, o, none⟩ (.slice (some ⟨gb, 0, none⟩) m m)
  refine .inl ⟨_, _, hp.o, rfl, H3.o.1.fr hs (fun k e => by have e' : k = b := e; have := H.o.2.2.2.2.1; omega) (fun k hk e => by have e' : k = b := e; subst e'; exact H.o.2.2.1 hk) (fun k hk e => by have e' : k = b := e; subst e'; exact H.o.2.2.2.1 hk), ⟨.slice (some ⟨gb, 0, none⟩) m m, H3.o.2.2.2.set o _, ?_, _, _, _, rfl⟩, ?_⟩
  ·have iV : (rest.take m).length = m := by rw [ltQ]; have := ff.o; omega
   have fv := H3.o.2.1.fr hs bo.o.2.2.2.1
   have := zb4 (l := rest.take m) fv (by simp only [maxLen]; omega) (A := fun k => w.heap.size ≤ k ∧ k < (w3.setCell ⟨b, o, none⟩ (.slice (some ⟨gb, 0, none⟩) m m)).heap.size) ⟨bo.o.1, fv.lt⟩
   rw [iV] at this
   exact this
  ·exact (Fr.trans H3.o.2.2.1 hs (U := fun k => F k ∨ k = gb ∨ k = b) (fun _ _ h => h.elim .inl (fun h => .inr (.inl h))) (fun _ _ h => .inr (.inr h))).mono (fun k hk e => by
    rcases e with e | e | e
    ·exact .inl e
    ·have := bo.o.1; omega
    ·exact .inr e)
 ·exact absurd ff.o (by omega)
theorem J9 : (Tryz.prog.info? 120).map (fun i => (i.zero, i.size, i.bytes)) = some (some (.agg #[.int .u32 0, .int .u32 0, .string ⟨#[]⟩]), Lay.nam.size, 24) := by kernel_rfl
theorem zdE (f : UInt32) (p : List Nam × St) : (zO f p).2.b.length ≤ p.2.b.length := by
 have h := nlQ (jv (rNum p.2).2) (ZO p.2)
 show (if _ then _ else _ : St).b.length ≤ _
 split
 ·exact nzQ _
 ·exact h
theorem zbB {σ : Type} (step : σ → σ) (m : σ → Nat) (h : ∀ p, m (step p) ≤ m p) : ∀ (n : Nat) (p : σ), m (yj step n p) ≤ m p
 | 0, _ => Nat.le_refl _
 | n + 1, p => nlQ (h _) (zbB step m h n p)
theorem JI (f : UInt32) : ∀ (n : Nat) (s : St), (yj (zO f) n ([], s)).1.length = n
 | 0, _ => rfl
 | n + 1, s => by
  show ((yj (zO f) n ([], s)).1 ++ [_]).length = n + 1
  rw [laQ, JI f n s]; rfl
theorem zeD (l : List Nam) (i : UInt32) (h : 0 < l.length) : zaI l i = decide (i.toNat ≤ (l[l.length - 1]'(by omega)).idx.toNat) := by
 unfold zaI
 rw [List.getLast?_eq_getElem?, List.getElem?_eq_getElem (by omega)]
theorem Jh (f : UInt32) (D : Nat → Prop) (g : Nat) (lo : Bool) (s : St) (w : World) (h : SpR D g lo s w) (hl : s.b.length ≤ 1048576) :
 Calls Tryz.prog 122 #[.pointer (some ⟨g, 0, none⟩), .int .u32 (f.toNat : Int)] w fun e w' => ∃ v, e = .returned v ∧ OwnG Lay.nam 120 w.heap.size (fun k => k = g) w' v (zQ f s).1 ∧ SpR D g lo (zQ f s).2 w' ∧ Fr (fun k => k = g) w w' := by
 have H := qh (anQ h (anQ hl h.lt.1))
 have c6 := qh (z0 s)
 clear h hl
 go_enter Tryz.func122, Tryz.ntmps122
 go_wp2_with fail
 refine (z6 H.o.1 (by have := H.o.2.1; omega)).mono ?_
 rintro e w1 ⟨rfl, k1, k2⟩
 have HR := qh (show zQ f s = yj (zO f) (zo s).1 ([], (zo s).2) from rfl)
 generalize (zo s).1 = n at *
 generalize (zo s).2 = s1 at *
 have H1 := qh (anQ k1 k2)
 clear k1 k2
 have iD : (n : Int) ≤ 1048576 := by have := H.o.2.1; have := c6.o.1; omega
 go_wp2_with fail
 go_loopw [4, 8] (fun s4 s8 w' => ∃ (i : Nat), i ≤ n ∧ s8 = .int .i64 i ∧ Hq (OwnG Lay.nam 120 w.heap.size (fun k => k = g) w' s4 (yj (zO f) i ([], s1)).1 ∧ SpR D g lo (yj (zO f) i ([], s1)).2 w' ∧ Fr (fun k => k = g) w w')) (fun _ s8 _ => n - (intOf s8).toNat)
 case atStart => exact ⟨0, nzQ _, rfl, zv _ _ _ _ _, H1.o⟩
 case round =>
  obtain ⟨i, hi, rfl, hV⟩ := hrel
  obtain ⟨va, am, vc, rfl⟩ := hV.o.1.shape
  have uV := JI f i s1
  have dF := qh (show (yj (zO f) i ([], s1)).2.b.length ≤ 1048576 from nlQ (zbB (zO f) (fun p => p.2.b.length) (zdE f) i ([], s1)) (nlQ c6.o.2 H.o.2.1))
  by_cases aj : i < n
  ·obtain ⟨r2, aY⟩ := exQ (yj (zO f) (i + 1) ([], s1))
   have aY := qh aY
   have aU := qh (show r2 = ((yj (zO f) i ([], s1)).1 ++ [⟨f, UInt32.ofNat (zc (yj (zO f) i ([], s1)).2).1, (zr (zc (yj (zO f) i ([], s1)).2).2).1⟩], if zaI (yj (zO f) i ([], s1)).1 (UInt32.ofNat (zc (yj (zO f) i ([], s1)).2).1) then (zr (zc (yj (zO f) i ([], s1)).2).2).2.fail 2 else (zr (zc (yj (zO f) i ([], s1)).2).2).2) from by rw [← aY.o]; rfl)
   generalize (yj (zO f) i ([], s1)).1 = xs at *
   generalize (yj (zO f) i ([], s1)).2 = t0 at *
   obtain ⟨_, _, CJ, Cl, CU⟩ := hV.o.1.form
   injection CJ with hvf1 hvf2 hvf3
   subst hvf1 hvf2 hvf3
   obtain rfl : i = xs.length := uV.symm
   have ah := qh (show ∀ k, (Value.slice va xs.length vc).ownBlock = some k → w.heap.size ≤ k ∧ k < wr.heap.size from hV.o.1.lt)
   have er : Hq (∀ k, (Value.slice va xs.length vc).ownBlock = some k → ¬ k = g) := fun k hk e => by have := (ah.o k hk).1; have := H.o.2.2; omega
   go_wp2_with fail
   refine (zK D g lo t0 wr hV.o.2.1 (by have := dF.o; omega)).mono ?_
   rintro e w2 ⟨rfl, k1, k2⟩
   have dH := zL t0
   have bW := qh (show (zc t0).2.b.length ≤ 1048576 from nlQ (zF t0) dF.o)
   generalize (zc t0).1 = x at *
   generalize (zc t0).2 = t1 at *
   have ci : Hq (OwnG Lay.nam 120 w.heap.size (fun k => k = g) w2 (.slice va xs.length vc) xs ∧ SpR D g lo t1 w2 ∧ Fr (fun k => k = g) w w2) := ⟨hV.o.1.fr k2 (fun k e => .inl e) er.o, k1, Fr.trans hV.o.2.2 k2 (fun _ _ h => h) (fun _ _ h => h)⟩
   clear k1 k2 hV
   go_wp2_with fail
   refine (Ja ci.o.2.1 (by have := bW.o; omega)).mono ?_
   rintro e w3 ⟨rfl, k1, k2⟩
   have gf := qh (Jc t1)
   generalize (zr t1).1 = nm at *
   generalize (zr t1).2 = t2 at *
   have bO : Hq (OwnG Lay.nam 120 w.heap.size (fun k => k = g) w3 (.slice va xs.length vc) xs ∧ SpR D g lo t2 w3 ∧ Fr (fun k => k = g) w w3) := ⟨ci.o.1.fr k2 (fun k e => .inl e) er.o, k1, Fr.trans ci.o.2.2 k2 (fun _ _ h => h) (fun _ _ h => h)⟩
   clear k1 k2 ci
   have lu := OwnG.sliceF z7 (bO.o.1.ext (za w3 (.cells #[.int .u32 (f.toNat : Int), .int .u32 (x : Int), .string (zd nm)] 120)))
   go_wp2_with fail
   obtain ⟨ge, cm⟩ := exQ (w3.heap.size)
   obtain ⟨W4, da⟩ : ∃ W4, w3.alloc (.cells #[.int .u32 (f.toNat : Int), .int .u32 (x : Int), .string (zd nm)] 120) = W4 := ⟨_, rfl⟩
   have HG : Hq (OwnG Lay.nam 120 w.heap.size (fun k => k = g) W4 (.slice va xs.length vc) xs ∧ SpR D g lo t2 W4 ∧ Fr (fun k => k = g) w W4) := by
    subst da
    exact ⟨bO.o.1.ext (za _ _), bO.o.2.1.ext (za _ _), bO.o.2.2.ext (za _ _)⟩
   have HE : Hq (Blk W4 ge #[.int .u32 (f.toNat : Int), .int .u32 (x : Int), .string (zd nm)] 120) := by subst da; rw [← cm]; exact zl _ _ _
   have ag := qh (show ¬ ge = g from by have := bO.o.2.1.lt.1; omega)
   have co := HE.o.cell
   rw [da] at lu
   rw [da, cm]
   clear da cm bO
   by_cases h0 : 0 < xs.length
   ·have fc : decide ((0 : Int) < (xs.length : Int)) = true := decide_eq_true (by omega)
    have vx : decide (0 < xs.length) = true := decide_eq_true h0
    have ru : wrap64 ((xs.length : Int) - 1) = ((xs.length - 1 : Nat) : Int) := by unfold wrap64; omega
    have vw : IntKind.i64.wrap ((xs.length : Int) - 1) = ((xs.length - 1 : Nat) : Int) := by rw [IntKind.wrap_i64]; omega
    obtain ⟨b, o, Dc, f0, f1, f2, -⟩ := Lay.nam_at lu (xs.length - 1) (by omega)
    have lk := qh (zeD xs (UInt32.ofNat x) h0)
    subst Dc
    generalize hy : (xs[xs.length - 1]'(by omega)).idx = y at *
    rw [jw dH] at lk
    clear lu
    by_cases hb : x ≤ y.toNat
    ·have dl : decide ((x : Int) ≤ (y.toNat : Int)) = true := decide_eq_true (by omega)
     have lk := qh (lk.o.trans (decide_eq_true hb))
     go_wp2_with fail
     go_quiet (fail)
     have mK : Hq (OwnG Lay.nam 120 w.heap.size (fun k => k = g) (W4.drewN nq) (.slice (some ⟨b, o, none⟩) xs.length vc) xs ∧ SpR D g lo t2 (W4.drewN nq) ∧ Fr (fun k => k = g) w (W4.drewN nq)) := ⟨HG.o.1.ext (yC _ _), HG.o.2.1.ext (yC _ _), HG.o.2.2.ext (yC _ _)⟩
     have qC := qh (HE.o.ext (yC W4 nq))
     clear co HG HE f0 f1 f2
     generalize W4.drewN nq = W5 at *
     have co := qC.o.cell
     go_wp2_with fail
     refine (zp D g lo t2 2 W5 mK.o.2.1).mono ?_
     rintro e WW ⟨rfl, k1, k2⟩
     have HT : Hq (OwnG Lay.nam 120 w.heap.size (fun k => k = g) WW (.slice (some ⟨b, o, none⟩) xs.length vc) xs ∧ SpR D g lo (t2.fail 2) WW ∧ Fr (fun k => k = g) w WW) := ⟨mK.o.1.fr k2 (fun k e => .inl e) er.o, k1, Fr.trans mK.o.2.2 k2 (fun _ _ h => h) (fun _ _ h => h)⟩
     have Am := qC.o.fr k2 ag.o
     clear co
     have co := Am.cell
     clear k1 k2 mK Am
     go_wp2_with (at_builtin; refine Hq.o ?_)
     clear co
     refine zU Lay.nam w.heap.size WW.heap.size rfl rfl (.tmp 33) (.tmp 35) _ _ _ 24 rfl Tryz.underlying35 J9 rfl (by omega) (by decide) (.slice (some ⟨b, o, none⟩) xs.length vc) xs ⟨f, UInt32.ofNat x, nm⟩ _ rfl rfl HT.o.1 ?_ HT.o.2.2.size (by omega) ?_
     ·refine ⟨[_], _, rfl, rfl, [_], [_], rfl, ?_, ⟨rfl, yd (by have := gf.o; have := bW.o; dsimp only; omega)⟩⟩
      show [Value.int .u32 _] = [Value.int .u32 ((UInt32.ofNat x).toNat : Int)]
      rw [jw dH]
     ·intro v1 w8 h1 h2 h3
      have eh : Hq (OwnG Lay.nam 120 w.heap.size (fun k => k = g) w8 v1 r2.1 ∧ SpR D g lo r2.2 w8 ∧ Fr (fun k => k = g) w w8) := by
       rw [aU.o]
       refine ⟨h1, ?_, ?_⟩
       ·have := HT.o.2.1.fr h2 (fun e => er.o g e.symm rfl) (fun k hk e => by have := (ah.o k e.symm).1; have := (H.o.1.lt.2 k hk).1; omega)
        rw [if_pos lk.o]; exact this
       ·exact Fr.trans HT.o.2.2 h2 (fun _ _ h => h) (fun k hk e => absurd hk (by have := (ah.o k e.symm).1; omega))
      obtain ⟨az, aR, aO, rfl⟩ := h1.shape
      clear h1 h2 h3
      go_wp2
      go_roundw
      case rel => exact ⟨xs.length + 1, by omega, by go_num, by rw [aY.o]; exact eh.o⟩
      case measure => simp [intOf]; omega
    ·have dl : decide ((x : Int) ≤ (y.toNat : Int)) = false := decide_eq_false (by omega)
     have lk := qh (lk.o.trans (decide_eq_false hb))
     go_wp2_with fail
     go_quiet (fail)
     have mK : Hq (OwnG Lay.nam 120 w.heap.size (fun k => k = g) (W4.drewN nq) (.slice (some ⟨b, o, none⟩) xs.length vc) xs ∧ SpR D g lo t2 (W4.drewN nq) ∧ Fr (fun k => k = g) w (W4.drewN nq)) := ⟨HG.o.1.ext (yC _ _), HG.o.2.1.ext (yC _ _), HG.o.2.2.ext (yC _ _)⟩
     have qC := qh (HE.o.ext (yC W4 nq))
     clear co HG HE f0 f1 f2
     generalize W4.drewN nq = W5 at *
     have co := qC.o.cell
     obtain ⟨WW, rfl⟩ : ∃ WW, WW = W5 := ⟨_, rfl⟩
     have HT := mK
     clear mK
     go_wp2_with (at_builtin; refine Hq.o ?_)
     clear co
     refine zU Lay.nam w.heap.size WW.heap.size rfl rfl (.tmp 33) (.tmp 35) _ _ _ 24 rfl Tryz.underlying35 J9 rfl (by omega) (by decide) (.slice (some ⟨b, o, none⟩) xs.length vc) xs ⟨f, UInt32.ofNat x, nm⟩ _ rfl rfl HT.o.1 ?_ HT.o.2.2.size (by omega) ?_
     ·refine ⟨[_], _, rfl, rfl, [_], [_], rfl, ?_, ⟨rfl, yd (by have := gf.o; have := bW.o; dsimp only; omega)⟩⟩
      show [Value.int .u32 _] = [Value.int .u32 ((UInt32.ofNat x).toNat : Int)]
      rw [jw dH]
     ·intro v1 w8 h1 h2 h3
      have eh : Hq (OwnG Lay.nam 120 w.heap.size (fun k => k = g) w8 v1 r2.1 ∧ SpR D g lo r2.2 w8 ∧ Fr (fun k => k = g) w w8) := by
       rw [aU.o]
       refine ⟨h1, ?_, ?_⟩
       ·have := HT.o.2.1.fr h2 (fun e => er.o g e.symm rfl) (fun k hk e => by have := (ah.o k e.symm).1; have := (H.o.1.lt.2 k hk).1; omega)
        rw [if_neg (by rw [lk.o]; exact Bool.false_ne_true)]; exact this
       ·exact Fr.trans HT.o.2.2 h2 (fun _ _ h => h) (fun k hk e => absurd hk (by have := (ah.o k e.symm).1; omega))
      obtain ⟨az, aR, aO, rfl⟩ := h1.shape
      clear h1 h2 h3
      go_wp2
      go_roundw
      case rel => exact ⟨xs.length + 1, by omega, by go_num, by rw [aY.o]; exact eh.o⟩
      case measure => simp [intOf]; omega
   ·have fc : decide ((0 : Int) < (xs.length : Int)) = false := decide_eq_false (by omega)
    have vx : decide (0 < xs.length) = false := decide_eq_false h0
    have lk := qh (show zaI xs (UInt32.ofNat x) = false from by rw [List.eq_nil_of_length_eq_zero (show xs.length = 0 by omega)]; rfl)
    clear lu
    go_wp2_with fail
    go_quiet (fail)
    have mK : Hq (OwnG Lay.nam 120 w.heap.size (fun k => k = g) (W4.drewN nq) (.slice va xs.length vc) xs ∧ SpR D g lo t2 (W4.drewN nq) ∧ Fr (fun k => k = g) w (W4.drewN nq)) := ⟨HG.o.1.ext (yC _ _), HG.o.2.1.ext (yC _ _), HG.o.2.2.ext (yC _ _)⟩
    have qC := qh (HE.o.ext (yC W4 nq))
    clear co HG HE
    generalize W4.drewN nq = W5 at *
    have co := qC.o.cell
    obtain ⟨WW, rfl⟩ : ∃ WW, WW = W5 := ⟨_, rfl⟩
    have HT := mK
    clear mK
    go_wp2_with (at_builtin; refine Hq.o ?_)
    clear co
    refine zU Lay.nam w.heap.size WW.heap.size rfl rfl (.tmp 33) (.tmp 35) _ _ _ 24 rfl Tryz.underlying35 J9 rfl (by omega) (by decide) (.slice va xs.length vc) xs ⟨f, UInt32.ofNat x, nm⟩ _ rfl rfl HT.o.1 ?_ HT.o.2.2.size (by omega) ?_
    ·refine ⟨[_], _, rfl, rfl, [_], [_], rfl, ?_, ⟨rfl, yd (by have := gf.o; have := bW.o; dsimp only; omega)⟩⟩
     show [Value.int .u32 _] = [Value.int .u32 ((UInt32.ofNat x).toNat : Int)]
     rw [jw dH]
    ·intro v1 w8 h1 h2 h3
     have eh : Hq (OwnG Lay.nam 120 w.heap.size (fun k => k = g) w8 v1 r2.1 ∧ SpR D g lo r2.2 w8 ∧ Fr (fun k => k = g) w w8) := by
      rw [aU.o]
      refine ⟨h1, ?_, ?_⟩
      ·have := HT.o.2.1.fr h2 (fun e => er.o g e.symm rfl) (fun k hk e => by have := (ah.o k e.symm).1; have := (H.o.1.lt.2 k hk).1; omega)
       rw [if_neg (by rw [lk.o]; exact Bool.false_ne_true)]; exact this
      ·exact Fr.trans HT.o.2.2 h2 (fun _ _ h => h) (fun k hk e => absurd hk (by have := (ah.o k e.symm).1; omega))
     obtain ⟨az, aR, aO, rfl⟩ := h1.shape
     clear h1 h2 h3
     go_wp2
     go_roundw
     case rel => exact ⟨xs.length + 1, by omega, by go_num, by rw [aY.o]; exact eh.o⟩
     case measure => simp [intOf]; omega
  ·obtain rfl : i = n := by omega
   have ky := qh (show OwnG Lay.nam 120 w.heap.size (fun k => k = g) wr (.slice va am vc) (zQ f s).1 ∧ SpR D g lo (zQ f s).2 wr ∧ Fr (fun k => k = g) w wr from by rw [HR.o]; exact hV.o)
   clear hV
   go_wp2
   go_ret
   exact ⟨_, rfl, ky.o⟩
variable {α : Type} {l : Lay α} {X : Nat → Prop} {v : Value} {xs : List α}
theorem OwnG.own (hl : l.flat) (h : OwnG l e lo X w v xs) : Own l e lo w v xs := by
 obtain ⟨flat, h1, h2⟩ := h
 exact ⟨flat, h1, Lay.all_flat hl h2⟩
theorem Own.toG (hl : l.flat) (h : Own l e lo w v xs) : OwnG l e lo X w v xs := by
 obtain ⟨flat, h1, h2⟩ := h
 exact ⟨flat, h1, Lay.all_flat hl h2⟩
def yl (w : World) (mg n : Nat) (seen : List UInt32) : Prop :=
 ∃ D : DataW Unit, w.ownsMap Tryz.prog 24 (plainElem Tryz.prog 4) mg n D ∧ ∀ y : UInt32, D.atKey (.int .u32 (y.toNat : Int)) (.lit (.bool false)) = .lit (.bool (decide (y ∈ seen)))
theorem wfU32 (y : UInt32) : (Lit.int .u32 (y.toNat : Int)).wf = true := by
 have := y.toNat_lt
 have e1 : IntKind.u32.min = 0 := by decide
 have e2 : IntKind.u32.max = 4294967295 := by decide
 unfold Lit.wf
 rw [Bool.and_eq_true, decide_eq_true_eq, decide_eq_true_eq, e1, e2]
 omega
theorem zhR (y : UInt32) : keyOf Tryz.prog 24 (.int .u32 (y.toNat : Int)) = some (.int .u32 (y.toNat : Int)) := Maps.keyOf_int_mk Tryz.underlying24 (wfU32 y)
variable {mg n : Nat} {seen : List UInt32}
theorem yl.fr (h : yl w mg n seen) (hf : Fr S w w') (hm : ¬ S mg) : yl w' mg n seen := by
 obtain ⟨D, h, k⟩ := h
 have aj := h.lt
 obtain ⟨es, ou, hb, r⟩ := h
 exact ⟨D, ⟨es, ou, (hf.block mg aj hm).trans hb, r⟩, k⟩
theorem yl.ext (h : yl w mg n seen) (hf : Ext w w') : yl w' mg n seen := h.fr hf (fun h => h)
theorem yl.lt (h : yl w mg n seen) : mg < w.heap.size := by
 obtain ⟨D, h, _⟩ := h
 exact h.lt
theorem zfM (w : World) : yl (w.alloc (.map #[] 0)) w.heap.size 0 [] :=
 ⟨.map [], World.ownsMap_made w _ _ _, fun y => by rw [show decide (y ∈ ([] : List UInt32)) = false from decide_eq_false (List.not_mem_nil)]; rfl⟩
theorem zfN (w : World) : (zeroValue 4).run Tryz.prog w = .ok (.bool false) w := by
 simp [zeroValue]
 rfl
theorem zbm {b : Bool} {ps : List MemPlace} (h : plainElem (H := Unit) Tryz.prog 4 v = some (.lit (.bool b), ps)) : v = .bool b := by
 unfold plainElem at h
 simp only [Tryz.underlying4] at h
 cases v <;> simp at h
 rw [h.1]
theorem yl.look (h : yl w mg n seen) (y : UInt32) : (Instr.lookup 392 (.map (some mg)) (.int .u32 (y.toNat : Int)) false).run Tryz.prog w = .ok (.bool (decide (y ∈ seen))) w := by
 obtain ⟨D, h, k⟩ := h
 obtain ⟨v, ps, hr, hv⟩ := h.lookup (Maps.int_keyed Tryz.underlying24) Tryz.underlying392 (zfN w) (plainElem_bool Tryz.underlying4 false) (zhR y)
 rw [k y] at hv
 rw [hr, zbm hv]
theorem yl.put (h : yl w mg n seen) (hn : n < maxLen) (y : UInt32) : ∃ w', (Instr.mapUpdate 392 (.map (some mg)) (.int .u32 (y.toNat : Int)) (.bool true)).run Tryz.prog w = .ok () w' ∧ yl w' mg (n + 1) (y :: seen) ∧ Fr (fun k => k = mg) w w' := by
 obtain ⟨D, h, k⟩ := h
 obtain ⟨w', hr, h1, h2⟩ := h.update (Maps.int_keyed Tryz.underlying24) Tryz.underlying392 hn (zhR y) (plainElem_bool Tryz.underlying4 true)
 refine ⟨w', hr, ⟨_, h1, fun z => ?_⟩, (yW h2).mono (fun k _ e => by simp only [Option.some.injEq] at e; exact e)⟩
 by_cases hz : z = y
 ·subst hz
  rw [Maps.atKey_put_same h.isMap (show WideAt.IsKeyLit (.int .u32 (z.toNat : Int)) from trivial), show decide (z ∈ z :: seen) = true from decide_eq_true (List.mem_cons_self ..)]
 ·rw [Maps.atKey_put_other (show Lit.int .u32 (z.toNat : Int) ≠ Lit.int .u32 (y.toNat : Int) from fun e => hz (by have e2 := (Lit.int.inj e).2; exact UInt32.toNat.inj (by omega))), k z]
  rw [show decide (z ∈ y :: seen) = decide (z ∈ seen) from decide_eq_decide.2 ⟨fun h => (List.mem_cons.1 h).resolve_left hz, fun h => List.mem_cons_of_mem _ h⟩]
theorem OwnG.notMap (h : OwnG l e lo X w v xs) (hs : yl w mg n seen) : ∀ k, v.ownBlock = some k → ¬ k = mg := by
 obtain ⟨flat, ⟨h1, h2⟩, _⟩ := h
 obtain ⟨D, ⟨es, ou, hb, _⟩, _⟩ := hs
 intro k hk e
 rcases h2 with ⟨rfl, h0⟩ | ⟨g, cap, cX, rfl, hg, hh, _⟩
 ·cases hk
 ·obtain rfl : g = k := by simpa [Value.ownBlock] using hk
  subst e
  rw [hb] at hh
  cases hh
theorem Yo {i : Nat} (h : i ≤ 1048576) : i < maxLen := by simp only [maxLen]; omega
theorem zcK (s : St) : (zc s).2.b = [] ∨ (zc s).2.b.length + 1 ≤ s.b.length := by
 unfold zc
 split
 ·exact .inl rfl
 ·rename_i h
  by_cases hb : s.b = []
  ·exact .inl (by show s.b.drop _ = []; rw [hb]; simp)
  ·have : 0 < s.b.length := List.length_pos_iff.2 hb
   exact .inr (by show (s.b.drop _).length + 1 ≤ _; rw [ldQ]; omega)
theorem JS (f : UInt32) (s : St) : ∀ n, (yj (zO f) n ([], s)).2.b = [] ∨ n + (yj (zO f) n ([], s)).2.b.length ≤ s.b.length
 | 0 => .inr (by show 0 + s.b.length ≤ _; omega)
 | n + 1 => by
  have ih := JS f s n
  rw [show yj (zO f) (n + 1) ([], s) = zO f (yj (zO f) n ([], s)) from rfl]
  generalize yj (zO f) n ([], s) = p at *
  have h1 := zcK p.2
  have h2 := jv (rNum p.2).2
  have e : (rNum p.2).2 = (zc p.2).2 := rfl
  have hb : (zO f p).2.b.length ≤ (zc p.2).2.b.length := by
   show (if _ then _ else _ : St).b.length ≤ _
   split
   ·exact nzQ _
   ·rw [← e]; exact h2
  by_cases hz : (zO f p).2.b = []
  ·exact .inl hz
  ·have iR : 0 < (zO f p).2.b.length := List.length_pos_iff.2 hz
   right
   have h3 : (zc p.2).2.b.length + 1 ≤ p.2.b.length := h1.resolve_left (fun q => by rw [q] at hb; simp at hb; rw [hb] at iR; simp at iR)
   have h4 := ih.resolve_left (fun q => by rw [q] at h3; simp at h3)
   omega
theorem zeE (s : St) : (zo s).1 ≤ (zo s).2.b.length := by
 unfold zo
 split
 ·exact nzQ _
 ·omega
theorem Jw (f : UInt32) (s : St) : (zQ f s).1.length + (zQ f s).2.b.length ≤ s.b.length := by
 have h1 := JI f (zo s).1 (zo s).2
 have h2 := JS f (zo s).2 (zo s).1
 have h3 := zeE s
 have h4 := z0 s
 unfold zQ
 rw [h1]
 rcases h2 with h2 | h2
 ·rw [h2]; simp; omega
 ·omega
theorem zcL {lo : Bool} {s : St} (h : SpR D g lo s w) (hl : s.b.length ≤ 1048576) :
 Calls Tryz.prog 123 #[.pointer (some ⟨g, 0, none⟩)] w fun e w' => ∃ v, e = .returned v ∧ Own Lay.nam 120 w.heap.size w' v (yx lo s).1 ∧ SpR D g lo (yx lo s).2 w' ∧ Fr (fun k => k = g) w w' := by
 have H := qh (anQ h (anQ hl h.lt.1))
 have c6 := qh (z0 s)
 have fJ := zfM w
 have oo := @run_makeMap Tryz.prog
 have HM := qh (anQ (h.ext (za w (.map #[] 0))) (anQ fJ (za w (.map #[] 0))))
 clear h hl fJ
 go_enter Tryz.func123, Tryz.ntmps123
 go_wp2_with fail
 obtain ⟨mg, mG⟩ := exQ (w.heap.size)
 obtain ⟨W0, fQ⟩ := exQ (w.alloc (.map #[] 0))
 have HM : Hq (SpR D g lo s W0 ∧ yl W0 mg 0 [] ∧ Ext w W0 ∧ w.heap.size = mg ∧ g < mg) := by rw [← fQ, ← mG]; exact ⟨HM.o.1, HM.o.2.1, HM.o.2.2, rfl, H.o.2.2⟩
 rw [fQ]
 simp only [mG]
 clear fQ mG oo
 refine (z6 HM.o.1 (by have := H.o.2.1; omega)).mono ?_
 rintro e w1 ⟨rfl, k1, k2⟩
 have HR := qh (show yx lo s = ((yj (zT lo) (zo s).1 ⟨[], 0, [], (zo s).2⟩).o, (yj (zT lo) (zo s).1 ⟨[], 0, [], (zo s).2⟩).s) from rfl)
 generalize (zo s).1 = n at *
 generalize (zo s).2 = s1 at *
 have H1 : Hq (SpR D g lo s1 w1 ∧ Fr (fun k => k = g) w w1 ∧ yl w1 mg 0 []) := ⟨k1, Ext.fr HM.o.2.2.1 k2, HM.o.2.1.fr k2 (fun e => by have := HM.o.2.2.2.2; have e' : mg = g := e; omega)⟩
 clear k1 k2
 have iD : (n : Int) ≤ 1048576 := by have := H.o.2.1; have := c6.o.1; omega
 go_wp2_with fail
 go_loopw [2, 4, 9] (fun s2 s4 s9 w' => ∃ (i : Nat), i ≤ n ∧ s9 = .int .i64 i ∧ s4 = .int .u32 ((yj (zT lo) i ⟨[], 0, [], s1⟩).last.toNat : Int) ∧ Hq (OwnG Lay.nam 120 w.heap.size (fun k => k = g ∨ k = mg) w' s2 (yj (zT lo) i ⟨[], 0, [], s1⟩).o ∧ SpR D g lo (yj (zT lo) i ⟨[], 0, [], s1⟩).s w' ∧ Fr (fun k => k = g) w w' ∧ yl w' mg i (yj (zT lo) i ⟨[], 0, [], s1⟩).seen ∧ (yj (zT lo) i ⟨[], 0, [], s1⟩).o.length + (yj (zT lo) i ⟨[], 0, [], s1⟩).s.b.length ≤ 1048576)) (fun _ _ s9 _ => n - (intOf s9).toNat)
 case atStart => exact ⟨0, nzQ _, rfl, rfl, zv _ _ _ _ _, H1.o.1, H1.o.2.1, H1.o.2.2, by show 0 + s1.b.length ≤ 1048576; have := H.o.2.1; have := c6.o.2; omega⟩
 case round =>
  obtain ⟨i, hi, rfl, rfl, hV⟩ := hrel
  obtain ⟨ap, am, ar, rfl⟩ := hV.o.1.shape
  by_cases aj : i < n
  ·obtain ⟨r2, aY⟩ := exQ (yj (zT lo) (i + 1) ⟨[], 0, [], s1⟩)
   have aY := qh aY
   have aU := qh (show r2 = zT lo (yj (zT lo) i ⟨[], 0, [], s1⟩) from by rw [← aY.o]; rfl)
   generalize yj (zT lo) i ⟨[], 0, [], s1⟩ = p at *
   have aU := qh (show r2 = ⟨UInt32.ofNat (zc p.s).1 :: p.seen, UInt32.ofNat (zc p.s).1, p.o ++ (zQ (UInt32.ofNat (zc p.s).1) (if UInt32.ofNat (zc p.s).1 ∈ p.seen ∨ ((UInt32.ofNat (zc p.s).1).toNat < p.last.toNat ∧ lo = false) then (zc p.s).2.fail 2 else (zc p.s).2)).1, (zQ (UInt32.ofNat (zc p.s).1) (if UInt32.ofNat (zc p.s).1 ∈ p.seen ∨ ((UInt32.ofNat (zc p.s).1).toNat < p.last.toNat ∧ lo = false) then (zc p.s).2.fail 2 else (zc p.s).2)).2⟩ from aU.o)
   obtain ⟨seen, last, xs, t0⟩ := p
   dsimp only at aU hV ⊢
   have ah := qh (show ∀ k, (Value.slice ap am ar).ownBlock = some k → w.heap.size ≤ k ∧ k < wr.heap.size from hV.o.1.lt)
   have er : Hq (∀ k, (Value.slice ap am ar).ownBlock = some k → ¬ k = g) := fun k hk e => by have := (ah.o k hk).1; have := H.o.2.2; omega
   go_wp2_with fail
   refine (zK D g lo t0 wr hV.o.2.1 (by have := hV.o.2.2.2.2; omega)).mono ?_
   rintro e w2 ⟨rfl, k1, k2⟩
   have dH := zL t0
   have bW := qh (show xs.length + (zc t0).2.b.length ≤ 1048576 from by have := zF t0; have := hV.o.2.2.2.2; omega)
   generalize (zc t0).1 = x at *
   generalize (zc t0).2 = t1 at *
   have gj : Hq (mg < wr.heap.size ∧ ¬ mg = g) := ⟨hV.o.2.2.2.1.lt, by have := HM.o.2.2.2.2; omega⟩
   have ci : Hq (OwnG Lay.nam 120 w.heap.size (fun k => k = g ∨ k = mg) w2 (.slice ap am ar) xs ∧ SpR D g lo t1 w2 ∧ Fr (fun k => k = g) w w2 ∧ yl w2 mg i seen) := ⟨hV.o.1.fr k2 (fun k e => .inl (.inl e)) er.o, k1, Fr.trans hV.o.2.2.1 k2 (fun _ _ h => h) (fun _ _ h => h), hV.o.2.2.2.1.fr k2 gj.o.2⟩
   clear k1 k2 hV
   obtain ⟨f, rfl⟩ : ∃ f : UInt32, x = f.toNat := ⟨UInt32.ofNat x, (jw dH).symm⟩
   rw [UInt32.ofNat_toNat] at aU
   have qY := ci.o.2.2.2.look f
   obtain ⟨aa, cap, eH, fU, fT⟩ := ci.o.2.1
   have au := eH.cell
   clear eH fU fT dH
   have nu : Hq (∀ k, (Value.slice ap am ar).ownBlock = some k → ¬ k = mg) := ci.o.1.notMap ci.o.2.2.2
   by_cases la : f ∈ seen
   ·have xk : decide (f ∈ seen) = true := decide_eq_true la
    have go := qh (show f ∈ seen ∨ (f.toNat < last.toNat ∧ lo = false) from .inl la)
    rw [xk] at qY
    go_wp2_with fail
    refine (zp D g lo t1 2 w2 ci.o.2.1).mono ?_
    rintro e W3 ⟨rfl, k1, k2⟩
    have HT : Hq (OwnG Lay.nam 120 w.heap.size (fun k => k = g ∨ k = mg) W3 (.slice ap am ar) xs ∧ SpR D g lo (t1.fail 2) W3 ∧ Fr (fun k => k = g) w W3 ∧ yl W3 mg i seen) := ⟨ci.o.1.fr k2 (fun k e => .inl (.inl e)) er.o, k1, Fr.trans ci.o.2.2.1 k2 (fun _ _ h => h) (fun _ _ h => h), ci.o.2.2.2.fr k2 gj.o.2⟩
    clear k1 k2 ci
    obtain ⟨W4, i4, eA, ea⟩ := HT.o.2.2.2.put (Yo (by omega)) f
    have gy : Hq (OwnG Lay.nam 120 w.heap.size (fun k => k = g ∨ k = mg) W4 (.slice ap am ar) xs ∧ SpR D g lo (t1.fail 2) W4 ∧ Fr (fun k => k = g) w W4 ∧ yl W4 mg (i + 1) (f :: seen)) := ⟨HT.o.1.fr ea (fun k e => .inl (.inr e)) (fun k hk e => nu.o k hk e), HT.o.2.1.fr ea (fun e => gj.o.2 e.symm) (fun k hk e => by have := (H.o.1.lt.2 k hk).1; have e' : k = mg := e; have := HM.o.2.2.2.1; omega), (Fr.trans HT.o.2.2.1 ea (U := fun k => k = g ∨ k = mg) (fun _ _ h => .inl h) (fun _ _ h => .inr h)).mono (fun k hk e => e.elim id (fun e => by have := HM.o.2.2.2.1; omega)), eA⟩
    clear eA ea
    go_wp2_with fail
    clear i4 qY au
    refine (Jh f D g lo (t1.fail 2) W4 gy.o.2.1 (by exact nzQ _)).mono ?_
    rintro e W5 ⟨v5, rfl, k0, k1, k2⟩
    have ff : Hq ((zQ f (t1.fail 2)).1.length + (zQ f (t1.fail 2)).2.b.length ≤ ((t1.fail 2)).b.length) := Jw f (t1.fail 2)
    have aU := qh (show r2 = ⟨f :: seen, f, xs ++ (zQ f (t1.fail 2)).1, (zQ f (t1.fail 2)).2⟩ from by rw [aU.o, if_pos go.o])
    generalize (zQ f (t1.fail 2)).1 = ys at *
    generalize (zQ f (t1.fail 2)).2 = t3 at *
    have ik := OwnG.sliceF z7 k0
    obtain ⟨ei, eg, ek, rfl⟩ := y5 ik
    have gg : Hq (OwnG Lay.nam 120 w.heap.size (fun k => k = g ∨ k = mg) W5 (.slice ap am ar) xs ∧ SpR D g lo t3 W5 ∧ Fr (fun k => k = g) w W5 ∧ yl W5 mg (i + 1) (f :: seen)) := ⟨gy.o.1.fr k2 (fun k e => .inl (.inl e)) er.o, k1, Fr.trans gy.o.2.2.1 k2 (fun _ _ h => h) (fun _ _ h => h), gy.o.2.2.2.fr k2 gj.o.2⟩
    have ik := qh ik
    clear k0 k1 k2 HT gy
    go_wp2_with (at_builtin; refine Hq.o ?_)
    refine jF Lay.nam w.heap.size rfl (.tmp 33) (.tmp 36) _ _ _ 24 rfl Tryz.underlying35 J9 rfl (by omega) (by decide) (.slice ap am ar) xs ys ei eg ek rfl rfl (gg.o.1.own z7) ik.o (fun flat q => Lay.all_flat z7 q) gg.o.2.2.1.size (by have := ff.o; have : (t1.fail 2).b.length = 0 := rfl; have := bW.o; omega) ?_
    intro v1 w8 h1 h2 h3
    have eh : Hq (OwnG Lay.nam 120 w.heap.size (fun k => k = g ∨ k = mg) w8 v1 r2.o ∧ SpR D g lo r2.s w8 ∧ Fr (fun k => k = g) w w8 ∧ yl w8 mg (i + 1) r2.seen ∧ r2.o.length + r2.s.b.length ≤ 1048576) := by
     rw [aU.o]
     refine ⟨h1.toG z7, gg.o.2.1.fr h2 (fun e => er.o g e.symm rfl) (fun k hk e => by have := (ah.o k e.symm).1; have := (H.o.1.lt.2 k hk).1; omega), Fr.trans gg.o.2.2.1 h2 (fun _ _ h => h) (fun k hk e => absurd hk (by have := (ah.o k e.symm).1; omega)), gg.o.2.2.2.fr h2 (fun e => nu.o mg e.symm rfl), ?_⟩
     have := ff.o
     show (xs ++ ys).length + t3.b.length ≤ 1048576
     rw [laQ]
     have : (t1.fail 2).b.length = 0 := rfl; have := bW.o; omega
    have gJ : r2.last = f := by rw [aU.o]
    obtain ⟨az, aR, aO, rfl⟩ := h1.shape
    clear h1 h2 h3
    go_wp2
    go_roundw
    case rel => exact ⟨i + 1, by omega, by go_num, by rw [aY.o, gJ], by rw [aY.o]; exact eh.o⟩
    case measure => simp [intOf]; omega
   ·have xk : decide (f ∈ seen) = false := decide_eq_false la
    rw [xk] at qY
    by_cases hlast : f.toNat < last.toNat
    ·have dl : decide ((f.toNat : Int) < (last.toNat : Int)) = true := decide_eq_true (by omega)
     cases lo with
     | false =>
      have go := qh (show f ∈ seen ∨ (f.toNat < last.toNat ∧ false = false) from .inr ⟨hlast, rfl⟩)
      go_wp2_with fail
      refine (zp D g false t1 2 w2 ci.o.2.1).mono ?_
      rintro e W3 ⟨rfl, k1, k2⟩
      have HT : Hq (OwnG Lay.nam 120 w.heap.size (fun k => k = g ∨ k = mg) W3 (.slice ap am ar) xs ∧ SpR D g false (t1.fail 2) W3 ∧ Fr (fun k => k = g) w W3 ∧ yl W3 mg i seen) := ⟨ci.o.1.fr k2 (fun k e => .inl (.inl e)) er.o, k1, Fr.trans ci.o.2.2.1 k2 (fun _ _ h => h) (fun _ _ h => h), ci.o.2.2.2.fr k2 gj.o.2⟩
      clear k1 k2 ci
      obtain ⟨W4, i4, eA, ea⟩ := HT.o.2.2.2.put (Yo (by omega)) f
      have gy : Hq (OwnG Lay.nam 120 w.heap.size (fun k => k = g ∨ k = mg) W4 (.slice ap am ar) xs ∧ SpR D g false (t1.fail 2) W4 ∧ Fr (fun k => k = g) w W4 ∧ yl W4 mg (i + 1) (f :: seen)) := ⟨HT.o.1.fr ea (fun k e => .inl (.inr e)) (fun k hk e => nu.o k hk e), HT.o.2.1.fr ea (fun e => gj.o.2 e.symm) (fun k hk e => by have := (H.o.1.lt.2 k hk).1; have e' : k = mg := e; have := HM.o.2.2.2.1; omega), (Fr.trans HT.o.2.2.1 ea (U := fun k => k = g ∨ k = mg) (fun _ _ h => .inl h) (fun _ _ h => .inr h)).mono (fun k hk e => e.elim id (fun e => by have := HM.o.2.2.2.1; omega)), eA⟩
      clear eA ea
      go_wp2_with fail
      clear i4 qY au
      refine (Jh f D g false (t1.fail 2) W4 gy.o.2.1 (by exact nzQ _)).mono ?_
      rintro e W5 ⟨v5, rfl, k0, k1, k2⟩
      have ff : Hq ((zQ f (t1.fail 2)).1.length + (zQ f (t1.fail 2)).2.b.length ≤ ((t1.fail 2)).b.length) := Jw f (t1.fail 2)
      have aU := qh (show r2 = ⟨f :: seen, f, xs ++ (zQ f (t1.fail 2)).1, (zQ f (t1.fail 2)).2⟩ from by rw [aU.o, if_pos go.o])
      generalize (zQ f (t1.fail 2)).1 = ys at *
      generalize (zQ f (t1.fail 2)).2 = t3 at *
      have ik := OwnG.sliceF z7 k0
      obtain ⟨ei, eg, ek, rfl⟩ := y5 ik
      have gg : Hq (OwnG Lay.nam 120 w.heap.size (fun k => k = g ∨ k = mg) W5 (.slice ap am ar) xs ∧ SpR D g false t3 W5 ∧ Fr (fun k => k = g) w W5 ∧ yl W5 mg (i + 1) (f :: seen)) := ⟨gy.o.1.fr k2 (fun k e => .inl (.inl e)) er.o, k1, Fr.trans gy.o.2.2.1 k2 (fun _ _ h => h) (fun _ _ h => h), gy.o.2.2.2.fr k2 gj.o.2⟩
      have ik := qh ik
      clear k0 k1 k2 HT gy
      go_wp2_with (at_builtin; refine Hq.o ?_)
      refine jF Lay.nam w.heap.size rfl (.tmp 33) (.tmp 36) _ _ _ 24 rfl Tryz.underlying35 J9 rfl (by omega) (by decide) (.slice ap am ar) xs ys ei eg ek rfl rfl (gg.o.1.own z7) ik.o (fun flat q => Lay.all_flat z7 q) gg.o.2.2.1.size (by have := ff.o; have : (t1.fail 2).b.length = 0 := rfl; have := bW.o; omega) ?_
      intro v1 w8 h1 h2 h3
      have eh : Hq (OwnG Lay.nam 120 w.heap.size (fun k => k = g ∨ k = mg) w8 v1 r2.o ∧ SpR D g false r2.s w8 ∧ Fr (fun k => k = g) w w8 ∧ yl w8 mg (i + 1) r2.seen ∧ r2.o.length + r2.s.b.length ≤ 1048576) := by
       rw [aU.o]
       refine ⟨h1.toG z7, gg.o.2.1.fr h2 (fun e => er.o g e.symm rfl) (fun k hk e => by have := (ah.o k e.symm).1; have := (H.o.1.lt.2 k hk).1; omega), Fr.trans gg.o.2.2.1 h2 (fun _ _ h => h) (fun k hk e => absurd hk (by have := (ah.o k e.symm).1; omega)), gg.o.2.2.2.fr h2 (fun e => nu.o mg e.symm rfl), ?_⟩
       have := ff.o
       show (xs ++ ys).length + t3.b.length ≤ 1048576
       rw [laQ]
       have : (t1.fail 2).b.length = 0 := rfl; have := bW.o; omega
      have gJ : r2.last = f := by rw [aU.o]
      obtain ⟨az, aR, aO, rfl⟩ := h1.shape
      clear h1 h2 h3
      go_wp2
      go_roundw
      case rel => exact ⟨i + 1, by omega, by go_num, by rw [aY.o, gJ], by rw [aY.o]; exact eh.o⟩
      case measure => simp [intOf]; omega
     | true =>
      have go := qh (show ¬ (f ∈ seen ∨ (f.toNat < last.toNat ∧ true = false)) from fun h => h.elim la (fun h => by cases h.2))
      obtain ⟨W3, rfl⟩ : ∃ W3, W3 = w2 := ⟨_, rfl⟩
      have HT := ci
      obtain ⟨W4, i4, eA, ea⟩ := HT.o.2.2.2.put (Yo (by omega)) f
      have gy : Hq (OwnG Lay.nam 120 w.heap.size (fun k => k = g ∨ k = mg) W4 (.slice ap am ar) xs ∧ SpR D g true t1 W4 ∧ Fr (fun k => k = g) w W4 ∧ yl W4 mg (i + 1) (f :: seen)) := ⟨HT.o.1.fr ea (fun k e => .inl (.inr e)) (fun k hk e => nu.o k hk e), HT.o.2.1.fr ea (fun e => gj.o.2 e.symm) (fun k hk e => by have := (H.o.1.lt.2 k hk).1; have e' : k = mg := e; have := HM.o.2.2.2.1; omega), (Fr.trans HT.o.2.2.1 ea (U := fun k => k = g ∨ k = mg) (fun _ _ h => .inl h) (fun _ _ h => .inr h)).mono (fun k hk e => e.elim id (fun e => by have := HM.o.2.2.2.1; omega)), eA⟩
      clear eA ea
      go_wp2_with fail
      clear i4 qY au
      refine (Jh f D g true t1 W4 gy.o.2.1 (by have := bW.o; omega)).mono ?_
      rintro e W5 ⟨v5, rfl, k0, k1, k2⟩
      have ff : Hq ((zQ f t1).1.length + (zQ f t1).2.b.length ≤ (t1).b.length) := Jw f t1
      have aU := qh (show r2 = ⟨f :: seen, f, xs ++ (zQ f t1).1, (zQ f t1).2⟩ from by rw [aU.o, if_neg go.o])
      generalize (zQ f t1).1 = ys at *
      generalize (zQ f t1).2 = t3 at *
      have ik := OwnG.sliceF z7 k0
      obtain ⟨ei, eg, ek, rfl⟩ := y5 ik
      have gg : Hq (OwnG Lay.nam 120 w.heap.size (fun k => k = g ∨ k = mg) W5 (.slice ap am ar) xs ∧ SpR D g true t3 W5 ∧ Fr (fun k => k = g) w W5 ∧ yl W5 mg (i + 1) (f :: seen)) := ⟨gy.o.1.fr k2 (fun k e => .inl (.inl e)) er.o, k1, Fr.trans gy.o.2.2.1 k2 (fun _ _ h => h) (fun _ _ h => h), gy.o.2.2.2.fr k2 gj.o.2⟩
      have ik := qh ik
      clear k0 k1 k2 HT gy
      go_wp2_with (at_builtin; refine Hq.o ?_)
      refine jF Lay.nam w.heap.size rfl (.tmp 33) (.tmp 36) _ _ _ 24 rfl Tryz.underlying35 J9 rfl (by omega) (by decide) (.slice ap am ar) xs ys ei eg ek rfl rfl (gg.o.1.own z7) ik.o (fun flat q => Lay.all_flat z7 q) gg.o.2.2.1.size (by have := ff.o; have := bW.o; omega) ?_
      intro v1 w8 h1 h2 h3
      have eh : Hq (OwnG Lay.nam 120 w.heap.size (fun k => k = g ∨ k = mg) w8 v1 r2.o ∧ SpR D g true r2.s w8 ∧ Fr (fun k => k = g) w w8 ∧ yl w8 mg (i + 1) r2.seen ∧ r2.o.length + r2.s.b.length ≤ 1048576) := by
       rw [aU.o]
       refine ⟨h1.toG z7, gg.o.2.1.fr h2 (fun e => er.o g e.symm rfl) (fun k hk e => by have := (ah.o k e.symm).1; have := (H.o.1.lt.2 k hk).1; omega), Fr.trans gg.o.2.2.1 h2 (fun _ _ h => h) (fun k hk e => absurd hk (by have := (ah.o k e.symm).1; omega)), gg.o.2.2.2.fr h2 (fun e => nu.o mg e.symm rfl), ?_⟩
       have := ff.o
       show (xs ++ ys).length + t3.b.length ≤ 1048576
       rw [laQ]
       have := bW.o; omega
      have gJ : r2.last = f := by rw [aU.o]
      obtain ⟨az, aR, aO, rfl⟩ := h1.shape
      clear h1 h2 h3
      go_wp2
      go_roundw
      case rel => exact ⟨i + 1, by omega, by go_num, by rw [aY.o, gJ], by rw [aY.o]; exact eh.o⟩
      case measure => simp [intOf]; omega
    ·have dl : decide ((f.toNat : Int) < (last.toNat : Int)) = false := decide_eq_false (by omega)
     have go := qh (show ¬ (f ∈ seen ∨ (f.toNat < last.toNat ∧ lo = false)) from fun h => h.elim la (fun h => hlast h.1))
     obtain ⟨W3, rfl⟩ : ∃ W3, W3 = w2 := ⟨_, rfl⟩
     have HT := ci
     obtain ⟨W4, i4, eA, ea⟩ := HT.o.2.2.2.put (Yo (by omega)) f
     have gy : Hq (OwnG Lay.nam 120 w.heap.size (fun k => k = g ∨ k = mg) W4 (.slice ap am ar) xs ∧ SpR D g lo t1 W4 ∧ Fr (fun k => k = g) w W4 ∧ yl W4 mg (i + 1) (f :: seen)) := ⟨HT.o.1.fr ea (fun k e => .inl (.inr e)) (fun k hk e => nu.o k hk e), HT.o.2.1.fr ea (fun e => gj.o.2 e.symm) (fun k hk e => by have := (H.o.1.lt.2 k hk).1; have e' : k = mg := e; have := HM.o.2.2.2.1; omega), (Fr.trans HT.o.2.2.1 ea (U := fun k => k = g ∨ k = mg) (fun _ _ h => .inl h) (fun _ _ h => .inr h)).mono (fun k hk e => e.elim id (fun e => by have := HM.o.2.2.2.1; omega)), eA⟩
     clear eA ea
     go_wp2_with fail
     clear i4 qY au
     refine (Jh f D g lo t1 W4 gy.o.2.1 (by have := bW.o; omega)).mono ?_
     rintro e W5 ⟨v5, rfl, k0, k1, k2⟩
     have ff : Hq ((zQ f t1).1.length + (zQ f t1).2.b.length ≤ (t1).b.length) := Jw f t1
     have aU := qh (show r2 = ⟨f :: seen, f, xs ++ (zQ f t1).1, (zQ f t1).2⟩ from by rw [aU.o, if_neg go.o])
     generalize (zQ f t1).1 = ys at *
     generalize (zQ f t1).2 = t3 at *
     have ik := OwnG.sliceF z7 k0
     obtain ⟨ei, eg, ek, rfl⟩ := y5 ik
     have gg : Hq (OwnG Lay.nam 120 w.heap.size (fun k => k = g ∨ k = mg) W5 (.slice ap am ar) xs ∧ SpR D g lo t3 W5 ∧ Fr (fun k => k = g) w W5 ∧ yl W5 mg (i + 1) (f :: seen)) := ⟨gy.o.1.fr k2 (fun k e => .inl (.inl e)) er.o, k1, Fr.trans gy.o.2.2.1 k2 (fun _ _ h => h) (fun _ _ h => h), gy.o.2.2.2.fr k2 gj.o.2⟩
     have ik := qh ik
     clear k0 k1 k2 HT gy
     go_wp2_with (at_builtin; refine Hq.o ?_)
     refine jF Lay.nam w.heap.size rfl (.tmp 33) (.tmp 36) _ _ _ 24 rfl Tryz.underlying35 J9 rfl (by omega) (by decide) (.slice ap am ar) xs ys ei eg ek rfl rfl (gg.o.1.own z7) ik.o (fun flat q => Lay.all_flat z7 q) gg.o.2.2.1.size (by have := ff.o; have := bW.o; omega) ?_
     intro v1 w8 h1 h2 h3
     have eh : Hq (OwnG Lay.nam 120 w.heap.size (fun k => k = g ∨ k = mg) w8 v1 r2.o ∧ SpR D g lo r2.s w8 ∧ Fr (fun k => k = g) w w8 ∧ yl w8 mg (i + 1) r2.seen ∧ r2.o.length + r2.s.b.length ≤ 1048576) := by
      rw [aU.o]
      refine ⟨h1.toG z7, gg.o.2.1.fr h2 (fun e => er.o g e.symm rfl) (fun k hk e => by have := (ah.o k e.symm).1; have := (H.o.1.lt.2 k hk).1; omega), Fr.trans gg.o.2.2.1 h2 (fun _ _ h => h) (fun k hk e => absurd hk (by have := (ah.o k e.symm).1; omega)), gg.o.2.2.2.fr h2 (fun e => nu.o mg e.symm rfl), ?_⟩
      have := ff.o
      show (xs ++ ys).length + t3.b.length ≤ 1048576
      rw [laQ]
      have := bW.o; omega
     have gJ : r2.last = f := by rw [aU.o]
     obtain ⟨az, aR, aO, rfl⟩ := h1.shape
     clear h1 h2 h3
     go_wp2
     go_roundw
     case rel => exact ⟨i + 1, by omega, by go_num, by rw [aY.o, gJ], by rw [aY.o]; exact eh.o⟩
     case measure => simp [intOf]; omega
  ·obtain rfl : i = n := by omega
   have ky := qh (show Own Lay.nam 120 w.heap.size wr (.slice ap am ar) (yx lo s).1 ∧ SpR D g lo (yx lo s).2 wr ∧ Fr (fun k => k = g) w wr from by rw [HR.o]; exact ⟨hV.o.1.own z7, hV.o.2.1, hV.o.2.2.1⟩)
   clear hV
   go_wp2
   go_ret
   exact ⟨_, rfl, ky.o⟩
end Go.Proofs.YtejgninpjhcgnaaGreatDoor
