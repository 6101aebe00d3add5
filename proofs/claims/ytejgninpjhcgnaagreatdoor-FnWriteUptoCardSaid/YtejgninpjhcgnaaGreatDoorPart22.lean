/- Texts of this proof, one behind the other. -/
import Derived.Test.YtejgninpjhcgnaaGreatDoorPart21
namespace Go.Proofs.YtejgninpjhcgnaaGreatDoor
open Go.RowKit
open Go.Maps (Keyed)
set_option linter.unusedSimpArgs false
set_option linter.unusedVariables false
set_option maxRecDepth 100000
set_option maxHeartbeats 16000000
variable {α : Type} {l : Lay α} {e : TypeId} {lo : Nat} {X : Nat → Prop} {w : World} {v : Value} {xs : List α}
theorem OwnG.own (hl : l.flat) (h : OwnG l e lo X w v xs) : Own l e lo w v xs := by
 obtain ⟨flat, h1, h2⟩ := h
 exact ⟨flat, h1, Lay.all_flat hl h2⟩
theorem Own.toG (hl : l.flat) (h : Own l e lo w v xs) : OwnG l e lo X w v xs := by
 obtain ⟨flat, h1, h2⟩ := h
 exact ⟨flat, h1, Lay.all_flat hl h2⟩
def yz (w : World) (mg n : Nat) (seen : List UInt32) : Prop :=
 ∃ D : DataW Unit, w.ownsMap Tryz.prog 24 (plainElem Tryz.prog 4) mg n D ∧ ∀ y : UInt32, D.atKey (.int .u32 (y.toNat : Int)) (.lit (.bool false)) = .lit (.bool (decide (y ∈ seen)))
theorem wfU32 (y : UInt32) : (Lit.int .u32 (y.toNat : Int)).wf = true := by
 have := y.toNat_lt
 have e1 : IntKind.u32.min = 0 := by decide
 have e2 : IntKind.u32.max = 4294967295 := by decide
 unfold Lit.wf
 rw [Bool.and_eq_true, decide_eq_true_eq, decide_eq_true_eq, e1, e2]
 omega
theorem zi0 (y : UInt32) : keyOf Tryz.prog 24 (.int .u32 (y.toNat : Int)) = some (.int .u32 (y.toNat : Int)) := Maps.keyOf_int_mk Tryz.underlying24 (wfU32 y)
variable {w' : World} {S : Nat → Prop} {mg n : Nat} {seen : List UInt32}
theorem yz.fr (h : yz w mg n seen) (hf : Fr S w w') (hm : ¬ S mg) : yz w' mg n seen := by
 obtain ⟨D, h, k⟩ := h
 have ah := h.lt
 obtain ⟨es, fU, hb, r⟩ := h
 exact ⟨D, ⟨es, fU, (hf.block mg ah hm).trans hb, r⟩, k⟩
theorem yz.ext (h : yz w mg n seen) (hf : Ext w w') : yz w' mg n seen := h.fr hf (fun h => h)
theorem yz.lt (h : yz w mg n seen) : mg < w.heap.size := by
 obtain ⟨D, h, _⟩ := h
 exact h.lt
theorem zhC (w : World) : yz (w.alloc (.map #[] 0)) w.heap.size 0 [] :=
 ⟨.map [], World.ownsMap_made w _ _ _, fun y => by rw [show decide (y ∈ ([] : List UInt32)) = false from decide_eq_false (List.not_mem_nil)]; rfl⟩
theorem zhD (w : World) : (zeroValue 4).run Tryz.prog w = .ok (.bool false) w := by
 simp [zeroValue]
 rfl
theorem zbW {b : Bool} {ps : List MemPlace} (h : plainElem (H := Unit) Tryz.prog 4 v = some (.lit (.bool b), ps)) : v = .bool b := by
 unfold plainElem at h
 simp only [Tryz.underlying4] at h
 cases v <;> simp at h
 rw [h.1]
theorem yz.look (h : yz w mg n seen) (y : UInt32) : (Instr.lookup 392 (.map (some mg)) (.int .u32 (y.toNat : Int)) false).run Tryz.prog w = .ok (.bool (decide (y ∈ seen))) w := by
 obtain ⟨D, h, k⟩ := h
 obtain ⟨v, ps, hr, hv⟩ := h.lookup (Maps.int_keyed Tryz.underlying24) Tryz.underlying392 (zhD w) (plainElem_bool Tryz.underlying4 false) (zi0 y)
 rw [k y] at hv
 rw [hr, zbW hv]
theorem yz.put (h : yz w mg n seen) (hn : n < maxLen) (y : UInt32) : ∃ w', (Instr.mapUpdate 392 (.map (some mg)) (.int .u32 (y.toNat : Int)) (.bool true)).run Tryz.prog w = .ok () w' ∧ yz w' mg (n + 1) (y :: seen) ∧ Fr (fun k => k = mg) w w' := by
 obtain ⟨D, h, k⟩ := h
 obtain ⟨w', hr, h1, h2⟩ := h.update (Maps.int_keyed Tryz.underlying24) Tryz.underlying392 hn (zi0 y) (plainElem_bool Tryz.underlying4 true)
 refine ⟨w', hr, ⟨_, h1, fun z => ?_⟩, (Jp h2).mono (fun k _ e => by simp only [Option.some.injEq] at e; exact e)⟩
 by_cases hz : z = y
 ·subst hz
  rw [Maps.atKey_put_same h.isMap (show WideAt.IsKeyLit (.int .u32 (z.toNat : Int)) from trivial), show decide (z ∈ z :: seen) = true from decide_eq_true (List.mem_cons_self ..)]
 ·rw [Maps.atKey_put_other (show Lit.int .u32 (z.toNat : Int) ≠ Lit.int .u32 (y.toNat : Int) from fun e => hz (by have e2 := (Lit.int.inj e).2; exact UInt32.toNat.inj (by omega))), k z]
  rw [show decide (z ∈ y :: seen) = decide (z ∈ seen) from decide_eq_decide.2 ⟨fun h => (List.mem_cons.1 h).resolve_left hz, fun h => List.mem_cons_of_mem _ h⟩]
theorem OwnG.notMap (h : OwnG l e lo X w v xs) (hs : yz w mg n seen) : ∀ k, v.ownBlock = some k → ¬ k = mg := by
 obtain ⟨flat, ⟨h1, h2⟩, _⟩ := h
 obtain ⟨D, ⟨es, fU, hb, _⟩, _⟩ := hs
 intro k hk e
 rcases h2 with ⟨rfl, h0⟩ | ⟨g, cap, bO, rfl, hg, hh, _⟩
 ·cases hk
 ·obtain rfl : g = k := by simpa [Value.ownBlock] using hk
  subst e
  rw [hb] at hh
  cases hh
theorem YW {i : Nat} (h : i ≤ 1048576) : i < maxLen := by simp only [maxLen]; omega
theorem zd3 (s : St) : (zd s).2.b = [] ∨ (zd s).2.b.length + 1 ≤ s.b.length := by
 unfold zd
 split
 ·exact .inl rfl
 ·rename_i h
  by_cases hb : s.b = []
  ·exact .inl (by show s.b.drop _ = []; rw [hb]; simp)
  ·have : 0 < s.b.length := List.length_pos_iff.2 hb
   exact .inr (by show (s.b.drop _).length + 1 ≤ _; rw [ldQ]; omega)
theorem Zv (f : UInt32) (s : St) : ∀ n, (yN (yb f) n ([], s)).2.b = [] ∨ n + (yN (yb f) n ([], s)).2.b.length ≤ s.b.length
 | 0 => .inr (by show 0 + s.b.length ≤ _; omega)
 | n + 1 => by
  have ih := Zv f s n
  rw [show yN (yb f) (n + 1) ([], s) = yb f (yN (yb f) n ([], s)) from rfl]
  generalize yN (yb f) n ([], s) = p at *
  have h1 := zd3 p.2
  have h2 := jR (rNum p.2).2
  have e : (rNum p.2).2 = (zd p.2).2 := rfl
  have hb : (yb f p).2.b.length ≤ (zd p.2).2.b.length := by
   show (if _ then _ else _ : St).b.length ≤ _
   split
   ·exact nzQ _
   ·rw [← e]; exact h2
  by_cases hz : (yb f p).2.b = []
  ·exact .inl hz
  ·have ov : 0 < (yb f p).2.b.length := List.length_pos_iff.2 hz
   right
   have h3 : (zd p.2).2.b.length + 1 ≤ p.2.b.length := h1.resolve_left (fun q => by rw [q] at hb; simp at hb; rw [hb] at ov; simp at ov)
   have h4 := ih.resolve_left (fun q => by rw [q] at h3; simp at h3)
   omega
theorem zga (s : St) : (zv s).1 ≤ (zv s).2.b.length := by
 unfold zv
 split
 ·exact nzQ _
 ·omega
theorem JX (f : UInt32) (s : St) : (ya f s).1.length + (ya f s).2.b.length ≤ s.b.length := by
 have h1 := J7 f (zv s).1 (zv s).2
 have h2 := Zv f (zv s).2 (zv s).1
 have h3 := zga s
 have h4 := yg s
 unfold ya
 rw [h1]
 rcases h2 with h2 | h2
 ·rw [h2]; simp; omega
 ·omega
variable {D : Nat → Prop} {g : Nat} {s : St}
theorem zd4 {lo : Bool} (h : SpR D g lo s w) (hl : s.b.length ≤ 1048576) :
 Calls Tryz.prog 123 #[.pointer (some ⟨g, 0, none⟩)] w fun e w' => ∃ v, e = .returned v ∧ Own Lay.nam 120 w.heap.size w' v (yZ lo s).1 ∧ SpR D g lo (yZ lo s).2 w' ∧ Fr (fun k => k = g) w w' := by
 have H := qh (anQ h (anQ hl h.lt.1))
 have dh := qh (yg s)
 have Bd := zhC w
 have dR := @run_makeMap Tryz.prog
 have HM := qh (anQ (h.ext (za w (.map #[] 0))) (anQ Bd (za w (.map #[] 0))))
 clear h hl Bd
 go_enter Tryz.func123, Tryz.ntmps123
 go_wp2_with fail
 obtain ⟨mg, lY⟩ := exQ (w.heap.size)
 obtain ⟨W0, iH⟩ := exQ (w.alloc (.map #[] 0))
 have HM : Hd (SpR D g lo s W0 ∧ yz W0 mg 0 [] ∧ Ext w W0 ∧ w.heap.size = mg ∧ g < mg) := by rw [← iH, ← lY]; exact ⟨HM.o.1, HM.o.2.1, HM.o.2.2, rfl, H.o.2.2⟩
 rw [iH]
 simp only [lY]
 clear iH lY dR
 refine (ye HM.o.1 (by have := H.o.2.1; omega)).mono ?_
 rintro e w1 ⟨rfl, k1, k2⟩
 have HR := qh (show yZ lo s = ((yN (yw lo) (zv s).1 ⟨[], 0, [], (zv s).2⟩).o, (yN (yw lo) (zv s).1 ⟨[], 0, [], (zv s).2⟩).s) from rfl)
 generalize (zv s).1 = n at *
 generalize (zv s).2 = s1 at *
 have H1 : Hd (SpR D g lo s1 w1 ∧ Fr (fun k => k = g) w w1 ∧ yz w1 mg 0 []) := ⟨k1, Ext.fr HM.o.2.2.1 k2, HM.o.2.1.fr k2 (fun e => by have := HM.o.2.2.2.2; have e' : mg = g := e; omega)⟩
 clear k1 k2
 have mX : (n : Int) ≤ 1048576 := by have := H.o.2.1; have := dh.o.1; omega
 go_wp2_with fail
 go_loopw [2, 4, 9] (fun s2 s4 s9 w' => ∃ (i : Nat), i ≤ n ∧ s9 = .int .i64 i ∧ s4 = .int .u32 ((yN (yw lo) i ⟨[], 0, [], s1⟩).last.toNat : Int) ∧ Hd (OwnG Lay.nam 120 w.heap.size (fun k => k = g ∨ k = mg) w' s2 (yN (yw lo) i ⟨[], 0, [], s1⟩).o ∧ SpR D g lo (yN (yw lo) i ⟨[], 0, [], s1⟩).s w' ∧ Fr (fun k => k = g) w w' ∧ yz w' mg i (yN (yw lo) i ⟨[], 0, [], s1⟩).seen ∧ (yN (yw lo) i ⟨[], 0, [], s1⟩).o.length + (yN (yw lo) i ⟨[], 0, [], s1⟩).s.b.length ≤ 1048576)) (fun _ _ s9 _ => n - (intOf s9).toNat)
 case atStart => exact ⟨0, nzQ _, rfl, rfl, zK _ _ _ _ _, H1.o.1, H1.o.2.1, H1.o.2.2, by show 0 + s1.b.length ≤ 1048576; have := H.o.2.1; have := dh.o.2; omega⟩
 case round =>
  obtain ⟨i, hi, rfl, rfl, hV⟩ := hrel
  obtain ⟨aN, aw, az, rfl⟩ := hV.o.1.shape
  by_cases ah : i < n
  ·obtain ⟨r2, bR⟩ := exQ (yN (yw lo) (i + 1) ⟨[], 0, [], s1⟩)
   have bR := qh bR
   have hst := qh (show r2 = yw lo (yN (yw lo) i ⟨[], 0, [], s1⟩) from by rw [← bR.o]; rfl)
   generalize yN (yw lo) i ⟨[], 0, [], s1⟩ = p at *
   have hst := qh (show r2 = ⟨UInt32.ofNat (zd p.s).1 :: p.seen, UInt32.ofNat (zd p.s).1, p.o ++ (ya (UInt32.ofNat (zd p.s).1) (if UInt32.ofNat (zd p.s).1 ∈ p.seen ∨ ((UInt32.ofNat (zd p.s).1).toNat < p.last.toNat ∧ lo = false) then (zd p.s).2.fail 2 else (zd p.s).2)).1, (ya (UInt32.ofNat (zd p.s).1) (if UInt32.ofNat (zd p.s).1 ∈ p.seen ∨ ((UInt32.ofNat (zd p.s).1).toNat < p.last.toNat ∧ lo = false) then (zd p.s).2.fail 2 else (zd p.s).2)).2⟩ from hst.o)
   obtain ⟨seen, last, xs, t0⟩ := p
   dsimp only at hst hV ⊢
   have au := qh (show ∀ k, (Value.slice aN aw az).ownBlock = some k → w.heap.size ≤ k ∧ k < wr.heap.size from hV.o.1.lt)
   have dI : Hd (∀ k, (Value.slice aN aw az).ownBlock = some k → ¬ k = g) := fun k hk e => by have := (au.o k hk).1; have := H.o.2.2; omega
   go_wp2_with fail
   refine (zN D g lo t0 wr hV.o.2.1 (by have := hV.o.2.2.2.2; omega)).mono ?_
   rintro e w2 ⟨rfl, k1, k2⟩
   have fd := zX t0
   have bS := qh (show xs.length + (zd t0).2.b.length ≤ 1048576 from by have := zJ t0; have := hV.o.2.2.2.2; omega)
   generalize (zd t0).1 = x at *
   generalize (zd t0).2 = t1 at *
   have fY : Hd (mg < wr.heap.size ∧ ¬ mg = g) := ⟨hV.o.2.2.2.1.lt, by have := HM.o.2.2.2.2; omega⟩
   have bZ : Hd (OwnG Lay.nam 120 w.heap.size (fun k => k = g ∨ k = mg) w2 (.slice aN aw az) xs ∧ SpR D g lo t1 w2 ∧ Fr (fun k => k = g) w w2 ∧ yz w2 mg i seen) := ⟨hV.o.1.fr k2 (fun k e => .inl (.inl e)) dI.o, k1, Fr.trans hV.o.2.2.1 k2 (fun _ _ h => h) (fun _ _ h => h), hV.o.2.2.2.1.fr k2 fY.o.2⟩
   clear k1 k2 hV
   obtain ⟨f, rfl⟩ : ∃ f : UInt32, x = f.toNat := ⟨UInt32.ofNat x, (Jh fd).symm⟩
   rw [UInt32.ofNat_toNat] at hst
   have nc := bZ.o.2.2.2.look f
   obtain ⟨aa, cap, eg, fG, fB⟩ := bZ.o.2.1
   have ag := eg.cell
   clear eg fG fB fd
   have kS : Hd (∀ k, (Value.slice aN aw az).ownBlock = some k → ¬ k = mg) := bZ.o.1.notMap bZ.o.2.2.2
   by_cases hin : f ∈ seen
   ·have Ap : decide (f ∈ seen) = true := decide_eq_true hin
    have eJ := qh (show f ∈ seen ∨ (f.toNat < last.toNat ∧ lo = false) from .inl hin)
    rw [Ap] at nc
    go_wp2_with fail
    refine (zr D g lo t1 2 w2 bZ.o.2.1).mono ?_
    rintro e W3 ⟨rfl, k1, k2⟩
    have HT : Hd (OwnG Lay.nam 120 w.heap.size (fun k => k = g ∨ k = mg) W3 (.slice aN aw az) xs ∧ SpR D g lo (t1.fail 2) W3 ∧ Fr (fun k => k = g) w W3 ∧ yz W3 mg i seen) := ⟨bZ.o.1.fr k2 (fun k e => .inl (.inl e)) dI.o, k1, Fr.trans bZ.o.2.2.1 k2 (fun _ _ h => h) (fun _ _ h => h), bZ.o.2.2.2.fr k2 fY.o.2⟩
    clear k1 k2 bZ
    obtain ⟨W4, i1, dU, ip⟩ := HT.o.2.2.2.put (YW (by omega)) f
    have fZ : Hd (OwnG Lay.nam 120 w.heap.size (fun k => k = g ∨ k = mg) W4 (.slice aN aw az) xs ∧ SpR D g lo (t1.fail 2) W4 ∧ Fr (fun k => k = g) w W4 ∧ yz W4 mg (i + 1) (f :: seen)) := ⟨HT.o.1.fr ip (fun k e => .inl (.inr e)) (fun k hk e => kS.o k hk e), HT.o.2.1.fr ip (fun e => fY.o.2 e.symm) (fun k hk e => by have := (H.o.1.lt.2 k hk).1; have e' : k = mg := e; have := HM.o.2.2.2.1; omega), (Fr.trans HT.o.2.2.1 ip (U := fun k => k = g ∨ k = mg) (fun _ _ h => .inl h) (fun _ _ h => .inr h)).mono (fun k hk e => e.elim id (fun e => by have := HM.o.2.2.2.1; omega)), dU⟩
    clear dU ip
    go_wp2_with fail
    clear i1 nc ag
    refine (JL f D g lo (t1.fail 2) W4 fZ.o.2.1 (by exact nzQ _)).mono ?_
    rintro e W5 ⟨v5, rfl, k0, k1, k2⟩
    have kJ : Hd ((ya f (t1.fail 2)).1.length + (ya f (t1.fail 2)).2.b.length ≤ ((t1.fail 2)).b.length) := JX f (t1.fail 2)
    have hst := qh (show r2 = ⟨f :: seen, f, xs ++ (ya f (t1.fail 2)).1, (ya f (t1.fail 2)).2⟩ from by rw [hst.o, if_pos eJ.o])
    generalize (ya f (t1.fail 2)).1 = ys at *
    generalize (ya f (t1.fail 2)).2 = t3 at *
    have ia := OwnG.sliceF yW k0
    obtain ⟨dA, dt, dB, rfl⟩ := jh ia
    have fS : Hd (OwnG Lay.nam 120 w.heap.size (fun k => k = g ∨ k = mg) W5 (.slice aN aw az) xs ∧ SpR D g lo t3 W5 ∧ Fr (fun k => k = g) w W5 ∧ yz W5 mg (i + 1) (f :: seen)) := ⟨fZ.o.1.fr k2 (fun k e => .inl (.inl e)) dI.o, k1, Fr.trans fZ.o.2.2.1 k2 (fun _ _ h => h) (fun _ _ h => h), fZ.o.2.2.2.fr k2 fY.o.2⟩
    have ia := qh ia
    clear k0 k1 k2 HT fZ
    go_wp2_with (at_builtin; refine Hd.o ?_)
    refine JD Lay.nam w.heap.size rfl (.tmp 33) (.tmp 36) _ _ _ 24 rfl Tryz.underlying35 ZK rfl (by omega) (by decide) (.slice aN aw az) xs ys dA dt dB rfl rfl (fS.o.1.own yW) ia.o (fun flat q => Lay.all_flat yW q) fS.o.2.2.1.size (by have := kJ.o; have : (t1.fail 2).b.length = 0 := rfl; have := bS.o; omega) ?_
    intro v1 w8 h1 h2 h3
    have dy : Hd (OwnG Lay.nam 120 w.heap.size (fun k => k = g ∨ k = mg) w8 v1 r2.o ∧ SpR D g lo r2.s w8 ∧ Fr (fun k => k = g) w w8 ∧ yz w8 mg (i + 1) r2.seen ∧ r2.o.length + r2.s.b.length ≤ 1048576) := by
     rw [hst.o]
     refine ⟨h1.toG yW, fS.o.2.1.fr h2 (fun e => dI.o g e.symm rfl) (fun k hk e => by have := (au.o k e.symm).1; have := (H.o.1.lt.2 k hk).1; omega), Fr.trans fS.o.2.2.1 h2 (fun _ _ h => h) (fun k hk e => absurd hk (by have := (au.o k e.symm).1; omega)), fS.o.2.2.2.fr h2 (fun e => kS.o mg e.symm rfl), ?_⟩
     have := kJ.o
     show (xs ++ ys).length + t3.b.length ≤ 1048576
     rw [laQ]
     have : (t1.fail 2).b.length = 0 := rfl; have := bS.o; omega
    have fp : r2.last = f := by rw [hst.o]
    obtain ⟨aR, aV, aU, rfl⟩ := h1.shape
    clear h1 h2 h3
    go_wp2
    go_roundw
    case rel => exact ⟨i + 1, by omega, by go_num, by rw [bR.o, fp], by rw [bR.o]; exact dy.o⟩
    case measure => simp [intOf]; omega
   ·have Ap : decide (f ∈ seen) = false := decide_eq_false hin
    rw [Ap] at nc
    by_cases hlast : f.toNat < last.toNat
    ·have dl : decide ((f.toNat : Int) < (last.toNat : Int)) = true := decide_eq_true (by omega)
     cases lo with
     | false =>
      have eJ := qh (show f ∈ seen ∨ (f.toNat < last.toNat ∧ false = false) from .inr ⟨hlast, rfl⟩)
      go_wp2_with fail
      refine (zr D g false t1 2 w2 bZ.o.2.1).mono ?_
      rintro e W3 ⟨rfl, k1, k2⟩
      have HT : Hd (OwnG Lay.nam 120 w.heap.size (fun k => k = g ∨ k = mg) W3 (.slice aN aw az) xs ∧ SpR D g false (t1.fail 2) W3 ∧ Fr (fun k => k = g) w W3 ∧ yz W3 mg i seen) := ⟨bZ.o.1.fr k2 (fun k e => .inl (.inl e)) dI.o, k1, Fr.trans bZ.o.2.2.1 k2 (fun _ _ h => h) (fun _ _ h => h), bZ.o.2.2.2.fr k2 fY.o.2⟩
      clear k1 k2 bZ
      obtain ⟨W4, i1, dU, ip⟩ := HT.o.2.2.2.put (YW (by omega)) f
      have fZ : Hd (OwnG Lay.nam 120 w.heap.size (fun k => k = g ∨ k = mg) W4 (.slice aN aw az) xs ∧ SpR D g false (t1.fail 2) W4 ∧ Fr (fun k => k = g) w W4 ∧ yz W4 mg (i + 1) (f :: seen)) := ⟨HT.o.1.fr ip (fun k e => .inl (.inr e)) (fun k hk e => kS.o k hk e), HT.o.2.1.fr ip (fun e => fY.o.2 e.symm) (fun k hk e => by have := (H.o.1.lt.2 k hk).1; have e' : k = mg := e; have := HM.o.2.2.2.1; omega), (Fr.trans HT.o.2.2.1 ip (U := fun k => k = g ∨ k = mg) (fun _ _ h => .inl h) (fun _ _ h => .inr h)).mono (fun k hk e => e.elim id (fun e => by have := HM.o.2.2.2.1; omega)), dU⟩
      clear dU ip
      go_wp2_with fail
      clear i1 nc ag
      refine (JL f D g false (t1.fail 2) W4 fZ.o.2.1 (by exact nzQ _)).mono ?_
      rintro e W5 ⟨v5, rfl, k0, k1, k2⟩
      have kJ : Hd ((ya f (t1.fail 2)).1.length + (ya f (t1.fail 2)).2.b.length ≤ ((t1.fail 2)).b.length) := JX f (t1.fail 2)
      have hst := qh (show r2 = ⟨f :: seen, f, xs ++ (ya f (t1.fail 2)).1, (ya f (t1.fail 2)).2⟩ from by rw [hst.o, if_pos eJ.o])
      generalize (ya f (t1.fail 2)).1 = ys at *
      generalize (ya f (t1.fail 2)).2 = t3 at *
      have ia := OwnG.sliceF yW k0
      obtain ⟨dA, dt, dB, rfl⟩ := jh ia
      have fS : Hd (OwnG Lay.nam 120 w.heap.size (fun k => k = g ∨ k = mg) W5 (.slice aN aw az) xs ∧ SpR D g false t3 W5 ∧ Fr (fun k => k = g) w W5 ∧ yz W5 mg (i + 1) (f :: seen)) := ⟨fZ.o.1.fr k2 (fun k e => .inl (.inl e)) dI.o, k1, Fr.trans fZ.o.2.2.1 k2 (fun _ _ h => h) (fun _ _ h => h), fZ.o.2.2.2.fr k2 fY.o.2⟩
      have ia := qh ia
      clear k0 k1 k2 HT fZ
      go_wp2_with (at_builtin; refine Hd.o ?_)
      refine JD Lay.nam w.heap.size rfl (.tmp 33) (.tmp 36) _ _ _ 24 rfl Tryz.underlying35 ZK rfl (by omega) (by decide) (.slice aN aw az) xs ys dA dt dB rfl rfl (fS.o.1.own yW) ia.o (fun flat q => Lay.all_flat yW q) fS.o.2.2.1.size (by have := kJ.o; have : (t1.fail 2).b.length = 0 := rfl; have := bS.o; omega) ?_
      intro v1 w8 h1 h2 h3
      have dy : Hd (OwnG Lay.nam 120 w.heap.size (fun k => k = g ∨ k = mg) w8 v1 r2.o ∧ SpR D g false r2.s w8 ∧ Fr (fun k => k = g) w w8 ∧ yz w8 mg (i + 1) r2.seen ∧ r2.o.length + r2.s.b.length ≤ 1048576) := by
       rw [hst.o]
       refine ⟨h1.toG yW, fS.o.2.1.fr h2 (fun e => dI.o g e.symm rfl) (fun k hk e => by have := (au.o k e.symm).1; have := (H.o.1.lt.2 k hk).1; omega), Fr.trans fS.o.2.2.1 h2 (fun _ _ h => h) (fun k hk e => absurd hk (by have := (au.o k e.symm).1; omega)), fS.o.2.2.2.fr h2 (fun e => kS.o mg e.symm rfl), ?_⟩
       have := kJ.o
       show (xs ++ ys).length + t3.b.length ≤ 1048576
       rw [laQ]
       have : (t1.fail 2).b.length = 0 := rfl; have := bS.o; omega
      have fp : r2.last = f := by rw [hst.o]
      obtain ⟨aR, aV, aU, rfl⟩ := h1.shape
      clear h1 h2 h3
      go_wp2
      go_roundw
      case rel => exact ⟨i + 1, by omega, by go_num, by rw [bR.o, fp], by rw [bR.o]; exact dy.o⟩
      case measure => simp [intOf]; omega
     | true =>
      have eJ := qh (show ¬ (f ∈ seen ∨ (f.toNat < last.toNat ∧ true = false)) from fun h => h.elim hin (fun h => by cases h.2))
      obtain ⟨W3, rfl⟩ : ∃ W3, W3 = w2 := ⟨_, rfl⟩
      have HT := bZ
      obtain ⟨W4, i1, dU, ip⟩ := HT.o.2.2.2.put (YW (by omega)) f
      have fZ : Hd (OwnG Lay.nam 120 w.heap.size (fun k => k = g ∨ k = mg) W4 (.slice aN aw az) xs ∧ SpR D g true t1 W4 ∧ Fr (fun k => k = g) w W4 ∧ yz W4 mg (i + 1) (f :: seen)) := ⟨HT.o.1.fr ip (fun k e => .inl (.inr e)) (fun k hk e => kS.o k hk e), HT.o.2.1.fr ip (fun e => fY.o.2 e.symm) (fun k hk e => by have := (H.o.1.lt.2 k hk).1; have e' : k = mg := e; have := HM.o.2.2.2.1; omega), (Fr.trans HT.o.2.2.1 ip (U := fun k => k = g ∨ k = mg) (fun _ _ h => .inl h) (fun _ _ h => .inr h)).mono (fun k hk e => e.elim id (fun e => by have := HM.o.2.2.2.1; omega)), dU⟩
      clear dU ip
      go_wp2_with fail
      clear i1 nc ag
      refine (JL f D g true t1 W4 fZ.o.2.1 (by have := bS.o; omega)).mono ?_
      rintro e W5 ⟨v5, rfl, k0, k1, k2⟩
      have kJ : Hd ((ya f t1).1.length + (ya f t1).2.b.length ≤ (t1).b.length) := JX f t1
      have hst := qh (show r2 = ⟨f :: seen, f, xs ++ (ya f t1).1, (ya f t1).2⟩ from by rw [hst.o, if_neg eJ.o])
      generalize (ya f t1).1 = ys at *
      generalize (ya f t1).2 = t3 at *
      have ia := OwnG.sliceF yW k0
      obtain ⟨dA, dt, dB, rfl⟩ := jh ia
      have fS : Hd (OwnG Lay.nam 120 w.heap.size (fun k => k = g ∨ k = mg) W5 (.slice aN aw az) xs ∧ SpR D g true t3 W5 ∧ Fr (fun k => k = g) w W5 ∧ yz W5 mg (i + 1) (f :: seen)) := ⟨fZ.o.1.fr k2 (fun k e => .inl (.inl e)) dI.o, k1, Fr.trans fZ.o.2.2.1 k2 (fun _ _ h => h) (fun _ _ h => h), fZ.o.2.2.2.fr k2 fY.o.2⟩
      have ia := qh ia
      clear k0 k1 k2 HT fZ
      go_wp2_with (at_builtin; refine Hd.o ?_)
      refine JD Lay.nam w.heap.size rfl (.tmp 33) (.tmp 36) _ _ _ 24 rfl Tryz.underlying35 ZK rfl (by omega) (by decide) (.slice aN aw az) xs ys dA dt dB rfl rfl (fS.o.1.own yW) ia.o (fun flat q => Lay.all_flat yW q) fS.o.2.2.1.size (by have := kJ.o; have := bS.o; omega) ?_
      intro v1 w8 h1 h2 h3
      have dy : Hd (OwnG Lay.nam 120 w.heap.size (fun k => k = g ∨ k = mg) w8 v1 r2.o ∧ SpR D g true r2.s w8 ∧ Fr (fun k => k = g) w w8 ∧ yz w8 mg (i + 1) r2.seen ∧ r2.o.length + r2.s.b.length ≤ 1048576) := by
       rw [hst.o]
       refine ⟨h1.toG yW, fS.o.2.1.fr h2 (fun e => dI.o g e.symm rfl) (fun k hk e => by have := (au.o k e.symm).1; have := (H.o.1.lt.2 k hk).1; omega), Fr.trans fS.o.2.2.1 h2 (fun _ _ h => h) (fun k hk e => absurd hk (by have := (au.o k e.symm).1; omega)), fS.o.2.2.2.fr h2 (fun e => kS.o mg e.symm rfl), ?_⟩
       have := kJ.o
       show (xs ++ ys).length + t3.b.length ≤ 1048576
       rw [laQ]
       have := bS.o; omega
      have fp : r2.last = f := by rw [hst.o]
      obtain ⟨aR, aV, aU, rfl⟩ := h1.shape
      clear h1 h2 h3
      go_wp2
      go_roundw
      case rel => exact ⟨i + 1, by omega, by go_num, by rw [bR.o, fp], by rw [bR.o]; exact dy.o⟩
      case measure => simp [intOf]; omega
    ·have dl : decide ((f.toNat : Int) < (last.toNat : Int)) = false := decide_eq_false (by omega)
     have eJ := qh (show ¬ (f ∈ seen ∨ (f.toNat < last.toNat ∧ lo = false)) from fun h => h.elim hin (fun h => hlast h.1))
     obtain ⟨W3, rfl⟩ : ∃ W3, W3 = w2 := ⟨_, rfl⟩
     have HT := bZ
     obtain ⟨W4, i1, dU, ip⟩ := HT.o.2.2.2.put (YW (by omega)) f
     have fZ : Hd (OwnG Lay.nam 120 w.heap.size (fun k => k = g ∨ k = mg) W4 (.slice aN aw az) xs ∧ SpR D g lo t1 W4 ∧ Fr (fun k => k = g) w W4 ∧ yz W4 mg (i + 1) (f :: seen)) := ⟨HT.o.1.fr ip (fun k e => .inl (.inr e)) (fun k hk e => kS.o k hk e), HT.o.2.1.fr ip (fun e => fY.o.2 e.symm) (fun k hk e => by have := (H.o.1.lt.2 k hk).1; have e' : k = mg := e; have := HM.o.2.2.2.1; omega), (Fr.trans HT.o.2.2.1 ip (U := fun k => k = g ∨ k = mg) (fun _ _ h => .inl h) (fun _ _ h => .inr h)).mono (fun k hk e => e.elim id (fun e => by have := HM.o.2.2.2.1; omega)), dU⟩
     clear dU ip
     go_wp2_with fail
     clear i1 nc ag
     refine (JL f D g lo t1 W4 fZ.o.2.1 (by have := bS.o; omega)).mono ?_
     rintro e W5 ⟨v5, rfl, k0, k1, k2⟩
     have kJ : Hd ((ya f t1).1.length + (ya f t1).2.b.length ≤ (t1).b.length) := JX f t1
     have hst := qh (show r2 = ⟨f :: seen, f, xs ++ (ya f t1).1, (ya f t1).2⟩ from by rw [hst.o, if_neg eJ.o])
     generalize (ya f t1).1 = ys at *
     generalize (ya f t1).2 = t3 at *
     have ia := OwnG.sliceF yW k0
     obtain ⟨dA, dt, dB, rfl⟩ := jh ia
     have fS : Hd (OwnG Lay.nam 120 w.heap.size (fun k => k = g ∨ k = mg) W5 (.slice aN aw az) xs ∧ SpR D g lo t3 W5 ∧ Fr (fun k => k = g) w W5 ∧ yz W5 mg (i + 1) (f :: seen)) := ⟨fZ.o.1.fr k2 (fun k e => .inl (.inl e)) dI.o, k1, Fr.trans fZ.o.2.2.1 k2 (fun _ _ h => h) (fun _ _ h => h), fZ.o.2.2.2.fr k2 fY.o.2⟩
     have ia := qh ia
     clear k0 k1 k2 HT fZ
     go_wp2_with (at_builtin; refine Hd.o ?_)
     refine JD Lay.nam w.heap.size rfl (.tmp 33) (.tmp 36) _ _ _ 24 rfl Tryz.underlying35 ZK rfl (by omega) (by decide) (.slice aN aw az) xs ys dA dt dB rfl rfl (fS.o.1.own yW) ia.o (fun flat q => Lay.all_flat yW q) fS.o.2.2.1.size (by have := kJ.o; have := bS.o; omega) ?_
     intro v1 w8 h1 h2 h3
     have dy : Hd (OwnG Lay.nam 120 w.heap.size (fun k => k = g ∨ k = mg) w8 v1 r2.o ∧ SpR D g lo r2.s w8 ∧ Fr (fun k => k = g) w w8 ∧ yz w8 mg (i + 1) r2.seen ∧ r2.o.length + r2.s.b.length ≤ 1048576) := by
      rw [hst.o]
      refine ⟨h1.toG yW, fS.o.2.1.fr h2 (fun e => dI.o g e.symm rfl) (fun k hk e => by have := (au.o k e.symm).1; have := (H.o.1.lt.2 k hk).1; omega), Fr.trans fS.o.2.2.1 h2 (fun _ _ h => h) (fun k hk e => absurd hk (by have := (au.o k e.symm).1; omega)), fS.o.2.2.2.fr h2 (fun e => kS.o mg e.symm rfl), ?_⟩
      have := kJ.o
      show (xs ++ ys).length + t3.b.length ≤ 1048576
      rw [laQ]
      have := bS.o; omega
     have fp : r2.last = f := by rw [hst.o]
     obtain ⟨aR, aV, aU, rfl⟩ := h1.shape
     clear h1 h2 h3
     go_wp2
     go_roundw
     case rel => exact ⟨i + 1, by omega, by go_num, by rw [bR.o, fp], by rw [bR.o]; exact dy.o⟩
     case measure => simp [intOf]; omega
  ·obtain rfl : i = n := by omega
   have lS := qh (show Own Lay.nam 120 w.heap.size wr (.slice aN aw az) (yZ lo s).1 ∧ SpR D g lo (yZ lo s).2 wr ∧ Fr (fun k => k = g) w wr from by rw [HR.o]; exact ⟨hV.o.1.own yW, hV.o.2.1, hV.o.2.2.1⟩)
   clear hV
   go_wp2
   go_ret
   exact ⟨_, rfl, lS.o⟩
def zfn (g : Nat) (lo : Bool) : Frm := ⟨fun w w' => w.cell? ⟨g, 2, none⟩ = some (.bool lo) → w'.cell? ⟨g, 2, none⟩ = some (.bool lo), fun _ h => h, fun _ _ _ h k q => k (h q)⟩
theorem SpR.loose {lo : Bool} (h : SpR D g lo s w) : w.cell? ⟨g, 2, none⟩ = some (.bool lo) := by
 obtain ⟨aa, cap, hb, _⟩ := h
 exact hb.cell 2
theorem zcm (n : Nat) (s : St) : (zW n s).1.length ≤ s.b.length := by
 unfold zW
 split
 ·exact nzQ _
 ·rw [ltQ]; omega
theorem zT {B B' : Nat → Prop} {W W' : World} {cs : List Value} {x : α} (h : l.rd B W cs x) (hf : Fr S W W') (hB : ∀ k, B k → k < W.heap.size ∧ ¬ S k) (Cq : ∀ k, B k → B' k) : l.rd B' W' cs x := Lay.mono _ (Lay.fr h hf hB) Cq
theorem SpR.new {lo uT : Bool} {b : List UInt8} {a : Option Addr} {m c : Nat} (h : SpR D g uT s w) (hr : Lay.u8.slice.rd D w [.slice a m c] b) : SpR D w.heap.size lo ⟨b, 0⟩ (w.alloc (.cells #[.slice a m c, .int .i64 0, .bool lo] 142)) := by
 obtain ⟨aa, cap, e, h1, h2, h3⟩ := id hr
 simp only [List.cons.injEq, Value.slice.injEq, and_true] at e
 obtain ⟨rfl, rfl, rfl⟩ := e
 refine ⟨_, _, zk _ _ _, Lay.frame _ hr (fun k hk => (za w _).block k (h.lt.2 k hk).1 (fun q => q)), fun k hk => ⟨by have := (h.lt.2 k hk).1; simp; omega, by have := (h.lt.2 k hk).1; omega⟩⟩
theorem zhE (lo : Bool) (f : Nat) (m : Mod) (last : Nat) (s : St) : zx lo (f + 1) m last s =
 if s.v = 0 ∧ s.b ≠ [] then
  (if (zW (zd (zn s).2).1 (zd (zn s).2).2).2.v ≠ 0 ∨ (zn s).1 < last ∨ 2 < (zn s).1 then (m, (zW (zd (zn s).2).1 (zd (zn s).2).2).2.fail 2)
   else zx lo f (JN lo (zn s).1 m ⟨(zW (zd (zn s).2).1 (zd (zn s).2).2).1, 0⟩).1 ((zn s).1 + 1)
    (if (JN lo (zn s).1 m ⟨(zW (zd (zn s).2).1 (zd (zn s).2).2).1, 0⟩).2.v ≠ 0 ∨ (JN lo (zn s).1 m ⟨(zW (zd (zn s).2).1 (zd (zn s).2).2).1, 0⟩).2.b ≠ [] then (zW (zd (zn s).2).1 (zd (zn s).2).2).2.fail 2 else (zW (zd (zn s).2).1 (zd (zn s).2).2).2))
 else (m, s) := rfl
theorem zbI (lo : Bool) (D A : Nat → Prop) (g gm : Nat) (s : St) (M : Mod) (w : World) (q0 q1 q2 q3 q4 q5 q6 q7 q8 q9 bw bo bp bu ez eO : Value) (h : SpR D g lo s w) (hB : Blk w gm #[q0, q1, q2, q3, q4, q5, q6, q7, q8, q9, bw, bo, bp, bu, .string (zc M.named), ez, eO] 37) (aO : ¬ gm = g) (df : ∀ k, D k → ¬ k = gm) (hl : s.b.length ≤ 1048576)
 (hA : ∀ k, A k → k < w.heap.size ∧ ¬ k = g ∧ ¬ k = gm) (hf : Lay.nam.slice.rd A w [ez] M.funcs) (ce : Lay.nam.slice.rd A w [eO] M.locals) (hn : (zc M.named).size ≤ maxLen) :
 Calls Tryz.prog 92 #[.pointer (some ⟨g, 0, none⟩), .pointer (some ⟨gm, 0, none⟩)] w fun e w' => e = .returned (.tuple #[]) ∧ ∃ dk dm, Blk w' gm #[q0, q1, q2, q3, q4, q5, q6, q7, q8, q9, bw, bo, bp, bu, .string (zc (zx lo 4 M 0 s).1.named), dk, dm] 37 ∧ Lay.nam.slice.rd (fun k => (A k ∨ w.heap.size ≤ k) ∧ k < w'.heap.size) w' [dk] (zx lo 4 M 0 s).1.funcs ∧ Lay.nam.slice.rd (fun k => (A k ∨ w.heap.size ≤ k) ∧ k < w'.heap.size) w' [dm] (zx lo 4 M 0 s).1.locals ∧ (zc (zx lo 4 M 0 s).1.named).size ≤ maxLen ∧ SpR D g lo (zx lo 4 M 0 s).2 w' ∧ Fr (fun k => k = g ∨ k = gm) w w' := by
 have H := qh (anQ h.lt (anQ hl (anQ hB.lt (anQ aO (anQ df hA)))))
 have HI : Hd (Blk w gm #[q0, q1, q2, q3, q4, q5, q6, q7, q8, q9, bw, bo, bp, bu, .string (zc M.named), ez, eO] 37 ∧ Lay.nam.slice.rd (fun k => (A k ∨ w.heap.size ≤ k) ∧ k < w.heap.size) w [ez] M.funcs ∧ Lay.nam.slice.rd (fun k => (A k ∨ w.heap.size ≤ k) ∧ k < w.heap.size) w [eO] M.locals ∧ (zc M.named).size ≤ maxLen ∧ SpR D g lo s w ∧ Fr (fun k => k = g ∨ k = gm) w w) := ⟨hB, Lay.mono _ hf (fun k hk => ⟨.inl hk, (hA k hk).1⟩), Lay.mono _ ce (fun k hk => ⟨.inl hk, (hA k hk).1⟩), hn, h, Fr.refl _ _⟩
 clear h hl hB aO df hA hf ce hn
 go_enter Tryz.func92, Tryz.ntmps92
 go_wp2_with fail
 go_loopw [4] (fun s4 w' => ∃ (f last : Nat) (M' : Mod) (s' : St) (fL fQ : Value), s4 = .int .i64 ((last : Int) - 1) ∧ last ≤ 3 ∧ 4 ≤ last + f ∧ Hd (zx lo 4 M 0 s = zx lo f M' last s' ∧ s'.b.length ≤ 1048576 ∧ Blk w' gm #[q0, q1, q2, q3, q4, q5, q6, q7, q8, q9, bw, bo, bp, bu, .string (zc M'.named), fL, fQ] 37 ∧ Lay.nam.slice.rd (fun k => (A k ∨ w.heap.size ≤ k) ∧ k < w'.heap.size) w' [fL] M'.funcs ∧ Lay.nam.slice.rd (fun k => (A k ∨ w.heap.size ≤ k) ∧ k < w'.heap.size) w' [fQ] M'.locals ∧ (zc M'.named).size ≤ maxLen ∧ SpR D g lo s' w' ∧ Fr (fun k => k = g ∨ k = gm) w w')) (fun s4 _ => (3 - intOf s4).toNat)
 case atStart => exact ⟨4, 0, M, s, ez, eO, rfl, by omega, by omega, rfl, H.o.2.1, HI.o⟩
 case round =>
  obtain ⟨f, last, M', s', fL, fQ, rfl, C4, C9, hV⟩ := hrel
  obtain ⟨f', rfl⟩ : ∃ f', f = f' + 1 := ⟨f - 1, by omega⟩
  have ck := qh (zhE lo f' M' last s')
  have kG : Hd (¬ (s'.v = 0 ∧ s'.b ≠ []) → zx lo 4 M 0 s = (M', s')) := fun h => by rw [hV.o.1, ck.o, if_neg h]
  obtain ⟨aa, cap, eg, fG, fB⟩ := hV.o.2.2.2.2.2.2.1
  have tZ := eg.cell
  clear eg fG fB
  go_wp2_with fail
  refine (yh hV.o.2.2.2.2.2.2.1).mono ?_
  rintro e w2 ⟨rfl, rfl⟩
  by_cases hv : s'.v = 0
  ·rw [decide_eq_true hv]
   by_cases hb : 0 < s'.b.length
   ·have dl : decide ((0 : Int) < (s'.b.length : Int)) = true := decide_eq_true (by omega)
    have AE : decide (0 < s'.b.length) = true := decide_eq_true hb
    have ck := qh (ck.o.trans (if_pos ⟨hv, List.length_pos_iff.1 hb⟩))
    go_wp2_with fail
    clear tZ
    refine (yo hV.o.2.2.2.2.2.2.1).mono ?_
    rintro e w3 ⟨rfl, k1, k2⟩
    have sm := jr s'
    have dw := qh (show (zn s').2.b.length ≤ 1048576 from nlQ (yu s') hV.o.2.1)
    generalize (zn s').1 = c at *
    generalize (zn s').2 = t0 at *
    have uQ : Hd (SpR D g lo t0 w3 ∧ Fr (fun k => k = g) w2 w3) := ⟨k1, k2⟩
    clear k1 k2
    go_wp2_with fail
    refine zi (zfn g lo) [kT 0, kT 1, kT 4, kT 5, kT 6, kT 7, kR 2, kR 3, kT 8, kR 9, kT 10] (by kernel_rfl) (by kernel_rfl) ?_
    simp only [zy, gzQ, gsQ]
    have HC := qh (fun W' (h : (zfn g lo).E w3.drew W') => h (uQ.o.1.ext (zb _)).loose)
    have pj : Hd (SpR D g lo t0 w3.drew ∧ Fr (fun k => k = g) w2 w3.drew) := ⟨uQ.o.1.ext (zb _), uQ.o.2.ext (zb _)⟩
    clear uQ
    generalize w3.drew = W0 at *
    repeat (apply item_take; rfl; rfl; rfl; rfl; exact fun _ _ _ _ h => h; (intro W e _ k; have q := HC.o W e; go_simp; exact k))
    apply ze; rfl; intro K hK; go_simp
    refine (zN D g lo t0 W0 pj.o.1 (by have := dw.o; omega)).mono ?_
    rintro e W1 ⟨rfl, k1, k2⟩
    refine hK _ _ (fun _ => k1.loose) ?_
    have fd := zX t0
    have cV := qh (show (zd t0).2.b.length ≤ 1048576 from nlQ (zJ t0) dw.o)
    generalize (zd t0).1 = x at *
    generalize (zd t0).2 = t1 at *
    have xx : Hd (SpR D g lo t1 W1 ∧ Fr (fun k => k = g) w2 W1) := ⟨k1, Fr.trans pj.o.2 k2 (fun _ _ h => h) (fun _ _ h => h)⟩
    clear k1 k2 pj hK K
    apply ze; rfl; intro K hK; go_simp
    refine (Jy x fd D g lo t1 W1 xx.o.1 (by have := cV.o; omega)).mono ?_
    rintro e W2 ⟨ta, tm, tc, rfl, k0, k1, k2⟩
    refine hK _ _ (fun _ => k1.loose) ?_
    have f9 := qh (show (zW x t1).2.b.length ≤ 1048576 from nlQ (jQ x t1) cV.o)
    have ch := qh (show (zW x t1).1.length ≤ 1048576 from nlQ (zcm x t1) cV.o)
    generalize (zW x t1).1 = bs at *
    generalize (zW x t1).2 = t2 at *
    have qN : Hd (SpR D g lo t2 W2 ∧ Fr (fun k => k = g) w2 W2) := ⟨k1, Fr.trans xx.o.2 k2 (fun _ _ h => h) (fun _ _ h => h)⟩
    have nE := qh k0
    clear k0 k1 k2 xx hK K
    repeat (apply item_take; rfl; rfl; rfl; rfl; exact fun _ _ _ _ h => h; (intro _ _ _ k; go_simp; exact k))
    apply ze; rfl; intro K hK; go_simp
    refine hK _ _ (fun q => ((za _ _).cell q (fun h => h))) ?_
    clear hK K
    repeat (apply item_take; rfl; rfl; rfl; rfl; exact fun _ _ _ _ h => h; (intro _ _ _ k; go_simp; exact k))
    apply zl
    have HS : Hd (SpR D W2.heap.size lo ⟨bs, 0⟩ (W2.alloc (.cells #[.slice ta tm tc, .int .i64 0, .bool lo] 142)) ∧ SpR D g lo t2 (W2.alloc (.cells #[.slice ta tm tc, .int .i64 0, .bool lo] 142)) ∧ Fr (fun k => k = g) w2 (W2.alloc (.cells #[.slice ta tm tc, .int .i64 0, .bool lo] 142)) ∧ w2.heap.size ≤ W2.heap.size) :=
     ⟨qN.o.1.new nE.o, qN.o.1.ext (za _ _), qN.o.2.ext (za _ _), qN.o.2.size⟩
    obtain ⟨gs, ie⟩ := exQ (W2.heap.size)
    obtain ⟨W4, cT⟩ := exQ (W2.alloc (.cells #[.slice ta tm tc, .int .i64 0, .bool lo] 142))
    rw [cT, ie] at HS
    rw [cT, ie]
    have eA := hV.o.2.2.1.lt
    have fH := qh (show ¬ gs = g ∧ ¬ gs = gm ∧ (∀ k, D k → ¬ k = gs) from ⟨by have := qN.o.1.lt.1; omega, by have := HS.o.2.2.2; omega, fun k hk => by have := (qN.o.1.lt.2 k hk).1; omega⟩)
    clear qN nE cT ie HC eA
    go_wp2_with fail
    refine (yh HS.o.2.1).mono ?_
    rintro e W5 ⟨rfl, rfl⟩
    have nR := hV.o.2.2.1.fr HS.o.2.2.1 H.o.2.2.2.1
    by_cases hq : t2.v ≠ 0 ∨ c < last ∨ 2 < c
    ·have ck := qh (show zx lo 4 M 0 s = (M', t2.fail 2) from by rw [hV.o.1, ck.o, if_pos hq])
     clear nR
     by_cases gq : t2.v = 0
     case' neg =>
      rw [decide_eq_false gq]
     case' pos =>
      rw [decide_eq_true gq]
      by_cases ek : c < last
      case' neg =>
       have d1 : decide ((c : Int) ≤ (last : Int) - 1) = false := decide_eq_false (by omega)
       have d2 : decide ((2 : Int) < (c : Int)) = true := decide_eq_true (by
        rcases hq with h | h | h
        ·exact absurd gq h
        ·exact absurd h ek
        ·omega)
      case' pos =>
       have d1 : decide ((c : Int) ≤ (last : Int) - 1) = true := decide_eq_true (by omega)
     all_goals
      go_wp2_with fail
      refine (zr D g lo t2 2 W5 HS.o.2.1).mono ?_
      rintro e W6 ⟨rfl, k1, k2⟩
      have rN : Fr (fun k => k = g ∨ k = gm) w2 W6 := Fr.trans HS.o.2.2.1 k2 (fun _ _ h => .inl h) (fun _ _ h => .inl h)
      have dy := qh (show ∃ dk dm, Blk W6 gm #[q0, q1, q2, q3, q4, q5, q6, q7, q8, q9, bw, bo, bp, bu, .string (zc (zx lo 4 M 0 s).1.named), dk, dm] 37 ∧ Lay.nam.slice.rd (fun k => (A k ∨ w.heap.size ≤ k) ∧ k < W6.heap.size) W6 [dk] (zx lo 4 M 0 s).1.funcs ∧ Lay.nam.slice.rd (fun k => (A k ∨ w.heap.size ≤ k) ∧ k < W6.heap.size) W6 [dm] (zx lo 4 M 0 s).1.locals ∧ (zc (zx lo 4 M 0 s).1.named).size ≤ maxLen ∧ SpR D g lo (zx lo 4 M 0 s).2 W6 ∧ Fr (fun k => k = g ∨ k = gm) w W6 from ⟨fL, fQ, by
       rw [ck.o]
       have CX := (hV.o.2.2.1.fr HS.o.2.2.1 H.o.2.2.2.1).fr k2 H.o.2.2.2.1
       exact ⟨CX, zT hV.o.2.2.2.1 rN (fun k hk => ⟨hk.2, fun e => by
        rcases hk.1 with q | q
        ·rcases e with e | e
         ·exact (H.o.2.2.2.2.2 k q).2.1 e
         ·exact (H.o.2.2.2.2.2 k q).2.2 e
        ·have := H.o.1.1; have := H.o.2.2.1; rcases e with e | e <;> omega⟩) (fun k hk => ⟨hk.1, nqQ hk.2 rN.size⟩), zT hV.o.2.2.2.2.1 rN (fun k hk => ⟨hk.2, fun e => by
        rcases hk.1 with q | q
        ·rcases e with e | e
         ·exact (H.o.2.2.2.2.2 k q).2.1 e
         ·exact (H.o.2.2.2.2.2 k q).2.2 e
        ·have := H.o.1.1; have := H.o.2.2.1; rcases e with e | e <;> omega⟩) (fun k hk => ⟨hk.1, nqQ hk.2 rN.size⟩), hV.o.2.2.2.2.2.1, k1, Fr.trans hV.o.2.2.2.2.2.2.2 rN (fun _ _ h => h) (fun _ _ h => h)⟩⟩)
      clear k1 k2 rN hV HS
      go_wp2
      (try simp only [Exit.inBlock, Exit.then]); refine bodyPost_ret (results_none rfl _ _ _) rfl ?_
      exact ⟨rfl, dy.o⟩
    ·have ck := qh (show zx lo 4 M 0 s = zx lo f' (JN lo c M' ⟨bs, 0⟩).1 (c + 1) (if (JN lo c M' ⟨bs, 0⟩).2.v ≠ 0 ∨ (JN lo c M' ⟨bs, 0⟩).2.b ≠ [] then t2.fail 2 else t2) from by rw [hV.o.1, ck.o, if_neg hq])
     have gq : t2.v = 0 := Classical.byContradiction fun h => hq (.inl h)
     have ek : ¬ c < last := fun h => hq (.inr (.inl h))
     have db : ¬ 2 < c := fun h => hq (.inr (.inr h))
     have d1 : decide ((c : Int) ≤ (last : Int) - 1) = false := decide_eq_false (by omega)
     have d2 : decide ((2 : Int) < (c : Int)) = false := decide_eq_false (by omega)
     rw [decide_eq_true gq]
     clear hq
     have bh := nR.cell
     have oY := nR.frz
     rcases (show c = 0 ∨ c = 1 ∨ c = 2 by omega) with rfl | rfl | rfl
     ·go_wp2_with fail
      refine (Jz HS.o.1 (by have := ch.o; exact nlQ this (by decide))).mono ?_
      rintro e W6 ⟨rfl, k1, k2⟩
      have lu : (zc (zF ⟨bs, 0⟩).1).size ≤ maxLen := yv (nlQ (JB ⟨bs, 0⟩) (nlQ ch.o (by decide)))
      obtain ⟨pq, nX⟩ := exQ (zF ⟨bs, 0⟩)
      rw [nX] at k1 lu
      obtain ⟨px, p2⟩ := pq
      rw [nX]
      dsimp only at k1 lu ⊢
      have mD := qh (show JN lo 0 M' ⟨bs, 0⟩ = ({ M' with named := px }, p2) from by show ({ M' with named := (zF ⟨bs, 0⟩).1 }, (zF ⟨bs, 0⟩).2) = _; rw [nX])
      have hK : Hd (SpR D gs lo p2 W6 ∧ Fr (fun k => k = gs) W5 W6 ∧ Blk W6 gm #[q0, q1, q2, q3, q4, q5, q6, q7, q8, q9, bw, bo, bp, bu, .string (zc M'.named), fL, fQ] 37 ∧ (zc px).size ≤ maxLen) := ⟨k1, k2, nR.fr k2 (fun e => fH.o.2.1 e.symm), lu⟩
      clear k1 k2 nR bh oY
      have bh := hK.o.2.2.1.cell
      have oY := hK.o.2.2.1.frz
      go_wp2_with fail
      have eP := zh W6 ⟨gm, 14, none⟩ (.string (zc px))
      have HX : Hd (SpR D gs lo p2 (W6.setCell ⟨gm, 14, none⟩ (.string (zc px))) ∧ SpR D g lo t2 (W6.setCell ⟨gm, 14, none⟩ (.string (zc px))) ∧ Blk (W6.setCell ⟨gm, 14, none⟩ (.string (zc px))) gm #[q0, q1, q2, q3, q4, q5, q6, q7, q8, q9, bw, bo, bp, bu, .string (zc ({ M' with named := px }).named), fL, fQ] 37 ∧ Fr (fun k => k = g ∨ k = gm) w2 (W6.setCell ⟨gm, 14, none⟩ (.string (zc px))) ∧ (zc px).size ≤ maxLen) := by
       refine ⟨hK.o.1.fr eP (fun e => fH.o.2.1 e) (fun k hk e => H.o.2.2.2.2.1 k hk e), (HS.o.2.1.fr hK.o.2.1 (fun e => fH.o.1 e.symm) (fun k hk e => fH.o.2.2 k hk e)).fr eP (fun e => H.o.2.2.2.1 e.symm) (fun k hk e => H.o.2.2.2.2.1 k hk e), ?_, ?_, ?_⟩
       ·have := hK.o.2.2.1.set 14 (.string (zc px))
        simpa using this
       ·exact (Fr.trans (Fr.trans HS.o.2.2.1 hK.o.2.1 (U := fun k => k = g ∨ k = gs) (fun _ _ h => .inl h) (fun _ _ h => .inr h)) eP (U := fun k => k = g ∨ k = gs ∨ k = gm) (fun _ _ h => h.elim .inl (fun h => .inr (.inl h))) (fun _ _ h => .inr (.inr h))).mono (fun k hk e => by
         rcases e with e | e | e
         ·exact .inl e
         ·have := HS.o.2.2.2; omega
         ·exact .inr e)
       ·exact hK.o.2.2.2
      clear eP bh oY hK
      generalize W6.setCell ⟨gm, 14, none⟩ (.string (zc px)) = W7 at *
      obtain ⟨BI, B7, pa, my, m3⟩ := HX.o.1
      have oZ := pa.cell
      clear pa my m3
      refine (yh HX.o.1).mono ?_
      rintro e W8 ⟨rfl, rfl⟩
      by_cases hp : p2.v = 0
      ·rw [decide_eq_true hp]
       by_cases hpb : 0 < p2.b.length
       ·have dp : decide ((0 : Int) < (p2.b.length : Int)) = true := decide_eq_true (by omega)
        have tR : decide (0 < p2.b.length) = true := decide_eq_true hpb
        go_wp2_with fail
        refine (zr D g lo t2 2 W8 HX.o.2.1).mono ?_
        rintro e W9 ⟨rfl, k1, k2⟩
        have dS : Fr (fun k => k = g ∨ k = gm) w2 W9 := Fr.trans HX.o.2.2.2.1 k2 (fun _ _ h => h) (fun _ _ h => .inl h)
        have iL := HX.o.2.2.1.fr k2 H.o.2.2.2.1
        have HN : Hd (zx lo 4 M 0 s = zx lo f' ({ M' with named := px }) 1 (t2.fail 2) ∧ ((t2.fail 2)).b.length ≤ 1048576 ∧ Blk W9 gm #[q0, q1, q2, q3, q4, q5, q6, q7, q8, q9, bw, bo, bp, bu, .string (zc ({ M' with named := px }).named), fL, fQ] 37 ∧ Lay.nam.slice.rd (fun k => (A k ∨ w.heap.size ≤ k) ∧ k < W9.heap.size) W9 [fL] ({ M' with named := px }).funcs ∧ Lay.nam.slice.rd (fun k => (A k ∨ w.heap.size ≤ k) ∧ k < W9.heap.size) W9 [fQ] ({ M' with named := px }).locals ∧ (zc ({ M' with named := px }).named).size ≤ maxLen ∧ SpR D g lo (t2.fail 2) W9 ∧ Fr (fun k => k = g ∨ k = gm) w W9) := ⟨by rw [ck.o, mD.o, if_pos (.inr (List.length_pos_iff.1 hpb))], nzQ _, iL, zT hV.o.2.2.2.1 dS (fun k hk => ⟨hk.2, fun e => by
         rcases hk.1 with q | q
         ·rcases e with e | e
          ·exact (H.o.2.2.2.2.2 k q).2.1 e
          ·exact (H.o.2.2.2.2.2 k q).2.2 e
         ·have := H.o.1.1; have := H.o.2.2.1; rcases e with e | e <;> omega⟩) (fun k hk => ⟨hk.1, nqQ hk.2 dS.size⟩), zT hV.o.2.2.2.2.1 dS (fun k hk => ⟨hk.2, fun e => by
         rcases hk.1 with q | q
         ·rcases e with e | e
          ·exact (H.o.2.2.2.2.2 k q).2.1 e
          ·exact (H.o.2.2.2.2.2 k q).2.2 e
         ·have := H.o.1.1; have := H.o.2.2.1; rcases e with e | e <;> omega⟩) (fun k hk => ⟨hk.1, nqQ hk.2 dS.size⟩), HX.o.2.2.2.2, k1, Fr.trans hV.o.2.2.2.2.2.2.2 dS (fun _ _ h => h) (fun _ _ h => h)⟩
        clear k1 k2 dS iL hV HX HS
        go_wp2
        go_roundw
        case rel => exact ⟨f', 1, _, _, _, _, by go_num, by omega, by omega, HN.o⟩
        case measure => simp [intOf]; omega
       ·have dp : decide ((0 : Int) < (p2.b.length : Int)) = false := decide_eq_false (by omega)
        have tR : decide (0 < p2.b.length) = false := decide_eq_false hpb
        have HN : Hd (zx lo 4 M 0 s = zx lo f' ({ M' with named := px }) 1 t2 ∧ (t2).b.length ≤ 1048576 ∧ Blk W8 gm #[q0, q1, q2, q3, q4, q5, q6, q7, q8, q9, bw, bo, bp, bu, .string (zc ({ M' with named := px }).named), fL, fQ] 37 ∧ Lay.nam.slice.rd (fun k => (A k ∨ w.heap.size ≤ k) ∧ k < W8.heap.size) W8 [fL] ({ M' with named := px }).funcs ∧ Lay.nam.slice.rd (fun k => (A k ∨ w.heap.size ≤ k) ∧ k < W8.heap.size) W8 [fQ] ({ M' with named := px }).locals ∧ (zc ({ M' with named := px }).named).size ≤ maxLen ∧ SpR D g lo t2 W8 ∧ Fr (fun k => k = g ∨ k = gm) w W8) := ⟨by rw [ck.o, mD.o, if_neg (fun h => h.elim (fun h => h hp) (fun h => hpb (List.length_pos_iff.2 h)))], f9.o, HX.o.2.2.1, zT hV.o.2.2.2.1 HX.o.2.2.2.1 (fun k hk => ⟨hk.2, fun e => by
         rcases hk.1 with q | q
         ·rcases e with e | e
          ·exact (H.o.2.2.2.2.2 k q).2.1 e
          ·exact (H.o.2.2.2.2.2 k q).2.2 e
         ·have := H.o.1.1; have := H.o.2.2.1; rcases e with e | e <;> omega⟩) (fun k hk => ⟨hk.1, nqQ hk.2 HX.o.2.2.2.1.size⟩), zT hV.o.2.2.2.2.1 HX.o.2.2.2.1 (fun k hk => ⟨hk.2, fun e => by
         rcases hk.1 with q | q
         ·rcases e with e | e
          ·exact (H.o.2.2.2.2.2 k q).2.1 e
          ·exact (H.o.2.2.2.2.2 k q).2.2 e
         ·have := H.o.1.1; have := H.o.2.2.1; rcases e with e | e <;> omega⟩) (fun k hk => ⟨hk.1, nqQ hk.2 HX.o.2.2.2.1.size⟩), HX.o.2.2.2.2, HX.o.2.1, Fr.trans hV.o.2.2.2.2.2.2.2 HX.o.2.2.2.1 (fun _ _ h => h) (fun _ _ h => h)⟩
        clear hV HX HS
        go_wp2
        go_roundw
        case rel => exact ⟨f', 1, _, _, _, _, by go_num, by omega, by omega, HN.o⟩
        case measure => simp [intOf]; omega
      ·rw [decide_eq_false hp]
       go_wp2_with fail
       refine (zr D g lo t2 2 W8 HX.o.2.1).mono ?_
       rintro e W9 ⟨rfl, k1, k2⟩
       have dS : Fr (fun k => k = g ∨ k = gm) w2 W9 := Fr.trans HX.o.2.2.2.1 k2 (fun _ _ h => h) (fun _ _ h => .inl h)
       have iL := HX.o.2.2.1.fr k2 H.o.2.2.2.1
       have HN : Hd (zx lo 4 M 0 s = zx lo f' ({ M' with named := px }) 1 (t2.fail 2) ∧ ((t2.fail 2)).b.length ≤ 1048576 ∧ Blk W9 gm #[q0, q1, q2, q3, q4, q5, q6, q7, q8, q9, bw, bo, bp, bu, .string (zc ({ M' with named := px }).named), fL, fQ] 37 ∧ Lay.nam.slice.rd (fun k => (A k ∨ w.heap.size ≤ k) ∧ k < W9.heap.size) W9 [fL] ({ M' with named := px }).funcs ∧ Lay.nam.slice.rd (fun k => (A k ∨ w.heap.size ≤ k) ∧ k < W9.heap.size) W9 [fQ] ({ M' with named := px }).locals ∧ (zc ({ M' with named := px }).named).size ≤ maxLen ∧ SpR D g lo (t2.fail 2) W9 ∧ Fr (fun k => k = g ∨ k = gm) w W9) := ⟨by rw [ck.o, mD.o, if_pos (.inl hp)], nzQ _, iL, zT hV.o.2.2.2.1 dS (fun k hk => ⟨hk.2, fun e => by
        rcases hk.1 with q | q
        ·rcases e with e | e
         ·exact (H.o.2.2.2.2.2 k q).2.1 e
         ·exact (H.o.2.2.2.2.2 k q).2.2 e
        ·have := H.o.1.1; have := H.o.2.2.1; rcases e with e | e <;> omega⟩) (fun k hk => ⟨hk.1, nqQ hk.2 dS.size⟩), zT hV.o.2.2.2.2.1 dS (fun k hk => ⟨hk.2, fun e => by
        rcases hk.1 with q | q
        ·rcases e with e | e
         ·exact (H.o.2.2.2.2.2 k q).2.1 e
         ·exact (H.o.2.2.2.2.2 k q).2.2 e
        ·have := H.o.1.1; have := H.o.2.2.1; rcases e with e | e <;> omega⟩) (fun k hk => ⟨hk.1, nqQ hk.2 dS.size⟩), HX.o.2.2.2.2, k1, Fr.trans hV.o.2.2.2.2.2.2.2 dS (fun _ _ h => h) (fun _ _ h => h)⟩
       clear k1 k2 dS iL hV HX HS
       go_wp2
       go_roundw
       case rel => exact ⟨f', 1, _, _, _, _, by go_num, by omega, by omega, HN.o⟩
       case measure => simp [intOf]; omega
     ·go_wp2_with fail
      refine (JL 0 D gs lo ⟨bs, 0⟩ W5 HS.o.1 ch.o).mono ?_
      rintro e W6 ⟨v, rfl, k0, k1, k2⟩
      have lu := OwnG.sliceF yW k0
      obtain ⟨dA, dt, dB, rfl⟩ := jh lu
      obtain ⟨pq, nX⟩ := exQ (ya 0 ⟨bs, 0⟩)
      rw [nX] at k1 lu
      obtain ⟨px, p2⟩ := pq
      clear k0
      dsimp only at k1 lu
      have mD := qh (show JN lo 1 M' ⟨bs, 0⟩ = ({ M' with funcs := px }, p2) from by show ({ M' with funcs := (ya 0 ⟨bs, 0⟩).1 }, (ya 0 ⟨bs, 0⟩).2) = _; rw [nX])
      have hK : Hd (SpR D gs lo p2 W6 ∧ Fr (fun k => k = gs) W5 W6 ∧ Blk W6 gm #[q0, q1, q2, q3, q4, q5, q6, q7, q8, q9, bw, bo, bp, bu, .string (zc M'.named), fL, fQ] 37 ∧ Lay.nam.slice.rd (fun k => W5.heap.size ≤ k ∧ k < W6.heap.size) W6 [.slice dA dt dB] px) := ⟨k1, k2, nR.fr k2 (fun e => fH.o.2.1 e.symm), lu⟩
      clear k1 k2 nR bh oY
      have bh := hK.o.2.2.1.cell
      have oY := hK.o.2.2.1.frz
      go_wp2_with fail
      have eP := zh W6 ⟨gm, 15, none⟩ (.slice dA dt dB)
      have HX : Hd (SpR D gs lo p2 (W6.setCell ⟨gm, 15, none⟩ (.slice dA dt dB)) ∧ SpR D g lo t2 (W6.setCell ⟨gm, 15, none⟩ (.slice dA dt dB)) ∧ Blk (W6.setCell ⟨gm, 15, none⟩ (.slice dA dt dB)) gm #[q0, q1, q2, q3, q4, q5, q6, q7, q8, q9, bw, bo, bp, bu, .string (zc M'.named), (.slice dA dt dB), fQ] 37 ∧ Fr (fun k => k = g ∨ k = gm) w2 (W6.setCell ⟨gm, 15, none⟩ (.slice dA dt dB)) ∧ Lay.nam.slice.rd (fun k => w.heap.size ≤ k ∧ k < (W6.setCell ⟨gm, 15, none⟩ (.slice dA dt dB)).heap.size) (W6.setCell ⟨gm, 15, none⟩ (.slice dA dt dB)) [.slice dA dt dB] px) := by
       refine ⟨hK.o.1.fr eP (fun e => fH.o.2.1 e) (fun k hk e => H.o.2.2.2.2.1 k hk e), (HS.o.2.1.fr hK.o.2.1 (fun e => fH.o.1 e.symm) (fun k hk e => fH.o.2.2 k hk e)).fr eP (fun e => H.o.2.2.2.1 e.symm) (fun k hk e => H.o.2.2.2.2.1 k hk e), ?_, ?_, ?_⟩
       ·have := hK.o.2.2.1.set 15 (.slice dA dt dB)
        simpa using this
       ·exact (Fr.trans (Fr.trans HS.o.2.2.1 hK.o.2.1 (U := fun k => k = g ∨ k = gs) (fun _ _ h => .inl h) (fun _ _ h => .inr h)) eP (U := fun k => k = g ∨ k = gs ∨ k = gm) (fun _ _ h => h.elim .inl (fun h => .inr (.inl h))) (fun _ _ h => .inr (.inr h))).mono (fun k hk e => by
         rcases e with e | e | e
         ·exact .inl e
         ·have := HS.o.2.2.2; omega
         ·exact .inr e)
       ·exact zT hK.o.2.2.2 eP (fun k hk => ⟨hk.2, fun e => by have e' : k = gm := e; have := hk.1; have := H.o.2.2.1; have := hV.o.2.2.2.2.2.2.2.size; have := HS.o.2.2.1.size; omega⟩) (fun k hk => ⟨by have := hk.1; have := hV.o.2.2.2.2.2.2.2.size; have := HS.o.2.2.1.size; omega, by have := hk.2; simpa using this⟩)
      clear eP bh oY hK
      generalize W6.setCell ⟨gm, 15, none⟩ (.slice dA dt dB) = W7 at *
      obtain ⟨BI, B7, pa, my, m3⟩ := HX.o.1
      have oZ := pa.cell
      clear pa my m3
      refine (yh HX.o.1).mono ?_
      rintro e W8 ⟨rfl, rfl⟩
      by_cases hp : p2.v = 0
      ·rw [decide_eq_true hp]
       by_cases hpb : 0 < p2.b.length
       ·have dp : decide ((0 : Int) < (p2.b.length : Int)) = true := decide_eq_true (by omega)
        have tR : decide (0 < p2.b.length) = true := decide_eq_true hpb
        go_wp2_with fail
        refine (zr D g lo t2 2 W8 HX.o.2.1).mono ?_
        rintro e W9 ⟨rfl, k1, k2⟩
        have dS : Fr (fun k => k = g ∨ k = gm) w2 W9 := Fr.trans HX.o.2.2.2.1 k2 (fun _ _ h => h) (fun _ _ h => .inl h)
        have iL := HX.o.2.2.1.fr k2 H.o.2.2.2.1
        have HN : Hd (zx lo 4 M 0 s = zx lo f' ({ M' with funcs := px }) 2 (t2.fail 2) ∧ ((t2.fail 2)).b.length ≤ 1048576 ∧ Blk W9 gm #[q0, q1, q2, q3, q4, q5, q6, q7, q8, q9, bw, bo, bp, bu, .string (zc ({ M' with funcs := px }).named), (.slice dA dt dB), fQ] 37 ∧ Lay.nam.slice.rd (fun k => (A k ∨ w.heap.size ≤ k) ∧ k < W9.heap.size) W9 [(.slice dA dt dB)] ({ M' with funcs := px }).funcs ∧ Lay.nam.slice.rd (fun k => (A k ∨ w.heap.size ≤ k) ∧ k < W9.heap.size) W9 [fQ] ({ M' with funcs := px }).locals ∧ (zc ({ M' with funcs := px }).named).size ≤ maxLen ∧ SpR D g lo (t2.fail 2) W9 ∧ Fr (fun k => k = g ∨ k = gm) w W9) := ⟨by rw [ck.o, mD.o, if_pos (.inr (List.length_pos_iff.1 hpb))], nzQ _, iL, zT HX.o.2.2.2.2 k2 (fun k hk => ⟨hk.2, fun e => by have e' : k = g := e; have := H.o.1.1; have := hk.1; omega⟩) (fun k hk => ⟨.inr hk.1, nqQ hk.2 k2.size⟩), zT hV.o.2.2.2.2.1 dS (fun k hk => ⟨hk.2, fun e => by
         rcases hk.1 with q | q
         ·rcases e with e | e
          ·exact (H.o.2.2.2.2.2 k q).2.1 e
          ·exact (H.o.2.2.2.2.2 k q).2.2 e
         ·have := H.o.1.1; have := H.o.2.2.1; rcases e with e | e <;> omega⟩) (fun k hk => ⟨hk.1, nqQ hk.2 dS.size⟩), hV.o.2.2.2.2.2.1, k1, Fr.trans hV.o.2.2.2.2.2.2.2 dS (fun _ _ h => h) (fun _ _ h => h)⟩
        clear k1 k2 dS iL hV HX HS
        go_wp2
        go_roundw
        case rel => exact ⟨f', 2, _, _, _, _, by go_num, by omega, by omega, HN.o⟩
        case measure => simp [intOf]; omega
       ·have dp : decide ((0 : Int) < (p2.b.length : Int)) = false := decide_eq_false (by omega)
        have tR : decide (0 < p2.b.length) = false := decide_eq_false hpb
        have HN : Hd (zx lo 4 M 0 s = zx lo f' ({ M' with funcs := px }) 2 t2 ∧ (t2).b.length ≤ 1048576 ∧ Blk W8 gm #[q0, q1, q2, q3, q4, q5, q6, q7, q8, q9, bw, bo, bp, bu, .string (zc ({ M' with funcs := px }).named), (.slice dA dt dB), fQ] 37 ∧ Lay.nam.slice.rd (fun k => (A k ∨ w.heap.size ≤ k) ∧ k < W8.heap.size) W8 [(.slice dA dt dB)] ({ M' with funcs := px }).funcs ∧ Lay.nam.slice.rd (fun k => (A k ∨ w.heap.size ≤ k) ∧ k < W8.heap.size) W8 [fQ] ({ M' with funcs := px }).locals ∧ (zc ({ M' with funcs := px }).named).size ≤ maxLen ∧ SpR D g lo t2 W8 ∧ Fr (fun k => k = g ∨ k = gm) w W8) := ⟨by rw [ck.o, mD.o, if_neg (fun h => h.elim (fun h => h hp) (fun h => hpb (List.length_pos_iff.2 h)))], f9.o, HX.o.2.2.1, zT HX.o.2.2.2.2 (Fr.refl (fun k => k = g) W8) (fun k hk => ⟨hk.2, fun e => by have e' : k = g := e; have := H.o.1.1; have := hk.1; omega⟩) (fun k hk => ⟨.inr hk.1, nqQ hk.2 (Fr.refl (fun k => k = g) W8).size⟩), zT hV.o.2.2.2.2.1 HX.o.2.2.2.1 (fun k hk => ⟨hk.2, fun e => by
         rcases hk.1 with q | q
         ·rcases e with e | e
          ·exact (H.o.2.2.2.2.2 k q).2.1 e
          ·exact (H.o.2.2.2.2.2 k q).2.2 e
         ·have := H.o.1.1; have := H.o.2.2.1; rcases e with e | e <;> omega⟩) (fun k hk => ⟨hk.1, nqQ hk.2 HX.o.2.2.2.1.size⟩), hV.o.2.2.2.2.2.1, HX.o.2.1, Fr.trans hV.o.2.2.2.2.2.2.2 HX.o.2.2.2.1 (fun _ _ h => h) (fun _ _ h => h)⟩
        clear hV HX HS
        go_wp2
        go_roundw
        case rel => exact ⟨f', 2, _, _, _, _, by go_num, by omega, by omega, HN.o⟩
        case measure => simp [intOf]; omega
      ·rw [decide_eq_false hp]
       go_wp2_with fail
       refine (zr D g lo t2 2 W8 HX.o.2.1).mono ?_
       rintro e W9 ⟨rfl, k1, k2⟩
       have dS : Fr (fun k => k = g ∨ k = gm) w2 W9 := Fr.trans HX.o.2.2.2.1 k2 (fun _ _ h => h) (fun _ _ h => .inl h)
       have iL := HX.o.2.2.1.fr k2 H.o.2.2.2.1
       have HN : Hd (zx lo 4 M 0 s = zx lo f' ({ M' with funcs := px }) 2 (t2.fail 2) ∧ ((t2.fail 2)).b.length ≤ 1048576 ∧ Blk W9 gm #[q0, q1, q2, q3, q4, q5, q6, q7, q8, q9, bw, bo, bp, bu, .string (zc ({ M' with funcs := px }).named), (.slice dA dt dB), fQ] 37 ∧ Lay.nam.slice.rd (fun k => (A k ∨ w.heap.size ≤ k) ∧ k < W9.heap.size) W9 [(.slice dA dt dB)] ({ M' with funcs := px }).funcs ∧ Lay.nam.slice.rd (fun k => (A k ∨ w.heap.size ≤ k) ∧ k < W9.heap.size) W9 [fQ] ({ M' with funcs := px }).locals ∧ (zc ({ M' with funcs := px }).named).size ≤ maxLen ∧ SpR D g lo (t2.fail 2) W9 ∧ Fr (fun k => k = g ∨ k = gm) w W9) := ⟨by rw [ck.o, mD.o, if_pos (.inl hp)], nzQ _, iL, zT HX.o.2.2.2.2 k2 (fun k hk => ⟨hk.2, fun e => by have e' : k = g := e; have := H.o.1.1; have := hk.1; omega⟩) (fun k hk => ⟨.inr hk.1, nqQ hk.2 k2.size⟩), zT hV.o.2.2.2.2.1 dS (fun k hk => ⟨hk.2, fun e => by
        rcases hk.1 with q | q
        ·rcases e with e | e
         ·exact (H.o.2.2.2.2.2 k q).2.1 e
         ·exact (H.o.2.2.2.2.2 k q).2.2 e
        ·have := H.o.1.1; have := H.o.2.2.1; rcases e with e | e <;> omega⟩) (fun k hk => ⟨hk.1, nqQ hk.2 dS.size⟩), hV.o.2.2.2.2.2.1, k1, Fr.trans hV.o.2.2.2.2.2.2.2 dS (fun _ _ h => h) (fun _ _ h => h)⟩
       clear k1 k2 dS iL hV HX HS
       go_wp2
       go_roundw
       case rel => exact ⟨f', 2, _, _, _, _, by go_num, by omega, by omega, HN.o⟩
       case measure => simp [intOf]; omega
     ·go_wp2_with fail
      refine (zd4 HS.o.1 ch.o).mono ?_
      rintro e W6 ⟨v, rfl, k0, k1, k2⟩
      have lu := k0.slice
      obtain ⟨dA, dt, dB, rfl⟩ := jh lu
      obtain ⟨pq, nX⟩ := exQ (yZ lo ⟨bs, 0⟩)
      rw [nX] at k1 lu
      obtain ⟨px, p2⟩ := pq
      clear k0
      dsimp only at k1 lu
      have mD := qh (show JN lo 2 M' ⟨bs, 0⟩ = ({ M' with locals := px }, p2) from by show ({ M' with locals := (yZ lo ⟨bs, 0⟩).1 }, (yZ lo ⟨bs, 0⟩).2) = _; rw [nX])
      have hK : Hd (SpR D gs lo p2 W6 ∧ Fr (fun k => k = gs) W5 W6 ∧ Blk W6 gm #[q0, q1, q2, q3, q4, q5, q6, q7, q8, q9, bw, bo, bp, bu, .string (zc M'.named), fL, fQ] 37 ∧ Lay.nam.slice.rd (fun k => W5.heap.size ≤ k ∧ k < W6.heap.size) W6 [.slice dA dt dB] px) := ⟨k1, k2, nR.fr k2 (fun e => fH.o.2.1 e.symm), lu⟩
      clear k1 k2 nR bh oY
      have bh := hK.o.2.2.1.cell
      have oY := hK.o.2.2.1.frz
      go_wp2_with fail
      have eP := zh W6 ⟨gm, 16, none⟩ (.slice dA dt dB)
      have HX : Hd (SpR D gs lo p2 (W6.setCell ⟨gm, 16, none⟩ (.slice dA dt dB)) ∧ SpR D g lo t2 (W6.setCell ⟨gm, 16, none⟩ (.slice dA dt dB)) ∧ Blk (W6.setCell ⟨gm, 16, none⟩ (.slice dA dt dB)) gm #[q0, q1, q2, q3, q4, q5, q6, q7, q8, q9, bw, bo, bp, bu, .string (zc M'.named), fL, (.slice dA dt dB)] 37 ∧ Fr (fun k => k = g ∨ k = gm) w2 (W6.setCell ⟨gm, 16, none⟩ (.slice dA dt dB)) ∧ Lay.nam.slice.rd (fun k => w.heap.size ≤ k ∧ k < (W6.setCell ⟨gm, 16, none⟩ (.slice dA dt dB)).heap.size) (W6.setCell ⟨gm, 16, none⟩ (.slice dA dt dB)) [.slice dA dt dB] px) := by
       refine ⟨hK.o.1.fr eP (fun e => fH.o.2.1 e) (fun k hk e => H.o.2.2.2.2.1 k hk e), (HS.o.2.1.fr hK.o.2.1 (fun e => fH.o.1 e.symm) (fun k hk e => fH.o.2.2 k hk e)).fr eP (fun e => H.o.2.2.2.1 e.symm) (fun k hk e => H.o.2.2.2.2.1 k hk e), ?_, ?_, ?_⟩
       ·have := hK.o.2.2.1.set 16 (.slice dA dt dB)
        simpa using this
       ·exact (Fr.trans (Fr.trans HS.o.2.2.1 hK.o.2.1 (U := fun k => k = g ∨ k = gs) (fun _ _ h => .inl h) (fun _ _ h => .inr h)) eP (U := fun k => k = g ∨ k = gs ∨ k = gm) (fun _ _ h => h.elim .inl (fun h => .inr (.inl h))) (fun _ _ h => .inr (.inr h))).mono (fun k hk e => by
         rcases e with e | e | e
         ·exact .inl e
         ·have := HS.o.2.2.2; omega
         ·exact .inr e)
       ·exact zT hK.o.2.2.2 eP (fun k hk => ⟨hk.2, fun e => by have e' : k = gm := e; have := hk.1; have := H.o.2.2.1; have := hV.o.2.2.2.2.2.2.2.size; have := HS.o.2.2.1.size; omega⟩) (fun k hk => ⟨by have := hk.1; have := hV.o.2.2.2.2.2.2.2.size; have := HS.o.2.2.1.size; omega, by have := hk.2; simpa using this⟩)
      clear eP bh oY hK
      generalize W6.setCell ⟨gm, 16, none⟩ (.slice dA dt dB) = W7 at *
      obtain ⟨BI, B7, pa, my, m3⟩ := HX.o.1
      have oZ := pa.cell
      clear pa my m3
      refine (yh HX.o.1).mono ?_
      rintro e W8 ⟨rfl, rfl⟩
      by_cases hp : p2.v = 0
      ·rw [decide_eq_true hp]
       by_cases hpb : 0 < p2.b.length
       ·have dp : decide ((0 : Int) < (p2.b.length : Int)) = true := decide_eq_true (by omega)
        have tR : decide (0 < p2.b.length) = true := decide_eq_true hpb
        go_wp2_with fail
        refine (zr D g lo t2 2 W8 HX.o.2.1).mono ?_
        rintro e W9 ⟨rfl, k1, k2⟩
        have dS : Fr (fun k => k = g ∨ k = gm) w2 W9 := Fr.trans HX.o.2.2.2.1 k2 (fun _ _ h => h) (fun _ _ h => .inl h)
        have iL := HX.o.2.2.1.fr k2 H.o.2.2.2.1
        have HN : Hd (zx lo 4 M 0 s = zx lo f' ({ M' with locals := px }) 3 (t2.fail 2) ∧ ((t2.fail 2)).b.length ≤ 1048576 ∧ Blk W9 gm #[q0, q1, q2, q3, q4, q5, q6, q7, q8, q9, bw, bo, bp, bu, .string (zc ({ M' with locals := px }).named), fL, (.slice dA dt dB)] 37 ∧ Lay.nam.slice.rd (fun k => (A k ∨ w.heap.size ≤ k) ∧ k < W9.heap.size) W9 [fL] ({ M' with locals := px }).funcs ∧ Lay.nam.slice.rd (fun k => (A k ∨ w.heap.size ≤ k) ∧ k < W9.heap.size) W9 [(.slice dA dt dB)] ({ M' with locals := px }).locals ∧ (zc ({ M' with locals := px }).named).size ≤ maxLen ∧ SpR D g lo (t2.fail 2) W9 ∧ Fr (fun k => k = g ∨ k = gm) w W9) := ⟨by rw [ck.o, mD.o, if_pos (.inr (List.length_pos_iff.1 hpb))], nzQ _, iL, zT hV.o.2.2.2.1 dS (fun k hk => ⟨hk.2, fun e => by
         rcases hk.1 with q | q
         ·rcases e with e | e
          ·exact (H.o.2.2.2.2.2 k q).2.1 e
          ·exact (H.o.2.2.2.2.2 k q).2.2 e
         ·have := H.o.1.1; have := H.o.2.2.1; rcases e with e | e <;> omega⟩) (fun k hk => ⟨hk.1, nqQ hk.2 dS.size⟩), zT HX.o.2.2.2.2 k2 (fun k hk => ⟨hk.2, fun e => by have e' : k = g := e; have := H.o.1.1; have := hk.1; omega⟩) (fun k hk => ⟨.inr hk.1, nqQ hk.2 k2.size⟩), hV.o.2.2.2.2.2.1, k1, Fr.trans hV.o.2.2.2.2.2.2.2 dS (fun _ _ h => h) (fun _ _ h => h)⟩
        clear k1 k2 dS iL hV HX HS
        go_wp2
        go_roundw
        case rel => exact ⟨f', 3, _, _, _, _, by go_num, by omega, by omega, HN.o⟩
        case measure => simp [intOf]; omega
       ·have dp : decide ((0 : Int) < (p2.b.length : Int)) = false := decide_eq_false (by omega)
        have tR : decide (0 < p2.b.length) = false := decide_eq_false hpb
        have HN : Hd (zx lo 4 M 0 s = zx lo f' ({ M' with locals := px }) 3 t2 ∧ (t2).b.length ≤ 1048576 ∧ Blk W8 gm #[q0, q1, q2, q3, q4, q5, q6, q7, q8, q9, bw, bo, bp, bu, .string (zc ({ M' with locals := px }).named), fL, (.slice dA dt dB)] 37 ∧ Lay.nam.slice.rd (fun k => (A k ∨ w.heap.size ≤ k) ∧ k < W8.heap.size) W8 [fL] ({ M' with locals := px }).funcs ∧ Lay.nam.slice.rd (fun k => (A k ∨ w.heap.size ≤ k) ∧ k < W8.heap.size) W8 [(.slice dA dt dB)] ({ M' with locals := px }).locals ∧ (zc ({ M' with locals := px }).named).size ≤ maxLen ∧ SpR D g lo t2 W8 ∧ Fr (fun k => k = g ∨ k = gm) w W8) := ⟨by rw [ck.o, mD.o, if_neg (fun h => h.elim (fun h => h hp) (fun h => hpb (List.length_pos_iff.2 h)))], f9.o, HX.o.2.2.1, zT hV.o.2.2.2.1 HX.o.2.2.2.1 (fun k hk => ⟨hk.2, fun e => by
         rcases hk.1 with q | q
         ·rcases e with e | e
          ·exact (H.o.2.2.2.2.2 k q).2.1 e
          ·exact (H.o.2.2.2.2.2 k q).2.2 e
         ·have := H.o.1.1; have := H.o.2.2.1; rcases e with e | e <;> omega⟩) (fun k hk => ⟨hk.1, nqQ hk.2 HX.o.2.2.2.1.size⟩), zT HX.o.2.2.2.2 (Fr.refl (fun k => k = g) W8) (fun k hk => ⟨hk.2, fun e => by have e' : k = g := e; have := H.o.1.1; have := hk.1; omega⟩) (fun k hk => ⟨.inr hk.1, nqQ hk.2 (Fr.refl (fun k => k = g) W8).size⟩), hV.o.2.2.2.2.2.1, HX.o.2.1, Fr.trans hV.o.2.2.2.2.2.2.2 HX.o.2.2.2.1 (fun _ _ h => h) (fun _ _ h => h)⟩
        clear hV HX HS
        go_wp2
        go_roundw
        case rel => exact ⟨f', 3, _, _, _, _, by go_num, by omega, by omega, HN.o⟩
        case measure => simp [intOf]; omega
      ·rw [decide_eq_false hp]
       go_wp2_with fail
       refine (zr D g lo t2 2 W8 HX.o.2.1).mono ?_
       rintro e W9 ⟨rfl, k1, k2⟩
       have dS : Fr (fun k => k = g ∨ k = gm) w2 W9 := Fr.trans HX.o.2.2.2.1 k2 (fun _ _ h => h) (fun _ _ h => .inl h)
       have iL := HX.o.2.2.1.fr k2 H.o.2.2.2.1
       have HN : Hd (zx lo 4 M 0 s = zx lo f' ({ M' with locals := px }) 3 (t2.fail 2) ∧ ((t2.fail 2)).b.length ≤ 1048576 ∧ Blk W9 gm #[q0, q1, q2, q3, q4, q5, q6, q7, q8, q9, bw, bo, bp, bu, .string (zc ({ M' with locals := px }).named), fL, (.slice dA dt dB)] 37 ∧ Lay.nam.slice.rd (fun k => (A k ∨ w.heap.size ≤ k) ∧ k < W9.heap.size) W9 [fL] ({ M' with locals := px }).funcs ∧ Lay.nam.slice.rd (fun k => (A k ∨ w.heap.size ≤ k) ∧ k < W9.heap.size) W9 [(.slice dA dt dB)] ({ M' with locals := px }).locals ∧ (zc ({ M' with locals := px }).named).size ≤ maxLen ∧ SpR D g lo (t2.fail 2) W9 ∧ Fr (fun k => k = g ∨ k = gm) w W9) := ⟨by rw [ck.o, mD.o, if_pos (.inl hp)], nzQ _, iL, zT hV.o.2.2.2.1 dS (fun k hk => ⟨hk.2, fun e => by
        rcases hk.1 with q | q
        ·rcases e with e | e
         ·exact (H.o.2.2.2.2.2 k q).2.1 e
         ·exact (H.o.2.2.2.2.2 k q).2.2 e
        ·have := H.o.1.1; have := H.o.2.2.1; rcases e with e | e <;> omega⟩) (fun k hk => ⟨hk.1, nqQ hk.2 dS.size⟩), zT HX.o.2.2.2.2 k2 (fun k hk => ⟨hk.2, fun e => by have e' : k = g := e; have := H.o.1.1; have := hk.1; omega⟩) (fun k hk => ⟨.inr hk.1, nqQ hk.2 k2.size⟩), hV.o.2.2.2.2.2.1, k1, Fr.trans hV.o.2.2.2.2.2.2.2 dS (fun _ _ h => h) (fun _ _ h => h)⟩
       clear k1 k2 dS iL hV HX HS
       go_wp2
       go_roundw
       case rel => exact ⟨f', 3, _, _, _, _, by go_num, by omega, by omega, HN.o⟩
       case measure => simp [intOf]; omega
   ·have dl : decide ((0 : Int) < (s'.b.length : Int)) = false := decide_eq_false (by omega)
    have AE : decide (0 < s'.b.length) = false := decide_eq_false hb
    have ai := kG.o (fun h => hb (List.length_pos_iff.2 h.2))
    have dy := qh (show ∃ dk dm, Blk w2 gm #[q0, q1, q2, q3, q4, q5, q6, q7, q8, q9, bw, bo, bp, bu, .string (zc (zx lo 4 M 0 s).1.named), dk, dm] 37 ∧ Lay.nam.slice.rd (fun k => (A k ∨ w.heap.size ≤ k) ∧ k < w2.heap.size) w2 [dk] (zx lo 4 M 0 s).1.funcs ∧ Lay.nam.slice.rd (fun k => (A k ∨ w.heap.size ≤ k) ∧ k < w2.heap.size) w2 [dm] (zx lo 4 M 0 s).1.locals ∧ (zc (zx lo 4 M 0 s).1.named).size ≤ maxLen ∧ SpR D g lo (zx lo 4 M 0 s).2 w2 ∧ Fr (fun k => k = g ∨ k = gm) w w2 from ⟨fL, fQ, by rw [ai]; exact hV.o.2.2⟩)
    clear hV kG ck ai
    go_wp2
    go_end0
    exact ⟨rfl, dy.o⟩
  ·rw [decide_eq_false hv]
   have ai := kG.o (fun h => hv h.1)
   have dy := qh (show ∃ dk dm, Blk w2 gm #[q0, q1, q2, q3, q4, q5, q6, q7, q8, q9, bw, bo, bp, bu, .string (zc (zx lo 4 M 0 s).1.named), dk, dm] 37 ∧ Lay.nam.slice.rd (fun k => (A k ∨ w.heap.size ≤ k) ∧ k < w2.heap.size) w2 [dk] (zx lo 4 M 0 s).1.funcs ∧ Lay.nam.slice.rd (fun k => (A k ∨ w.heap.size ≤ k) ∧ k < w2.heap.size) w2 [dm] (zx lo 4 M 0 s).1.locals ∧ (zc (zx lo 4 M 0 s).1.named).size ≤ maxLen ∧ SpR D g lo (zx lo 4 M 0 s).2 w2 ∧ Fr (fun k => k = g ∨ k = gm) w w2 from ⟨fL, fQ, by rw [ai]; exact hV.o.2.2⟩)
   clear hV kG ck ai
   go_wp2
   go_end0
   exact ⟨rfl, dy.o⟩
end Go.Proofs.YtejgninpjhcgnaaGreatDoor
