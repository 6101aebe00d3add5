/- Texts of this proof, one behind the other. -/
import Derived.Test.YtejgninpjhcgnaaGreatDoorPart9
namespace Go.Proofs.YtejgninpjhcgnaaGreatDoor
open Go.RowKit
set_option linter.unusedSimpArgs false
set_option linter.unusedVariables false
set_option maxRecDepth 100000
set_option maxHeartbeats 2000000
def zw (s : List UInt8) : List UInt8 := uleb s.length ++ s
theorem yc (lo g : Nat) (st : ByteArray) (bs : List UInt8) (w : World) (hS : yx.is lo g bs w) (ap : lo ≤ w.heap.size) (hl : bs.length + st.size + 20 ≤ zH) :
 Calls Tryz.prog 23 #[.pointer (some ⟨g, 0, none⟩), .string st] w fun e w' => e = .returned (.tuple #[]) ∧ Wrote yx lo g w (bs ++ zw st.data.toList) w' := by
 have cl : st.data.toList.length = st.size := by simp
 have hst : st.size < 18446744073709551616 := by simp only [zH] at hl; omega
 have CM : (st.size : Int) ≤ 9223372036854775807 := by simp only [zH] at hl; omega
 have dN : IntKind.u64.wrap (st.size : Int) = (st.size : Int) := by rw [IntKind.wrap_u64]; omega
 have kP := zI st.size hst
 have H := qh (anQ hS (anQ ap (anQ hl (anQ hst (anQ kP cl)))))
 clear hS ap hl hst cl kP
 go_enter Tryz.func23, Tryz.ntmps23
 go_wp2_with fail
 refine (zg lo g st.size H.o.2.2.2.1 bs w H.o.1 H.o.2.1 (by have := H.o.2.2.1; omega)).mono ?_
 rintro e w1 ⟨rfl, hW⟩
 obtain ⟨hg, v, hb, ho, aO⟩ := hW.is
 have hc := hb.cell 0
 have hf := hb.frz 0
 simp only [List.getElem?_toArray, List.getElem?_cons_zero] at hc
 obtain ⟨aa, n, cap, rfl⟩ := ho.shape
 have H1 := qh (anQ hW (anQ hg (anQ hb (anQ ho aO))))
 clear hW hg hb ho aO
 go_wp2_with (at_builtin; refine Hd.o ?_)
 refine zfI lo rfl (.tmp 12) (.tmp 13) _ _ _ rfl Tryz.underlying86 Tryz.underlying9 zi3 (.slice aa n cap) (bs ++ uleb st.size) st rfl rfl H1.o.2.2.2.1 (nlQ H.o.2.1 H1.o.1.fr.size) (by have := H.o.2.2.1; have := H.o.2.2.2.2.1; rw [laQ]; simp only [zH] at *; omega) ?_
 intro v1 w2 h1 h2 h3
 have cV := H1.o.2.2.1.fr h2 (fun e => H1.o.2.2.2.2 e.symm)
 have dj := cV.frz 0
 have db := cV.cell 0
 simp only [List.getElem?_toArray, List.getElem?_cons_zero] at db
 have H2 := qh (anQ h1 (anQ h2 h3))
 obtain ⟨kF, n1, cR, rfl⟩ := h1.shape
 clear h1 h2 h3 cV hc hf
 go_wp2
 go_end0
 refine ⟨rfl, H1.o.1.trans ?_⟩
 have := YC H1.o.2.1 H1.o.2.2.1 H1.o.2.2.2.2 H2.o.1 H2.o.2.1 H2.o.2.2
 rw [zw, ← List.append_assoc, H.o.2.2.2.2.2]
 exact this
def j0 (b : Bool) : List UInt8 := uleb (if b then 1 else 0)
def yQ (l : Lim) : List UInt8 := uleb l.min.toNat ++ (j0 l.bounded ++ if l.bounded then uleb l.max.toNat else [])
def jD (l : List Lim) : List UInt8 := uleb l.length ++ l.flatMap yQ
def jW (n : UInt32) : List UInt8 := uleb n.toNat
def Zl (l : List UInt32) : List UInt8 := uleb l.length ++ l.flatMap jW
def JI (t : FT) : List UInt8 := zw (J4 (t.ps, t.rs))
def yR (i : Imp) : List UInt8 := zw i.mdl ++ (zw i.name ++ (Jc i.kind ++ (uleb i.index.toNat ++ (jD [i.lim] ++ (Jc i.ty ++ j0 i.mtb)))))
def yF (e : Elem) : List UInt8 := uleb e.index.toNat ++ (zby e.off ++ Zl e.ids)
def yG (g : Glob) : List UInt8 := Jc g.ty ++ (j0 g.mtb ++ zby g.init)
def ym (e : Expo) : List UInt8 := zw e.name ++ (Jc e.kind ++ uleb e.index.toNat)
def jf (d : Dat) : List UInt8 := uleb d.index.toNat ++ (zby d.off ++ zw d.init)
def y8 (c : Cus) : List UInt8 := zw c.name ++ zw c.data
def yM (n : Nam) : List UInt8 := uleb n.fn.toNat ++ (uleb n.idx.toNat ++ zw n.name)
def jX (l : List Nam) : List UInt8 := uleb l.length ++ l.flatMap yM
def JO (bP : List Nam) (f : UInt32) : Nat → Nat
 | 0 => 0
 | k + 1 => match bP[k]? with
  | some x => if f.toNat < x.fn.toNat then JO bP f k else k + 1
  | none => k + 1
def insN (bP : List Nam) (n : Nam) : List Nam := bP.take (JO bP n.fn bP.length) ++ n :: bP.drop (JO bP n.fn bP.length)
def Jw (l : List Nam) : List Nam := l.foldl insN []
def j7 (m : Mod) : List UInt8 := j0 m.hasStart ++ if m.hasStart then uleb m.start.toNat else []
def yn (m : Mod) : List UInt8 :=
 j7 m ++ (uleb m.types.length ++ m.types.flatMap JI) ++ (uleb m.imports.length ++ m.imports.flatMap yR) ++ Zl m.functions ++ jD m.tables ++ jD m.memories ++
 (uleb m.elements.length ++ m.elements.flatMap yF) ++ (uleb m.globals.length ++ m.globals.flatMap yG) ++ (uleb m.exports.length ++ m.exports.flatMap ym) ++
 (uleb m.codes.length ++ m.codes.flatMap zw) ++ (uleb m.datas.length ++ m.datas.flatMap jf) ++ (uleb m.customs.length ++ m.customs.flatMap y8) ++ zw m.named ++ jX m.funcs ++ jX (Jw m.locals)
variable {α : Type} {f : α → List UInt8} {l : List α} {i : Nat}
theorem jv (h : i < l.length) : ∃ m, l.flatMap f = (l.take i).flatMap f ++ (f l[i] ++ m) := by
 refine ⟨(l.drop (i + 1)).flatMap f, ?_⟩
 have : l = l.take i ++ (l[i] :: l.drop (i + 1)) := by rw [← List.drop_eq_getElem_cons h, List.take_append_drop]
 conv => lhs; rw [this]
 rw [List.flatMap_append, List.flatMap_cons]
theorem yr (h : i < l.length) : (l.take (i + 1)).flatMap f = (l.take i).flatMap f ++ f l[i] := by
 rw [tsQ h, List.flatMap_append]; simp
variable {lo g b : Nat} {w w' : World} {cs : Array Value} {T : TypeId}
theorem Yd {S : Hold} {bs : List UInt8} (h : Wrote S lo g w bs w') (hb : Blk w b cs T) (hn : ¬ S.foot w g b) : Blk w' b cs T ∧ ¬ S.foot w' g b :=
 ⟨hb.fr h.fr hn, fun hf => (h.foot b hf).elim hn (fun h' => by have := hb.lt; omega)⟩
structure KSt (w : World) (lo g : Nat) (pre : List UInt8) (wc : World) (bx : List (Nat × Array Value × TypeId)) : Prop where
 is : yx.is lo g pre wc
 lo : lo ≤ wc.heap.size
 ext : Ext w wc
 box : ∀ b ∈ bx, Blk wc b.1 b.2.1 b.2.2 ∧ ¬ yx.foot wc g b.1
variable {pre pre' : List UInt8} {wc : World} {bx : List (Nat × Array Value × TypeId)}
theorem KSt.step (h : KSt w lo g pre wc bx) (hw : w.heap.size ≤ lo) (hR : Wrote yx lo g wc pre' w') : KSt w lo g pre' w' bx :=
 ⟨hR.is, nlQ h.lo hR.fr.size, Fr.new (Ext.fr h.ext (Wrote.below h.is hR)) (fun _ hk => nlQ hw hk), fun b hb => Yd hR (h.box b hb).1 (h.box b hb).2⟩
theorem KSt.grow (h : KSt w lo g pre wc bx) (hx : Ext wc w') : KSt w lo g pre w' bx :=
 have hf := yx.frame h.is hx (fun _ _ h => h)
 ⟨hf.1, nlQ h.lo hx.size, Ext.trans h.ext hx, fun b hb => ⟨(h.box b hb).1.ext hx, fun q => (h.box b hb).2 ((hf.2 _).1 q)⟩⟩
theorem KSt.push (h : KSt w lo g pre wc bx) (cs : Array Value) (T : TypeId) : KSt w lo g pre (wc.alloc (.cells cs T)) ((wc.heap.size, cs, T) :: bx) := by
 have h' := h.grow (za wc (.cells cs T))
 refine ⟨h'.is, h'.lo, h'.ext, fun b hb => ?_⟩
 rcases List.mem_cons.1 hb with rfl | hb
 ·exact ⟨zk wc cs T, (Zk h.is _).2⟩
 ·exact h'.box b hb
theorem KSt.pop {b : Nat × Array Value × TypeId} (h : KSt w lo g pre wc (b :: bx)) : KSt w lo g pre wc bx := ⟨h.is, h.lo, h.ext, fun c hc => h.box c (List.mem_cons_of_mem _ hc)⟩
theorem KSt.box0 (h : KSt w lo g pre wc ((b, cs, T) :: bx)) : ∀ j, wc.cell? ⟨b, j, none⟩ = cs[j]? := (h.box _ (.head _)).1.cell
theorem KSt.box1 {b0 : Nat × Array Value × TypeId} (h : KSt w lo g pre wc (b0 :: (b, cs, T) :: bx)) : ∀ j, wc.cell? ⟨b, j, none⟩ = cs[j]? := (h.box _ (.tail _ (.head _))).1.cell
variable {A : Nat → Prop}
theorem KSt.rd {l : Lay α} (h : KSt w lo g pre wc bx) {cs : List Value} {x : α} (hR : l.rd A w cs x) (hA : ∀ k, A k → k < w.heap.size) : l.rd A wc cs x :=
 Lay.fr hR h.ext (fun k hk => ⟨hA k hk, fun h => h⟩)
theorem KSt.conv (h : KSt w lo g pre wc bx) (e : pre = pre') : KSt w lo g pre' wc bx := e ▸ h
theorem ze9 {f : α → Value} {h1 : ∀ x, (f x).oneCell' = true} {a : Option Addr} {m cap : Nat} {xs : List α} (h : (Lay.cell1 f h1).slice.rd A w [.slice a m cap] xs) (i : Nat) (hi : i < xs.length) :
 ∃ b o, a = some ⟨b, o, none⟩ ∧ w.cell? ⟨b, o + i, none⟩ = some (f xs[i]) := by
 have hm : xs.length = m := by obtain ⟨_, _, e, _⟩ := h; simp only [List.cons.injEq, Value.slice.injEq, and_true] at e; exact e.2.1.symm
 obtain ⟨b, o, es, er, e, hA, _, hr, hc⟩ := Lay.slice_at h i (by omega)
 obtain rfl : es = [f xs[i]] := hr
 exact ⟨b, o, e, by rw [show o + i = o + i * 1 from by omega]; exact hc 0 (by show 0 < 1; omega)⟩
theorem y9 {n : Nat} (h : i < l.length) (hn : (l.flatMap f).length ≤ n) : ((l.take i).flatMap f).length + (f l[i]).length ≤ n := by
 obtain ⟨m, e⟩ := jv (f := f) h
 rw [e] at hn
 simp only [laQ] at hn
 omega
theorem JP (S : Sink) (lo g : Nat) (l : List UInt32) (aa : Option Addr) (m c : Nat) (A : Nat → Prop) (bs : List UInt8) (w : World) (hS : S.is lo g bs w) (hR : Lay.u32.slice.rd A w [.slice aa m c] l) (hA : Away S.toHold g w A) (ap : lo ≤ w.heap.size) (hn : l.length < 4294967296) (hl : bs.length + (wVec wNum l).length + 20 ≤ 70368744177664) :
 Calls Tryz.prog 118 #[.iface S.T (.pointer (some ⟨g, 0, none⟩)), .slice aa m c] w fun e w' => e = .returned .nilIface ∧ Wrote S.toHold lo g w (bs ++ wVec wNum l) w' := by
 obtain ⟨a', c', e, ce, bh⟩ := Lay.slice_form hR
 obtain ⟨rfl, rfl, rfl⟩ : aa = a' ∧ m = l.length ∧ c = c' := by simpa using e
 have ao : (l.length : Int) ≤ 9223372036854775807 := by simp only [maxLen] at bh; omega
 obtain ⟨dN, dQ⟩ := jd hn
 have K0 := qh (WK.start hS ap)
 have aj := qh (show bs.length + ((uleb l.length).length + (l.flatMap wNum).length) + 20 ≤ 70368744177664 from by simpa [wVec] using hl)
 have H := qh (anQ hR (anQ hA hn))
 clear hS hR hA ap hl ce bh e
 go_enter Tryz.func118, Tryz.ntmps118
 go_wp2_with fail
 refine (zf S lo g l.length H.o.2.2 bs w K0.o.is K0.o.lo (by have := aj.o; omega)).mono ?_
 rintro e w1 ⟨rfl, k⟩
 have K1 := qh (K0.o.step k)
 clear k
 go_wp2_with fail
 go_loopw [18] (fun qu w' => ∃ (i : Nat), i ≤ l.length ∧ qu = .int .i64 i ∧ Hd (WK S lo g w w' (bs ++ (uleb l.length ++ (l.take i).flatMap wNum)) [])) (fun qu _ => l.length - (intOf qu).toNat)
 case atStart => exact ⟨0, nzQ _, rfl, K1.o.eq (by simp)⟩
 case round =>
  obtain ⟨i, hi, rfl, hV⟩ := hrel
  by_cases ah : i < l.length
  ·obtain ⟨b, o, rfl, e0⟩ := ze9 (f := fun x : UInt32 => Value.int .u32 (x.toNat : Int)) (h1 := fun _ => rfl) (hV.o.rd H.o.1 H.o.2.1) i ah
   have aX := qh (yr (f := wNum) ah)
   have ci := qh (y9 (f := wNum) ah (Nat.le_refl _))
   have dR := qh (List.getElem_mem ah)
   generalize l[i] = x at *
   have sX := x.toNat_lt
   have iq := qh (show wNum x = uleb x.toNat from rfl)
   generalize wNum x = q at *
   generalize x.toNat = n at *
   go_wp2_with fail
   refine (zf S lo g n (by omega) _ wr hV.o.is hV.o.lo (by have := aj.o; have := ci.o; have := iq.o; subst this; simp only [laQ] at this ⊢; omega)).mono ?_
   rintro e w2 ⟨rfl, k⟩
   rw [← iq.o] at k
   have K2 := qh ((hV.o.step k).eq (pre' := bs ++ (uleb l.length ++ (l.take (i + 1)).flatMap wNum)) (by rw [aX.o]; simp only [List.append_assoc]))
   clear k
   go_wp2
   go_roundw
   case rel => exact ⟨i + 1, by omega, by go_num, K2⟩
   case measure => simp [intOf]; omega
  ·obtain rfl : i = l.length := by omega
   have ai := hV.o
   rw [tlQ] at ai
   have ai := qh ai
   go_wp2
   go_ret
   exact ⟨rfl, ai.o.wr⟩
theorem jl (S : Sink) (lo g : Nat) (l : List Int) (aa : Option Addr) (m c : Nat) (A : Nat → Prop) (bs : List UInt8) (w : World) (hS : S.is lo g bs w) (hR : Lay.int.slice.rd A w [.slice aa m c] l) (hA : Away S.toHold g w A) (ap : lo ≤ w.heap.size) (hv : ∀ x ∈ l, vtOk x = true) (hn : l.length < 4294967296) (hl : bs.length + (wVec wVT l).length + 20 ≤ 70368744177664) :
 Calls Tryz.prog 147 #[.iface S.T (.pointer (some ⟨g, 0, none⟩)), .slice aa m c] w fun e w' => e = .returned .nilIface ∧ Wrote S.toHold lo g w (bs ++ wVec wVT l) w' := by
 obtain ⟨a', c', e, ce, bh⟩ := Lay.slice_form hR
 obtain ⟨rfl, rfl, rfl⟩ : aa = a' ∧ m = l.length ∧ c = c' := by simpa using e
 have ao : (l.length : Int) ≤ 9223372036854775807 := by simp only [maxLen] at bh; omega
 obtain ⟨dN, dQ⟩ := jd hn
 have K0 := qh (WK.start hS ap)
 have aj := qh (show bs.length + ((uleb l.length).length + (l.flatMap wVT).length) + 20 ≤ 70368744177664 from by simpa [wVec] using hl)
 have H := qh (anQ hR (anQ hA (anQ hn hv)))
 clear hS hR hA ap hl ce bh e hv
 go_enter Tryz.func147, Tryz.ntmps147
 go_wp2_with fail
 refine (zf S lo g l.length H.o.2.2.1 bs w K0.o.is K0.o.lo (by have := aj.o; omega)).mono ?_
 rintro e w1 ⟨rfl, k⟩
 have K1 := qh (K0.o.step k)
 clear k
 go_wp2_with fail
 go_loopw [18] (fun qu w' => ∃ (i : Nat), i ≤ l.length ∧ qu = .int .i64 i ∧ Hd (WK S lo g w w' (bs ++ (uleb l.length ++ (l.take i).flatMap wVT)) [])) (fun qu _ => l.length - (intOf qu).toNat)
 case atStart => exact ⟨0, nzQ _, rfl, K1.o.eq (by simp)⟩
 case round =>
  obtain ⟨i, hi, rfl, hV⟩ := hrel
  by_cases ah : i < l.length
  ·obtain ⟨b, o, rfl, eH, e0, e1, e2⟩ := zbX (hV.o.rd H.o.1 H.o.2.1) i ah
   have aX := qh (yr (f := wVT) ah)
   have ci := qh (y9 (f := wVT) ah (Nat.le_refl _))
   have dR := qh (List.getElem_mem ah)
   generalize l[i] = x at *
   have hx := H.o.2.2.2 x dR.o
   have bY : 0 ≤ x ∧ x ≤ 3 := by unfold vtOk at hx; simpa using hx
   have iq := qh (show wVT x = [UInt8.ofNat (127 - x).toNat] from rfl)
   clear hx e1 e2
   go_wp2_with fail
   refine (jo S lo g x bY _ wr hV.o.is hV.o.lo (by have := aj.o; have := ci.o; have e : (wVT x).length = 1 := rfl; simp only [laQ] at this ⊢; omega)).mono ?_
   rintro e w2 ⟨rfl, k⟩
   rw [← iq.o] at k
   have K2 := qh ((hV.o.step k).eq (pre' := bs ++ (uleb l.length ++ (l.take (i + 1)).flatMap wVT)) (by rw [aX.o]; simp only [List.append_assoc]))
   clear k
   go_wp2
   go_roundw
   case rel => exact ⟨i + 1, by omega, by go_num, K2⟩
   case measure => simp [intOf]; omega
  ·obtain rfl : i = l.length := by omega
   have ai := hV.o
   rw [tlQ] at ai
   have ai := qh ai
   go_wp2
   go_ret
   exact ⟨rfl, ai.o.wr⟩
theorem jk (S : Sink) (lo g : Nat) (x : Lim) (q : Option Addr) (A : Nat → Prop) (bs : List UInt8) (w : World) (hS : S.is lo g bs w) (hR : Lay.wlim.rd A w [.int .u32 (x.min.toNat : Int), .pointer q] x) (hA : Away S.toHold g w A) (ap : lo ≤ w.heap.size) (hl : bs.length + 40 ≤ 70368744177664) :
 Calls Tryz.prog 114 #[.iface S.T (.pointer (some ⟨g, 0, none⟩)), .agg #[.int .u32 (x.min.toNat : Int), .pointer q]] w fun e w' => e = .returned .nilIface ∧ Wrote S.toHold lo g w (bs ++ wLim x) w' := by
 obtain ⟨min, bounded, max⟩ := x
 have sq := min.toNat_lt
 have qB := max.toNat_lt
 have u1 := qh (zI min.toNat (by omega))
 have u2 := qh (zI max.toNat (by omega))
 have K0 := qh (WK.start hS ap)
 have hl := qh hl
 obtain ⟨q', e, h⟩ := hR
 obtain rfl : q = q' := by simpa using e
 clear hS ap e
 simp only at h ⊢
 rcases h with ⟨rfl, rfl⟩ | ⟨rfl, b, o, bO, T, fz, rfl, eH, hb, hc⟩
 ·have hw := qh (show wLim ⟨min, false, max⟩ = 0 :: uleb min.toNat from rfl)
  generalize wLim ⟨min, false, max⟩ = X at *
  generalize min.toNat = mn at *
  clear qB u2
  go_enter Tryz.func114, Tryz.ntmps114
  go_wp2_with fail
  have K1 := qh (K0.o.push #[.int .u32 (mn : Int), .pointer none] 206)
  refine (zm S lo g 0 (by decide) bs _ K1.o.is K1.o.lo (by have := hl.o; omega)).mono ?_
  rintro e w2 ⟨rfl, k⟩
  have K2 := qh (K1.o.step k)
  clear k
  have ag := K2.o.box0
  go_wp2_with fail
  refine (zf S lo g mn sq _ w2 K2.o.is K2.o.lo (by have := hl.o; simp only [laQ, List.length_cons, List.length_nil]; omega)).mono ?_
  rintro e w3 ⟨rfl, k⟩
  have K3 := qh (K2.o.step k)
  clear k ag
  have ag := K3.o.box0
  go_wp2
  go_ret
  exact ⟨rfl, K3.o.wr.eq (by rw [hw.o, List.append_assoc]; rfl)⟩
 ·have hw := qh (show wLim ⟨min, true, max⟩ = 1 :: (uleb min.toNat ++ uleb max.toNat) from rfl)
  generalize wLim ⟨min, true, max⟩ = X at *
  generalize min.toNat = mn at *
  generalize max.toNat = mx at *
  have cX : w.cell? ⟨b, o, none⟩ = some (.int .u32 (mx : Int)) := by rw [Lib.cell_of_heap hb]; exact hc
  have HQ := qh (anQ cX (hA b eH))
  clear hb hc eH cX
  go_enter Tryz.func114, Tryz.ntmps114
  go_wp2_with fail
  have K1 := qh (K0.o.push #[.int .u32 (mn : Int), .pointer (some ⟨b, o, none⟩)] 206)
  refine (zm S lo g 1 (by decide) bs _ K1.o.is K1.o.lo (by have := hl.o; omega)).mono ?_
  rintro e w2 ⟨rfl, k⟩
  have K2 := qh (K1.o.step k)
  clear k
  have ag := K2.o.box0
  go_wp2_with fail
  refine (zf S lo g mn sq _ w2 K2.o.is K2.o.lo (by have := hl.o; simp only [laQ, List.length_cons, List.length_nil]; omega)).mono ?_
  rintro e w3 ⟨rfl, k⟩
  have K3 := qh (K2.o.step k)
  clear k ag
  have ag := K3.o.box0
  have cX := K3.o.wr.fr.cell HQ.o.1 HQ.o.2.2
  go_wp2_with fail
  refine (zf S lo g mx qB _ w3 K3.o.is K3.o.lo (by have := hl.o; have := u1.o; simp only [laQ, List.length_cons, List.length_nil]; omega)).mono ?_
  rintro e w4 ⟨rfl, k⟩
  have K4 := qh (K3.o.step k)
  clear k ag cX
  go_wp2
  go_ret
  exact ⟨rfl, K4.o.wr.eq (by rw [hw.o]; simp only [List.append_assoc]; rfl)⟩
theorem ZF (S : Sink) (lo g : Nat) (x : FT) (a1 a2 : Option Addr) (c1 c2 : Nat) (A : Nat → Prop) (bs : List UInt8) (w : World) (hS : S.is lo g bs w) (h1 : Lay.int.slice.rd A w [.slice a1 x.ps.length c1] x.ps) (h2 : Lay.int.slice.rd A w [.slice a2 x.rs.length c2] x.rs) (hA : Away S.toHold g w A) (ap : lo ≤ w.heap.size) (hx : ftOk x = true) (hn : x.ps.length < 4294967296 ∧ x.rs.length < 4294967296) (hl : bs.length + (wFT x).length + 40 ≤ 70368744177664) :
 Calls Tryz.prog 110 #[.iface S.T (.pointer (some ⟨g, 0, none⟩)), .agg #[.slice a1 x.ps.length c1, .slice a2 x.rs.length c2]] w fun e w' => e = .returned .nilIface ∧ Wrote S.toHold lo g w (bs ++ wFT x) w' := by
 unfold ftOk at hx
 simp only [Bool.and_eq_true, List.all_eq_true] at hx
 have K0 := qh (WK.start hS ap)
 have aj := qh (show bs.length + ((wVec wVT x.ps).length + (wVec wVT x.rs).length) + 41 ≤ 70368744177664 from by unfold wFT at hl; simp only [List.length_cons, laQ] at hl; omega)
 have H := qh (anQ h1 (anQ h2 (anQ hA (anQ hx hn))))
 clear hS ap hl h1 h2 hA hx hn
 go_enter Tryz.func110, Tryz.ntmps110
 go_wp2_with fail
 have K1 := qh (K0.o.push #[.slice a1 x.ps.length c1, .slice a2 x.rs.length c2] 197)
 refine (zm S lo g 96 (by decide) bs _ K1.o.is K1.o.lo (by have := aj.o; omega)).mono ?_
 rintro e w2 ⟨rfl, k⟩
 have K2 := qh (K1.o.step k)
 clear k
 have ag := K2.o.box0
 go_wp2_with fail
 refine (jl S lo g x.ps a1 _ c1 A _ w2 K2.o.is (K2.o.rd H.o.1 H.o.2.2.1) (K2.o.away H.o.2.2.1) K2.o.lo H.o.2.2.2.1.1 H.o.2.2.2.2.1 (by have := aj.o; simp only [laQ, List.length_cons, List.length_nil] at this ⊢; omega)).mono ?_
 rintro e w3 ⟨rfl, k⟩
 have K3 := qh (K2.o.step k)
 clear k ag
 have ag := K3.o.box0
 go_wp2_with fail
 refine (jl S lo g x.rs a2 _ c2 A _ w3 K3.o.is (K3.o.rd H.o.2.1 H.o.2.2.1) (K3.o.away H.o.2.2.1) K3.o.lo H.o.2.2.2.1.2 H.o.2.2.2.2.2 (by have := aj.o; simp only [laQ, List.length_cons, List.length_nil] at this ⊢; omega)).mono ?_
 rintro e w4 ⟨rfl, k⟩
 have K4 := qh (K3.o.step k)
 clear k ag
 go_wp2
 go_ret
 exact ⟨rfl, K4.o.wr.eq (by unfold wFT; simp only [List.append_assoc]; rfl)⟩
theorem Y8 (S : Sink) (n lo g : Nat) (x : Glob) (a1 : Option Addr) (c1 : Nat) (A : Nat → Prop) (bs : List UInt8) (w : World) (hS : S.is lo g bs w) (h1 : (Lay.own n).slice.rd A w [.slice a1 x.init.length c1] x.init) (hA : Away S.toHold g w A) (ap : lo ≤ w.heap.size) (hx : vtOk x.ty = true) (ht : zaV x.init) (hl : bs.length + (jC x).length + 40 ≤ 70368744177664) :
 Calls Tryz.prog 115 #[.iface S.T (.pointer (some ⟨g, 0, none⟩)), .agg #[.int .i64 x.ty, .bool x.mtb, .slice a1 x.init.length c1]] w fun e w' => e = .returned .nilIface ∧ Wrote S.toHold lo g w (bs ++ jC x) w' := by
 obtain ⟨ty, mtb, init⟩ := x
 simp only at h1 hx ht ⊢
 have bY : 0 ≤ ty ∧ ty ≤ 3 := by unfold vtOk at hx; simpa using hx
 have K0 := qh (WK.start hS ap)
 have aj := qh (show bs.length + ((jJ init).length + 1) + 42 ≤ 70368744177664 from by unfold jC wKon zdB wVT at hl; simp only [List.length_cons, laQ, List.length_nil] at hl; omega)
 have H := qh (anQ h1 (anQ hA (anQ bY ht)))
 clear hS ap hl h1 hA hx bY ht
 have hw := qh (show jC ⟨ty, mtb, init⟩ = [UInt8.ofNat (127 - ty).toNat] ++ ([if mtb then 1 else 0] ++ (jJ init ++ [11])) from rfl)
 generalize jC ⟨ty, mtb, init⟩ = X at *
 go_enter Tryz.func115, Tryz.ntmps115
 go_wp2_with fail
 have K1 := qh (K0.o.push #[.int .i64 ty, .bool mtb, .slice a1 init.length c1] 220)
 refine (jo S lo g ty H.o.2.2.1 bs _ K1.o.is K1.o.lo (by have := aj.o; omega)).mono ?_
 rintro e w2 ⟨rfl, k⟩
 have K2 := qh (K1.o.step k)
 clear k
 have ag := K2.o.box0
 cases mtb
 case' true =>
  go_wp2_with fail
  refine (zm S lo g 1 (by decide) _ w2 K2.o.is K2.o.lo (by have := aj.o; simp only [laQ, List.length_cons, List.length_nil]; omega)).mono ?_
 case' false =>
  go_wp2_with fail
  refine (zm S lo g 0 (by decide) _ w2 K2.o.is K2.o.lo (by have := aj.o; simp only [laQ, List.length_cons, List.length_nil]; omega)).mono ?_
 all_goals
  rintro e w3 ⟨rfl, k⟩
  have K3 := qh (K2.o.step k)
  clear k ag
  have ag := K3.o.box0
  go_wp2_with fail
  refine (yX S n init lo g a1 _ c1 A _ w3 K3.o.is (K3.o.rd H.o.1 H.o.2.1) (K3.o.away H.o.2.1) K3.o.lo H.o.2.2.2 (by have := aj.o; simp only [laQ, List.length_cons, List.length_nil]; omega)).mono ?_
  rintro e w4 ⟨rfl, k⟩
  have K4 := qh (K3.o.step k)
  clear k ag
  go_wp2
  go_ret
  exact ⟨rfl, K4.o.wr.eq (by rw [hw.o]; simp only [List.append_assoc]; rfl)⟩
theorem JV (S : Sink) (lo g : Nat) (l : List Nam) (aa : Option Addr) (m c : Nat) (A : Nat → Prop) (bs : List UInt8) (w : World) (hS : S.is lo g bs w) (hR : Lay.wnam.slice.rd A w [.slice aa m c] l) (hA : Away S.toHold g w A) (ap : lo ≤ w.heap.size) (hv : ∀ x ∈ l, x.name.length < 4294967296) (hn : l.length < 4294967296) (hl : bs.length + (wVec wNam l).length + 20 ≤ 70368744177664) :
 Calls Tryz.prog 120 #[.iface S.T (.pointer (some ⟨g, 0, none⟩)), .slice aa m c] w fun e w' => e = .returned .nilIface ∧ Wrote S.toHold lo g w (bs ++ wVec wNam l) w' := by
 obtain ⟨a', c', e, ce, bh⟩ := Lay.slice_form hR
 obtain ⟨rfl, rfl, rfl⟩ : aa = a' ∧ m = l.length ∧ c = c' := by simpa using e
 have ao : (l.length : Int) ≤ 9223372036854775807 := by simp only [maxLen] at bh; omega
 obtain ⟨dN, dQ⟩ := jd hn
 have K0 := qh (WK.start hS ap)
 have aj := qh (show bs.length + ((uleb l.length).length + (l.flatMap wNam).length) + 20 ≤ 70368744177664 from by simpa [wVec] using hl)
 have H := qh (anQ hR (anQ hA (anQ hn hv)))
 clear hS hR hA ap hl ce bh e hv
 go_enter Tryz.func120, Tryz.ntmps120
 go_wp2_with fail
 refine (zf S lo g l.length H.o.2.2.1 bs w K0.o.is K0.o.lo (by have := aj.o; omega)).mono ?_
 rintro e w1 ⟨rfl, k⟩
 have K1 := qh (K0.o.step k)
 clear k
 go_wp2_with fail
 go_loopw [20] (fun uU w' => ∃ (i : Nat), i ≤ l.length ∧ uU = .int .i64 i ∧ Hd (WK S lo g w w' (bs ++ (uleb l.length ++ (l.take i).flatMap wNam)) [])) (fun uU _ => l.length - (intOf uU).toNat)
 case atStart => exact ⟨0, nzQ _, rfl, K1.o.eq (by simp)⟩
 case round =>
  obtain ⟨i, hi, rfl, hV⟩ := hrel
  by_cases ah : i < l.length
  ·obtain ⟨b, o, rfl, e0, e1⟩ := Lay.wnam_at (hV.o.rd H.o.1 H.o.2.1) i ah
   have aX := qh (yr (f := wNam) ah)
   have ci := qh (y9 (f := wNam) ah (Nat.le_refl _))
   have dR := qh (List.getElem_mem ah)
   generalize l[i] = x at *
   have hx := H.o.2.2.2 x dR.o
   obtain ⟨fn, idx, name⟩ := x
   simp only at hx e0 e1
   have nP := idx.toNat_lt
   have iq := qh (show wNam ⟨fn, idx, name⟩ = uleb idx.toNat ++ zq name from rfl)
   generalize wNam ⟨fn, idx, name⟩ = X at *
   generalize idx.toNat = n at *
   have hx := qh hx
   have ci := qh (show ((l.take i).flatMap wNam).length + ((uleb n).length + (zq name).length) ≤ (l.flatMap wNam).length from by have := ci.o; rw [iq.o] at this; simp only [laQ] at this; omega)
   have eN := yJ name
   go_wp2_with fail
   have K2 := qh (hV.o.push #[.int .u32 (n : Int), .string (zc name)] 232)
   refine (zf S lo g n (by omega) _ _ K2.o.is K2.o.lo (by have := aj.o; have := ci.o; simp only [laQ] at this ⊢; omega)).mono ?_
   rintro e w3 ⟨rfl, k⟩
   have K3 := qh (K2.o.step k)
   clear k e0 e1
   have ag := K3.o.box0
   go_wp2_with fail
   refine (zS S lo g name _ w3 _ rfl K3.o.is K3.o.lo hx.o (by have := aj.o; have := ci.o; simp only [laQ] at this ⊢; omega)).mono ?_
   rintro e w4 ⟨rfl, k⟩
   have K4 := qh ((K3.o.step k).pop.eq (pre' := bs ++ (uleb l.length ++ (l.take (i + 1)).flatMap wNam)) (by rw [aX.o, iq.o]; simp only [List.append_assoc]))
   clear k ag eN
   go_wp2
   go_roundw
   case rel => exact ⟨i + 1, by omega, by go_num, K4⟩
   case measure => simp [intOf]; omega
  ·obtain rfl : i = l.length := by omega
   have ai := hV.o
   rw [tlQ] at ai
   have ai := qh ai
   go_wp2
   go_ret
   exact ⟨rfl, ai.o.wr⟩
theorem zj5 (v : Value) (W : World) : (Instr.typeAssert (.iface 286 v) 200 286 true).run Tryz.prog W = .ok (.tuple #[v, .bool true]) W := by kernel_rfl
theorem zj6 (v : Value) (W : World) : (Instr.typeAssert (.iface 287 v) 200 286 true).run Tryz.prog W = .ok (.tuple #[.agg #[.int .u32 0], .bool false]) W := by kernel_rfl
theorem zj7 (v : Value) (W : World) : (Instr.typeAssert (.iface 287 v) 200 287 true).run Tryz.prog W = .ok (.tuple #[v, .bool true]) W := by kernel_rfl
theorem zj8 (v : Value) (W : World) : (Instr.typeAssert (.iface 290 v) 200 286 true).run Tryz.prog W = .ok (.tuple #[.agg #[.int .u32 0], .bool false]) W := by kernel_rfl
theorem zj9 (v : Value) (W : World) : (Instr.typeAssert (.iface 290 v) 200 287 true).run Tryz.prog W = .ok (.tuple #[.agg #[.int .i64 0, .int .u32 0, .pointer none], .bool false]) W := by kernel_rfl
theorem zka (v : Value) (W : World) : (Instr.typeAssert (.iface 290 v) 200 290 true).run Tryz.prog W = .ok (.tuple #[v, .bool true]) W := by kernel_rfl
theorem zkb (v : Value) (W : World) : (Instr.typeAssert (.iface 292 v) 200 286 true).run Tryz.prog W = .ok (.tuple #[.agg #[.int .u32 0], .bool false]) W := by kernel_rfl
theorem zkc (v : Value) (W : World) : (Instr.typeAssert (.iface 292 v) 200 287 true).run Tryz.prog W = .ok (.tuple #[.agg #[.int .i64 0, .int .u32 0, .pointer none], .bool false]) W := by kernel_rfl
theorem zkd (v : Value) (W : World) : (Instr.typeAssert (.iface 292 v) 200 290 true).run Tryz.prog W = .ok (.tuple #[.agg #[.int .u32 0, .pointer none], .bool false]) W := by kernel_rfl
theorem zke (v : Value) (W : World) : (Instr.typeAssert (.iface 292 v) 200 292 true).run Tryz.prog W = .ok (.tuple #[v, .bool true]) W := by kernel_rfl
theorem YM (S : Sink) (lo g : Nat) (x : Imp) (A : Nat → Prop) (bs : List UInt8) (w : World) (hS : S.is lo g bs w) (hA : Away S.toHold g w A) (ap : lo ≤ w.heap.size) (hn : x.mdl.length < 4294967296 ∧ x.name.length < 4294967296) (hl : bs.length + (wImp x).length + 80 ≤ 70368744177664) (hk : x.kind = 0) :
 Calls Tryz.prog 112 #[.iface S.T (.pointer (some ⟨g, 0, none⟩)), .agg #[.string (zc x.mdl), .string (zc x.name), .iface 286 (.agg #[.int .u32 (x.index.toNat : Int)])]] w fun e w' => e = .returned .nilIface ∧ Wrote S.toHold lo g w (bs ++ wImp x) w' := by
 obtain ⟨mdl, name, kind, index, lim, ty, mtb⟩ := x
 simp only at hn hk ⊢
 have K0 := qh (WK.start hS ap)
 have aj := qh (show bs.length + ((zq mdl).length + (zq name).length) + 80 ≤ 70368744177664 from by unfold wImp at hl; simp only [laQ] at hl; omega)
 have H := qh (anQ hA (anQ hn.1 (anQ hn.2 True.intro)))
 have iV := yJ mdl
 have kx := yJ name
 have hw := qh (show wImp ⟨mdl, name, kind, index, lim, ty, mtb⟩ = zq mdl ++ (zq name ++ (0 :: uleb index.toNat)) from by unfold wImp zbo; simp only [hk]; rfl)
 clear hS ap hl hA hn
 generalize wImp ⟨mdl, name, kind, index, lim, ty, mtb⟩ = X at *
 have nP := index.toNat_lt
 generalize index.toNat = n at *
 go_enter Tryz.func112, Tryz.ntmps112
 go_wp2_with fail
 have K1 := qh (K0.o.push #[.string (zc mdl), .string (zc name), .iface 286 (.agg #[.int .u32 (n : Int)])] 202)
 refine (zS S lo g mdl bs _ (w.heap.size + 1) (by simp) K1.o.is K1.o.lo H.o.2.1 (by have := aj.o; omega)).mono ?_
 rintro e w2 ⟨rfl, k⟩
 have K2 := qh (K1.o.step k)
 clear k
 have ag := K2.o.box0
 go_wp2_with fail
 refine (zS S lo g name _ w2 _ rfl K2.o.is K2.o.lo H.o.2.2.1 (by have := aj.o; simp only [laQ]; omega)).mono ?_
 rintro e w3 ⟨rfl, k⟩
 have K3 := qh (K2.o.step k)
 clear k ag iV kx
 have ag := K3.o.box0
 have ex := zj5
 go_wp2_with fail
 have K4 := qh (K3.o.push #[.int .u32 (n : Int)] 286)
 refine (zm S lo g 0 (by decide) _ _ K4.o.is K4.o.lo (by have := aj.o; simp only [laQ, List.length_cons, List.length_nil]; omega)).mono ?_
 rintro e w5 ⟨rfl, k⟩
 have K5 := qh (K4.o.step k)
 clear k
 have ag := K5.o.box0
 go_wp2_with fail
 refine (zf S lo g n nP _ w5 K5.o.is K5.o.lo (by have := aj.o; simp only [laQ, List.length_cons, List.length_nil]; omega)).mono ?_
 rintro e w6 ⟨rfl, k⟩
 have K6 := qh (K5.o.step k)
 clear k ag
 go_wp2
 go_ret
 exact ⟨rfl, K6.o.wr.eq (by rw [hw.o]; simp only [List.append_assoc]; rfl)⟩
theorem YN (S : Sink) (lo g : Nat) (x : Imp) (q : Option Addr) (A : Nat → Prop) (bs : List UInt8) (w : World) (hS : S.is lo g bs w) (hA : Away S.toHold g w A) (ap : lo ≤ w.heap.size) (hn : x.mdl.length < 4294967296 ∧ x.name.length < 4294967296) (hl : bs.length + (wImp x).length + 80 ≤ 70368744177664) (hk : x.kind = 1) (hR : Lay.wlim.rd A w [.int .u32 (x.lim.min.toNat : Int), .pointer q] x.lim) :
 Calls Tryz.prog 112 #[.iface S.T (.pointer (some ⟨g, 0, none⟩)), .agg #[.string (zc x.mdl), .string (zc x.name), .iface 287 (.agg #[.int .i64 0, .int .u32 (x.lim.min.toNat : Int), .pointer q])]] w fun e w' => e = .returned .nilIface ∧ Wrote S.toHold lo g w (bs ++ wImp x) w' := by
 obtain ⟨mdl, name, kind, index, lim, ty, mtb⟩ := x
 simp only at hn hk hR ⊢
 have K0 := qh (WK.start hS ap)
 have aj := qh (show bs.length + ((zq mdl).length + (zq name).length) + 80 ≤ 70368744177664 from by unfold wImp at hl; simp only [laQ] at hl; omega)
 have H := qh (anQ hA (anQ hn.1 (anQ hn.2 True.intro)))
 have iV := yJ mdl
 have kx := yJ name
 have hw := qh (show wImp ⟨mdl, name, kind, index, lim, ty, mtb⟩ = zq mdl ++ (zq name ++ (1 :: 112 :: wLim lim)) from by unfold wImp zbo; simp only [hk]; rfl)
 clear hS ap hl hA hn
 generalize wImp ⟨mdl, name, kind, index, lim, ty, mtb⟩ = X at *
 have hR := qh hR
 go_enter Tryz.func112, Tryz.ntmps112
 go_wp2_with fail
 have K1 := qh (K0.o.push #[.string (zc mdl), .string (zc name), .iface 287 (.agg #[.int .i64 0, .int .u32 (lim.min.toNat : Int), .pointer q])] 202)
 refine (zS S lo g mdl bs _ (w.heap.size + 1) (by simp) K1.o.is K1.o.lo H.o.2.1 (by have := aj.o; omega)).mono ?_
 rintro e w2 ⟨rfl, k⟩
 have K2 := qh (K1.o.step k)
 clear k
 have ag := K2.o.box0
 go_wp2_with fail
 refine (zS S lo g name _ w2 _ rfl K2.o.is K2.o.lo H.o.2.2.1 (by have := aj.o; simp only [laQ]; omega)).mono ?_
 rintro e w3 ⟨rfl, k⟩
 have K3 := qh (K2.o.step k)
 clear k ag iV kx
 have ag := K3.o.box0
 have ex := zj6
 have fj := zj7
 go_wp2_with fail
 have K4 := qh (K3.o.push #[.int .i64 0, .int .u32 (lim.min.toNat : Int), .pointer q] 287)
 refine (zm S lo g 1 (by decide) _ _ K4.o.is K4.o.lo (by have := aj.o; simp only [laQ, List.length_cons, List.length_nil]; omega)).mono ?_
 rintro e w5 ⟨rfl, k⟩
 have K5 := qh (K4.o.step k)
 clear k
 have ag := K5.o.box0
 go_wp2_with fail
 refine (zm S lo g 112 (by decide) _ _ K5.o.is K5.o.lo (by have := aj.o; simp only [laQ, List.length_cons, List.length_nil]; omega)).mono ?_
 rintro e w6 ⟨rfl, k⟩
 have K6 := qh (K5.o.step k)
 clear k
 clear ag
 have ag := K6.o.box0
 go_wp2_with fail
 refine (jk S lo g lim q A _ w6 K6.o.is (K6.o.rd hR.o H.o.1) (K6.o.away H.o.1) K6.o.lo (by have := aj.o; simp only [laQ, List.length_cons, List.length_nil]; omega)).mono ?_
 rintro e w7 ⟨rfl, k⟩
 have K7 := qh (K6.o.step k)
 clear k ag
 go_wp2
 go_ret
 exact ⟨rfl, K7.o.wr.eq (by rw [hw.o]; simp only [List.append_assoc]; rfl)⟩
theorem YO (S : Sink) (lo g : Nat) (x : Imp) (q : Option Addr) (A : Nat → Prop) (bs : List UInt8) (w : World) (hS : S.is lo g bs w) (hA : Away S.toHold g w A) (ap : lo ≤ w.heap.size) (hn : x.mdl.length < 4294967296 ∧ x.name.length < 4294967296) (hl : bs.length + (wImp x).length + 80 ≤ 70368744177664) (hk : x.kind = 2) (hR : Lay.wlim.rd A w [.int .u32 (x.lim.min.toNat : Int), .pointer q] x.lim) :
 Calls Tryz.prog 112 #[.iface S.T (.pointer (some ⟨g, 0, none⟩)), .agg #[.string (zc x.mdl), .string (zc x.name), .iface 290 (.agg #[.int .u32 (x.lim.min.toNat : Int), .pointer q])]] w fun e w' => e = .returned .nilIface ∧ Wrote S.toHold lo g w (bs ++ wImp x) w' := by
 obtain ⟨mdl, name, kind, index, lim, ty, mtb⟩ := x
 simp only at hn hk hR ⊢
 have K0 := qh (WK.start hS ap)
 have aj := qh (show bs.length + ((zq mdl).length + (zq name).length) + 80 ≤ 70368744177664 from by unfold wImp at hl; simp only [laQ] at hl; omega)
 have H := qh (anQ hA (anQ hn.1 (anQ hn.2 True.intro)))
 have iV := yJ mdl
 have kx := yJ name
 have hw := qh (show wImp ⟨mdl, name, kind, index, lim, ty, mtb⟩ = zq mdl ++ (zq name ++ (2 :: wLim lim)) from by unfold wImp zbo; simp only [hk]; rfl)
 clear hS ap hl hA hn
 generalize wImp ⟨mdl, name, kind, index, lim, ty, mtb⟩ = X at *
 have hR := qh hR
 go_enter Tryz.func112, Tryz.ntmps112
 go_wp2_with fail
 have K1 := qh (K0.o.push #[.string (zc mdl), .string (zc name), .iface 290 (.agg #[.int .u32 (lim.min.toNat : Int), .pointer q])] 202)
 refine (zS S lo g mdl bs _ (w.heap.size + 1) (by simp) K1.o.is K1.o.lo H.o.2.1 (by have := aj.o; omega)).mono ?_
 rintro e w2 ⟨rfl, k⟩
 have K2 := qh (K1.o.step k)
 clear k
 have ag := K2.o.box0
 go_wp2_with fail
 refine (zS S lo g name _ w2 _ rfl K2.o.is K2.o.lo H.o.2.2.1 (by have := aj.o; simp only [laQ]; omega)).mono ?_
 rintro e w3 ⟨rfl, k⟩
 have K3 := qh (K2.o.step k)
 clear k ag iV kx
 have ag := K3.o.box0
 have ex := zj8
 have fj := zj9
 have gJ := zka
 go_wp2_with fail
 have K4 := qh (K3.o.push #[.int .u32 (lim.min.toNat : Int), .pointer q] 290)
 refine (zm S lo g 2 (by decide) _ _ K4.o.is K4.o.lo (by have := aj.o; simp only [laQ, List.length_cons, List.length_nil]; omega)).mono ?_
 rintro e w5 ⟨rfl, k⟩
 have K5 := qh (K4.o.step k)
 clear k
 have ag := K5.o.box0
 go_wp2_with fail
 refine (jk S lo g lim q A _ w5 K5.o.is (K5.o.rd hR.o H.o.1) (K5.o.away H.o.1) K5.o.lo (by have := aj.o; simp only [laQ, List.length_cons, List.length_nil]; omega)).mono ?_
 rintro e w7 ⟨rfl, k⟩
 have K7 := qh (K5.o.step k)
 clear k ag
 go_wp2
 go_ret
 exact ⟨rfl, K7.o.wr.eq (by rw [hw.o]; simp only [List.append_assoc]; rfl)⟩
theorem YP (S : Sink) (lo g : Nat) (x : Imp) (A : Nat → Prop) (bs : List UInt8) (w : World) (hS : S.is lo g bs w) (hA : Away S.toHold g w A) (ap : lo ≤ w.heap.size) (hn : x.mdl.length < 4294967296 ∧ x.name.length < 4294967296) (hl : bs.length + (wImp x).length + 80 ≤ 70368744177664) (hk : x.kind = 3) (hx : vtOk x.ty = true) :
 Calls Tryz.prog 112 #[.iface S.T (.pointer (some ⟨g, 0, none⟩)), .agg #[.string (zc x.mdl), .string (zc x.name), .iface 292 (.agg #[.int .i64 x.ty, .bool x.mtb])]] w fun e w' => e = .returned .nilIface ∧ Wrote S.toHold lo g w (bs ++ wImp x) w' := by
 obtain ⟨mdl, name, kind, index, lim, ty, mtb⟩ := x
 simp only at hn hk hx ⊢
 have K0 := qh (WK.start hS ap)
 have aj := qh (show bs.length + ((zq mdl).length + (zq name).length) + 80 ≤ 70368744177664 from by unfold wImp at hl; simp only [laQ] at hl; omega)
 have H := qh (anQ hA (anQ hn.1 (anQ hn.2 True.intro)))
 have iV := yJ mdl
 have kx := yJ name
 have hw := qh (show wImp ⟨mdl, name, kind, index, lim, ty, mtb⟩ = zq mdl ++ (zq name ++ (3 :: (wVT ty ++ zdB mtb))) from by unfold wImp zbo; simp only [hk]; rfl)
 clear hS ap hl hA hn
 generalize wImp ⟨mdl, name, kind, index, lim, ty, mtb⟩ = X at *
 have bY : 0 ≤ ty ∧ ty ≤ 3 := by unfold vtOk at hx; simpa using hx
 clear hx
 have bY := qh bY
 go_enter Tryz.func112, Tryz.ntmps112
 go_wp2_with fail
 have K1 := qh (K0.o.push #[.string (zc mdl), .string (zc name), .iface 292 (.agg #[.int .i64 ty, .bool mtb])] 202)
 refine (zS S lo g mdl bs _ (w.heap.size + 1) (by simp) K1.o.is K1.o.lo H.o.2.1 (by have := aj.o; omega)).mono ?_
 rintro e w2 ⟨rfl, k⟩
 have K2 := qh (K1.o.step k)
 clear k
 have ag := K2.o.box0
 go_wp2_with fail
 refine (zS S lo g name _ w2 _ rfl K2.o.is K2.o.lo H.o.2.2.1 (by have := aj.o; simp only [laQ]; omega)).mono ?_
 rintro e w3 ⟨rfl, k⟩
 have K3 := qh (K2.o.step k)
 clear k ag iV kx
 have ag := K3.o.box0
 have ex := zkb
 have fj := zkc
 have gJ := zkd
 have iR := zke
 go_wp2_with fail
 have K4 := qh (K3.o.push #[.int .i64 ty, .bool mtb] 292)
 refine (zm S lo g 3 (by decide) _ _ K4.o.is K4.o.lo (by have := aj.o; simp only [laQ, List.length_cons, List.length_nil]; omega)).mono ?_
 rintro e w5 ⟨rfl, k⟩
 have K5 := qh (K4.o.step k)
 clear k
 have ag := K5.o.box0
 go_wp2_with fail
 refine (jo S lo g ty bY.o _ w5 K5.o.is K5.o.lo (by have := aj.o; simp only [laQ, List.length_cons, List.length_nil]; omega)).mono ?_
 rintro e w6 ⟨rfl, k⟩
 have K6 := qh (K5.o.step k)
 clear k ag
 have ag := K6.o.box0
 cases mtb with
 | false =>
  go_wp2_with fail
  refine (zm S lo g 0 (by decide) _ _ K6.o.is K6.o.lo (by have := aj.o; simp only [laQ, List.length_cons, List.length_nil]; omega)).mono ?_
  rintro e w7 ⟨rfl, k⟩
  have K7 := qh (K6.o.step k)
  clear k
  go_wp2
  go_ret
  exact ⟨rfl, K7.o.wr.eq (by rw [hw.o]; simp only [List.append_assoc]; rfl)⟩
 | true =>
  go_wp2_with fail
  refine (zm S lo g 1 (by decide) _ _ K6.o.is K6.o.lo (by have := aj.o; simp only [laQ, List.length_cons, List.length_nil]; omega)).mono ?_
  rintro e w7 ⟨rfl, k⟩
  have K7 := qh (K6.o.step k)
  clear k
  go_wp2
  go_ret
  exact ⟨rfl, K7.o.wr.eq (by rw [hw.o]; simp only [List.append_assoc]; rfl)⟩
theorem Y9 (S : Sink) (lo g : Nat) (x : Imp) (T : TypeId) (p : Value) (A : Nat → Prop) (bs : List UInt8) (w : World) (hS : S.is lo g bs w) (hR : Lay.wdesc.rd A w [.iface T p] x) (hA : Away S.toHold g w A) (ap : lo ≤ w.heap.size) (hn : x.mdl.length < 4294967296 ∧ x.name.length < 4294967296) (hx : Y7 x = true) (hl : bs.length + (wImp x).length + 80 ≤ 70368744177664) :
 Calls Tryz.prog 112 #[.iface S.T (.pointer (some ⟨g, 0, none⟩)), .agg #[.string (zc x.mdl), .string (zc x.name), .iface T p]] w fun e w' => e = .returned .nilIface ∧ Wrote S.toHold lo g w (bs ++ wImp x) w' := by
 unfold Y7 at hx
 simp only [Bool.and_eq_true] at hx
 obtain ⟨⟨⟨⟨hk, -⟩, -⟩, -⟩, fq⟩ := hx
 have nv : if x.kind = 0 then _ else _ := hR
 by_cases k0 : x.kind = 0
 ·rw [if_pos k0] at nv
  cases nv
  exact YM S lo g x A bs w hS hA ap hn hl k0
 rw [if_neg k0] at nv hk
 by_cases k1 : x.kind = 1
 ·rw [if_pos k1] at nv
  obtain ⟨u, v, e, fp⟩ := nv
  cases e
  obtain ⟨q, e, -⟩ := id fp
  cases e
  exact YN S lo g x q A bs w hS hA ap hn hl k1 fp
 rw [if_neg k1] at nv
 by_cases k2 : x.kind = 2
 ·rw [if_pos k2] at nv
  obtain ⟨u, v, e, fp⟩ := nv
  cases e
  obtain ⟨q, e, -⟩ := id fp
  cases e
  exact YO S lo g x q A bs w hS hA ap hn hl k2 fp
 rw [if_neg k2] at nv
 cases nv
 rw [if_neg (by omega)] at hk
 by_cases k3 : x.kind = 3
 ·exact YP S lo g x A bs w hS hA ap hn hl k3 fq
 ·rw [if_neg k3] at hk
  cases hk
end Go.Proofs.YtejgninpjhcgnaaGreatDoor
