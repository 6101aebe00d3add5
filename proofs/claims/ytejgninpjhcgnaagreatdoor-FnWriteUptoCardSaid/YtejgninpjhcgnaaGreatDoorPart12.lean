/- Texts of this proof, one behind the other. -/
import Derived.Test.YtejgninpjhcgnaaGreatDoorPart11
import Derived.Maps.RangeWalk
import Derived.Maps.Views
import Derived.Maps.OwnSet
import Derived.Deep.Cut
import Derived.Deep.CutRange
import Derived.Lib.SlBytesConst
namespace Go.Proofs.YtejgninpjhcgnaaGreatDoor
open Go.RowKit Go.ChangeShapes Go.Maps Go.WideShapes
open Go.RowKit Go.Maps
open Go.RowKit
set_option linter.unusedSimpArgs false
set_option linter.unusedVariables false
set_option maxRecDepth 100000
set_option maxHeartbeats 8000000
def zac : Value → Option (DataW Value × List MemPlace)
 | .slice a n c => some (.held (.slice a n c), [])
 | _ => none
variable {v : Value}
theorem zbz {y : DataW Value × List MemPlace} (h : zac v = some y) : (∃ c : Option Addr × Nat × Nat, v = .slice c.1 c.2.1 c.2.2) ∧ y = (.held v, []) := by
 cases v <;> simp [zac] at h
 rename_i a n c
 exact ⟨⟨(a, n, c), rfl⟩, h.symm⟩
abbrev kU (y : UInt32) : Lit := .int .u32 (y.toNat : Int)
theorem wfU (y : UInt32) : (kU y).wf = true := by
 have := y.toNat_lt
 have e1 : IntKind.u32.min = 0 := by decide
 have e2 : IntKind.u32.max = 4294967295 := by decide
 unfold Lit.wf
 rw [Bool.and_eq_true, decide_eq_true_eq, decide_eq_true_eq, e1, e2]
 omega
theorem zgN {a b : UInt32} (h : kU a = kU b) : a = b := by
 have e2 := (Lit.int.inj h).2
 exact UInt32.toNat.inj (by omega)
theorem zjf (a b : UInt32) : (kU a).sameKey (kU b) = decide (a = b) := by
 by_cases h : a = b
 ·subst h; rw [decide_eq_true rfl]; exact WideAt.sameKey_self trivial
 ·rw [decide_eq_false h]
  cases hs : (kU a).sameKey (kU b) with
  | false => rfl
  | true => exact absurd (zgN (WideAt.sameKey_eq hs)) h
theorem keyU (y : UInt32) : keyOf Tryz.prog 24 (.int .u32 (y.toNat : Int)) = some (kU y) := Maps.keyOf_int_mk Tryz.underlying24 (wfU y)
theorem zfb {key : Value} {kl : Lit} (h : keyOf Tryz.prog 24 key = some kl) : ∃ y : UInt32, key = .int .u32 (y.toNat : Int) ∧ kl = kU y := by
 obtain ⟨x, rfl, rfl, hw⟩ := Maps.keyOf_int_inv Tryz.underlying24 h
 have e1 : IntKind.u32.min = 0 := by decide
 have e2 : IntKind.u32.max = 4294967295 := by decide
 unfold Lit.wf at hw
 rw [Bool.and_eq_true, decide_eq_true_eq, decide_eq_true_eq, e1, e2] at hw
 obtain ⟨n, rfl⟩ := Int.eq_ofNat_of_zero_le hw.1
 have e : ((UInt32.ofNat n).toNat : Int) = n := by rw [UInt32.toNat_ofNat', Nat.mod_eq_of_lt (by omega)]
 exact ⟨UInt32.ofNat n, by rw [e], by show _ = Lit.int .u32 _; rw [e]⟩
theorem lawU : Keyed Tryz.prog 24 := Maps.int_keyed Tryz.underlying24
theorem zgO (w : World) : (zeroValue 189).run Tryz.prog w = .ok (.slice none 0 0) w := by kernel_rfl
abbrev nilW : Value := .slice none 0 0
def Zq (lo : Nat) (w : World) (mg n : Nat) (l : List Nam) (D : DataW Value) : Prop :=
 w.ownsMap Tryz.prog 24 zac mg n D ∧ mg < lo ∧ ∃ val : UInt32 → Value, (∀ y, D.atKey (kU y) (.held nilW) = .held (val y)) ∧ (∀ y, Own Lay.wnam 232 lo w (val y) (l.filter (fk y))) ∧
  (∀ y y' k, (val y).ownBlock = some k → (val y').ownBlock = some k → y = y') ∧ ∀ y, Maps.has D (kU y) = decide (∃ x ∈ l, x.fn = y)
theorem YQ : Lay.wnam.flat := Lay.flat_via (Lay.flat_pair Lay.flat_u32 Lay.flat_strB) _
variable {w w' : World} {S : Nat → Prop} {mg n : Nat} {D : DataW Value}
theorem Zr (h : w.ownsMap Tryz.prog 24 zac mg n D) (hf : Fr S w w') (hs : ¬ S mg) : w'.ownsMap Tryz.prog 24 zac mg n D := by
 have ah := h.lt
 obtain ⟨es, fU, hb, r⟩ := h
 exact ⟨es, fU, (hf.block mg ah hs).trans hb, r⟩
variable {lo : Nat} {l : List Nam}
theorem Zq.fr (h : Zq lo w mg n l D) (hf : Fr S w w') (hs : ∀ k, (k = mg ∨ lo ≤ k) → k < w.heap.size → ¬ S k) : Zq lo w' mg n l D := by
 obtain ⟨h1, h2, val, h3, h4, h5, h6⟩ := h
 exact ⟨Zr h1 hf (hs mg (.inl rfl) h1.lt), h2, val, h3, fun y => (h4 y).only YQ hf (fun k hk => hs k (.inr ((h4 y).lt k hk).1) ((h4 y).lt k hk).2), h5, h6⟩
theorem Zq.ext (h : Zq lo w mg n l D) (hf : Ext w w') : Zq lo w' mg n l D := h.fr hf (fun _ _ _ h => h)
theorem zia (w : World) (n : Nat) (hn : w.heap.size = n) : Zq (n + 1) (w.alloc (.map #[] 0)) n 0 [] (.map []) := by
 subst hn
 refine ⟨World.ownsMap_made w _ _ _, Nat.lt_succ_self _, fun _ => nilW, fun _ => rfl, fun _ => jz _ _ _ _, fun _ _ k h _ => absurd (show (none : Option Nat) = some k from h) (by simp), fun y => ?_⟩
 have e : decide (∃ x ∈ ([] : List Nam), x.fn = y) = false := decide_eq_false (fun ⟨x, h, _⟩ => by cases h)
 rw [e]
 rfl
theorem Zq.look (h : Zq lo w mg n l D) (y : UInt32) : ∃ a n' c, Own Lay.wnam 232 lo w (.slice a n' c) (l.filter (fk y)) ∧
 (∀ (S : Nat → Prop) w', Fr S w w' → ¬ S mg → (Instr.lookup 328 (.map (some mg)) (.int .u32 (y.toNat : Int)) false).run Tryz.prog w' = .ok (.slice a n' c) w') ∧ D.atKey (kU y) (.held nilW) = .held (.slice a n' c) := by
 obtain ⟨h1, h2, val, h3, h4, h5, h6⟩ := h
 obtain ⟨a, n', c, e⟩ := (h4 y).shape
 have uY := h4 y
 have xv := h3 y
 rw [e] at uY xv
 refine ⟨a, n', c, uY, fun S w' hx hs => ?_, xv⟩
 obtain ⟨v, ps, hr, hv⟩ := (Zr h1 hx hs).lookup lawU Tryz.underlying328 (zgO w') (show zac nilW = some (.held nilW, []) from rfl) (keyU y)
 rw [xv] at hv
 obtain ⟨-, e2⟩ := zbz hv
 simp only [Prod.mk.injEq, DataW.held.injEq] at e2
 rw [hr, e2.1]
variable {n' : Nat}
theorem Zq.put {W1 W2 : World} (h : Zq lo w mg n l D) (x : Nam) {a a1 : Option Addr} {c n1 c1 : Nat} (hv : D.atKey (kU x.fn) (.held nilW) = .held (.slice a n' c)) (ap : lo ≤ w.heap.size) (hx : Ext w W1)
 (h1 : Own Lay.wnam 232 lo W2 (.slice a1 n1 c1) (l.filter (fk x.fn) ++ [x])) (h2 : Fr (fun k => some k = (Value.slice a n' c).ownBlock) W1 W2) (hn : n < maxLen) (h3 : ∀ k, (Value.slice a1 n1 c1).ownBlock = some k → (Value.slice a n' c).ownBlock = some k ∨ W1.heap.size ≤ k) :
 ∃ W3, (Instr.mapUpdate 328 (.map (some mg)) (.int .u32 (x.fn.toNat : Int)) (.slice a1 n1 c1)).run Tryz.prog W2 = .ok () W3 ∧ Zq lo W3 mg (n + 1) (l ++ [x]) (D.put (kU x.fn) (.held (.slice a1 n1 c1))) ∧ Fr (fun k => k = mg) W2 W3 := by
 obtain ⟨g1, g2, val, g3, g4, g5, g6⟩ := h
 have gv := g3 x.fn
 rw [hv] at gv
 injection gv with gv
 have hO := g4 x.fn
 rw [← gv] at hO
 have lY : ¬ (some mg = (Value.slice a n' c).ownBlock) := fun e => by have := (hO.lt mg e.symm).1; omega
 have o2 : W2.ownsMap Tryz.prog 24 zac mg n D := Zr (Zr g1 hx (fun h => h)) h2 lY
 obtain ⟨W3, hr, o3, hg⟩ := o2.update lawU Tryz.underlying328 hn (keyU x.fn) (show zac (.slice a1 n1 c1) = some (.held (.slice a1 n1 c1), []) from rfl)
 have pu : Fr (fun k => k = mg) W2 W3 := (Jp hg).mono (fun k _ e => by simp only [Option.some.injEq] at e; exact e)
 have iX : ∀ y, y ≠ x.fn → ∀ k, (val y).ownBlock = some k → k < w.heap.size ∧ ¬ some k = (Value.slice a n' c).ownBlock := fun y hy k hk => ⟨((g4 y).lt k hk).2, fun e => hy (g5 y x.fn k hk (by rw [← gv]; exact e.symm))⟩
 have cl := hx.size
 refine ⟨W3, hr, ⟨o3, g2, fun y => if y = x.fn then .slice a1 n1 c1 else val y, fun y => ?_, fun y => ?_, fun y y' k hk ib => ?_, fun y => ?_⟩, pu⟩
 ·dsimp only
  by_cases hy : y = x.fn
  ·subst hy
   rw [if_pos rfl, Maps.atKey_put_same g1.isMap (show WideAt.IsKeyLit (kU x.fn) from trivial)]
  ·rw [if_neg hy, Maps.atKey_put_other (fun e => hy (zgN e)), g3 y]
 ·dsimp only
  by_cases hy : y = x.fn
  ·subst hy
   rw [if_pos rfl, List.filter_append, show [x].filter (fk x.fn) = [x] from by rw [List.filter_cons_of_pos (by simp [fk])]; rfl]
   exact h1.only YQ pu (fun k hk e => by have := (h1.lt k hk).1; have e' : k = mg := e; omega)
  ·rw [if_neg hy, List.filter_append, show [x].filter (fk y) = [] from by rw [List.filter_cons_of_neg (by simp [fk, Ne.symm hy])]; rfl, List.append_nil]
   exact (((g4 y).ext hx).only YQ h2 (fun k hk => (iX y hy k hk).2)).only YQ pu (fun k hk e => by have := ((g4 y).lt k hk).1; have e' : k = mg := e; omega)
 ·dsimp only at hk ib
  by_cases hy : y = x.fn
  ·by_cases hy' : y' = x.fn
   ·rw [hy, hy']
   ·rw [if_pos hy] at hk
    rw [if_neg hy'] at ib
    rcases h3 k hk with q | q
    ·exact absurd q.symm (iX y' hy' k ib).2
    ·have := (iX y' hy' k ib).1; omega
  ·rw [if_neg hy] at hk
   by_cases hy' : y' = x.fn
   ·rw [if_pos hy'] at ib
    rcases h3 k ib with q | q
    ·exact absurd q.symm (iX y hy k hk).2
    ·have := (iX y hy k hk).1; omega
   ·rw [if_neg hy'] at ib
    exact g5 y y' k hk ib
 ·by_cases hy : y = x.fn
  ·subst hy
   rw [Maps.has_put_same g1.isMap (show WideAt.IsKeyLit (kU x.fn) from trivial), decide_eq_true ⟨x, by simp, rfl⟩]
  ·rw [Maps.has_put_other (fun e => hy (zgN e)), g6 y]
   refine decide_eq_decide.2 ⟨fun ⟨z, hz, e⟩ => ⟨z, List.mem_append_left _ hz, e⟩, fun ⟨z, hz, e⟩ => ?_⟩
   rcases List.mem_append.1 hz with q | q
   ·exact ⟨z, q, e⟩
   ·rw [List.mem_singleton.1 q] at e
    exact absurd e.symm hy
abbrev Rng (w : World) (b r n : Nat) (D : DataW Value) (left : Lit → Bool) (li : Nat) : Prop := w.ranges Tryz.prog 24 zac b r n D left li
variable {b r li : Nat} {left : Lit → Bool}
theorem ziP (h : Rng w b r n D left li) (hf : Fr S w w') (hb : ¬ S b) (hr : ¬ S r) : Rng w' b r n D left li := by
 obtain ⟨es, fU, tX, seen, c0, h1, F, hs, hD, h2, rest⟩ := h
 exact ⟨es, fU, tX, seen, c0, (hf.block b (Zw h1) hb).trans h1, F, hs, hD, (hf.block r (Zw h2) hr).trans h2, rest⟩
def toU : Lit → UInt32
 | .int _ x => UInt32.ofNat x.toNat
 | _ => 0
theorem zaK (y : UInt32) : toU (kU y) = y := by
 show UInt32.ofNat ((y.toNat : Int)).toNat = y
 rw [Int.toNat_natCast]
 exact UInt32.toNat_inj.1 (by rw [UInt32.toNat_ofNat']; exact Nat.mod_eq_of_lt y.toNat_lt)
theorem zaL (h : w.ownsMap Tryz.prog 24 zac mg n D) : ∃ es, D = .map es ∧ es.Pairwise (fun p q => p.1 ≠ q.1) ∧ ∀ p ∈ es, ∃ y, p.1 = kU y := by
 obtain ⟨es, fU, _, F, _, rfl⟩ := h
 refine ⟨_, rfl, ((sorted_perm _).pairwise_iff (fun {_ _} aO => Ne.symm aO)).2 (Maps.fit_apart lawU F), fun p hp => ?_⟩
 obtain ⟨x, hx, rfl⟩ := List.mem_map.1 (mem_sorted.1 hp)
 obtain ⟨y, hy⟩ := F.reads x hx
 rw [WideElems.rg_of hy]
 obtain ⟨z, -, e⟩ := zfb (WideElems.rd_key hy)
 exact ⟨z, e⟩
variable {gs : List (UInt32 × List Nam)}
theorem zfc (h : Zq lo w mg n l D) (hG : jU l gs) : Maps.size D = gs.length := by
 obtain ⟨g1, -, val, -, -, -, g6⟩ := h
 obtain ⟨es, rfl, hp, hk⟩ := zaL g1
 have iJ : ∀ y, (∃ p ∈ es, p.1 = kU y) ↔ y ∈ gs.map (·.1) := fun y => by
  rw [hG.2.1 y]
  have := g6 y
  constructor
  ·rintro ⟨p, hp, e⟩
   have ht : Maps.has (DataW.map es) (kU y) = true := List.any_eq_true.2 ⟨p, hp, by rw [e]; exact WideAt.sameKey_self trivial⟩
   rw [ht] at this
   exact of_decide_eq_true this.symm
  ·intro hx
   rw [decide_eq_true hx] at this
   obtain ⟨p, hp, e⟩ := List.any_eq_true.1 this
   exact ⟨p, hp, WideAt.sameKey_eq e⟩
 have hn : (es.map fun p => toU p.1).Nodup := by
  rw [List.nodup_iff_pairwise_ne, List.pairwise_map]
  refine List.Pairwise.imp_of_mem (fun {p q} hp hq aO e => aO ?_) hp
  obtain ⟨a, ea⟩ := hk p hp
  obtain ⟨b, eb⟩ := hk q hq
  rw [ea, eb, zaK, zaK] at e
  rw [ea, eb, e]
 have l1 := zgM hn (m := gs.map (·.1)) (fun y hy => by
  obtain ⟨p, hp, rfl⟩ := List.mem_map.1 hy
  obtain ⟨a, ea⟩ := hk p hp
  rw [ea, zaK]
  exact (iJ a).1 ⟨p, hp, ea⟩)
 have l2 := zgM hG.1 (m := es.map fun p => toU p.1) (fun y hy => by
  obtain ⟨p, hp, e⟩ := (iJ y).2 hy
  exact List.mem_map.2 ⟨p, hp, by rw [e, zaK]⟩)
 rw [List.length_map, List.length_map] at l1 l2
 show es.length = _
 omega
section
variable {S : Sink} {lo g n : Nat} {w w2 W W' : World} {bs pre pre' : List UInt8} {bx : List (Nat × Array Value × TypeId)} {A P : Nat → Prop}
theorem WK.but (h : WK S lo g w W pre []) (hf : Fr P W W') (hp : ∀ k, P k → w.heap.size ≤ k ∧ ¬ S.foot W g k) : WK S lo g w W' pre [] := by
 obtain ⟨h1, h2⟩ := S.frame h.wr.is hf (fun k q e => (hp k e).2 q)
 exact ⟨⟨h1, Fr.trans h.wr.fr hf (fun _ _ e => e) (fun k hk e => by have := (hp k e).1; omega), fun k hk => h.wr.foot k ((h2 k).1 hk)⟩, nlQ h.lo hf.size, fun _ q => by cases q⟩
theorem WK.butAway (h : WK S lo g w W pre []) (hf : Fr P W W') (hp : ∀ k, P k → ¬ S.foot W g k) (hA : Away S.toHold g W A) : Away S.toHold g W' A := fun k hk =>
 ⟨nqQ (hA k hk).1 hf.size, fun q => (hA k hk).2 (((S.frame h.wr.is hf (fun k q e => hp k e q)).2 k).1 q)⟩
theorem SB.but (h : SB S lo g w w2 bs n W pre []) (hf : Fr P W W') (hp : ∀ k, P k → n < k ∧ ¬ jA W n k) : SB S lo g w w2 bs n W' pre [] :=
 ⟨h.k, h.b.but hf (fun k e => ⟨by have := (hp k e).1; have := h.hn; simp; omega, (hp k e).2⟩), h.hn⟩
theorem SB.byte (h : SB S lo g w w2 bs n W pre bx) (b : Int) (hb : 0 ≤ b ∧ b < 256) (hl : pre.length + 10 ≤ 70368744177664) :
 Calls Tryz.prog 108 #[.iface 315 (.pointer (some ⟨n, 0, none⟩)), .int .u8 b] W fun e w' => e = .returned .nilIface ∧ SB S lo g w w2 bs n w' (pre ++ [UInt8.ofNat b.toNat]) bx :=
 (jw z7 n n b hb pre W h.b.is h.b.lo hl).mono fun _ _ ⟨h1, h2⟩ => ⟨h1, h.step h2⟩
end
variable {P : Nat → Prop}
theorem zkf {w0 w1 w2 : World} (h : Ext w0 w1) (hf : Fr P w1 w2) (hp : ∀ k, P k → w0.heap.size ≤ k) : Ext w0 w2 :=
 (Ext.fr h hf).mono fun k hk e => by have := hp k e; omega
def zkg (w : World) (mg r n : Nat) (l : List Nam) (D : DataW Value) (gs : List (UInt32 × List Nam)) : Prop :=
 ∃ left li, Rng w mg r n D left li ∧ zaW l gs ∧ ∀ y, left (kU y) = true ↔ (∃ x ∈ l, x.fn = y) ∧ y ∉ gs.map (·.1)
theorem zgP (h : Zq lo w mg n' l D) (hr : Rng w' mg r n D (Maps.has D) li) : zkg w' mg r n l D [] := by
 obtain ⟨g1, g2, val, g3, g4, g5, g6⟩ := h
 refine ⟨_, _, hr, ⟨by simp, (by intro g h; cases h), (by intro g h; cases h)⟩, fun y => ?_⟩
 rw [g6 y, decide_eq_true_eq]
 simp
theorem zjg (h2 : zaW l gs) (h3 : ∀ y, left (kU y) = true ↔ (∃ x ∈ l, x.fn = y) ∧ y ∉ gs.map (·.1)) (h0 : ∀ kl, left kl = false) : jU l gs :=
 zh9 h2 fun y hy => by
  by_cases hm : y ∈ gs.map (·.1)
  ·exact hm
  ·have := (h3 y).2 ⟨hy, hm⟩
   rw [h0] at this
   cases this
theorem Zq.row (h : Zq lo w mg n' l D) {y : UInt32} (e : D.atKey (kU y) (.held nilW) = .held v) : Own Lay.wnam 232 lo w v (l.filter (fk y)) := by
 obtain ⟨g1, g2, val, g3, g4, g5, g6⟩ := h
 have := g3 y
 rw [e] at this
 injection this with this
 rw [this]
 exact g4 y
theorem zib (h2 : zaW l gs) (h3 : ∀ y, left (kU y) = true ↔ (∃ x ∈ l, x.fn = y) ∧ y ∉ gs.map (·.1)) {x : UInt32} (hx : left (kU x) = true) :
 zaW l (gs ++ [(x, l.filter (fk x))]) ∧ ∀ y, (left (kU y) && !(kU y).sameKey (kU x)) = true ↔ (∃ z ∈ l, z.fn = y) ∧ y ∉ (gs ++ [(x, l.filter (fk x))]).map (·.1) := by
 obtain ⟨e1, e2⟩ := (h3 x).1 hx
 refine ⟨zgL h2 e2 e1, fun y => ?_⟩
 rw [Bool.and_eq_true, h3 y, zjf]
 simp only [List.map_append, List.map_cons, List.map_nil, List.mem_append, List.mem_singleton, Bool.not_eq_true', decide_eq_false_iff_not, not_or]
 constructor
 ·rintro ⟨⟨a, b⟩, c⟩; exact ⟨a, b, c⟩
 ·rintro ⟨a, b, c⟩; exact ⟨⟨a, b⟩, c⟩
theorem zkh (h : Zq lo w mg n l D) : ∃ gs, jU l gs ∧ Maps.size D = gs.length := by
 have h' := h
 obtain ⟨g1, g2, val, g3, g4, g5, g6⟩ := h
 obtain ⟨es, e0, hp, hk⟩ := zaL g1
 have iJ : ∀ y, (∃ p ∈ es, p.1 = kU y) ↔ ∃ x ∈ l, x.fn = y := fun y => by
  have := g6 y
  rw [e0] at this
  constructor
  ·rintro ⟨p, hp, e⟩
   have ht : Maps.has (DataW.map es) (kU y) = true := List.any_eq_true.2 ⟨p, hp, by rw [e]; exact WideAt.sameKey_self trivial⟩
   rw [ht] at this
   exact of_decide_eq_true this.symm
  ·intro hx
   rw [decide_eq_true hx] at this
   obtain ⟨p, hp, e⟩ := List.any_eq_true.1 this
   exact ⟨p, hp, WideAt.sameKey_eq e⟩
 have hG : jU l (es.map fun p => (toU p.1, l.filter (fk (toU p.1)))) := by
  refine ⟨?_, fun f => ?_, fun g hg => ?_⟩
  ·rw [List.map_map, List.nodup_iff_pairwise_ne, List.pairwise_map]
   refine List.Pairwise.imp_of_mem (fun {p q} hp hq aO e => aO ?_) hp
   obtain ⟨a, ea⟩ := hk p hp
   obtain ⟨b, eb⟩ := hk q hq
   have e : toU p.1 = toU q.1 := e
   rw [ea, eb, zaK, zaK] at e
   rw [ea, eb, e]
  ·rw [← iJ f, List.map_map]
   constructor
   ·intro hf
    obtain ⟨p, hp, e⟩ := List.mem_map.1 hf
    obtain ⟨a, ea⟩ := hk p hp
    have e : toU p.1 = f := e
    rw [ea, zaK] at e
    exact ⟨p, hp, by rw [ea, e]⟩
   ·rintro ⟨p, hp, e⟩
    exact List.mem_map.2 ⟨p, hp, show toU p.1 = f from by rw [e, zaK]⟩
  ·obtain ⟨p, hp, rfl⟩ := List.mem_map.1 hg
   rfl
 exact ⟨_, hG, zfc h' hG⟩
theorem zey (h : jU l gs) : zaW l gs := ⟨h.1, fun g hg => (h.2.1 g.1).1 (List.mem_map.2 ⟨g, hg, rfl⟩), h.2.2⟩
theorem zki (h : jU l gs) (hl : ¬ l.length = 0) : ¬ gs.length = 0 := fun e => by
 cases l with
 | nil => exact hl rfl
 | cons x l =>
  have := (h.2.1 x.fn).2 ⟨x, List.mem_cons_self .., rfl⟩
  rw [List.eq_nil_of_length_eq_zero e] at this
  cases this
theorem zkj (h : Zq lo w mg n l D) : Maps.size D ≤ l.length := by
 obtain ⟨gs, h1, h2⟩ := zkh h
 rw [h2]
 exact zab (zey h1)
variable {α : Type}
theorem zgQ (f : α → Nat) : ∀ {l : List α} {x : α}, x ∈ l → f x ≤ (l.map f).sum
 | y :: l, x, h => by
  rw [List.map_cons, List.sum_cons]
  rcases List.mem_cons.1 h with rfl | h
  ·omega
  ·have := zgQ f h; omega
theorem zjh : (Tryz.prog.info? 232).map (fun i => (i.zero, i.size, i.bytes)) = some (some (.agg #[.int .u32 0, .string ⟨#[]⟩]), 2, 24) := by kernel_rfl
theorem zfd (h : Rng w b r n D left li) : w.rangeLeft b r = li := h.left_eq
def wNmB (nm : List UInt8) (fs ls : List Nam) (gs : List (UInt32 × List Nam)) : List UInt8 :=
 if nm.length = 0 ∧ fs.length = 0 ∧ ls.length = 0 then [] else wSec 0 (zq ji ++ (yL nm ++ (zD 1 wNam fs ++ zD 2 wGrp gs)))
theorem zji (m : Mod) (gs : List (UInt32 × List Nam)) : Yl m gs = wNmB m.named m.funcs m.locals gs := rfl
theorem wTl (s : List UInt8) : (zq s).length ≤ s.length + 10 ∨ 18446744073709551616 ≤ s.length := by
 by_cases h : s.length < 18446744073709551616
 ·refine .inl ?_
  unfold zq
  have := zI s.length h
  rw [laQ]; omega
 ·exact .inr (by omega)
theorem Ye : (zq ji).length = 5 := by
 unfold zq
 have e : ji.length = 4 := rfl
 rw [laQ, e]
 have : (uleb 4).length = 1 := by unfold uleb; rfl
 omega
theorem zgR (nm : List UInt8) (h : nm.length ≤ 1073741824) : (yL nm).length ≤ nm.length + 21 := by
 unfold yL wSec
 split
 ·simp
 ·have := wTl nm; have := wTl (zq nm); rw [List.length_cons]; omega
theorem Jf (id : UInt8) (f : α → List UInt8) (l : List α) (h : (wVec f l).length ≤ 4294967295) : (zD id f l).length ≤ (wVec f l).length + 11 := by
 unfold zD wSec
 split
 ·simp
 ·have := wTl (wVec f l); rw [List.length_cons]; omega
theorem zfe (h : zaW l gs) (hl : l.length ≤ 1048576) (hz : (l.map fun n => 20 + (wNam n).length).sum ≤ 1073741824) : (uleb gs.length).length + (gs.flatMap wGrp).length ≤ 1073741834 := by
 have h1 := zfa h (by omega)
 have h2 := zI gs.length (by have := zab h; omega)
 omega
theorem zjj {x : Nam} (h : x ∈ l) (hz : (l.map fun n => 20 + (wNam n).length).sum ≤ 1073741824) : x.name.length < 4294967296 := by
 have := zgQ (fun n => 20 + (wNam n).length) h
 have e : (wNam x).length = (uleb x.idx.toNat).length + ((uleb x.name.length).length + x.name.length) := by unfold wNam zq; simp
 omega
theorem zgS (n j : Nat) : ((⟨n, 0, none⟩ : Addr).add j) = ⟨n, j, none⟩ := by unfold Addr.add; split <;> simp_all
theorem zjk (W : World) (l : List UInt8) (T : TypeId) (fz : Nat × Nat) (hl : l.length ≤ maxLen) :
 Lay.u8.slice.rd (fun k => W.heap.size ≤ k ∧ k < W.heap.size + 1) (W.alloc (.cells (l.map fun b => Value.int .u8 (b.toNat : Int)).toArray T fz)) [.slice (some ⟨W.heap.size, 0, none⟩) l.length l.length] l :=
 ⟨_, l.length, rfl, Nat.le_refl _, hl, fun _ => ⟨W.heap.size, 0, (l.map fun b => Value.int .u8 (b.toNat : Int)).toArray, T, fz, l.map fun b => Value.int .u8 (b.toNat : Int), rfl, ⟨Nat.le_refl _, Nat.lt_succ_self _⟩, (by show (W.heap.push (.cells _ T fz))[W.heap.size]? = _; simp), zar l, fun j hj => by simp⟩⟩
theorem zjl (W : World) : Lay.u8.slice.rd (fun k => W.heap.size ≤ k ∧ k < W.heap.size + 1) (W.alloc (.cells #[.int .u8 110, .int .u8 97, .int .u8 109, .int .u8 101] 5 (4, 4 + 1))) [.slice (some ⟨W.heap.size, 0, none⟩) 4 4] ji := zjk W ji _ _ (by decide)
theorem ZU (S : Sink) (lo g : Nat) (nm : List UInt8) (fs ls : List Nam) (a1 a2 : Option Addr) (c1 c2 : Nat) (A : Nat → Prop) (bs : List UInt8) (w : World) (hS : S.is lo g bs w) (h1 : Lay.wnam.slice.rd A w [.slice a1 fs.length c1] fs) (h2 : Lay.nam.slice.rd A w [.slice a2 ls.length c2] ls) (hA : Away S.toHold g w A) (ap : lo ≤ w.heap.size)
 (cN : ∀ x ∈ fs, x.name.length < 4294967296) (hz : nm.length + (wVec wNam fs).length + (ls.map fun n => 20 + (wNam n).length).sum ≤ 1073741824) (hn : fs.length ≤ 1048576 ∧ ls.length ≤ 1048576) (hl : bs.length ≤ 35184372088832) :
 Calls Tryz.prog 83 #[.iface S.T (.pointer (some ⟨g, 0, none⟩)), .agg #[.string (zc nm), .slice a1 fs.length c1, .slice a2 ls.length c2]] w fun e w' => e = .returned .nilIface ∧ ∃ gs, jU ls gs ∧ Wrote S.toHold lo g w (bs ++ wNmB nm fs ls gs) w' := by
 have iA : (fs.length : Int) ≤ 9223372036854775807 := by omega
 have eE : (ls.length : Int) ≤ 9223372036854775807 := by omega
 have K0 := qh (WK.start hS ap)
 by_cases h0 : nm.length = 0 ∧ fs.length = 0 ∧ ls.length = 0
 ·obtain ⟨e1, e2, e3⟩ := h0
  obtain rfl := List.eq_nil_of_length_eq_zero e1
  obtain rfl := List.eq_nil_of_length_eq_zero e2
  obtain rfl := List.eq_nil_of_length_eq_zero e3
  have p7 : zc [] = ⟨#[]⟩ := rfl
  have K1 := qh (K0.o.push #[.string ⟨#[]⟩, .slice a1 0 c1, .slice a2 0 c2] 192)
  rw [p7]
  simp only [List.length_nil]
  clear hS h1 h2 hA ap cN hz hn hl iA eE e1 e2 e3
  go_enter Tryz.func83, Tryz.ntmps83
  go_wp2
  go_ret
  exact ⟨rfl, [], ⟨by simp, fun f => by simp, fun g h => by cases h⟩, K1.o.wr.eq (by rw [show wNmB [] [] [] [] = [] from rfl, List.append_nil])⟩
 ·have Cv := qh (fun gs => show wNmB nm fs ls gs = [UInt8.ofNat 0] ++ zq (zq ji ++ (yL nm ++ (zD 1 wNam fs ++ zD 2 wGrp gs))) from by unfold wNmB; rw [if_neg h0]; rfl)
  have H := qh (anQ h1 (anQ h2 (anQ hA (anQ cN (anQ hz (anQ hn hl))))))
  have eN := yJ nm
  have tt : ∀ (W : World) (X : Obj), (convert 22 22 (.slice (some ⟨W.heap.size + 1, 0, none⟩) 4 4)).run Tryz.prog ((W.alloc X).alloc (.cells #[.int .u8 110, .int .u8 97, .int .u8 109, .int .u8 101] 5)) = .ok (.slice (some ⟨W.heap.size + 1, 0, none⟩) 4 4) ((W.alloc X).alloc (.cells #[.int .u8 110, .int .u8 97, .int .u8 109, .int .u8 101] 5 (4, 4 + 1))) := fun W X => by
   have h := Lib.run_convert_bytes_const (P := Tryz.prog) (W.alloc X) 22 5 #[.int .u8 110, .int .u8 97, .int .u8 109, .int .u8 101] 4 4 Tryz.underlying22 Tryz.underlying5
   have e : (W.alloc X).heap.size = W.heap.size + 1 := by simp
   rw [e] at h
   exact h
  obtain ⟨q0, f0⟩ : ∃ q0 : Bool, ((zc nm).toList == ([] : List UInt8)) = q0 := ⟨_, rfl⟩
  obtain ⟨q1, f1⟩ : ∃ q1 : Bool, ((fs.length : Int) == 0) = q1 := ⟨_, rfl⟩
  obtain ⟨q2, f2⟩ : ∃ q2 : Bool, ((ls.length : Int) == 0) = q2 := ⟨_, rfl⟩
  have n0 : ((zc nm).toList != ([] : List UInt8)) = !q0 := by rw [← f0]; rfl
  have n1 : ((fs.length : Int) != 0) = !q1 := by rw [← f1]; rfl
  have n2 : ((ls.length : Int) != 0) = !q2 := by rw [← f2]; rfl
  have g0 : Hd (q0 = true ↔ nm.length = 0) := by
   show _ ↔ _
   rw [← f0, beq_iff_eq]
   constructor
   ·intro h
    have : (zc nm).toList = nm := by rw [ByteArray.toList_eq]; rfl
    rw [← this, h]; rfl
   ·intro h
    rw [List.eq_nil_of_length_eq_zero h, ByteArray.toList_eq]; rfl
  have g1 : Hd (q1 = true ↔ fs.length = 0) := by show _ ↔ _; rw [← f1, beq_iff_eq]; omega
  have g2 : Hd (q2 = true ↔ ls.length = 0) := by show _ ↔ _; rw [← f2, beq_iff_eq]; omega
  have gN : Hd (¬ (q0 = true ∧ q1 = true ∧ q2 = true)) := fun h => h0 ⟨g0.o.1 h.1, g1.o.1 h.2.1, g2.o.1 h.2.2⟩
  clear hS h1 h2 hA ap cN hz hn hl h0
  go_enter Tryz.func83, Tryz.ntmps83
  have K1 := qh (K0.o.push #[.string (zc nm), .slice a1 fs.length c1, .slice a2 ls.length c2] 192)
  go_upto_region 1 with fail
  go_cut [41] from 27 to 41 (fun D6 w' => D6 = .bool false ∧ w' = w.alloc (.cells #[.string (zc nm), .slice a1 fs.length c1, .slice a2 ls.length c2] 192))
  case first =>
   cases q0 <;> cases q1 <;> cases q2
   case true.true.true => exact absurd ⟨rfl, rfl, rfl⟩ gN.o
   all_goals
    go_wp2_with fail
    go_meet
    exact ⟨rfl, rfl⟩
  case rest =>
   obtain ⟨rfl, rfl⟩ := hcut
   go_wp2_with fail
   refine (zm S lo g 0 (by decide) bs _ K1.o.is K1.o.lo (by have := H.o.2.2.2.2.2.2; omega)).mono ?_
   rintro e w2 ⟨rfl, k⟩
   have K2 := qh (K1.o.step k)
   clear k
   have da := (K2.o.box _ (.head _)).1
   have HC := qh da
   replace da := da.cell
   go_wp2_with fail
   obtain ⟨n0, dC⟩ := exQ (w2.heap.size)
   have B0 := qh (SB.start K2.o.pop dC)
   have e3 := qh (show (w2.alloc (.cells (bufC (.slice none 0 0) 0) 314)).heap.size = n0 + 1 from by simp [dC])
   rw [dC]
   generalize (w2.alloc (.cells (bufC (.slice none 0 0) 0) 314)) = W3 at *
   have hr := zjl W3
   have hy := za W3 (.cells #[.int .u8 110, .int .u8 97, .int .u8 109, .int .u8 101] 5 (4, 4 + 1))
   have ha := WK.awayNew (A := fun k => W3.heap.size ≤ k ∧ k < W3.heap.size + 1) B0.o.b.is hy (fun k hk => ⟨hk.1, by simpa using hk.2⟩)
   rw [e3.o] at hr ha
   have B1 := qh (B0.o.ext hy)
   refine (je z7 n0 n0 ji _ _ 4 _ [] _ B1.o.b.is hr ha B1.o.b.lo (by decide) (by simp only [List.length_nil]; rw [Ye]; omega)).mono ?_
   rintro e w4 ⟨rfl, k⟩
   have B2 := qh ((B1.o.step k).eq (pre' := zq ji) (by simp))
   clear k hr hy ha da tt
   have ag := (HC.o.ext B2.o.x).cell
   go_upto_if 56 with fail
   go_cut [8, 9, 10, 11] from 57 to 74 (fun s8 s9 ey nN w' => Hd (SB S lo g w w2 (bs ++ [UInt8.ofNat 0]) n0 w' (zq ji ++ yL nm) []))
   case first =>
    cases q0 with
    | true =>
     have hw := qh (show zq ji = zq ji ++ yL nm from by unfold yL; rw [if_pos (g0.o.1 rfl), List.append_nil])
     go_wp2_with fail
     go_meet
     exact B2.o.eq hw.o
    | false =>
     have hw := qh (show yL nm = [UInt8.ofNat 0] ++ zq (zq nm) from by unfold yL; rw [if_neg (fun h => by have := g0.o.2 h; cases this)]; rfl)
     go_wp2_with fail
     refine (B2.o.byte 0 (by decide) (by rw [Ye]; omega)).mono ?_
     rintro e w5 ⟨rfl, k⟩
     have B3 := qh k
     clear k ag
     have ag := (HC.o.ext (Ext.trans B3.o.x (za w5 (.cells (bufC (.slice none 0 0) 0) 314)))).cell
     go_wp2_with fail
     obtain ⟨n1, dJ⟩ := exQ (w5.heap.size)
     have M0 := qh (SB.start (WK.start B3.o.b.is B3.o.b.lo) dJ)
     have e5 := qh (show (w5.alloc (.cells (bufC (.slice none 0 0) 0) 314)).heap.size = n1 + 1 from by simp [dJ])
     rw [dJ]
     generalize (w5.alloc (.cells (bufC (.slice none 0 0) 0) 314)) = W6 at *
     refine (zS z7 n1 n1 nm [] W6 _ e5.o M0.o.b.is M0.o.b.lo (by have := H.o.2.2.2.2.1; omega) (by have := H.o.2.2.2.2.1; have := wTl nm; simp only [List.length_nil]; omega)).mono ?_
     rintro e w7 ⟨rfl, k⟩
     have M1 := qh ((M0.o.step k).eq (pre' := zq nm) (by simp))
     clear k ag
     go_wp2_with fail
     refine (M1.o.raw (by have := H.o.2.2.2.2.1; have := wTl nm; omega) (by have := H.o.2.2.2.2.1; have := wTl nm; have := wTl (zq nm); have := Ye; simp only [laQ, List.length_cons, List.length_nil]; omega)).mono ?_
     rintro e w8 ⟨rfl, k⟩
     have B4 := qh ((B3.o.step k).eq (pre' := zq ji ++ yL nm) (by rw [hw.o]; simp only [List.append_assoc]; rfl))
     clear k
     go_wp2_with fail
     go_meet
     exact B4.o
   case rest =>
    clear ag B2
    have B2 := hcut
    clear hcut
    have hL := qh (show (zq ji ++ yL nm).length ≤ nm.length + 26 from by have := zgR nm (by have := H.o.2.2.2.2.1; omega); have := Ye; rw [laQ]; omega)
    have ag := (HC.o.ext B2.o.x).cell
    go_upto_if 78 with fail
    go_cut [12, 13, 14, 15] from 79 to 95 (fun u9 fX pM ra w' => Hd (SB S lo g w w2 (bs ++ [UInt8.ofNat 0]) n0 w' (zq ji ++ yL nm ++ zD 1 wNam fs) []))
    case first =>
     cases q1 with
     | true =>
      have hw := qh (show zq ji ++ yL nm = zq ji ++ yL nm ++ zD 1 wNam fs from by rw [jy (g1.o.1 rfl), List.append_nil])
      go_wp2_with fail
      go_meet
      exact B2.o.eq hw.o
     | false =>
      have hw := qh (y0 (id := 1) (f := wNam) (fun h => by have := g1.o.2 h; cases this))
      go_wp2_with fail
      refine (B2.o.byte 1 (by decide) (by have := hL.o; have := H.o.2.2.2.2.1; omega)).mono ?_
      rintro e w5 ⟨rfl, k⟩
      have B3 := qh k
      clear k ag
      have ag := (HC.o.ext (Ext.trans B3.o.x (za w5 (.cells (bufC (.slice none 0 0) 0) 314)))).cell
      go_wp2_with fail
      obtain ⟨n1, dJ⟩ := exQ (w5.heap.size)
      have M0 := qh (SB.start (WK.start B3.o.b.is B3.o.b.lo) dJ)
      rw [dJ]
      generalize (w5.alloc (.cells (bufC (.slice none 0 0) 0) 314)) = W6 at *
      refine (JV z7 n1 n1 fs a1 fs.length c1 A [] W6 M0.o.b.is (M0.o.rd (B3.o.rd H.o.1 H.o.2.2.1) (B3.o.away H.o.2.2.1)) (M0.o.away (B3.o.away H.o.2.2.1)) M0.o.b.lo H.o.2.2.2.1 (by have := H.o.2.2.2.2.2.1; omega) (by have := H.o.2.2.2.2.1; simp only [List.length_nil]; omega)).mono ?_
      rintro e w7 ⟨rfl, k⟩
      have M1 := qh ((M0.o.step k).eq (pre' := wVec wNam fs) (by simp))
      clear k ag
      go_wp2_with fail
      refine (M1.o.raw (by have := H.o.2.2.2.2.1; omega) (by have := H.o.2.2.2.2.1; have := wTl (wVec wNam fs); have := hL.o; simp only [laQ, List.length_cons, List.length_nil] at this ⊢; omega)).mono ?_
      rintro e w8 ⟨rfl, k⟩
      have B4 := qh ((B3.o.step k).eq (pre' := zq ji ++ yL nm ++ zD 1 wNam fs) (by rw [hw.o]; simp only [List.append_assoc]; rfl))
      clear k
      go_wp2_with fail
      go_meet
      exact B4.o
    case rest =>
     clear ag B2
     have B2 := hcut
     clear hcut
     have hL := qh (show (zq ji ++ yL nm ++ zD 1 wNam fs).length ≤ 2147483738 from by have := Jf 1 wNam fs (by have := H.o.2.2.2.2.1; omega); have := hL.o; have := H.o.2.2.2.2.1; rw [laQ]; omega)
     have ag := (HC.o.ext B2.o.x).cell
     generalize hP : zq ji ++ yL nm ++ zD 1 wNam fs = P at *
     have hP := qh hP
     go_upto_if 99 with fail
     go_cut [16, 17, 19, 20, 21, 22, 23, 24, 25, 26] from 100 to 161 (fun Fa xk xp uU rW ET Bb vf AO u7 w' => Hd (∃ gs, jU ls gs ∧ SB S lo g w w2 (bs ++ [UInt8.ofNat 0]) n0 w' (P ++ zD 2 wGrp gs) []))
     case first =>
      cases q2 with
      | true =>
       have hz := qh (List.eq_nil_of_length_eq_zero (g2.o.1 rfl))
       go_wp2_with fail
       go_meet
       exact ⟨[], by rw [hz.o]; exact ⟨by simp, fun f => by simp, (by intro g h; cases h)⟩, B2.o.eq (by rw [jy rfl, List.append_nil])⟩
      | false =>
       have hw := qh (fun gs (hG : jU ls gs) => y0 (id := 2) (f := wGrp) (zki hG (fun h => by have := g2.o.2 h; cases this)))
       go_wp2_with fail
       refine (B2.o.byte 2 (by decide) (by have := hL.o; omega)).mono ?_
       rintro e w5 ⟨rfl, k⟩
       have B3 := qh (k.eq (pre' := P ++ [2]) (congrArg (P ++ [·]) (by decide)))
       clear k ag B2
       obtain ⟨n1, dJ⟩ := exQ (w5.heap.size)
       have G0 := qh (zia w5 n1 dJ)
       have hx := qh (za w5 (.map #[] 0))
       have ag := (HC.o.ext (Ext.trans B3.o.x hx.o)).cell
       have dR := @run_makeMap Tryz.prog
       go_wp2_with fail
       generalize (w5.alloc (.map #[] 0)) = W6 at *
       have dJ := qh dJ
       clear dR
       go_loopw [109] (fun qG w' => ∃ (i : Nat), i ≤ ls.length ∧ qG = .int .i64 i ∧ Hd (Ext w5 w' ∧ ∃ D, Zq (n1 + 1) w' n1 i (ls.take i) D)) (fun qG _ => ls.length - (intOf qG).toNat)
       case atStart => exact ⟨0, nzQ _, rfl, hx.o, _, by rw [List.take_zero]; exact G0.o⟩
       case round =>
        obtain ⟨i, hi, rfl, hV⟩ := hrel
        by_cases ah : i < ls.length
        ·obtain ⟨it, D, hG⟩ := hV.o
         obtain ⟨b, o, rfl, e0, e1, e2, cl⟩ := Lay.nam_at ((B3.o.ext it).rd H.o.2.1 H.o.2.2.1) i ah
         have aX := qh (List.take_append_getElem ah)
         have cl := qh cl
         generalize ls[i] = x at *
         obtain ⟨a, n', c, hO, nc, fo⟩ := hG.look x.fn
         have hO := qh hO
         have fo := qh fo
         have nc := qh nc
         obtain ⟨gx, AA⟩ := exQ (wr.heap.size)
         have HE : Hd (Blk (wr.alloc (.cells #[.int .u32 (x.fn.toNat : Int), .int .u32 (x.idx.toNat : Int), .string (zc x.name)] 234)) gx #[.int .u32 (x.fn.toNat : Int), .int .u32 (x.idx.toNat : Int), .string (zc x.name)] 234) := by rw [← AA]; exact zk _ _ _
         have HU : Hd (Ext w5 wr ∧ Zq (n1 + 1) wr n1 i (ls.take i) D ∧ Ext wr (wr.alloc (.cells #[.int .u32 (x.fn.toNat : Int), .int .u32 (x.idx.toNat : Int), .string (zc x.name)] 234)) ∧ wr.heap.size = gx) := ⟨it, hG, za _ _, AA⟩
         clear it hG hV
         go_wp2_with fail
         generalize wr.alloc (.cells #[.int .u32 (x.fn.toNat : Int), .int .u32 (x.idx.toNat : Int), .string (zc x.name)] 234) = Wm at *
         clear e0 e1 e2 AA
         refine zi (y4 (fun k => ¬ (k = n1 ∨ k = gx))) [kT 0, kT 1, kT 2, kT 3, kT 4, kT 5, kT 6, kT 7, kT 8, kT 9, kT 10, kT 11, kT 12, kT 13, kR 14, kR 15, kL 16] (by kernel_rfl) (by kernel_rfl) ?_
         simp only [zy, gzQ, gsQ]
         have HD : Hd (Ext wr Wm.drew ∧ Blk Wm.drew gx #[.int .u32 (x.fn.toNat : Int), .int .u32 (x.idx.toNat : Int), .string (zc x.name)] 234) := ⟨HU.o.2.2.1.trans (zb _), HE.o.ext (zb _)⟩
         clear HE
         generalize Wm.drew = Wd at *
         have DA := qh (fun W' (h : Fr (fun k => ¬ (k = n1 ∨ k = gx)) Wd W') => anQ (HD.o.2.fr h (fun e => e (.inr rfl))).cell (nc.o _ W' (Ext.fr HD.o.1 h) (fun e => e (.inl rfl))))
         repeat (apply item_take; rfl; rfl; rfl; rfl; exact fun _ _ _ _ h => h; (intro W e _ k; obtain ⟨q, q2⟩ := DA.o W e; go_simp; exact k))
         apply ze; rfl; intro K hK; go_simp
         refine hK _ _ (za _ _).to ?_
         clear hK K
         apply ze; rfl; intro K hK
         have AZ := zk Wd #[.int .u32 (x.idx.toNat : Int), .string (zc x.name)] 232
         have ue := Ext.trans HD.o.1 (za Wd (.cells #[.int .u32 (x.idx.toNat : Int), .string (zc x.name)] 232))
         refine Jq Lay.wnam (n1 + 1) (.tmp 119) (.tmp 127) _ _ _ 24 rfl Tryz.underlying189 zjh rfl (by omega) (by decide) (.slice a n' c) ((ls.take i).filter (fk x.fn)) [x] [.int .u32 (x.idx.toNat : Int), .string (zc x.name)] ⟨Wd.heap.size, 0, none⟩ 1 1 rfl rfl rfl (hO.o.ext ue) (Lay.all_single ⟨[_], [_], rfl, rfl, rfl, cl.o⟩) ?_ ?_ ?_ ?_
         ·intro j u hj
          rw [zgS, AZ.cell j]
          simpa using hj
         ·exact nlQ HU.o.2.1.1.lt ue.size
         ·have := H.o.2.2.2.2.2.1.2; have := List.length_filter_le (fk x.fn) (ls.take i); rw [ltQ] at this; omega
         intro v1 Wa h1 h2 h3
         refine hK _ _ (h2.mono (fun k _ e e2 => by
          have q := hO.o.lt k e.symm
          have := HU.o.2.2.2
          rcases e2 with e2 | e2 <;> omega)) ?_
         clear hK K
         obtain ⟨b1, m1, d1, rfl⟩ := h1.shape
         obtain ⟨W3, hr, AB, pu⟩ := HU.o.2.1.put x fo.o HU.o.2.1.1.lt ue h1 h2 (by have := H.o.2.2.2.2.2.1.2; unfold maxLen; omega) (fun k hk => by
          rcases h3 with e | e
          ·exact .inl (e.symm.trans hk)
          ·rw [e] at hk; cases hk; exact .inr (Nat.le_refl _))
         have hX : Hd (Ext w5 W3) := zkf (zkf (HU.o.1.trans ue) h2 (fun k e => by have := (hO.o.lt k e.symm).1; have := dJ.o; omega)) pu (fun k e => by have e' : k = n1 := e; have := dJ.o; omega)
         have AB := qh AB
         clear h1 h2 h3 pu AZ ue
         apply zu; rfl; intro K hK; go_simp
         refine hK _ _ ?_
         clear hK K hr
         apply zl
         go_wp2
         go_roundw
         case rel => exact ⟨i + 1, by omega, by go_num, hX.o, _, by rw [← aX.o]; exact AB.o⟩
         case measure => simp [intOf]; omega
        ·obtain rfl : i = ls.length := by omega
         obtain ⟨it, D, hG⟩ := hV.o
         rw [tlQ] at hG
         have hG := qh hG
         have Bl := qh (B3.o.ext it)
         have Bo := qh (WK.awayNew (A := fun k => n1 + 1 ≤ k ∧ k < wr.heap.size) B3.o.b.is it (fun k hk => ⟨by have := dJ.o; omega, hk.2⟩))
         have vO := qh (show Maps.size D < 4294967296 from by have := zkj hG.o; have := H.o.2.2.2.2.2.1.2; omega)
         obtain ⟨pr, qO⟩ := jd vO.o
         have au := fun o => Zr hG.o.1 (za wr o) (fun h => h)
         clear ag hV it
         go_wp2_with (at_len; refine Hd.o ?_)
         refine wpList_len_own _ rfl _ 328 rfl 24 189 Tryz.underlying328 zac n1 _ D rfl (au _) ?_
         go_wp2_with fail
         clear au
         generalize wr = wl at *
         obtain ⟨n2, eU⟩ := exQ (wl.heap.size)
         have M0 := qh (SB.start (WK.start Bl.o.b.is Bl.o.b.lo) eU)
         rw [eU]
         generalize (wl.alloc (.cells (bufC (.slice none 0 0) 0) 314)) = W7 at *
         refine (zf z7 n2 n2 (Maps.size D) vO.o [] W7 M0.o.b.is M0.o.b.lo (by simp)).mono ?_
         rintro e w8 ⟨rfl, k⟩
         have M1 := qh ((M0.o.step k).eq (pre' := uleb (Maps.size D)) (by simp))
         clear k pr qO
         have eU := qh eU
         have xU := qh (hG.o.ext M1.o.x)
         go_wp2_with (at_range; refine Hd.o ?_)
         refine wpList_range_own _ rfl _ 328 rfl 24 189 lawU Tryz.underlying328 zac n1 ls.length D rfl xU.o.1 ?_
         intro w9 ri Be p7
         have AD : Ext w8 w9 := (Jp Be).mono (fun k _ e => by cases e)
         obtain ⟨n3, rO⟩ := exQ (w8.heap.size)
         have wA := qh (show n2 < n3 from by rw [← rO]; exact (IsBf.lt (show IsBf n2 n2 _ w8 from M1.o.b.is) n2 (.inl rfl)).2)
         rw [rO] at ri ⊢
         have M2 := qh (M1.o.ext AD)
         have R0 := qh (zgP xU.o ri)
         have A0 := qh (WK.awayNew (A := fun k => k = n3) M1.o.b.is AD (fun k e => by cases e; omega))
         clear ri Be p7 AD xU rO
         go_wp2_with fail
         go_frame
         go_loopw [22] (fun _ w' => Hd (∃ gs, SB z7 n0 n0 wl wl (P ++ [2]) n2 w' (uleb (Maps.size D) ++ gs.flatMap wGrp) [] ∧ zkg w' n1 n3 ls.length ls D gs ∧ Away z7.toHold n2 w' (fun k => k = n3))) (fun _ w' => w'.rangeLeft n1 n3)
         case atStart => exact ⟨[], M2.o.eq (by simp), R0.o, A0.o⟩
         case round =>
          clear M2 R0 A0
          obtain ⟨gs, q1, ⟨left, li, vo, q2, q3⟩, q4⟩ := hrel.o
          have q1 := qh q1
          have q2 := qh q2
          have q3 := qh q3
          have q4 := qh q4
          have vo := qh vo
          go_wp2_with (at_next; refine Hd.o ?_)
          refine wpList_next_ranges _ rfl _ rfl 24 lawU zac (fun y : UInt32 => .int .u32 (y.toNat : Int)) (fun c : Option Addr × Nat × Nat => .slice c.1 c.2.1 c.2.2) (fun key kl hk => (zfb hk).imp fun _ h => h.1) (fun v y hv => (zbz hv).1) n1 n3 ls.length D left li rfl vo.o ?_ ?_
          ·intro _ dr
           have Ay := qh (zjg q2.o q3.o dr)
           have cj := qh (zfc hG.o Ay.o)
           have AN := qh (show (uleb (Maps.size D) ++ gs.flatMap wGrp).length ≤ 1073741834 from by have := zfe q2.o H.o.2.2.2.2.2.1.2 (by have := H.o.2.2.2.2.1; omega); rw [cj.o, laQ]; exact this)
           have vx := qh (wTl (uleb (Maps.size D) ++ gs.flatMap wGrp))
           have rf := qh (show (P ++ [2]).length = P.length + 1 from laQ)
           clear dr
           go_wp2_with fail
           refine (q1.o.raw (by have := AN.o; omega) (by have := AN.o; have := vx.o; have := hL.o; have := rf.o; omega)).mono ?_
           rintro e tW ⟨rfl, k⟩
           have B6 := qh ((Bl.o.step k).eq (pre' := P ++ zD 2 wGrp gs) (by rw [hw.o gs Ay.o, cj.o]; simp only [List.append_assoc]; rfl))
           clear k
           go_wp2_with fail
           go_meet
           exact ⟨gs, Ay.o, B6.o⟩
          ·intro x c kl y pK xe hk sy hv fo rJ ah iy cZ Bx
           obtain rfl := Option.some.inj (hk.symm.trans (keyU x))
           obtain ⟨-, rfl⟩ := zbz hv
           obtain ⟨aa, m, cc⟩ := c
           dsimp only at fo Bx
           have hO := qh (hG.o.row (fo (.held nilW)))
           have S1 := qh (zib q2.o q3.o sy)
           have sF := qh ah
           have iw := Jp iy
           have N1 := qh (q1.o.but iw (fun k e => by have e' : some k = some n3 := e; cases e'; exact ⟨wA.o, (q4.o n3 rfl).2⟩))
           have A1 := qh (q1.o.b.butAway iw (fun k e => by have e' : some k = some n3 := e; cases e'; exact (q4.o n3 rfl).2) q4.o)
           have rJ := qh rJ
           have ci := qh (show (uleb (Maps.size D)).length + ((gs.flatMap wGrp).length + ((uleb x.toNat).length + (wVec wNam (ls.filter (fk x))).length)) ≤ 1073741844 from by
            have h1 := zfe S1.o.1 H.o.2.2.2.2.2.1.2 (by have := H.o.2.2.2.2.1; omega)
            have h2 := zI (Maps.size D) (by have := vO.o; omega)
            have e : ((gs ++ [(x, ls.filter (fk x))]).flatMap wGrp).length = (gs.flatMap wGrp).length + ((uleb x.toNat).length + (wVec wNam (ls.filter (fk x))).length) := by
             rw [List.flatMap_append, laQ, List.flatMap_cons, List.flatMap_nil, List.append_nil]
             exact congrArg _ laQ
            omega)
           clear hk sy hv fo ah iy cZ iw
           go_wp2_with fail
           refine (zf z7 n2 n2 x.toNat x.toNat_lt _ pK N1.o.b.is N1.o.b.lo (by have := ci.o; rw [laQ]; omega)).mono ?_
           rintro e pE ⟨rfl, k⟩
           have N2 := qh (N1.o.step k)
           have A2 := qh (A1.o.step k)
           have R2 := qh (ziP rJ.o k.fr (fun q => by have := (IsBf.lt (show IsBf n2 n2 _ pK from N1.o.b.is) n1 q).1; have := hG.o.1.lt; have := eU.o; omega) (A1.o n3 rfl).2)
           clear k Bx
           go_wp2_with fail
           refine (JV z7 n2 n2 (ls.filter (fk x)) aa m cc (fun k => n1 + 1 ≤ k ∧ k < wl.heap.size) _ pE N2.o.b.is (N2.o.rd hO.o.slice Bo.o) (N2.o.away Bo.o) N2.o.b.lo (fun z hz => zjj (List.mem_filter.1 hz).1 (by have := H.o.2.2.2.2.1; omega)) (by have := H.o.2.2.2.2.2.1.2; have := List.length_filter_le (fk x) ls; omega) (by have := ci.o; rw [laQ, laQ]; omega)).mono ?_
           rintro e tW ⟨rfl, k⟩
           have N3 := qh ((N2.o.step k).eq (pre' := uleb (Maps.size D) ++ (gs ++ [(x, ls.filter (fk x))]).flatMap wGrp) (by rw [List.flatMap_append]; simp only [List.flatMap_cons, List.flatMap_nil, List.append_nil, List.append_assoc]; rfl))
           have A3 := qh (A2.o.step k)
           have R3 := qh (ziP R2.o k.fr (fun q => by have := (IsBf.lt (show IsBf n2 n2 _ pE from N2.o.b.is) n1 q).1; have := hG.o.1.lt; have := eU.o; omega) (A2.o n3 rfl).2)
           clear k
           go_wp2
           go_roundw
           case rel => exact ⟨_, N3.o, ⟨_, xe, R3.o, S1.o.1, S1.o.2⟩, A3.o⟩
           case measure => rw [zfd R3.o, zfd vo.o]; exact sF.o
     case rest =>
      obtain ⟨gs, hG, k⟩ := hcut.o
      have hG := qh hG
      have B5 := qh k
      clear k hcut ag B2
      have Bw := qh (show (P ++ zD 2 wGrp gs).length ≤ 3221225600 from by
       have h1 := zfe (zey hG.o) H.o.2.2.2.2.2.1.2 (by have := H.o.2.2.2.2.1; omega)
       have e : (wVec wGrp gs).length = (uleb gs.length).length + (gs.flatMap wGrp).length := laQ
       have h2 := Jf 2 wGrp gs (by omega)
       have := hL.o
       rw [laQ]; omega)
      have vx := qh (wTl (P ++ zD 2 wGrp gs))
      go_wp2_with fail
      refine (B5.o.raw (by have := Bw.o; omega) (by have := Bw.o; have := vx.o; have := H.o.2.2.2.2.2.2; simp only [laQ, List.length_cons, List.length_nil] at *; omega)).mono ?_
      rintro e w8 ⟨rfl, k⟩
      have k := qh k
      go_wp2
      go_ret
      exact ⟨rfl, gs, hG.o, k.o.eq (by rw [Cv.o gs, ← hP.o]; simp only [List.append_assoc])⟩
def zdL (A : Nat → Prop) (w : World) (hs : Bool) (st : UInt32) (q : Option Addr) : Prop :=
 (hs = false ∧ q = none) ∨ (hs = true ∧ ∃ b o bO T fz, q = some ⟨b, o, none⟩ ∧ A b ∧ w.heap[b]? = some (.cells bO T fz) ∧ bO[o]? = some (.int .u32 (st.toNat : Int)))
variable {A : Nat → Prop}
theorem zdL.fr {hs : Bool} {st : UInt32} {q : Option Addr} (h : zdL A w hs st q) (hf : Fr P w w') (hp : ∀ k, A k → k < w.heap.size ∧ ¬ P k) : zdL A w' hs st q := by
 rcases h with h | ⟨h, b, o, bO, T, fz, e, hA, hb, hc⟩
 ·exact .inl h
 ·exact .inr ⟨h, b, o, bO, T, fz, e, hA, (hf.block b (hp b hA).1 (hp b hA).2).trans hb, hc⟩
def Yt (hs : Bool) (st : UInt32) : List UInt8 := if hs then wSec 8 (uleb st.toNat) else []
theorem zez (hs : Bool) (st : UInt32) : (Yt hs st).length ≤ 30 := by
 unfold Yt wSec
 split
 ·have h1 := zI st.toNat (by have := st.toNat_lt; omega)
  have := wTl (uleb st.toNat)
  rw [List.length_cons]; omega
 ·simp
theorem ZH (S : Sink) (lo g : Nat) (hs : Bool) (st : UInt32) (q : Option Addr) (A : Nat → Prop) (bs : List UInt8) (w : World) (hS : S.is lo g bs w) (hq : zdL A w hs st q) (hA : Away S.toHold g w A) (ap : lo ≤ w.heap.size) (hl : bs.length + 100 ≤ 70368744177664) :
 Calls Tryz.prog 79 #[.iface S.T (.pointer (some ⟨g, 0, none⟩)), .agg #[.pointer q]] w fun e w' => e = .returned .nilIface ∧ Wrote S.toHold lo g w (bs ++ Yt hs st) w' := by
 have K0 := qh (WK.start hS ap)
 rcases hq with ⟨rfl, rfl⟩ | ⟨rfl, b, o, bO, T, fz, rfl, eH, hb, hc⟩
 ·have K1 := qh (K0.o.push #[.pointer none] 158)
  clear hS ap hl
  go_enter Tryz.func79, Tryz.ntmps79
  go_wp2
  go_ret
  exact ⟨rfl, K1.o.wr.eq (by rw [show Yt false st = [] from rfl, List.append_nil])⟩
 ·have ah := st.toNat_lt
  have hw := qh (show Yt true st = [8] ++ zq (uleb st.toNat) from rfl)
  have hu := qh (zI st.toNat (by omega))
  have ht := qh (wTl (uleb st.toNat))
  have hl := qh hl
  generalize Yt true st = X at *
  generalize st.toNat = n at *
  have cX : w.cell? ⟨b, o, none⟩ = some (.int .u32 (n : Int)) := by rw [Lib.cell_of_heap hb]; exact hc
  have HQ := qh (anQ cX (hA b eH))
  clear hb hc eH cX hS ap hA
  go_enter Tryz.func79, Tryz.ntmps79
  go_wp2_with fail
  have K1 := qh (K0.o.push #[.pointer (some ⟨b, o, none⟩)] 158)
  refine (jw S lo g 8 (by decide) bs _ K1.o.is K1.o.lo (by have := hl.o; omega)).mono ?_
  rintro e w2 ⟨rfl, k⟩
  have K2 := qh (K1.o.step k)
  clear k
  have HC := qh (K2.o.box _ (.head _)).1
  have ag := (HC.o.ext (za w2 (.cells (bufC (.slice none 0 0) 0) 314))).cell
  have cX := (K2.o.wr.fr.alloc (.cells (bufC (.slice none 0 0) 0) 314)).cell HQ.o.1 HQ.o.2.2
  go_wp2_with fail
  clear ag cX
  obtain ⟨n0, dC⟩ := exQ (w2.heap.size)
  have B0 := qh (SB.start K2.o.pop dC)
  rw [dC]
  generalize (w2.alloc (.cells (bufC (.slice none 0 0) 0) 314)) = W3 at *
  refine (zf z7 n0 n0 n ah [] W3 B0.o.b.is B0.o.b.lo (by simp)).mono ?_
  rintro e w4 ⟨rfl, k⟩
  have B1 := qh ((B0.o.step k).eq (pre' := uleb n) (by simp))
  clear k
  go_wp2_with fail
  refine (B1.o.raw (by have := hu.o; omega) (by have := hl.o; have := hu.o; have := ht.o; simp only [laQ, List.length_cons, List.length_nil] at *; omega)).mono ?_
  rintro e w5 ⟨rfl, k⟩
  have k := qh k
  go_wp2
  go_ret
  exact ⟨rfl, k.o.eq (by rw [hw.o, List.append_assoc]; rfl)⟩
theorem Zs (S : Sink) (lo g : Nat) (x : Cus) (aa : Option Addr) (c : Nat) (A : Nat → Prop) (bs : List UInt8) (w : World) (hS : S.is lo g bs w) (hR : Lay.u8.slice.rd A w [.slice aa x.data.length c] x.data) (hA : Away S.toHold g w A) (ap : lo ≤ w.heap.size) (hx : (zq x.name ++ x.data).length ≤ 1073741824) (hl : bs.length ≤ 35184372088832) :
 Calls Tryz.prog 84 #[.iface S.T (.pointer (some ⟨g, 0, none⟩)), .agg #[.string (zc x.name), .slice aa x.data.length c]] w fun e w' => e = .returned .nilIface ∧ Wrote S.toHold lo g w (bs ++ wCus x) w' := by
 obtain ⟨name, data⟩ := x
 simp only at hR hx ⊢
 have K0 := qh (WK.start hS ap)
 have hw := qh (show wCus ⟨name, data⟩ = [UInt8.ofNat (Int.toNat 0)] ++ zq (zq name ++ data) from rfl)
 have ht := qh (wTl (zq name ++ data))
 have sX := qh (show (zq name).length + data.length ≤ 1073741824 ∧ name.length ≤ (zq name).length from by
  rw [laQ] at hx
  exact ⟨hx, by unfold zq; rw [laQ]; omega⟩)
 have H := qh (anQ hR (anQ hA (anQ hx hl)))
 have eN := yJ name
 generalize wCus ⟨name, data⟩ = X at *
 clear hS hR hA ap hx hl
 go_enter Tryz.func84, Tryz.ntmps84
 go_wp2_with fail
 have K1 := qh (K0.o.push #[.string (zc name), .slice aa data.length c] 230)
 refine (jw S lo g 0 (by decide) bs _ K1.o.is K1.o.lo (by have := H.o.2.2.2; omega)).mono ?_
 rintro e w2 ⟨rfl, k⟩
 have K2 := qh (K1.o.step k)
 clear k
 have HC := qh (K2.o.box _ (.head _)).1
 have ag := (HC.o.ext (za w2 (.cells (bufC (.slice none 0 0) 0) 314))).cell
 go_wp2_with fail
 obtain ⟨n0, dC⟩ := exQ (w2.heap.size)
 have B0 := qh (SB.start K2.o.pop dC)
 have e3 := qh (show (w2.alloc (.cells (bufC (.slice none 0 0) 0) 314)).heap.size = n0 + 1 from by simp [dC])
 rw [dC]
 generalize (w2.alloc (.cells (bufC (.slice none 0 0) 0) 314)) = W3 at *
 refine (zS z7 n0 n0 name [] W3 _ e3.o B0.o.b.is B0.o.b.lo (by have := sX.o; omega) (by have := sX.o; simp only [List.length_nil]; omega)).mono ?_
 rintro e w4 ⟨rfl, k⟩
 have B1 := qh ((B0.o.step k).eq (pre' := zq name) (by simp))
 clear k ag eN
 have ag := (HC.o.ext B1.o.x).cell
 go_wp2_with fail
 refine (z7.write n0 n0 (zq name) data w4 A aa data.length c B1.o.b.is (B1.o.rd H.o.1 H.o.2.1) B1.o.b.lo (by have := sX.o; omega)).mono ?_
 rintro e w5 ⟨rfl, k1, k2, k3⟩
 have B2 := qh (B1.o.step ⟨k1, k2, k3⟩)
 clear k1 k2 k3 ag
 go_wp2_with fail
 refine (B2.o.raw (by have := H.o.2.2.1; omega) (by have := H.o.2.2; have := ht.o; have e : (bs ++ [UInt8.ofNat (Int.toNat 0)]).length = bs.length + 1 := laQ; rw [e]; omega)).mono ?_
 rintro e w6 ⟨rfl, k⟩
 have k := qh k
 go_wp2
 go_ret
 exact ⟨rfl, k.o.eq (by rw [hw.o, List.append_assoc])⟩
theorem low4m : zG 4 1836278016 = [0, 97, 115, 109] := by decide
theorem low4v : zG 4 1 = [1, 0, 0, 0] := by decide
theorem zaX (S : Sink) (lo g : Nat) (bs : List UInt8) (w : World) (hS : S.is lo g bs w) (ap : lo ≤ w.heap.size) (hl : bs.length + 10 ≤ 70368744177664) :
 Calls Tryz.prog 70 #[.iface S.T (.pointer (some ⟨g, 0, none⟩))] w fun e w' => e = .returned .nilIface ∧ Wrote S.toHold lo g w (bs ++ [0, 97, 115, 109]) w' := by
 have K0 := qh (WK.start hS ap)
 clear hS ap
 go_enter Tryz.func70, Tryz.ntmps70
 go_wp2_with fail
 refine (jN S lo g 1836278016 (by decide) bs w K0.o.is K0.o.lo hl).mono ?_
 rintro e w2 ⟨rfl, k⟩
 have k := qh k
 go_wp2
 go_ret
 exact ⟨rfl, k.o.eq (by rw [low4m])⟩
theorem YR (S : Sink) (lo g : Nat) (bs : List UInt8) (w : World) (hS : S.is lo g bs w) (ap : lo ≤ w.heap.size) (hl : bs.length + 10 ≤ 70368744177664) :
 Calls Tryz.prog 71 #[.iface S.T (.pointer (some ⟨g, 0, none⟩))] w fun e w' => e = .returned .nilIface ∧ Wrote S.toHold lo g w (bs ++ [1, 0, 0, 0]) w' := by
 have K0 := qh (WK.start hS ap)
 clear hS ap
 go_enter Tryz.func71, Tryz.ntmps71
 go_wp2_with fail
 refine (jN S lo g 1 (by decide) bs w K0.o.is K0.o.lo hl).mono ?_
 rintro e w2 ⟨rfl, k⟩
 have k := qh k
 go_wp2
 go_ret
 exact ⟨rfl, k.o.eq (by rw [low4v])⟩
structure WV where
 start : Value
 types : Value
 imports : Value
 functions : Value
 tables : Value
 memories : Value
 elements : Value
 globals : Value
 exports : Value
 codes : Value
 datas : Value
 customs : Value
 funcs : Value
 locals : Value
abbrev ziQ (m : Mod) (v : WV) : Array Value := #[.int .u32 (m.version.toNat : Int), v.start, v.types, v.imports, v.functions, v.tables, v.memories, v.elements, v.globals, v.exports, v.codes, v.datas, v.customs, .string (zc m.named), v.funcs, v.locals]
structure WOk (m : Mod) : Prop where
 ty1 : ∀ x ∈ m.types, ftOk x = true
 ty2 : ∀ x ∈ m.types, x.ps.length < 4294967296 ∧ x.rs.length < 4294967296
 im1 : ∀ x ∈ m.imports, x.mdl.length < 4294967296 ∧ x.name.length < 4294967296
 im2 : ∀ x ∈ m.imports, Y7 x = true
 gl1 : ∀ x ∈ m.globals, vtOk x.ty = true
 gl2 : ∀ x ∈ m.globals, zaV x.init
 ex1 : ∀ x ∈ m.exports, (0 ≤ x.kind ∧ x.kind ≤ 3) ∧ x.name.length < 4294967296
 el1 : ∀ x ∈ m.elements, zaV x.off
 el2 : ∀ x ∈ m.elements, x.ids.length < 4294967296
 co1 : ∀ x ∈ m.codes, x.length < 4294967296
 da1 : ∀ x ∈ m.datas, zaV x.off
 da2 : ∀ x ∈ m.datas, x.init.length < 4294967296
 cu1 : ∀ x ∈ m.customs, (zq x.name ++ x.data).length ≤ 16777216
 nf : ∀ x ∈ m.funcs, x.name.length < 4294967296
 nl : m.funcs.length ≤ 1048576 ∧ m.locals.length ≤ 1048576
 nm : m.named.length + (wVec wNam m.funcs).length + (m.locals.map fun n => 20 + (wNam n).length).sum ≤ 1073741824
 cs : (m.customs.flatMap wCus).length ≤ 16777216
 n_types : m.types.length < 4294967296
 s_types : (wVec wFT m.types).length ≤ 16777216
 n_imports : m.imports.length < 4294967296
 s_imports : (wVec wImp m.imports).length ≤ 16777216
 n_functions : m.functions.length < 4294967296
 s_functions : (wVec wNum m.functions).length ≤ 16777216
 n_tables : m.tables.length < 4294967296
 s_tables : (wVec wTab m.tables).length ≤ 16777216
 n_memories : m.memories.length < 4294967296
 s_memories : (wVec wLim m.memories).length ≤ 16777216
 n_globals : m.globals.length < 4294967296
 s_globals : (wVec jC m.globals).length ≤ 16777216
 n_exports : m.exports.length < 4294967296
 s_exports : (wVec jS m.exports).length ≤ 16777216
 n_elements : m.elements.length < 4294967296
 s_elements : (wVec jT m.elements).length ≤ 16777216
 n_codes : m.codes.length < 4294967296
 s_codes : (wVec zq m.codes).length ≤ 16777216
 n_datas : m.datas.length < 4294967296
 s_datas : (wVec wDat m.datas).length ≤ 16777216
structure WAt (nn : Nat) (A : Nat → Prop) (w : World) (m : Mod) (v : WV) : Prop where
 start : ∃ q, v.start = .pointer q ∧ zdL A w m.hasStart m.start q
 types : Lay.ft.slice.rd A w [v.types] m.types
 imports : Lay.wimp.slice.rd A w [v.imports] m.imports
 functions : Lay.u32.slice.rd A w [v.functions] m.functions
 tables : Lay.wtab.slice.rd A w [v.tables] m.tables
 memories : Lay.wlim.slice.rd A w [v.memories] m.memories
 elements : (Lay.welem nn).slice.rd A w [v.elements] m.elements
 globals : (Lay.wglob nn).slice.rd A w [v.globals] m.globals
 exports : Lay.expo.slice.rd A w [v.exports] m.exports
 codes : Lay.wraw.slice.rd A w [v.codes] m.codes
 datas : (Lay.wdat nn).slice.rd A w [v.datas] m.datas
 customs : Lay.cus.slice.rd A w [v.customs] m.customs
 funcs : Lay.wnam.slice.rd A w [v.funcs] m.funcs
 locals : Lay.nam.slice.rd A w [v.locals] m.locals
theorem yS {l : Lay α} {xs : List α} (h : l.slice.rd A w [v] xs) : ∃ a c, v = .slice a xs.length c := by
 obtain ⟨a, c, e, -⟩ := Lay.slice_form h
 exact ⟨a, c, by simpa using e⟩
theorem yq {id : UInt8} {f : α → List UInt8} {l : List α} (h : (wVec f l).length ≤ 16777216) : (zD id f l).length ≤ 16777300 := by have := Jf id f l (by omega); omega
theorem zgT {nm : List UInt8} {fs ls : List Nam} (hz : nm.length + (wVec wNam fs).length + (ls.map fun n => 20 + (wNam n).length).sum ≤ 1073741824) (hl : ls.length ≤ 1048576) (hG : jU ls gs) : (wNmB nm fs ls gs).length ≤ 4294967296 := by
 unfold wNmB wSec
 split
 ·simp
 ·have h1 := zfe (zey hG) hl (by omega)
  have e : (wVec wGrp gs).length = (uleb gs.length).length + (gs.flatMap wGrp).length := laQ
  have h2 := Jf 2 wGrp gs (by omega)
  have h3 := Jf 1 wNam fs (by omega)
  have h4 := zgR nm (by omega)
  have h5 := Ye
  have h6 := wTl (zq ji ++ (yL nm ++ (zD 1 wNam fs ++ zD 2 wGrp gs)))
  rw [List.length_cons]
  simp only [laQ] at h6 ⊢
  omega
theorem zad (S : Sink) (nn lo g gm : Nat) (m : Mod) (v : WV) (A : Nat → Prop) (w : World) (hS : S.is lo g [] w) (hB : Blk w gm (ziQ m v) 194) (hW : WAt nn A w m v) (hA : Away S.toHold g w A) (hg : ¬ S.foot w g gm) (ap : lo ≤ w.heap.size) (hO : WOk m) :
 Calls Tryz.prog 44 #[.iface S.T (.pointer (some ⟨g, 0, none⟩)), .pointer (some ⟨gm, 0, none⟩)] w fun e w' => e = .returned .nilIface ∧ ∃ gs, jU m.locals gs ∧ Wrote S.toHold lo g w (wMod m gs) w' := by
 obtain ⟨v0, v1, v2, v3, v4, v5, v6, v7, v8, v9, u4, vu, vr, nU⟩ := v
 obtain ⟨q0, e0, mC⟩ := hW.start
 simp only at e0
 subst e0
 obtain ⟨a1, c1, e1⟩ := yS hW.types
 simp only at e1
 subst e1
 obtain ⟨a2, c2, e2⟩ := yS hW.imports
 simp only at e2
 subst e2
 obtain ⟨a3, c3, e3⟩ := yS hW.functions
 simp only at e3
 subst e3
 obtain ⟨a4, c4, e4⟩ := yS hW.tables
 simp only at e4
 subst e4
 obtain ⟨a5, c5, e5⟩ := yS hW.memories
 simp only at e5
 subst e5
 obtain ⟨a6, c6, e6⟩ := yS hW.elements
 simp only at e6
 subst e6
 obtain ⟨a7, c7, e7⟩ := yS hW.globals
 simp only at e7
 subst e7
 obtain ⟨a8, c8, e8⟩ := yS hW.exports
 simp only at e8
 subst e8
 obtain ⟨a9, c9, e9⟩ := yS hW.codes
 simp only at e9
 subst e9
 obtain ⟨a10, DI, uR⟩ := yS hW.datas
 simp only at uR
 subst uR
 obtain ⟨kZ, E5, rK⟩ := yS hW.customs
 simp only at rK
 subst rK
 obtain ⟨BF, Cy, Bj⟩ := yS hW.funcs
 simp only at Bj
 subst Bj
 obtain ⟨BZ, Dj, AK⟩ := yS hW.locals
 simp only at AK
 subst AK
 have ao : (m.customs.length : Int) ≤ 9223372036854775807 := by obtain ⟨_, _, _, h1, h2⟩ := Lay.slice_form hW.customs; simp only [maxLen] at h2; omega
 have K0 := qh (WK.start hS ap)
 have H := qh (anQ hW (anQ hA (anQ hO (anQ hB (anQ hg mC)))))
 clear hS hW hA ap hO hB hg mC
 go_enter Tryz.func44, Tryz.ntmps44
 go_wp2_with fail
 refine (zaX S lo g [] w K0.o.is K0.o.lo (by simp)).mono ?_
 rintro e w1 ⟨rfl, k⟩
 have K1 := qh (K0.o.step k)
 clear k
 go_wp2_with fail
 refine (YR S lo g _ w1 K1.o.is K1.o.lo (by simp)).mono ?_
 rintro e w2 ⟨rfl, k⟩
 have K2 := qh ((K1.o.step k).eq (pre' := YK) rfl)
 clear k K1
 obtain ⟨P2, rf⟩ : ∃ P, YK = P := ⟨_, rfl⟩
 have L2 := qh (show P2.length ≤ 8 from by rw [← rf]; exact Nat.le_refl _)
 rw [rf] at K2
 have rf := qh rf
 have fy := (H.o.2.2.2.1.fr K2.o.wr.fr H.o.2.2.2.2.1).cell
 go_wp2_with fail
 refine (ZS S lo g m.types a1 _ c1 A _ w2 K2.o.is (K2.o.rd H.o.1.types H.o.2.1) (K2.o.away H.o.2.1) K2.o.lo H.o.2.2.1.ty1 H.o.2.2.1.ty2 H.o.2.2.1.n_types (by have := H.o.2.2.1.s_types; omega) (by have := L2.o; have := yq (id := 1) H.o.2.2.1.s_types; omega)).mono ?_
 rintro e w3 ⟨rfl, k⟩
 obtain ⟨P3, sG⟩ : ∃ P, P2 ++ zD 1 wFT m.types = P := ⟨_, rfl⟩
 have K3 := qh ((K2.o.step k).eq sG)
 have L3 := qh (show P3.length ≤ 16777308 from by have := L2.o; have := yq (id := 1) H.o.2.2.1.s_types; rw [← sG, laQ]; omega)
 have sG := qh sG
 clear k fy K2 L2
 have fy := (H.o.2.2.2.1.fr K3.o.wr.fr H.o.2.2.2.2.1).cell
 go_wp2_with fail
 refine (Zm S lo g m.imports a2 _ c2 A _ w3 K3.o.is (K3.o.rd H.o.1.imports H.o.2.1) (K3.o.away H.o.2.1) K3.o.lo H.o.2.2.1.im1 H.o.2.2.1.im2 H.o.2.2.1.n_imports (by have := H.o.2.2.1.s_imports; omega) (by have := L3.o; have := yq (id := 2) H.o.2.2.1.s_imports; omega)).mono ?_
 rintro e w4 ⟨rfl, k⟩
 obtain ⟨P4, sL⟩ : ∃ P, P3 ++ zD 2 wImp m.imports = P := ⟨_, rfl⟩
 have K4 := qh ((K3.o.step k).eq sL)
 have L4 := qh (show P4.length ≤ 33554608 from by have := L3.o; have := yq (id := 2) H.o.2.2.1.s_imports; rw [← sL, laQ]; omega)
 have sL := qh sL
 clear k fy K3 L3
 have fy := (H.o.2.2.2.1.fr K4.o.wr.fr H.o.2.2.2.2.1).cell
 go_wp2_with fail
 refine (JQ S lo g m.functions a3 _ c3 A _ w4 K4.o.is (K4.o.rd H.o.1.functions H.o.2.1) (K4.o.away H.o.2.1) K4.o.lo  H.o.2.2.1.n_functions (by have := H.o.2.2.1.s_functions; omega) (by have := L4.o; have := yq (id := 3) H.o.2.2.1.s_functions; omega)).mono ?_
 rintro e w5 ⟨rfl, k⟩
 obtain ⟨P5, sC⟩ : ∃ P, P4 ++ zD 3 wNum m.functions = P := ⟨_, rfl⟩
 have K5 := qh ((K4.o.step k).eq sC)
 have L5 := qh (show P5.length ≤ 50331908 from by have := L4.o; have := yq (id := 3) H.o.2.2.1.s_functions; rw [← sC, laQ]; omega)
 have sC := qh sC
 clear k fy K4 L4
 have fy := (H.o.2.2.2.1.fr K5.o.wr.fr H.o.2.2.2.2.1).cell
 go_wp2_with fail
 refine (ZG S lo g m.tables a4 _ c4 A _ w5 K5.o.is (K5.o.rd H.o.1.tables H.o.2.1) (K5.o.away H.o.2.1) K5.o.lo  H.o.2.2.1.n_tables (by have := H.o.2.2.1.s_tables; omega) (by have := L5.o; have := yq (id := 4) H.o.2.2.1.s_tables; omega)).mono ?_
 rintro e w6 ⟨rfl, k⟩
 obtain ⟨P6, tf⟩ : ∃ P, P5 ++ zD 4 wTab m.tables = P := ⟨_, rfl⟩
 have K6 := qh ((K5.o.step k).eq tf)
 have L6 := qh (show P6.length ≤ 67109208 from by have := L5.o; have := yq (id := 4) H.o.2.2.1.s_tables; rw [← tf, laQ]; omega)
 have tf := qh tf
 clear k fy K5 L5
 have fy := (H.o.2.2.2.1.fr K6.o.wr.fr H.o.2.2.2.2.1).cell
 go_wp2_with fail
 refine (Zn S lo g m.memories a5 _ c5 A _ w6 K6.o.is (K6.o.rd H.o.1.memories H.o.2.1) (K6.o.away H.o.2.1) K6.o.lo  H.o.2.2.1.n_memories (by have := H.o.2.2.1.s_memories; omega) (by have := L6.o; have := yq (id := 5) H.o.2.2.1.s_memories; omega)).mono ?_
 rintro e w7 ⟨rfl, k⟩
 obtain ⟨P7, tC⟩ : ∃ P, P6 ++ zD 5 wLim m.memories = P := ⟨_, rfl⟩
 have K7 := qh ((K6.o.step k).eq tC)
 have L7 := qh (show P7.length ≤ 83886508 from by have := L6.o; have := yq (id := 5) H.o.2.2.1.s_memories; rw [← tC, laQ]; omega)
 have tC := qh tC
 clear k fy K6 L6
 have fy := (H.o.2.2.2.1.fr K7.o.wr.fr H.o.2.2.2.2.1).cell
 go_wp2_with fail
 refine (Zo S nn lo g m.globals a7 _ c7 A _ w7 K7.o.is (K7.o.rd H.o.1.globals H.o.2.1) (K7.o.away H.o.2.1) K7.o.lo H.o.2.2.1.gl1 H.o.2.2.1.gl2 H.o.2.2.1.n_globals (by have := H.o.2.2.1.s_globals; omega) (by have := L7.o; have := yq (id := 6) H.o.2.2.1.s_globals; omega)).mono ?_
 rintro e w8 ⟨rfl, k⟩
 obtain ⟨P8, tj⟩ : ∃ P, P7 ++ zD 6 jC m.globals = P := ⟨_, rfl⟩
 have K8 := qh ((K7.o.step k).eq tj)
 have L8 := qh (show P8.length ≤ 100663808 from by have := L7.o; have := yq (id := 6) H.o.2.2.1.s_globals; rw [← tj, laQ]; omega)
 have tj := qh tj
 clear k fy K7 L7
 have fy := (H.o.2.2.2.1.fr K8.o.wr.fr H.o.2.2.2.2.1).cell
 go_wp2_with fail
 refine (Zp S lo g m.exports a8 _ c8 A _ w8 K8.o.is (K8.o.rd H.o.1.exports H.o.2.1) (K8.o.away H.o.2.1) K8.o.lo H.o.2.2.1.ex1 H.o.2.2.1.n_exports (by have := H.o.2.2.1.s_exports; omega) (by have := L8.o; have := yq (id := 7) H.o.2.2.1.s_exports; omega)).mono ?_
 rintro e w9 ⟨rfl, k⟩
 obtain ⟨P9, pU⟩ : ∃ P, P8 ++ zD 7 jS m.exports = P := ⟨_, rfl⟩
 have K9 := qh ((K8.o.step k).eq pU)
 have L9 := qh (show P9.length ≤ 117441108 from by have := L8.o; have := yq (id := 7) H.o.2.2.1.s_exports; rw [← pU, laQ]; omega)
 have pU := qh pU
 clear k fy K8 L8
 have fy := (H.o.2.2.2.1.fr K9.o.wr.fr H.o.2.2.2.2.1).cell
 go_wp2_with fail
 refine (ZH S lo g m.hasStart m.start q0 A _ w9 K9.o.is (H.o.2.2.2.2.2.fr K9.o.wr.fr H.o.2.1) (K9.o.away H.o.2.1) K9.o.lo (by have := L9.o; omega)).mono ?_
 rintro e pK ⟨rfl, k⟩
 obtain ⟨Bq, mU⟩ : ∃ P, P9 ++ Yt m.hasStart m.start = P := ⟨_, rfl⟩
 have p4 := qh ((K9.o.step k).eq mU)
 have wK := qh (show Bq.length ≤ 134218408 from by have := L9.o; have := zez m.hasStart m.start; rw [← mU, laQ]; omega)
 have mU := qh mU
 clear k fy K9 L9
 have fy := (H.o.2.2.2.1.fr p4.o.wr.fr H.o.2.2.2.2.1).cell
 go_wp2_with fail
 refine (J5 S nn lo g m.elements a6 _ c6 A _ pK p4.o.is (p4.o.rd H.o.1.elements H.o.2.1) (p4.o.away H.o.2.1) p4.o.lo H.o.2.2.1.el1 H.o.2.2.1.el2 H.o.2.2.1.n_elements (by have := H.o.2.2.1.s_elements; omega) (by have := wK.o; have := yq (id := 9) H.o.2.2.1.s_elements; omega)).mono ?_
 rintro e pE ⟨rfl, k⟩
 obtain ⟨Cd, mF⟩ : ∃ P, Bq ++ zD 9 jT m.elements = P := ⟨_, rfl⟩
 have rl := qh ((p4.o.step k).eq mF)
 have we := qh (show Cd.length ≤ 150995708 from by have := wK.o; have := yq (id := 9) H.o.2.2.1.s_elements; rw [← mF, laQ]; omega)
 have mF := qh mF
 clear k fy p4 wK
 have fy := (H.o.2.2.2.1.fr rl.o.wr.fr H.o.2.2.2.2.1).cell
 go_wp2_with fail
 refine (J6 S lo g m.codes a9 _ c9 A _ pE rl.o.is (rl.o.rd H.o.1.codes H.o.2.1) (rl.o.away H.o.2.1) rl.o.lo H.o.2.2.1.co1 H.o.2.2.1.n_codes (by have := H.o.2.2.1.s_codes; omega) (by have := we.o; have := yq (id := 10) H.o.2.2.1.s_codes; omega)).mono ?_
 rintro e tW ⟨rfl, k⟩
 obtain ⟨AJ, mA⟩ : ∃ P, Cd ++ zD 10 zq m.codes = P := ⟨_, rfl⟩
 have qW := qh ((rl.o.step k).eq mA)
 have xP := qh (show AJ.length ≤ 167773008 from by have := we.o; have := yq (id := 10) H.o.2.2.1.s_codes; rw [← mA, laQ]; omega)
 have mA := qh mA
 clear k fy rl we
 have fy := (H.o.2.2.2.1.fr qW.o.wr.fr H.o.2.2.2.2.1).cell
 go_wp2_with fail
 refine (ZT S nn lo g m.datas a10 _ DI A _ tW qW.o.is (qW.o.rd H.o.1.datas H.o.2.1) (qW.o.away H.o.2.1) qW.o.lo H.o.2.2.1.da1 H.o.2.2.1.da2 H.o.2.2.1.n_datas (by have := H.o.2.2.1.s_datas; omega) (by have := xP.o; have := yq (id := 11) H.o.2.2.1.s_datas; omega)).mono ?_
 rintro e xT ⟨rfl, k⟩
 obtain ⟨Bh, m4⟩ : ∃ P, AJ ++ zD 11 wDat m.datas = P := ⟨_, rfl⟩
 have pl := qh ((qW.o.step k).eq m4)
 have Al := qh (show Bh.length ≤ 184550308 from by have := xP.o; have := yq (id := 11) H.o.2.2.1.s_datas; rw [← m4, laQ]; omega)
 have m4 := qh m4
 clear k fy qW xP
 have fy := (H.o.2.2.2.1.fr pl.o.wr.fr H.o.2.2.2.2.1).cell
 go_wp2_with fail
 refine (ZU S lo g m.named m.funcs m.locals BF BZ Cy Dj A _ xT pl.o.is (pl.o.rd H.o.1.funcs H.o.2.1) (pl.o.rd H.o.1.locals H.o.2.1) (pl.o.away H.o.2.1) pl.o.lo H.o.2.2.1.nf H.o.2.2.1.nm H.o.2.2.1.nl (by have := Al.o; omega)).mono ?_
 rintro e CO ⟨rfl, gs, hG, k⟩
 obtain ⟨P, hP⟩ := exQ (Bh ++ wNmB m.named m.funcs m.locals gs)
 have KN := qh ((pl.o.step k).eq hP)
 have LN := qh (show P.length ≤ 17179869184 from by have := Al.o; have := zgT H.o.2.2.1.nm H.o.2.2.1.nl.2 hG; rw [← hP, laQ]; omega)
 have hP := qh hP
 have hG := qh hG
 clear k fy pl Al
 have fy := (H.o.2.2.2.1.fr KN.o.wr.fr H.o.2.2.2.2.1).cell
 go_wp2_with fail
 clear fy
 go_loopw [147] (fun qJ w' => ∃ (i : Nat), i ≤ m.customs.length ∧ qJ = .int .i64 i ∧ Hd (WK S lo g w w' (P ++ (m.customs.take i).flatMap wCus) [])) (fun qJ _ => m.customs.length - (intOf qJ).toNat)
 case atStart => exact ⟨0, nzQ _, rfl, KN.o.eq (by simp)⟩
 case round =>
  obtain ⟨i, hi, rfl, hV⟩ := hrel
  by_cases ah : i < m.customs.length
  ·obtain ⟨b, o, a1, c1, rfl, e0, e1, -, r1⟩ := Lay.cus_at (hV.o.rd H.o.1.customs H.o.2.1) i ah
   have aX := qh (yr (f := wCus) ah)
   have ci := qh (y9 (f := wCus) ah H.o.2.2.1.cs)
   have dR := qh (H.o.2.2.1.cu1 _ (List.getElem_mem ah))
   generalize m.customs[i] = x at *
   have r1 := qh r1
   have K3 := qh (hV.o.push #[.string (zc x.name), .slice a1 x.data.length c1] 230)
   go_wp2_with fail
   refine (Zs S lo g x a1 c1 A _ _ K3.o.is (Lay.fr r1.o (za _ _) (fun k hk => ⟨((hV.o.away H.o.2.1) k hk).1, fun q => q⟩)) (K3.o.away H.o.2.1) K3.o.lo (by have := dR.o; omega) (by have := LN.o; have := ci.o; rw [laQ]; omega)).mono ?_
   rintro e w5 ⟨rfl, k⟩
   have K9 := qh ((K3.o.step k).pop.eq (pre' := P ++ (m.customs.take (i + 1)).flatMap wCus) (by rw [aX.o]; simp only [List.append_assoc]))
   clear k
   go_wp2
   go_roundw
   case rel => exact ⟨i + 1, by omega, by go_num, K9⟩
   case measure => simp [intOf]; omega
  ·obtain rfl : i = m.customs.length := by omega
   have ai := hV.o
   rw [tlQ] at ai
   have ai := qh ai
   go_wp2
   go_ret
   refine ⟨rfl, gs, hG.o, ai.o.wr.eq ?_⟩
   rw [← hP.o, ← m4.o, ← mA.o, ← mF.o, ← mU.o, ← pU.o, ← tj.o, ← tC.o, ← tf.o, ← sC.o, ← sL.o, ← sG.o, ← rf.o]
   unfold wMod zfy
   rw [zji]
   simp only [List.append_assoc]
   rfl
def zbA (v : Int) : UInt64 := UInt64.ofNat (v % 18446744073709551616).toNat
end Go.Proofs.YtejgninpjhcgnaaGreatDoor
