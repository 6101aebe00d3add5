/- Texts of this proof, one behind the other. -/
import Derived.Test.YtejgninpjhcgnaaGreatDoorPart14
import Derived.Laws.StructEq
namespace Go.Proofs.YtejgninpjhcgnaaGreatDoor
open Go.RowKit
set_option linter.unusedSimpArgs false
set_option linter.unusedVariables false
set_option maxRecDepth 100000
set_option maxHeartbeats 16000000
variable {α : Type}
theorem j8 {p : α → Bool} {l : List α} {x : α} (h : l.all p = true) (hx : p x = true) : (l ++ [x]).all p = true := by
 rw [List.all_append, h, List.all_cons, hx]; rfl
theorem zhc (W : World) (x : Int) (T : TypeId) (h : -9223372036854775808 ≤ x ∧ x ≤ 9223372036854775807) : Lay.int.slice.rd (fun k => k = W.heap.size) (W.alloc (.cells #[.int .i64 x] T)) [.slice (some ⟨W.heap.size, 0, none⟩) 1 1] [x] :=
 ⟨_, 1, rfl, Nat.le_refl _, by decide, fun _ => ⟨W.heap.size, 0, #[.int .i64 x], T, (0, 0), [.int .i64 x], rfl, rfl, (by show (W.heap.push (.cells _ T (0, 0)))[W.heap.size]? = _; simp), Lay.all_single ⟨rfl, h⟩, fun j hj => by
  have : j = 0 := by simp at hj; omega
  subst this; rfl⟩⟩
variable {w : World}
theorem lg_up {W : World} (h : Fr (fun k => w.heap.size ≤ k) w.drew W) : Ext w W := ((zb w).fr h).mono (fun k hk (h : w.heap.size ≤ k) => absurd hk (by omega))
theorem ziq (l : Lay α) {e : TypeId} {lo g : Nat} (h : Blk w g #[] e) (hl : lo ≤ g) : Own l e lo w (.slice (some ⟨g, 0, none⟩) 0 0) [] :=
 ⟨[], ⟨by simp, .inr ⟨g, 0, #[], rfl, hl, h, Nat.le_refl _, by decide, by simp, by simp⟩⟩, rfl⟩
theorem ziZ : (Tryz.prog.info? 63).map (fun i => (i.zero, i.size, i.bytes)) = some (some (.agg #[.int .u32 0, .bool false, .int .u32 0]), Lay.lim.size, 12) := by kernel_rfl
theorem zhd : Lay.lim.flat := Lay.flat_via (Lay.flat_pair Lay.flat_u32 (Lay.flat_pair Lay.flat_bool Lay.flat_u32)) _
theorem su {x : UInt32} (h : (x.toNat : Int) = 0) : x = 0 := UInt32.toNat_inj.1 (show x.toNat = 0 from by omega)
variable {mn mx : Int} {bd : Bool}
theorem zir {x : Imp} {kd ix ty : Int} {mt : Bool} (HQ : x.kind = kd ∧ (x.index.toNat : Int) = ix ∧ (x.lim.min.toNat : Int) = mn ∧ (x.lim.max.toNat : Int) = mx ∧ x.lim.bounded = bd ∧ x.ty = ty ∧ x.mtb = mt)
 (hr : (kd = 0 ∧ ix = ix ∧ mn = 0 ∧ bd = false ∧ mx = 0 ∧ ty = 0 ∧ mt = false) ∨ ((kd = 1 ∨ kd = 2) ∧ ix = 0 ∧ mn = mn ∧ bd = bd ∧ mx = mx ∧ ty = 0 ∧ mt = false) ∨ (kd = 3 ∧ ix = 0 ∧ mn = 0 ∧ bd = false ∧ mx = 0 ∧ ty = ty ∧ mt = mt))
 (t1 : z9 x.mdl = true) (t2 : z9 x.name = true) (t3 : ZR x.lim = true) (t4 : [ty].all vtOk = true) : Y7 x = true := by
 obtain ⟨rfl, rfl, rfl, rfl, rfl, rfl, rfl⟩ := HQ
 have hv : vtOk x.ty = true := by simpa using t4
 unfold Y7 limZ
 rw [t1, t2, t3, hv]
 rcases hr with ⟨h0, -, h1, h2, h3, h4, h5⟩ | ⟨h0, h1, -, -, -, h4, h5⟩ | ⟨h0, h1, h2, h3, h4, -, -⟩
 ·simp [h0, h2, h4, h5, su h1, su h3]
 ·rcases h0 with h0 | h0 <;> simp [h0, su h1, h4, h5]
 ·simp [h0, su h1, su h2, h3, su h4]
def ImpQ (x : Imp) (ty : Int) : Prop := z9 x.mdl = true → z9 x.name = true → ZR x.lim = true → [ty].all vtOk = true → Y7 x = true
theorem zfQ (x : Lim) (h1 : (x.min.toNat : Int) = mn) (h2 : x.bounded = bd) (h3 : (x.max.toNat : Int) = mx) (w : World) :
 Calls Tryz.prog 41 #[.agg #[.int .u32 mn, .bool bd, .int .u32 mx]] w (Ans (ZR x = true) w) := by
 subst h1 h2 h3; exact YU x w
def zhe (m : Mod) : Prop := m.version = 1 ∧ (m.hasStart = true ∨ m.start = 0) ∧ m.functions.length = m.codes.length ∧ z9 m.named = true
def rowB (l : List Nam) (i : Nat) : Bool := match l[i]? with
 | some n => z9 n.name && (decide (i = 0) || match l[i - 1]? with
  | some p => y5 n p
  | none => true)
 | none => true
def JK (f0 : Bool) (l : List Nam) (i : Nat) : Prop := (List.range i).all (rowB l) = true ∧ (f0 = true → (l.take i).all (fun n => decide (n.fn = 0)) = true)
theorem JK.zero (f0 : Bool) (l : List Nam) : JK f0 l 0 := ⟨rfl, fun _ => rfl⟩
variable {l : List Nam} {i : Nat} {x : Nam}
theorem JK.step {f0 : Bool} (h : JK f0 l i) (hx : l[i]? = some x) (hf : f0 = true → x.fn = 0) (hr : rowB l i = true) : JK f0 l (i + 1) := by
 refine ⟨by rw [List.range_succ]; exact j8 h.1 hr, fun e => ?_⟩
 obtain ⟨hi, rfl⟩ := List.getElem?_eq_some_iff.1 hx
 rw [tsQ hi]
 exact j8 (h.2 e) (decide_eq_true (hf e))
theorem Ca (hx : l[i]? = some x) (hi : i = 0) (ht : z9 x.name = true) : rowB l i = true := by
 subst hi
 unfold rowB
 rw [hx]
 show (z9 x.name && _) = true
 rw [ht]; rfl
theorem BN {j : Nat} {y : Nam} (hx : l[i]? = some x) (hi : i = j + 1) (hy : l[j]? = some y) (ht : z9 x.name = true) (hb : y5 x y = true) : rowB l i = true := by
 subst hi
 unfold rowB
 rw [hx]
 show (z9 x.name && (_ || match l[j]? with
  | some p => y5 x p
  | none => true)) = true
 rw [ht, hy]
 show (true && (_ || y5 x y)) = true
 rw [hb, Bool.or_true]; rfl
variable {m : Mod}
theorem zis (r0 : zhe m) (r1 : m.types.all ftOk = true) (r2 : m.imports.all Y7 = true) (r3 : (m.tables ++ m.memories).all ZR = true) (r4 : m.globals.all po = true) (r5 : m.exports.all o9 = true)
 (r6 : m.elements.all (fun e => jK e.off) = true) (r7 : m.datas.all (fun d => jK d.off) = true) (r8 : m.customs.all qK = true) (r9 : JK true m.funcs m.funcs.length) (CD : JK false m.locals m.locals.length) : JU m = true := by
 obtain ⟨h1, h2, h3, h4⟩ := r0
 have h5 := r9.2 rfl
 rw [tlQ] at h5
 unfold JU
 simp only [Bool.and_eq_true, Bool.or_eq_true, decide_eq_true_eq]
 exact ⟨⟨⟨⟨⟨⟨⟨⟨⟨⟨⟨⟨⟨⟨h1, h2⟩, h3⟩, h4⟩, r1⟩, r2⟩, r3⟩, r4⟩, r5⟩, r6⟩, r7⟩, r8⟩, h5⟩, r9.1⟩, CD.1⟩
theorem zeL {n : Nat} {v : ModV} {A : Nat → Prop} (hM : ModAt n A w m v) (hA : ∀ k, A k → k < w.heap.size) (qA : m.tables.length + m.memories.length ≤ 1048576) :
 Calls Tryz.prog 13 #[.agg (zs m v)] w (Ans (JU m = true) w) := by
 obtain ⟨vA, vB, vC, vD, vE, vF, vG, vH, vI, vJ, vK, vL, vM⟩ := v
 obtain ⟨aA, cA, e, h1, h2⟩ := Lay.slice_form2 hM.types
 obtain rfl : vA = .slice aA m.types.length cA := by simpa using e
 have lA : (m.types.length : Int) ≤ 9223372036854775807 := by simp only [maxLen] at h2; omega
 clear e h1 h2
 obtain ⟨aB, cB, e, h1, h2⟩ := Lay.slice_form2 hM.imports
 obtain rfl : vB = .slice aB m.imports.length cB := by simpa using e
 have lB : (m.imports.length : Int) ≤ 9223372036854775807 := by simp only [maxLen] at h2; omega
 clear e h1 h2
 obtain ⟨aC, cC, e, h1, h2⟩ := Lay.slice_form2 hM.functions
 obtain rfl : vC = .slice aC m.functions.length cC := by simpa using e
 have lC : (m.functions.length : Int) ≤ 9223372036854775807 := by simp only [maxLen] at h2; omega
 clear e h1 h2
 obtain ⟨aD, cD, e, h1, h2⟩ := Lay.slice_form2 hM.tables
 obtain rfl : vD = .slice aD m.tables.length cD := by simpa using e
 have lD : (m.tables.length : Int) ≤ 9223372036854775807 := by simp only [maxLen] at h2; omega
 clear e h1 h2
 obtain ⟨aE, cE, e, h1, h2⟩ := Lay.slice_form2 hM.memories
 obtain rfl : vE = .slice aE m.memories.length cE := by simpa using e
 have lE : (m.memories.length : Int) ≤ 9223372036854775807 := by simp only [maxLen] at h2; omega
 clear e h1 h2
 obtain ⟨aF, cF, e, h1, h2⟩ := Lay.slice_form2 hM.elements
 obtain rfl : vF = .slice aF m.elements.length cF := by simpa using e
 have lF : (m.elements.length : Int) ≤ 9223372036854775807 := by simp only [maxLen] at h2; omega
 clear e h1 h2
 obtain ⟨aG, cG, e, h1, h2⟩ := Lay.slice_form2 hM.globals
 obtain rfl : vG = .slice aG m.globals.length cG := by simpa using e
 have lG : (m.globals.length : Int) ≤ 9223372036854775807 := by simp only [maxLen] at h2; omega
 clear e h1 h2
 obtain ⟨aH, cH, e, h1, h2⟩ := Lay.slice_form2 hM.exports
 obtain rfl : vH = .slice aH m.exports.length cH := by simpa using e
 have lH : (m.exports.length : Int) ≤ 9223372036854775807 := by simp only [maxLen] at h2; omega
 clear e h1 h2
 obtain ⟨aI, cI, e, h1, h2⟩ := Lay.slice_form2 hM.codes
 obtain rfl : vI = .slice aI m.codes.length cI := by simpa using e
 have lI : (m.codes.length : Int) ≤ 9223372036854775807 := by simp only [maxLen] at h2; omega
 clear e h1 h2
 obtain ⟨aJ, cJ, e, h1, h2⟩ := Lay.slice_form2 hM.datas
 obtain rfl : vJ = .slice aJ m.datas.length cJ := by simpa using e
 have lJ : (m.datas.length : Int) ≤ 9223372036854775807 := by simp only [maxLen] at h2; omega
 clear e h1 h2
 obtain ⟨aK, cK, e, h1, h2⟩ := Lay.slice_form2 hM.customs
 obtain rfl : vK = .slice aK m.customs.length cK := by simpa using e
 have lK : (m.customs.length : Int) ≤ 9223372036854775807 := by simp only [maxLen] at h2; omega
 clear e h1 h2
 obtain ⟨aL, cL, e, h1, h2⟩ := Lay.slice_form2 hM.funcs
 obtain rfl : vL = .slice aL m.funcs.length cL := by simpa using e
 have lL : (m.funcs.length : Int) ≤ 9223372036854775807 := by simp only [maxLen] at h2; omega
 clear e h1 h2
 obtain ⟨aM, cM, e, h1, h2⟩ := Lay.slice_form2 hM.locals
 obtain rfl : vM = .slice aM m.locals.length cM := by simpa using e
 have lM : (m.locals.length : Int) ≤ 9223372036854775807 := by simp only [maxLen] at h2; omega
 clear e h1 h2
 have H := qh (anQ hM hA)
 have qA := qh qA
 have hB := qh (anQ (zk w (smc m aA cA aB cB aC cC aD cD aE cE aF cF aG cG aH cH aI cI aJ cJ aK cK aL cL aM cM) 37) (za w (.cells (smc m aA cA aB cB aC cC aD cD aE cE aF cF aG cG aH cH aI cI aJ cJ aK cK aL cL aM cM) 37)))
 clear hM hA
 unfold zs
 dsimp only
 generalize Aj : (JU m = true) = PQ
 have Aj := qh Aj
 go_enter Tryz.func13, Tryz.ntmps13
 go_upto_region 1 with fail
 obtain ⟨W1, gm, fC, eA⟩ : ∃ W1 gm, (w.alloc (.cells (smc m aA cA aB cB aC cC aD cD aE cE aF cF aG cG aH cH aI cI aJ cJ aK cK aL cL aM cM) 37)) = W1 ∧ w.heap.size = gm := ⟨_, _, rfl, rfl⟩
 rw [fC] at hB ⊢
 rw [eA] at hB ⊢
 clear fC eA
 generalize Value.agg (smc m aA cA aB cB aC cC aD cD aE cE aF cF aG cG aH cH aI cI aJ cJ aK cK aL cL aM cM) = p0
 have ag := hB.o.1.cell
 obtain ⟨q0, f0⟩ : ∃ q0 : Bool, ((m.version.toNat : Int) != 1) = q0 := ⟨_, rfl⟩
 obtain ⟨q1, f1⟩ : ∃ q1 : Bool, m.hasStart = q1 := ⟨_, rfl⟩
 obtain ⟨q2, f2⟩ : ∃ q2 : Bool, ((m.start.toNat : Int) != 0) = q2 := ⟨_, rfl⟩
 obtain ⟨q3, f3⟩ : ∃ q3 : Bool, ((m.functions.length : Int) != (m.codes.length : Int)) = q3 := ⟨_, rfl⟩
 have g0 : Hd (q0 = false → m.version = 1) := fun h => by
  rw [h] at f0
  have h2 := bne_eq_false_iff_eq.1 f0
  exact UInt32.toNat_inj.1 (show m.version.toNat = 1 from by omega)
 have g1 := qh f1
 have g2 : Hd (q2 = false → m.start = 0) := fun h => by
  rw [h] at f2
  have h2 := bne_eq_false_iff_eq.1 f2
  exact UInt32.toNat_inj.1 (show m.start.toNat = 0 from by omega)
 have g3 : Hd (q3 = false → m.functions.length = m.codes.length) := fun h => by
  rw [h] at f3
  have h2 := bne_eq_false_iff_eq.1 f3
  omega
 go_cut [51] from 24 to 51 (fun lj w' => ∃ b : Bool, lj = .bool b ∧ Hd ((b = false → zhe m) ∧ Ext W1 w'))
 case first =>
  cases q0 with
  | true =>
   go_wp2_with fail
   go_meet
   exact ⟨true, rfl, fun h => (by cases h), Fr.refl _ _⟩
  | false =>
   cases hq : (!q1 && q2) with
   | true =>
    obtain ⟨rfl, rfl⟩ : q1 = false ∧ q2 = true := by cases q1 <;> cases q2 <;> simp_all
    go_wp2_with fail
    go_meet
    exact ⟨true, rfl, fun h => (by cases h), Fr.refl _ _⟩
   | false =>
    have xG : Hd (m.hasStart = true ∨ m.start = 0) := by
     cases q1 with
     | true => exact .inl g1.o
     | false => cases q2 with
      | true => cases hq
      | false => exact .inr (g2.o rfl)
    cases q3 with
    | true =>
     cases q1 <;> cases q2
     case false.true => cases hq
     all_goals
      go_wp2_with fail
      go_meet
      exact ⟨true, rfl, fun h => (by cases h), Fr.refl _ _⟩
    | false =>
     cases q1 <;> cases q2
     case false.true => cases hq
     all_goals
      clear hq
      have ht := qh (show ∀ b, z9 m.named = b → (!b) = false → zhe m from fun b e h => ⟨g0.o rfl, xG.o, g3.o rfl, by rw [e]; cases b; cases h; rfl⟩)
      go_wp2_with fail
      refine (j3 m.named W1).mono ?_
      rintro e w2 ⟨rfl, k⟩
      have k := qh k
      generalize hb : z9 m.named = b at *
      have hb := qh hb
      clear f0 f1 f2 f3
      go_wp2_with fail
      go_meet
      exact ⟨_, rfl, ht.o b rfl, k.o⟩
 case rest =>
  obtain ⟨CI, rfl, hc⟩ := hcut
  cases CI with
  | true =>
   go_wp2
   go_ret
   exact Ans.no (Ext.trans hB.o.2 hc.o.2)
  | false =>
   have R0 := qh (hc.o.1 rfl)
   have HB := qh (anQ (hB.o.1.ext hc.o.2) (Ext.trans hB.o.2 hc.o.2))
   clear hB hc ag f0 f1 f2 f3 g0 g1 g2 g3
   obtain ⟨W2, rfl⟩ : ∃ W, W = wc := ⟨_, rfl⟩
   have ag := HB.o.1.cell
   go_wp2_with fail
   clear ag
   go_loopw [55] (fun wV w' => ∃ i : Nat, i ≤ m.types.length ∧ wV = .int .i64 i ∧ Hd (Ext w w' ∧ Blk w' gm (smc m aA cA aB cB aC cC aD cD aE cE aF cF aG cG aH cH aI cI aJ cJ aK cK aL cL aM cM) 37 ∧ (m.types.take i).all ftOk = true)) (fun wV _ => m.types.length - (intOf wV).toNat)
   case atStart => exact ⟨0, nzQ _, rfl, HB.o.2, HB.o.1, rfl⟩
   obtain ⟨i, hi, rfl, hX⟩ := hrel
   by_cases ah : i < m.types.length
   ·as_aux_lemma =>
    obtain ⟨b, o, ax, cx, ay, cy, rfl, e0, e1, r0, r1, -⟩ := Lay.ft_at2 H.o.1.types i ah
    have aX := qh (show m.types.take (i + 1) = _ from tsQ ah)
    generalize m.types[i] = x at *
    replace e0 := hX.o.1.cell e0 (fun q => q)
    replace e1 := hX.o.1.cell e1 (fun q => q)
    have r0 := qh r0
    have r1 := qh r1
    have hE := qh (zk wr #[.slice ax x.ps.length cx, .slice ay x.rs.length cy] 91)
    have bl := qh (za wr (.cells #[.slice ax x.ps.length cx, .slice ay x.rs.length cy] 91))
    go_wp2_with fail
    obtain ⟨ge, aZ⟩ := exQ (wr.heap.size)
    have cl := qh (show (wr.alloc (.cells #[.slice ax x.ps.length cx, .slice ay x.rs.length cy] 91)).heap.size = ge + 1 from by rw [← aZ]; simp)
    rw [aZ] at hE ⊢
    clear aZ e0 e1
    generalize (wr.alloc (.cells #[.slice ax x.ps.length cx, .slice ay x.rs.length cy] 91)) = wb at *
    have bt := hE.o.cell
    have X := qh (anQ hE.o (anQ (Ext.trans hX.o.1 bl.o) (hX.o.2.1.ext bl.o)))
    have ms := qh hE.o.lt
    clear hE bl
    refine (ZI x.ps ax cx A wb (Lay.fr r0.o X.o.2.1 (fun k hk => ⟨H.o.2 k hk, fun q => q⟩)) (fun k hk => nqQ (H.o.2 k hk) X.o.2.1.size)).mono ?_
    rintro e w3 ⟨bq, rfl, pq, kq⟩
    have X := qh (anQ (X.o.1.ext kq) (anQ (Ext.trans X.o.2.1 kq) (X.o.2.2.ext kq)))
    have pq := qh pq
    clear kq bt
    cases bq with
    | false =>
     go_wp2
     go_ret
     exact Ans.no (X.o.2.1)
    | true =>
     have iZ := qh (pq.o rfl)
     clear pq
     have bt := X.o.1.cell
     go_wp2_with fail
     refine (ZI x.rs ay cy A w3 (Lay.fr r1.o X.o.2.1 (fun k hk => ⟨H.o.2 k hk, fun q => q⟩)) (fun k hk => nqQ (H.o.2 k hk) X.o.2.1.size)).mono ?_
     rintro e w4 ⟨bq, rfl, pq, kq⟩
     have X := qh (anQ (X.o.1.ext kq) (anQ (Ext.trans X.o.2.1 kq) (X.o.2.2.ext kq)))
     have pq := qh pq
     clear kq bt
     cases bq with
     | false =>
      go_wp2
      go_ret
      exact Ans.no (X.o.2.1)
     | true =>
      have uv := qh (pq.o rfl)
      clear pq
      have HN := qh (anQ X.o.2.1 (anQ X.o.2.2 (show (m.types.take (i + 1)).all ftOk = true from by rw [aX.o]; exact j8 hX.o.2.2 (by unfold ftOk; simp only [Bool.and_eq_true]; exact ⟨iZ.o, uv.o⟩))))
      go_wp2
      go_roundw
      case rel => exact ⟨i + 1, by omega, by go_num, HN.o.1, HN.o.2.1, HN.o.2.2⟩
      case measure => simp [intOf]; omega
   obtain rfl : i = m.types.length := by omega
   have ai := hX.o
   rw [tlQ] at ai
   have R1 := qh ai.2.2
   have HB := qh (anQ ai.2.1 ai.1)
   clear hX ai hi ah
   generalize wr = C2 at *
   as_aux_lemma =>
   have ag := HB.o.1.cell
   go_wp2_with fail
   clear ag
   go_loopw [73] (fun wW w' => ∃ i : Nat, i ≤ m.imports.length ∧ wW = .int .i64 i ∧ Hd (Ext w w' ∧ Blk w' gm (smc m aA cA aB cB aC cC aD cD aE cE aF cF aG cG aH cH aI cI aJ cJ aK cK aL cL aM cM) 37 ∧ (m.imports.take i).all Y7 = true)) (fun wW _ => m.imports.length - (intOf wW).toNat)
   case atStart => exact ⟨0, nzQ _, rfl, HB.o.2, HB.o.1, rfl⟩
   obtain ⟨i, hi, rfl, hX⟩ := hrel
   by_cases ah : i < m.imports.length
   ·as_aux_lemma =>
    obtain ⟨b, o, rfl, e0, e1, e2, e3, e4, e5, e6, e7, e8, r0, r1, r2, r3, -⟩ := Lay.imp_at2 H.o.1.imports i ah
    have aX := qh (show m.imports.take (i + 1) = _ from tsQ ah)
    generalize m.imports[i] = x at *
    replace e0 := hX.o.1.cell e0 (fun q => q)
    replace e1 := hX.o.1.cell e1 (fun q => q)
    replace e2 := hX.o.1.cell e2 (fun q => q)
    replace e3 := hX.o.1.cell e3 (fun q => q)
    replace e4 := hX.o.1.cell e4 (fun q => q)
    replace e5 := hX.o.1.cell e5 (fun q => q)
    replace e6 := hX.o.1.cell e6 (fun q => q)
    replace e7 := hX.o.1.cell e7 (fun q => q)
    replace e8 := hX.o.1.cell e8 (fun q => q)
    have r0 := qh r0
    have r1 := qh r1
    have r2 := qh r2
    have r3 := qh r3
    have hE := qh (zk wr #[.string (zc x.mdl), .string (zc x.name), .int .i64 x.kind, .int .u32 (x.index.toNat : Int), .int .u32 (x.lim.min.toNat : Int), .bool x.lim.bounded, .int .u32 (x.lim.max.toNat : Int), .int .i64 x.ty, .bool x.mtb] 65)
    have bl := qh (za wr (.cells #[.string (zc x.mdl), .string (zc x.name), .int .i64 x.kind, .int .u32 (x.index.toNat : Int), .int .u32 (x.lim.min.toNat : Int), .bool x.lim.bounded, .int .u32 (x.lim.max.toNat : Int), .int .i64 x.ty, .bool x.mtb] 65))
    go_upto_region 12 with fail
    obtain ⟨ge, aZ⟩ := exQ (wr.heap.size)
    have cl := qh (show (wr.alloc (.cells #[.string (zc x.mdl), .string (zc x.name), .int .i64 x.kind, .int .u32 (x.index.toNat : Int), .int .u32 (x.lim.min.toNat : Int), .bool x.lim.bounded, .int .u32 (x.lim.max.toNat : Int), .int .i64 x.ty, .bool x.mtb] 65)).heap.size = ge + 1 from by rw [← aZ]; simp)
    rw [aZ] at hE ⊢
    clear aZ e0 e1 e2 e3 e4 e5 e6 e7 e8
    generalize (wr.alloc (.cells #[.string (zc x.mdl), .string (zc x.name), .int .i64 x.kind, .int .u32 (x.index.toNat : Int), .int .u32 (x.lim.min.toNat : Int), .bool x.lim.bounded, .int .u32 (x.lim.max.toNat : Int), .int .i64 x.ty, .bool x.mtb] 65)) = wb at *
    have bt := hE.o.cell
    have X := qh (anQ hE.o (anQ (Ext.trans hX.o.1 bl.o) (hX.o.2.1.ext bl.o)))
    have ms := qh hE.o.lt
    clear hE bl
    have HX := qh (anQ X.o.1 (anQ X.o.2.1 X.o.2.2))
    obtain ⟨kd, pO⟩ : ∃ v, x.kind = v := ⟨_, rfl⟩
    obtain ⟨ix, nP⟩ : ∃ v, (x.index.toNat : Int) = v := ⟨_, rfl⟩
    obtain ⟨mn, sq⟩ : ∃ v, (x.lim.min.toNat : Int) = v := ⟨_, rfl⟩
    obtain ⟨mx, qB⟩ : ∃ v, (x.lim.max.toNat : Int) = v := ⟨_, rfl⟩
    obtain ⟨bd, ci⟩ : ∃ v, x.lim.bounded = v := ⟨_, rfl⟩
    obtain ⟨ty, fq⟩ : ∃ v, x.ty = v := ⟨_, rfl⟩
    obtain ⟨mt, vv⟩ : ∃ v, x.mtb = v := ⟨_, rfl⟩
    rw [pO, nP, sq, qB, ci, fq, vv] at bt
    have HQ := qh (anQ pO (anQ nP (anQ sq (anQ qB (anQ ci (anQ fq vv))))))
    clear pO nP sq qB ci fq vv
    go_upto_region 13 with fail
    have hJ := qh (zk wb #[.string (zc x.mdl), .string (zc x.name), .int .i64 kd, .int .u32 0, .int .u32 0, .bool false, .int .u32 0, .int .i64 0, .bool false] 65)
    have kq := za wb (.cells #[.string (zc x.mdl), .string (zc x.name), .int .i64 kd, .int .u32 0, .int .u32 0, .bool false, .int .u32 0, .int .i64 0, .bool false] 65)
    have X := qh (anQ (X.o.1.ext kq) (anQ (Ext.trans X.o.2.1 kq) (X.o.2.2.ext kq)))
    have cj := qh ms.o
    have mw := qh HX.o.2.1.size
    have eA := qh HX.o.2.2.lt
    obtain ⟨gj, Bu⟩ := exQ (wb.heap.size)
    rw [Bu] at hJ cj mw eA ⊢
    clear Bu kq bt HX
    generalize (wb.alloc (.cells #[.string (zc x.mdl), .string (zc x.name), .int .i64 kd, .int .u32 0, .int .u32 0, .bool false, .int .u32 0, .int .i64 0, .bool false] 65)) = wj at *
    obtain ⟨E0, vR⟩ : ∃ E0, #[.string (zc x.mdl), .string (zc x.name), .int .i64 kd, .int .u32 ix, .int .u32 mn, .bool bd, .int .u32 mx, .int .i64 ty, .bool mt] = (E0 : Array Value) := ⟨_, rfl⟩
    have XE : Hd (Blk wj ge #[.string (zc x.mdl), .string (zc x.name), .int .i64 kd, .int .u32 ix, .int .u32 mn, .bool bd, .int .u32 mx, .int .i64 ty, .bool mt] 65) := by
     have h := X.o.1
     rw [HQ.o.1, HQ.o.2.1, HQ.o.2.2.1, HQ.o.2.2.2.1, HQ.o.2.2.2.2.1, HQ.o.2.2.2.2.2.1, HQ.o.2.2.2.2.2.2] at h
     exact h
    clear vR E0
    have bt := XE.o.cell
    have Ab := hJ.o.cell
    have Cs := hJ.o.frz
    by_cases k0 : kd = 0
    case' pos =>
     subst k0
     go_upto_region 22 with fail
     have HJ : Hd (∃ (jx jn jm jt : Int) (jb gF : Bool), Blk (wj.setCell ⟨gj, 3, none⟩ (.int .u32 ix)) gj #[.string (zc x.mdl), .string (zc x.name), .int .i64 0, .int .u32 jx, .int .u32 jn, .bool jb, .int .u32 jm, .int .i64 jt, .bool gF] 65 ∧ Fr (fun k => k = gj) wj (wj.setCell ⟨gj, 3, none⟩ (.int .u32 ix)) ∧ (((0 : Int) = 0 ∧ jx = ix ∧ jn = 0 ∧ jb = false ∧ jm = 0 ∧ jt = 0 ∧ gF = false) ∨ (((0 : Int) = 1 ∨ (0 : Int) = 2) ∧ jx = 0 ∧ jn = mn ∧ jb = bd ∧ jm = mx ∧ jt = 0 ∧ gF = false) ∨ ((0 : Int) = 3 ∧ jx = 0 ∧ jn = 0 ∧ jb = false ∧ jm = 0 ∧ jt = ty ∧ gF = mt))) := ⟨ix, 0, 0, 0, false, false, hJ.o.set 3 (.int .u32 ix), zh wj ⟨gj, 3, none⟩ (.int .u32 ix), .inl ⟨rfl, rfl, rfl, rfl, rfl, rfl, rfl⟩⟩
     generalize (wj.setCell ⟨gj, 3, none⟩ (.int .u32 ix)) = wk at *
    case' neg =>
     by_cases k1 : kd = 1
     case' pos =>
      subst k1
      go_upto_region 22 with fail
      have HJ : Hd (∃ (jx jn jm jt : Int) (jb gF : Bool), Blk (((wj.setCell ⟨gj, 4, none⟩ (.int .u32 mn)).setCell ⟨gj, 5, none⟩ (.bool bd)).setCell ⟨gj, 6, none⟩ (.int .u32 mx)) gj #[.string (zc x.mdl), .string (zc x.name), .int .i64 1, .int .u32 jx, .int .u32 jn, .bool jb, .int .u32 jm, .int .i64 jt, .bool gF] 65 ∧ Fr (fun k => k = gj) wj (((wj.setCell ⟨gj, 4, none⟩ (.int .u32 mn)).setCell ⟨gj, 5, none⟩ (.bool bd)).setCell ⟨gj, 6, none⟩ (.int .u32 mx)) ∧ (((1 : Int) = 0 ∧ jx = ix ∧ jn = 0 ∧ jb = false ∧ jm = 0 ∧ jt = 0 ∧ gF = false) ∨ (((1 : Int) = 1 ∨ (1 : Int) = 2) ∧ jx = 0 ∧ jn = mn ∧ jb = bd ∧ jm = mx ∧ jt = 0 ∧ gF = false) ∨ ((1 : Int) = 3 ∧ jx = 0 ∧ jn = 0 ∧ jb = false ∧ jm = 0 ∧ jt = ty ∧ gF = mt))) := ⟨0, mn, mx, 0, bd, false, (((hJ.o.set 4 (.int .u32 mn)).set 5 (.bool bd)).set 6 (.int .u32 mx)), Fr.setCell (Fr.setCell (Fr.setCell (Fr.refl (fun k => k = gj) wj) (p := ⟨gj, 4, none⟩) (.inl rfl) _) (p := ⟨gj, 5, none⟩) (.inl rfl) _) (p := ⟨gj, 6, none⟩) (.inl rfl) _, .inr (.inl ⟨.inl rfl, rfl, rfl, rfl, rfl, rfl, rfl⟩)⟩
      generalize (((wj.setCell ⟨gj, 4, none⟩ (.int .u32 mn)).setCell ⟨gj, 5, none⟩ (.bool bd)).setCell ⟨gj, 6, none⟩ (.int .u32 mx)) = wk at *
     case' neg =>
      by_cases k2 : kd = 2
      case' pos =>
       subst k2
       go_upto_region 22 with fail
       have HJ : Hd (∃ (jx jn jm jt : Int) (jb gF : Bool), Blk (((wj.setCell ⟨gj, 4, none⟩ (.int .u32 mn)).setCell ⟨gj, 5, none⟩ (.bool bd)).setCell ⟨gj, 6, none⟩ (.int .u32 mx)) gj #[.string (zc x.mdl), .string (zc x.name), .int .i64 2, .int .u32 jx, .int .u32 jn, .bool jb, .int .u32 jm, .int .i64 jt, .bool gF] 65 ∧ Fr (fun k => k = gj) wj (((wj.setCell ⟨gj, 4, none⟩ (.int .u32 mn)).setCell ⟨gj, 5, none⟩ (.bool bd)).setCell ⟨gj, 6, none⟩ (.int .u32 mx)) ∧ (((2 : Int) = 0 ∧ jx = ix ∧ jn = 0 ∧ jb = false ∧ jm = 0 ∧ jt = 0 ∧ gF = false) ∨ (((2 : Int) = 1 ∨ (2 : Int) = 2) ∧ jx = 0 ∧ jn = mn ∧ jb = bd ∧ jm = mx ∧ jt = 0 ∧ gF = false) ∨ ((2 : Int) = 3 ∧ jx = 0 ∧ jn = 0 ∧ jb = false ∧ jm = 0 ∧ jt = ty ∧ gF = mt))) := ⟨0, mn, mx, 0, bd, false, (((hJ.o.set 4 (.int .u32 mn)).set 5 (.bool bd)).set 6 (.int .u32 mx)), Fr.setCell (Fr.setCell (Fr.setCell (Fr.refl (fun k => k = gj) wj) (p := ⟨gj, 4, none⟩) (.inl rfl) _) (p := ⟨gj, 5, none⟩) (.inl rfl) _) (p := ⟨gj, 6, none⟩) (.inl rfl) _, .inr (.inl ⟨.inr rfl, rfl, rfl, rfl, rfl, rfl, rfl⟩)⟩
       generalize (((wj.setCell ⟨gj, 4, none⟩ (.int .u32 mn)).setCell ⟨gj, 5, none⟩ (.bool bd)).setCell ⟨gj, 6, none⟩ (.int .u32 mx)) = wk at *
      case' neg =>
       by_cases k3 : kd = 3
       case' pos =>
        subst k3
        go_wp2_with fail
        refine zi (y4 (fun k => k = gj)) [kT 0, kT 1, kT 2, kT 3, kT 4, kR 5, kT 6, kL 7] (by kernel_rfl) (by kernel_rfl) ?_
        simp only [zy, gzQ, gsQ]
        have HC := qh (fun W' (h : Fr (fun k => k = gj) wj.drew W') => ((XE.o.ext (zb _)).fr h (fun e => by have e' : ge = gj := e; have := cj.o; omega)).cell)
        have xL := qh (hJ.o.ext (zb wj))
        have gd := qh (zb wj)
        generalize wj.drew = wd at *
        clear bt Ab Cs
        repeat (apply item_take; rfl; rfl; rfl; rfl; exact fun _ _ _ _ h => h; (intro W e _ k; have q := HC.o W e; go_simp; exact k))
        have dY := xL.o.cell
        have fx := xL.o.frz
        apply ze; rfl; intro K hK; go_simp
        refine hK _ _ (zh wd ⟨gj, 7, none⟩ (.int .i64 ty)) ?_
        clear hK K dY fx HC
        have Ac := qh (xL.o.set 7 (.int .i64 ty))
        have dV := qh (Ext.fr gd.o (zh wd ⟨gj, 7, none⟩ (.int .i64 ty)))
        generalize wd.setCell ⟨gj, 7, none⟩ (.int .i64 ty) = w6 at *
        repeat (apply item_take; rfl; rfl; rfl; rfl; exact fun _ _ _ _ h => h; (intro _ _ _ k; go_simp; exact k))
        have dY := Ac.o.cell
        have fx := Ac.o.frz
        apply zu; rfl; intro K hK; go_simp
        refine hK _ _ ?_
        clear hK K dY fx
        apply zl
        have HJ : Hd (∃ (jx jn jm jt : Int) (jb gF : Bool), Blk (w6.setCell ⟨gj, 8, none⟩ (.bool mt)) gj #[.string (zc x.mdl), .string (zc x.name), .int .i64 3, .int .u32 jx, .int .u32 jn, .bool jb, .int .u32 jm, .int .i64 jt, .bool gF] 65 ∧ Fr (fun k => k = gj) wj (w6.setCell ⟨gj, 8, none⟩ (.bool mt)) ∧ (((3 : Int) = 0 ∧ jx = ix ∧ jn = 0 ∧ jb = false ∧ jm = 0 ∧ jt = 0 ∧ gF = false) ∨ (((3 : Int) = 1 ∨ (3 : Int) = 2) ∧ jx = 0 ∧ jn = mn ∧ jb = bd ∧ jm = mx ∧ jt = 0 ∧ gF = false) ∨ ((3 : Int) = 3 ∧ jx = 0 ∧ jn = 0 ∧ jb = false ∧ jm = 0 ∧ jt = ty ∧ gF = mt))) := ⟨0, 0, 0, ty, false, mt, Ac.o.set 8 (.bool mt), Fr.setCell dV.o (p := ⟨gj, 8, none⟩) (.inl rfl) _, .inr (.inr ⟨rfl, rfl, rfl, rfl, rfl, rfl, rfl⟩)⟩
        generalize w6.setCell ⟨gj, 8, none⟩ (.bool mt) = wk at *
        go_upto_region 22 with fail
       case' neg =>
        go_wp2
        go_ret
        exact Ans.no X.o.2.1
    all_goals
     as_aux_lemma =>
     obtain ⟨jx, jn, jm, jt, jb, gF, bN, kI, eo⟩ := HJ.o
     have eo := qh eo
     have As := qh (XE.o.fr kI (fun e => by have e' : ge = gj := e; have := cj.o; omega))
     have XW := qh (Fr.new (Ext.fr X.o.2.1 kI) (fun k e => by have e' : k = gj := e; have := mw.o; omega))
     have XB := qh (X.o.2.2.fr kI (fun e => by have e' : gm = gj := e; have := eA.o; omega))
     have X := qh (anQ As.o (anQ XW.o XB.o))
     have bt := As.o.cell
     have Ab := bN.cell
     clear HJ XE As XW XB kI cj mw eA ms
     by_cases c1 : ix = jx
     case' neg =>
      go_wp2
      go_ret
      exact Ans.no X.o.2.1
     subst c1
     by_cases c2 : mn = jn
     case' neg =>
      go_wp2
      go_ret
      exact Ans.no X.o.2.1
     subst c2
     by_cases c3 : bd = jb
     case' neg =>
      go_wp2
      go_ret
      exact Ans.no X.o.2.1
     subst c3
     by_cases c4 : mx = jm
     case' neg =>
      go_wp2
      go_ret
      exact Ans.no X.o.2.1
     subst c4
     by_cases c5 : ty = jt
     case' neg =>
      go_wp2
      go_ret
      exact Ans.no X.o.2.1
     subst c5
     by_cases c6 : mt = gF
     case' neg =>
      go_wp2
      go_ret
      exact Ans.no X.o.2.1
     subst c6
     have Ek := qh (show -9223372036854775808 ≤ ty ∧ ty ≤ 9223372036854775807 from by rw [← HQ.o.2.2.2.2.2.1]; exact r3.o)
     have hImp : Hd (ImpQ x ty) := fun t1 t2 t3 t4 => zir HQ.o eo.o t1 t2 t3 t4
     clear bN eo
     as_aux_lemma =>
     go_wp2_with fail
     clear Ab
     refine (j3 x.mdl wk).mono ?_
     rintro e w3 ⟨rfl, kq⟩
     have X := qh (anQ (X.o.1.ext kq) (anQ (Ext.trans X.o.2.1 kq) (X.o.2.2.ext kq)))
     clear kq bt
     obtain ⟨bq, dX⟩ := exQ (z9 x.mdl)
     rw [dX]
     have dX := qh dX
     cases bq with
     | false =>
      go_wp2
      go_ret
      exact Ans.no (X.o.2.1)
     | true =>
      have iZ := dX
      clear dX
      have bt := X.o.1.cell
      go_wp2_with fail
      refine (j3 x.name w3).mono ?_
      rintro e w4 ⟨rfl, kq⟩
      have X := qh (anQ (X.o.1.ext kq) (anQ (Ext.trans X.o.2.1 kq) (X.o.2.2.ext kq)))
      clear kq bt
      obtain ⟨bq, dX⟩ := exQ (z9 x.name)
      rw [dX]
      have dX := qh dX
      cases bq with
      | false =>
       go_wp2
       go_ret
       exact Ans.no (X.o.2.1)
      | true =>
       have uv := dX
       clear dX
       have bt := X.o.1.cell
       go_wp2_with fail
       refine (zfQ x.lim HQ.o.2.2.1 HQ.o.2.2.2.2.1 HQ.o.2.2.2.1 w4).mono ?_
       rintro e w5 ⟨bq, rfl, pq, kq⟩
       have X := qh (anQ (X.o.1.ext kq) (anQ (Ext.trans X.o.2.1 kq) (X.o.2.2.ext kq)))
       have pq := qh pq
       clear kq bt
       cases bq with
       | false =>
        go_wp2
        go_ret
        exact Ans.no (X.o.2.1)
       | true =>
        have DB := qh (pq.o rfl)
        clear pq
        have bt := X.o.1.cell
        go_wp2_with fail
        have kq := za w5 (.cells #[.int .i64 ty] 3)
        have rq := qh (zhc w5 ty 3 Ek.o)
        have X := qh (anQ (X.o.1.ext kq) (anQ (Ext.trans X.o.2.1 kq) (X.o.2.2.ext kq)))
        clear kq
        refine (ZI [ty] (some ⟨w5.heap.size, 0, none⟩) 1 (fun k => k = w5.heap.size) _ rq.o (fun k e => by have e' : k = w5.heap.size := e; simp; omega)).mono ?_
        rintro e w6 ⟨bq, rfl, pq, kq⟩
        have X := qh (anQ (X.o.1.ext kq) (anQ (Ext.trans X.o.2.1 kq) (X.o.2.2.ext kq)))
        have pq := qh pq
        clear kq bt
        cases bq with
        | false =>
         go_wp2
         go_ret
         exact Ans.no (X.o.2.1)
        | true =>
         have Ed := qh (pq.o rfl)
         clear pq
         have HN := qh (anQ X.o.2.1 (anQ X.o.2.2 (show (m.imports.take (i + 1)).all Y7 = true from by rw [aX.o]; exact j8 hX.o.2.2 (hImp.o iZ.o uv.o DB.o Ed.o))))
         go_wp2
         go_roundw
         case rel => exact ⟨i + 1, by omega, by go_num, HN.o.1, HN.o.2.1, HN.o.2.2⟩
         case measure => simp [intOf]; omega
   obtain rfl : i = m.imports.length := by omega
   have ai := hX.o
   rw [tlQ] at ai
   have R2 := qh ai.2.2
   have HB := qh (anQ ai.2.1 ai.1)
   clear hX ai hi ah
   generalize wr = ik at *
   as_aux_lemma =>
   have ag := HB.o.1.cell
   go_wp2_with fail
   clear ag
   have HC := qh (fun W' (h' : Fr (fun k => ik.heap.size ≤ k) ik.drew W') => (HB.o.1.ext (lg_up h')).cell)
   refine zi (y4 (fun k => ik.heap.size ≤ k)) [(1, .take), (2, .take), (4, .take), (5, .take), (8, .take), (0, .run), (3, .run), (6, .run), (7, .take)] (by kernel_rfl) (by kernel_rfl) ?_
   simp only [zy, gzQ, gsQ]
   repeat (apply item_take; rfl; rfl; rfl; rfl; exact fun _ _ _ _ h => h; (intro W e _ k; have q := HC.o W e; go_simp; exact k))
   apply ze; rfl; intro K hK; go_simp
   refine hK _ _ ((za ik.drew (.cells #[] 63)).to) ?_
   have O0 : Hd (Own Lay.lim 63 ik.heap.size ((ik.alloc (.cells #[] 63)).drew) (.slice (some ⟨ik.heap.size, 0, none⟩) 0 0) []) := ziq Lay.lim (by exact (zk ik #[] 63).ext (zb _)) (Nat.le_refl _)
   have E0 : Hd (Ext ik ((ik.alloc (.cells #[] 63)).drew)) := (za _ _).trans (zb _)
   generalize fh : (ik.alloc (.cells #[] 63)).drew = z0 at *
   generalize hu0 : Value.slice (some ⟨ik.heap.size, 0, none⟩) 0 0 = u0 at *
   clear hK K fh hu0
   apply ze; rfl; intro K hK
   refine y2 Lay.lim ik.heap.size (.tmp 134) (.tmp 136) _ _ (.agg #[.int .u32 0, .bool false, .int .u32 0]) 12 rfl Tryz.underlying28 ziZ rfl (by omega) (by decide) u0 [] m.tables aD m.tables.length cD rfl rfl O0.o (Lay.fr H.o.1.tables (Ext.trans HB.o.2 E0.o) (fun k hk => ⟨H.o.2 k hk, fun h => h⟩)) (fun _ h => Lay.all_flat zhd h) E0.o.size (by have := qA.o; simp only [List.length_nil]; omega) ?_
   intro u1 z1 o1 f1 g1
   have O1 : Hd (Own Lay.lim 63 ik.heap.size z1 u1 ([] ++ m.tables)) := o1
   have E1 : Hd (Ext ik z1) := (E0.o.fr f1).mono (fun k hk e => absurd (O0.o.lt k e.symm).1 (by omega))
   refine hK _ _ (f1.mono (fun k _ e => (O0.o.lt k e.symm).1)) ?_
   clear hK K o1 f1 g1 O0 E0
   apply ze; rfl; intro K hK
   refine y2 Lay.lim ik.heap.size (.tmp 137) (.tmp 139) _ _ (.agg #[.int .u32 0, .bool false, .int .u32 0]) 12 rfl Tryz.underlying28 ziZ rfl (by omega) (by decide) u1 ([] ++ m.tables) m.memories aE m.memories.length cE rfl rfl O1.o (Lay.fr H.o.1.memories (Ext.trans HB.o.2 E1.o) (fun k hk => ⟨H.o.2 k hk, fun h => h⟩)) (fun _ h => Lay.all_flat zhd h) E1.o.size (by have := qA.o; simp only [laQ, List.length_nil]; omega) ?_
   intro u2 z2 o1 f1 g1
   have O2 : Hd (Own Lay.lim 63 ik.heap.size z2 u2 (m.tables ++ m.memories)) := o1
   have E2 : Hd (Ext ik z2) := (E1.o.fr f1).mono (fun k hk e => absurd (O1.o.lt k e.symm).1 (by omega))
   refine hK _ _ (f1.mono (fun k _ e => (O1.o.lt k e.symm).1)) ?_
   clear hK K o1 f1 g1 O1 E1 HC
   obtain ⟨ua, uc, rfl, pr, qO⟩ := O2.o.form
   obtain ⟨nn, sw⟩ := exQ (m.tables ++ m.memories)
   have D5 : (nn.length : Int) ≤ 9223372036854775807 := by rw [← sw, laQ]; have := qA.o; omega
   rw [sw] at O2 pr ⊢
   have sw := qh sw
   clear pr qO
   repeat (apply item_take; rfl; rfl; rfl; rfl; exact fun _ _ _ _ h => h; (intro _ _ _ k; go_simp; exact k))
   apply zl
   as_aux_lemma =>
   go_wp2_with fail
   have HZ := qh (Ext.trans HB.o.2 E2.o)
   have RZ := qh O2.o.slice
   have HB := qh (anQ (HB.o.1.ext E2.o) (Fr.refl (fun _ => False) z2))
   clear O2 E2
   go_loopw [142] (fun qE w' => ∃ i : Nat, i ≤ nn.length ∧ qE = .int .i64 i ∧ Hd (Ext z2 w' ∧ Blk w' gm (smc m aA cA aB cB aC cC aD cD aE cE aF cF aG cG aH cH aI cI aJ cJ aK cK aL cL aM cM) 37 ∧ (nn.take i).all ZR = true)) (fun qE _ => nn.length - (intOf qE).toNat)
   case atStart => exact ⟨0, nzQ _, rfl, HB.o.2, HB.o.1, rfl⟩
   obtain ⟨i, hi, rfl, hX⟩ := hrel
   by_cases ah : i < nn.length
   ·as_aux_lemma =>
    obtain ⟨b, o, rfl, e0, e1, e2, -⟩ := Lay.lim_at2 RZ.o i ah
    have aX := qh (show nn.take (i + 1) = _ from tsQ ah)
    generalize nn[i] = x at *
    replace e0 := hX.o.1.cell e0 (fun q => q)
    replace e1 := hX.o.1.cell e1 (fun q => q)
    replace e2 := hX.o.1.cell e2 (fun q => q)
    have hE := qh (zk wr #[.int .u32 (x.min.toNat : Int), .bool x.bounded, .int .u32 (x.max.toNat : Int)] 63)
    have bl := qh (za wr (.cells #[.int .u32 (x.min.toNat : Int), .bool x.bounded, .int .u32 (x.max.toNat : Int)] 63))
    go_wp2_with fail
    obtain ⟨ge, aZ⟩ := exQ (wr.heap.size)
    have cl := qh (show (wr.alloc (.cells #[.int .u32 (x.min.toNat : Int), .bool x.bounded, .int .u32 (x.max.toNat : Int)] 63)).heap.size = ge + 1 from by rw [← aZ]; simp)
    rw [aZ] at hE ⊢
    clear aZ e0 e1 e2
    generalize (wr.alloc (.cells #[.int .u32 (x.min.toNat : Int), .bool x.bounded, .int .u32 (x.max.toNat : Int)] 63)) = wb at *
    have bt := hE.o.cell
    have X := qh (anQ hE.o (anQ (Ext.trans hX.o.1 bl.o) (hX.o.2.1.ext bl.o)))
    have ms := qh hE.o.lt
    clear hE bl
    refine (YU x wb).mono ?_
    rintro e w3 ⟨bq, rfl, pq, kq⟩
    have X := qh (anQ (X.o.1.ext kq) (anQ (Ext.trans X.o.2.1 kq) (X.o.2.2.ext kq)))
    have pq := qh pq
    clear kq bt
    cases bq with
    | false =>
     go_wp2
     go_ret
     exact Ans.no (Ext.trans HZ.o X.o.2.1)
    | true =>
     have iZ := qh (pq.o rfl)
     clear pq
     have HN := qh (anQ X.o.2.1 (anQ X.o.2.2 (show (nn.take (i + 1)).all ZR = true from by rw [aX.o]; exact j8 hX.o.2.2 iZ.o)))
     go_wp2
     go_roundw
     case rel => exact ⟨i + 1, by omega, by go_num, HN.o.1, HN.o.2.1, HN.o.2.2⟩
     case measure => simp [intOf]; omega
   obtain rfl : i = nn.length := by omega
   have ai := hX.o
   rw [tlQ] at ai
   have R3 := qh ai.2.2
   have HB := qh (anQ ai.2.1 (Ext.trans HZ.o ai.1))
   clear hX ai hi ah
   generalize wr = E9 at *
   as_aux_lemma =>
   rw [← sw.o] at R3
   clear sw HZ RZ
   have ag := HB.o.1.cell
   go_wp2_with fail
   clear ag
   go_loopw [153] (fun qq w' => ∃ i : Nat, i ≤ m.globals.length ∧ qq = .int .i64 i ∧ Hd (Ext w w' ∧ Blk w' gm (smc m aA cA aB cB aC cC aD cD aE cE aF cF aG cG aH cH aI cI aJ cJ aK cK aL cL aM cM) 37 ∧ (m.globals.take i).all po = true)) (fun qq _ => m.globals.length - (intOf qq).toNat)
   case atStart => exact ⟨0, nzQ _, rfl, HB.o.2, HB.o.1, rfl⟩
   obtain ⟨i, hi, rfl, hX⟩ := hrel
   by_cases ah : i < m.globals.length
   ·as_aux_lemma =>
    obtain ⟨b, o, ax, cx, rfl, e0, e1, e2, r0, r1, -⟩ := Lay.glob_at2 H.o.1.globals i ah
    have aX := qh (show m.globals.take (i + 1) = _ from tsQ ah)
    generalize m.globals[i] = x at *
    replace e0 := hX.o.1.cell e0 (fun q => q)
    replace e1 := hX.o.1.cell e1 (fun q => q)
    replace e2 := hX.o.1.cell e2 (fun q => q)
    have r0 := qh r0
    have r1 := qh r1
    have hE := qh (zk wr #[.int .i64 x.ty, .bool x.mtb, .slice ax x.init.length cx] 69)
    have bl := qh (za wr (.cells #[.int .i64 x.ty, .bool x.mtb, .slice ax x.init.length cx] 69))
    go_wp2_with fail
    obtain ⟨ge, aZ⟩ := exQ (wr.heap.size)
    have cl := qh (show (wr.alloc (.cells #[.int .i64 x.ty, .bool x.mtb, .slice ax x.init.length cx] 69)).heap.size = ge + 1 from by rw [← aZ]; simp)
    rw [aZ] at hE ⊢
    clear aZ e0 e1 e2
    generalize (wr.alloc (.cells #[.int .i64 x.ty, .bool x.mtb, .slice ax x.init.length cx] 69)) = wb at *
    have bt := hE.o.cell
    have X := qh (anQ hE.o (anQ (Ext.trans hX.o.1 bl.o) (hX.o.2.1.ext bl.o)))
    have ms := qh hE.o.lt
    clear hE bl
    rw [← cl.o]
    have kq := za wb (.cells #[.int .i64 x.ty] 3)
    have rq := qh (zhc wb x.ty 3 r0.o)
    have X := qh (anQ (X.o.1.ext kq) (anQ (Ext.trans X.o.2.1 kq) (X.o.2.2.ext kq)))
    clear kq
    refine (ZI [x.ty] (some ⟨wb.heap.size, 0, none⟩) 1 (fun k => k = wb.heap.size) _ rq.o (fun k e => by have e' : k = wb.heap.size := e; simp; omega)).mono ?_
    rintro e w3 ⟨bq, rfl, pq, kq⟩
    have X := qh (anQ (X.o.1.ext kq) (anQ (Ext.trans X.o.2.1 kq) (X.o.2.2.ext kq)))
    have pq := qh pq
    clear kq bt
    cases bq with
    | false =>
     go_wp2
     go_ret
     exact Ans.no (X.o.2.1)
    | true =>
     have iZ := qh (pq.o rfl)
     clear pq
     have bt := X.o.1.cell
     go_wp2_with fail
     refine (JJ n x.init ax cx A w3 (Lay.fr r1.o X.o.2.1 (fun k hk => ⟨H.o.2 k hk, fun q => q⟩)) (fun k hk => nqQ (H.o.2 k hk) X.o.2.1.size)).mono ?_
     rintro e w4 ⟨bq, rfl, pq, kq⟩
     have X := qh (anQ (X.o.1.ext kq) (anQ (Ext.trans X.o.2.1 kq) (X.o.2.2.ext kq)))
     have pq := qh pq
     clear kq bt
     cases bq with
     | false =>
      go_wp2
      go_ret
      exact Ans.no (X.o.2.1)
     | true =>
      have uv := qh (pq.o rfl)
      clear pq
      have HN := qh (anQ X.o.2.1 (anQ X.o.2.2 (show (m.globals.take (i + 1)).all po = true from by rw [aX.o]; exact j8 hX.o.2.2 (by unfold po; have h0 := iZ.o; simp only [List.all_cons, List.all_nil, Bool.and_true] at h0; rw [h0, uv.o]; rfl))))
      go_wp2
      go_roundw
      case rel => exact ⟨i + 1, by omega, by go_num, HN.o.1, HN.o.2.1, HN.o.2.2⟩
      case measure => simp [intOf]; omega
   obtain rfl : i = m.globals.length := by omega
   have ai := hX.o
   rw [tlQ] at ai
   have R4 := qh ai.2.2
   have HB := qh (anQ ai.2.1 ai.1)
   clear hX ai hi ah
   generalize wr = ER at *
   as_aux_lemma =>
   have ag := HB.o.1.cell
   go_wp2_with fail
   clear ag
   go_loopw [172] (fun fT w' => ∃ i : Nat, i ≤ m.exports.length ∧ fT = .int .i64 i ∧ Hd (Ext w w' ∧ Blk w' gm (smc m aA cA aB cB aC cC aD cD aE cE aF cF aG cG aH cH aI cI aJ cJ aK cK aL cL aM cM) 37 ∧ (m.exports.take i).all o9 = true)) (fun fT _ => m.exports.length - (intOf fT).toNat)
   case atStart => exact ⟨0, nzQ _, rfl, HB.o.2, HB.o.1, rfl⟩
   obtain ⟨i, hi, rfl, hX⟩ := hrel
   by_cases ah : i < m.exports.length
   ·as_aux_lemma =>
    obtain ⟨b, o, rfl, e0, e1, e2, r0, r1, -⟩ := Lay.expo_at2 H.o.1.exports i ah
    have aX := qh (show m.exports.take (i + 1) = _ from tsQ ah)
    generalize m.exports[i] = x at *
    replace e0 := hX.o.1.cell e0 (fun q => q)
    replace e1 := hX.o.1.cell e1 (fun q => q)
    replace e2 := hX.o.1.cell e2 (fun q => q)
    have r0 := qh r0
    have r1 := qh r1
    have hE := qh (zk wr #[.string (zc x.name), .int .i64 x.kind, .int .u32 (x.index.toNat : Int)] 98)
    have bl := qh (za wr (.cells #[.string (zc x.name), .int .i64 x.kind, .int .u32 (x.index.toNat : Int)] 98))
    go_upto_region 40 with fail
    obtain ⟨ge, aZ⟩ := exQ (wr.heap.size)
    have cl := qh (show (wr.alloc (.cells #[.string (zc x.name), .int .i64 x.kind, .int .u32 (x.index.toNat : Int)] 98)).heap.size = ge + 1 from by rw [← aZ]; simp)
    rw [aZ] at hE ⊢
    clear aZ e0 e1 e2
    generalize (wr.alloc (.cells #[.string (zc x.name), .int .i64 x.kind, .int .u32 (x.index.toNat : Int)] 98)) = wb at *
    have bt := hE.o.cell
    have X := qh (anQ hE.o (anQ (Ext.trans hX.o.1 bl.o) (hX.o.2.1.ext bl.o)))
    have ms := qh hE.o.lt
    clear hE bl
    obtain ⟨kd, pO⟩ := exQ (x.kind)
    rw [pO] at bt ⊢
    have pO := qh pO
    by_cases h1 : kd < 0
    ·go_wp2
     go_ret
     exact Ans.no X.o.2.1
    by_cases h2 : 3 < kd
    ·go_wp2
     go_ret
     exact Ans.no X.o.2.1
    have hk := qh (show 0 ≤ x.kind ∧ x.kind ≤ 3 from by have := pO.o; omega)
    go_wp2_with fail
    refine (j3 x.name wb).mono ?_
    rintro e w3 ⟨rfl, kq⟩
    have X := qh (anQ (X.o.1.ext kq) (anQ (Ext.trans X.o.2.1 kq) (X.o.2.2.ext kq)))
    clear kq bt
    obtain ⟨bq, dX⟩ := exQ (z9 x.name)
    rw [dX]
    have dX := qh dX
    cases bq with
    | false =>
     go_wp2
     go_ret
     exact Ans.no (X.o.2.1)
    | true =>
     have iZ := dX
     clear dX
     have HN := qh (anQ X.o.2.1 (anQ X.o.2.2 (show (m.exports.take (i + 1)).all o9 = true from by rw [aX.o]; exact j8 hX.o.2.2 (by unfold o9; rw [iZ.o, decide_eq_true hk.o.1, decide_eq_true hk.o.2]; rfl))))
     go_wp2
     go_roundw
     case rel => exact ⟨i + 1, by omega, by go_num, HN.o.1, HN.o.2.1, HN.o.2.2⟩
     case measure => simp [intOf]; omega
   obtain rfl : i = m.exports.length := by omega
   have ai := hX.o
   rw [tlQ] at ai
   have R5 := qh ai.2.2
   have HB := qh (anQ ai.2.1 ai.1)
   clear hX ai hi ah
   generalize wr = Fg at *
   as_aux_lemma =>
   have ag := HB.o.1.cell
   go_wp2_with fail
   clear ag
   go_loopw [194] (fun p9 w' => ∃ i : Nat, i ≤ m.elements.length ∧ p9 = .int .i64 i ∧ Hd (Ext w w' ∧ Blk w' gm (smc m aA cA aB cB aC cC aD cD aE cE aF cF aG cG aH cH aI cI aJ cJ aK cK aL cL aM cM) 37 ∧ (m.elements.take i).all (fun q => jK q.off) = true)) (fun p9 _ => m.elements.length - (intOf p9).toNat)
   case atStart => exact ⟨0, nzQ _, rfl, HB.o.2, HB.o.1, rfl⟩
   obtain ⟨i, hi, rfl, hX⟩ := hrel
   by_cases ah : i < m.elements.length
   ·as_aux_lemma =>
    obtain ⟨b, o, ax, cx, ay, cy, rfl, e0, e1, e2, r0, r1, -⟩ := Lay.elem_at2 H.o.1.elements i ah
    have aX := qh (show m.elements.take (i + 1) = _ from tsQ ah)
    generalize m.elements[i] = x at *
    replace e0 := hX.o.1.cell e0 (fun q => q)
    replace e1 := hX.o.1.cell e1 (fun q => q)
    replace e2 := hX.o.1.cell e2 (fun q => q)
    have r0 := qh r0
    have r1 := qh r1
    have hE := qh (zk wr #[.int .u32 (x.index.toNat : Int), .slice ax x.off.length cx, .slice ay x.ids.length cy] 71)
    have bl := qh (za wr (.cells #[.int .u32 (x.index.toNat : Int), .slice ax x.off.length cx, .slice ay x.ids.length cy] 71))
    go_wp2_with fail
    obtain ⟨ge, aZ⟩ := exQ (wr.heap.size)
    have cl := qh (show (wr.alloc (.cells #[.int .u32 (x.index.toNat : Int), .slice ax x.off.length cx, .slice ay x.ids.length cy] 71)).heap.size = ge + 1 from by rw [← aZ]; simp)
    rw [aZ] at hE ⊢
    clear aZ e0 e1 e2
    generalize (wr.alloc (.cells #[.int .u32 (x.index.toNat : Int), .slice ax x.off.length cx, .slice ay x.ids.length cy] 71)) = wb at *
    have bt := hE.o.cell
    have X := qh (anQ hE.o (anQ (Ext.trans hX.o.1 bl.o) (hX.o.2.1.ext bl.o)))
    have ms := qh hE.o.lt
    clear hE bl
    refine (JJ n x.off ax cx A wb (Lay.fr r0.o X.o.2.1 (fun k hk => ⟨H.o.2 k hk, fun q => q⟩)) (fun k hk => nqQ (H.o.2 k hk) X.o.2.1.size)).mono ?_
    rintro e w3 ⟨bq, rfl, pq, kq⟩
    have X := qh (anQ (X.o.1.ext kq) (anQ (Ext.trans X.o.2.1 kq) (X.o.2.2.ext kq)))
    have pq := qh pq
    clear kq bt
    cases bq with
    | false =>
     go_wp2
     go_ret
     exact Ans.no (X.o.2.1)
    | true =>
     have iZ := qh (pq.o rfl)
     clear pq
     have HN := qh (anQ X.o.2.1 (anQ X.o.2.2 (show (m.elements.take (i + 1)).all (fun q => jK q.off) = true from by rw [aX.o]; exact j8 hX.o.2.2 iZ.o)))
     go_wp2
     go_roundw
     case rel => exact ⟨i + 1, by omega, by go_num, HN.o.1, HN.o.2.1, HN.o.2.2⟩
     case measure => simp [intOf]; omega
   obtain rfl : i = m.elements.length := by omega
   have ai := hX.o
   rw [tlQ] at ai
   have R6 := qh ai.2.2
   have HB := qh (anQ ai.2.1 ai.1)
   clear hX ai hi ah
   generalize wr = E4 at *
   as_aux_lemma =>
   have ag := HB.o.1.cell
   go_wp2_with fail
   clear ag
   go_loopw [206] (fun qH w' => ∃ i : Nat, i ≤ m.datas.length ∧ qH = .int .i64 i ∧ Hd (Ext w w' ∧ Blk w' gm (smc m aA cA aB cB aC cC aD cD aE cE aF cF aG cG aH cH aI cI aJ cJ aK cK aL cL aM cM) 37 ∧ (m.datas.take i).all (fun q => jK q.off) = true)) (fun qH _ => m.datas.length - (intOf qH).toNat)
   case atStart => exact ⟨0, nzQ _, rfl, HB.o.2, HB.o.1, rfl⟩
   obtain ⟨i, hi, rfl, hX⟩ := hrel
   by_cases ah : i < m.datas.length
   ·as_aux_lemma =>
    obtain ⟨b, o, ax, cx, ay, cy, rfl, e0, e1, e2, r0, r1, -⟩ := Lay.dat_at2 H.o.1.datas i ah
    have aX := qh (show m.datas.take (i + 1) = _ from tsQ ah)
    generalize m.datas[i] = x at *
    replace e0 := hX.o.1.cell e0 (fun q => q)
    replace e1 := hX.o.1.cell e1 (fun q => q)
    replace e2 := hX.o.1.cell e2 (fun q => q)
    have r0 := qh r0
    have r1 := qh r1
    have hE := qh (zk wr #[.int .u32 (x.index.toNat : Int), .slice ax x.off.length cx, .slice ay x.init.length cy] 73)
    have bl := qh (za wr (.cells #[.int .u32 (x.index.toNat : Int), .slice ax x.off.length cx, .slice ay x.init.length cy] 73))
    go_wp2_with fail
    obtain ⟨ge, aZ⟩ := exQ (wr.heap.size)
    have cl := qh (show (wr.alloc (.cells #[.int .u32 (x.index.toNat : Int), .slice ax x.off.length cx, .slice ay x.init.length cy] 73)).heap.size = ge + 1 from by rw [← aZ]; simp)
    rw [aZ] at hE ⊢
    clear aZ e0 e1 e2
    generalize (wr.alloc (.cells #[.int .u32 (x.index.toNat : Int), .slice ax x.off.length cx, .slice ay x.init.length cy] 73)) = wb at *
    have bt := hE.o.cell
    have X := qh (anQ hE.o (anQ (Ext.trans hX.o.1 bl.o) (hX.o.2.1.ext bl.o)))
    have ms := qh hE.o.lt
    clear hE bl
    refine (JJ n x.off ax cx A wb (Lay.fr r0.o X.o.2.1 (fun k hk => ⟨H.o.2 k hk, fun q => q⟩)) (fun k hk => nqQ (H.o.2 k hk) X.o.2.1.size)).mono ?_
    rintro e w3 ⟨bq, rfl, pq, kq⟩
    have X := qh (anQ (X.o.1.ext kq) (anQ (Ext.trans X.o.2.1 kq) (X.o.2.2.ext kq)))
    have pq := qh pq
    clear kq bt
    cases bq with
    | false =>
     go_wp2
     go_ret
     exact Ans.no (X.o.2.1)
    | true =>
     have iZ := qh (pq.o rfl)
     clear pq
     have HN := qh (anQ X.o.2.1 (anQ X.o.2.2 (show (m.datas.take (i + 1)).all (fun q => jK q.off) = true from by rw [aX.o]; exact j8 hX.o.2.2 iZ.o)))
     go_wp2
     go_roundw
     case rel => exact ⟨i + 1, by omega, by go_num, HN.o.1, HN.o.2.1, HN.o.2.2⟩
     case measure => simp [intOf]; omega
   obtain rfl : i = m.datas.length := by omega
   have ai := hX.o
   rw [tlQ] at ai
   have R7 := qh ai.2.2
   have HB := qh (anQ ai.2.1 ai.1)
   clear hX ai hi ah
   generalize wr = EZ at *
   as_aux_lemma =>
   have ag := HB.o.1.cell
   go_wp2_with fail
   clear ag
   go_loopw [218] (fun p8 w' => ∃ i : Nat, i ≤ m.customs.length ∧ p8 = .int .i64 i ∧ Hd (Ext w w' ∧ Blk w' gm (smc m aA cA aB cB aC cC aD cD aE cE aF cF aG cG aH cH aI cI aJ cJ aK cK aL cL aM cM) 37 ∧ (m.customs.take i).all qK = true)) (fun p8 _ => m.customs.length - (intOf p8).toNat)
   case atStart => exact ⟨0, nzQ _, rfl, HB.o.2, HB.o.1, rfl⟩
   obtain ⟨i, hi, rfl, hX⟩ := hrel
   by_cases ah : i < m.customs.length
   ·as_aux_lemma =>
    obtain ⟨b, o, ay, cy, rfl, e0, e1, r0, r1, -⟩ := Lay.cus_at2 H.o.1.customs i ah
    have aX := qh (show m.customs.take (i + 1) = _ from tsQ ah)
    generalize m.customs[i] = x at *
    replace e0 := hX.o.1.cell e0 (fun q => q)
    replace e1 := hX.o.1.cell e1 (fun q => q)
    have r0 := qh r0
    have r1 := qh r1
    have hE := qh (zk wr #[.string (zc x.name), .slice ay x.data.length cy] 100)
    have bl := qh (za wr (.cells #[.string (zc x.name), .slice ay x.data.length cy] 100))
    go_wp2_with fail
    obtain ⟨ge, aZ⟩ := exQ (wr.heap.size)
    have cl := qh (show (wr.alloc (.cells #[.string (zc x.name), .slice ay x.data.length cy] 100)).heap.size = ge + 1 from by rw [← aZ]; simp)
    rw [aZ] at hE ⊢
    clear aZ e0 e1
    generalize (wr.alloc (.cells #[.string (zc x.name), .slice ay x.data.length cy] 100)) = wb at *
    have bt := hE.o.cell
    have X := qh (anQ hE.o (anQ (Ext.trans hX.o.1 bl.o) (hX.o.2.1.ext bl.o)))
    have ms := qh hE.o.lt
    clear hE bl
    refine (j3 x.name wb).mono ?_
    rintro e w3 ⟨rfl, kq⟩
    have X := qh (anQ (X.o.1.ext kq) (anQ (Ext.trans X.o.2.1 kq) (X.o.2.2.ext kq)))
    clear kq bt
    obtain ⟨bq, dX⟩ := exQ (z9 x.name)
    rw [dX]
    have dX := qh dX
    cases bq with
    | false =>
     go_wp2
     go_ret
     exact Ans.no (X.o.2.1)
    | true =>
     have iZ := dX
     clear dX
     obtain ⟨qn, fn⟩ : ∃ q : Bool, ((zc x.name).toList == ([110, 97, 109, 101] : List UInt8)) = q := ⟨_, rfl⟩
     have gn : Hd (qn = false → x.name ≠ ji) := fun h e => by
      rw [← fn, beq_eq_false_iff_ne] at h
      refine h ?_
      rw [e, ByteArray.toList_eq]; rfl
     have bt := X.o.1.cell
     cases qn with
     | true =>
      go_wp2
      go_ret
      exact Ans.no X.o.2.1
     | false =>
      have pn := qh (gn.o rfl)
      clear gn
      have HN := qh (anQ X.o.2.1 (anQ X.o.2.2 (show (m.customs.take (i + 1)).all qK = true from by rw [aX.o]; exact j8 hX.o.2.2 (by unfold qK; rw [iZ.o, decide_eq_true pn.o]; rfl))))
      go_wp2
      go_roundw
      case rel => exact ⟨i + 1, by omega, by go_num, HN.o.1, HN.o.2.1, HN.o.2.2⟩
      case measure => simp [intOf]; omega
   obtain rfl : i = m.customs.length := by omega
   have ai := hX.o
   rw [tlQ] at ai
   have R8 := qh ai.2.2
   have HB := qh (anQ ai.2.1 ai.1)
   clear hX ai hi ah
   generalize wr = E7 at *
   as_aux_lemma =>
   have ag := HB.o.1.cell
   go_wp2_with fail
   clear ag
   go_loopw [235] (fun qt w' => ∃ i : Nat, i ≤ m.funcs.length ∧ qt = .int .i64 i ∧ Hd (Ext w w' ∧ Blk w' gm (smc m aA cA aB cB aC cC aD cD aE cE aF cF aG cG aH cH aI cI aJ cJ aK cK aL cL aM cM) 37 ∧ JK true m.funcs i)) (fun qt _ => m.funcs.length - (intOf qt).toNat)
   case atStart => exact ⟨0, nzQ _, rfl, HB.o.2, HB.o.1, JK.zero _ _⟩
   obtain ⟨i, hi, rfl, hX⟩ := hrel
   by_cases ah : i < m.funcs.length
   ·as_aux_lemma =>
    obtain ⟨b, o, rfl, e0, e1, e2, r0, -⟩ := Lay.nam_at2 H.o.1.funcs i ah
    have ow := qh (show m.funcs[i]? = some m.funcs[i] from List.getElem?_eq_getElem ah)
    generalize m.funcs[i] = x at *
    replace e0 := hX.o.1.cell e0 (fun q => q)
    replace e1 := hX.o.1.cell e1 (fun q => q)
    replace e2 := hX.o.1.cell e2 (fun q => q)
    have r0 := qh r0
    have hE := qh (zk wr #[.int .u32 (x.fn.toNat : Int), .int .u32 (x.idx.toNat : Int), .string (zc x.name)] 120)
    have bl := qh (za wr (.cells #[.int .u32 (x.fn.toNat : Int), .int .u32 (x.idx.toNat : Int), .string (zc x.name)] 120))
    go_upto_region 64 with fail
    obtain ⟨ge, aZ⟩ := exQ (wr.heap.size)
    have cl := qh (show (wr.alloc (.cells #[.int .u32 (x.fn.toNat : Int), .int .u32 (x.idx.toNat : Int), .string (zc x.name)] 120)).heap.size = ge + 1 from by rw [← aZ]; simp)
    rw [aZ] at hE ⊢
    clear aZ e0 e1 e2
    generalize (wr.alloc (.cells #[.int .u32 (x.fn.toNat : Int), .int .u32 (x.idx.toNat : Int), .string (zc x.name)] 120)) = wb at *
    have bt := hE.o.cell
    have X := qh (anQ hE.o (anQ (Ext.trans hX.o.1 bl.o) (hX.o.2.1.ext bl.o)))
    have ms := qh hE.o.lt
    clear hE bl
    refine zi JS [kT 0, kT 1, kT 2, kT 3, kT 4, kT 5, kR 6, kT 7, kT 8, kT 9, kT 10, kT 11, kT 12, kT 13, kT 14, kT 15, kT 16, kT 17, kT 18, kT 19, kR 20, kT 21, kT 22, kT 23] (by kernel_rfl) (by kernel_rfl) ?_
    simp only [zy, gzQ, gsQ]
    clear bt
    have gd := qh (zb wb)
    have X := qh (anQ (X.o.1.ext gd.o) (anQ (Ext.trans X.o.2.1 gd.o) (X.o.2.2.ext gd.o)))
    clear gd
    generalize wb.drew = wd at *
    have HC := qh (fun W (h : Ext wd W) => anQ (X.o.1.ext h).cell (X.o.2.2.ext h).cell)
    obtain ⟨qz, fz⟩ : ∃ qz : Bool, ((x.fn.toNat : Int) != 0) = qz := ⟨_, rfl⟩
    have gz : Hd (qz = false → x.fn = 0) := fun h => by
     rw [h] at fz
     have h2 := bne_eq_false_iff_eq.1 fz
     exact UInt32.toNat_inj.1 (show x.fn.toNat = 0 from by omega)
    cases qz with
    | true =>
     repeat (first | (apply item_take; rfl; rfl; rfl; rfl; exact fun _ _ _ _ h => h; (intro W e _ k; obtain ⟨q0, q1⟩ := HC.o W e; go_simp; exact k)) | (refine yd (by rfl) (fun _ _ _ _ h => h) ?_; try go_simp))
     refine jE (by rfl) ?_
     repeat (first | (apply item_take; rfl; rfl; rfl; rfl; exact fun _ _ _ _ h => h; (intro _ _ _ k; go_simp; exact k)) | (refine yd (by rfl) (fun _ _ _ _ h => h) ?_; try go_simp))
     refine jE (by rfl) ?_
     repeat (first | (apply item_take; rfl; rfl; rfl; rfl; exact fun _ _ _ _ h => h; (intro _ _ _ k; go_simp; exact k)) | (refine yd (by rfl) (fun _ _ _ _ h => h) ?_; try go_simp))
     apply zl
     go_wp2
     go_ret
     exact Ans.no X.o.2.1
    | false =>
     have pm := qh (gz.o rfl)
     clear gz
     repeat (first | (apply item_take; rfl; rfl; rfl; rfl; exact fun _ _ _ _ h => h; (intro W e _ k; obtain ⟨q0, q1⟩ := HC.o W e; go_simp; exact k)) | (refine yd (by rfl) (fun _ _ _ _ h => h) ?_; try go_simp))
     apply ze; rfl; intro K hK; go_simp
     refine (j3 x.name wd).mono ?_
     rintro e wt ⟨rfl, kq⟩
     refine hK _ _ kq ?_
     clear hK K
     have X := qh (anQ (X.o.1.ext kq) (anQ (Ext.trans X.o.2.1 kq) (X.o.2.2.ext kq)))
     clear kq HC
     obtain ⟨bq, dX⟩ := exQ (z9 x.name)
     rw [dX]
     have dX := qh dX
     cases bq with
     | false =>
      repeat (first | (apply item_take; rfl; rfl; rfl; rfl; exact fun _ _ _ _ h => h; (intro _ _ _ k; go_simp; exact k)) | (refine yd (by rfl) (fun _ _ _ _ h => h) ?_; try go_simp))
      refine jE (by rfl) ?_
      repeat (first | (apply item_take; rfl; rfl; rfl; rfl; exact fun _ _ _ _ h => h; (intro _ _ _ k; go_simp; exact k)) | (refine yd (by rfl) (fun _ _ _ _ h => h) ?_; try go_simp))
      apply zl
      go_wp2
      go_ret
      exact Ans.no X.o.2.1
     | true =>
     rcases Nat.eq_zero_or_pos i with sO | sO
     ·have d0 : decide ((0 : Int) < (i : Int)) = false := decide_eq_false (by omega)
      repeat (first | (apply item_take; rfl; rfl; rfl; rfl; exact fun _ _ _ _ h => h; (intro _ _ _ k; go_simp; exact k)) | (refine yd (by rfl) (fun _ _ _ _ h => h) ?_; try go_simp))
      refine jE (by rfl) ?_
      repeat (first | (apply item_take; rfl; rfl; rfl; rfl; exact fun _ _ _ _ h => h; (intro _ _ _ k; go_simp; exact k)) | (refine yd (by rfl) (fun _ _ _ _ h => h) ?_; try go_simp))
      apply zl
      have HN := qh (anQ X.o.2.1 (anQ X.o.2.2 (JK.step hX.o.2.2 ow.o (fun _ => pm.o) (Ca ow.o sO dX.o))))
      clear d0
      go_wp2
      go_roundw
      case rel => exact ⟨i + 1, by omega, by go_num, HN.o.1, HN.o.2.1, HN.o.2.2⟩
      case measure => simp [intOf]; omega
     ·obtain ⟨jj, nQ⟩ : ∃ jj, i = jj + 1 := ⟨i - 1, by omega⟩
      have ep : jj < m.funcs.length := by omega
      have qQ : wrap64 ((i : Int) - 1) = (jj : Int) := by unfold wrap64; omega
      have kH : IntKind.i64.wrap ((i : Int) - 1) = (jj : Int) := by rw [IntKind.wrap_i64]; omega
      have d0 : decide ((0 : Int) < (i : Int)) = true := decide_eq_true (by omega)
      replace nQ := qh nQ
      obtain ⟨b2, o2, e2, p0, p1, p2, -⟩ := Lay.nam_at2 H.o.1.funcs jj ep
      simp only [Option.some.injEq, Addr.mk.injEq] at e2
      obtain ⟨rfl, rfl, -⟩ := e2
      have hy := qh (show m.funcs[jj]? = some m.funcs[jj] from List.getElem?_eq_getElem ep)
      generalize m.funcs[jj] = y at *
      have hp := qh (anQ p0 (anQ p1 p2))
      clear p0 p1 p2
      have HC := qh (fun W (h : Ext wt W) => anQ (X.o.1.ext h).cell (anQ (X.o.2.2.ext h).cell (anQ ((Ext.trans X.o.2.1 h).cell hp.o.1 (fun q => q)) (anQ ((Ext.trans X.o.2.1 h).cell hp.o.2.1 (fun q => q)) ((Ext.trans X.o.2.1 h).cell hp.o.2.2 (fun q => q))))))
      repeat (first | (apply item_take; rfl; rfl; rfl; rfl; exact fun _ _ _ _ h => h; (intro W e _ k; obtain ⟨q0, q1, q2, q3, q4⟩ := HC.o W e; go_simp; exact k)) | (refine yd (by rfl) (fun _ _ _ _ h => h) ?_; try go_simp))
      apply ze; rfl; intro K hK; go_simp
      refine (zaO x y wt).mono ?_
      rintro e wn ⟨bb, rfl, pb, kb⟩
      refine hK _ _ kb ?_
      clear hK K
      have X := qh (anQ (X.o.1.ext kb) (anQ (Ext.trans X.o.2.1 kb) (X.o.2.2.ext kb)))
      have pb := qh pb
      clear kb HC
      cases bb with
      | false =>
       repeat (first | (apply item_take; rfl; rfl; rfl; rfl; exact fun _ _ _ _ h => h; (intro _ _ _ k; go_simp; exact k)) | (refine yd (by rfl) (fun _ _ _ _ h => h) ?_; try go_simp))
       apply zl
       go_wp2
       go_ret
       exact Ans.no X.o.2.1
      | true =>
       repeat (first | (apply item_take; rfl; rfl; rfl; rfl; exact fun _ _ _ _ h => h; (intro _ _ _ k; go_simp; exact k)) | (refine yd (by rfl) (fun _ _ _ _ h => h) ?_; try go_simp))
       apply zl
       have HN := qh (anQ X.o.2.1 (anQ X.o.2.2 (JK.step hX.o.2.2 ow.o (fun _ => pm.o) (BN ow.o nQ.o hy.o dX.o (pb.o rfl)))))
       clear d0 qQ kH
       go_wp2
       go_roundw
       case rel => exact ⟨i + 1, by omega, by go_num, HN.o.1, HN.o.2.1, HN.o.2.2⟩
       case measure => simp [intOf]; omega
   obtain rfl : i = m.funcs.length := by omega
   have ai := hX.o
   have R9 := qh ai.2.2
   have HB := qh (anQ ai.2.1 ai.1)
   clear hX ai hi ah
   generalize wr = Fe at *
   as_aux_lemma =>
   have ag := HB.o.1.cell
   go_wp2_with fail
   clear ag
   go_loopw [268] (fun pW w' => ∃ i : Nat, i ≤ m.locals.length ∧ pW = .int .i64 i ∧ Hd (Ext w w' ∧ Blk w' gm (smc m aA cA aB cB aC cC aD cD aE cE aF cF aG cG aH cH aI cI aJ cJ aK cK aL cL aM cM) 37 ∧ JK false m.locals i)) (fun pW _ => m.locals.length - (intOf pW).toNat)
   case atStart => exact ⟨0, nzQ _, rfl, HB.o.2, HB.o.1, JK.zero _ _⟩
   obtain ⟨i, hi, rfl, hX⟩ := hrel
   by_cases ah : i < m.locals.length
   ·as_aux_lemma =>
    obtain ⟨b, o, rfl, e0, e1, e2, r0, -⟩ := Lay.nam_at2 H.o.1.locals i ah
    have ow := qh (show m.locals[i]? = some m.locals[i] from List.getElem?_eq_getElem ah)
    generalize m.locals[i] = x at *
    replace e0 := hX.o.1.cell e0 (fun q => q)
    replace e1 := hX.o.1.cell e1 (fun q => q)
    replace e2 := hX.o.1.cell e2 (fun q => q)
    have r0 := qh r0
    have hE := qh (zk wr #[.int .u32 (x.fn.toNat : Int), .int .u32 (x.idx.toNat : Int), .string (zc x.name)] 120)
    have bl := qh (za wr (.cells #[.int .u32 (x.fn.toNat : Int), .int .u32 (x.idx.toNat : Int), .string (zc x.name)] 120))
    go_upto_region 70 with fail
    obtain ⟨ge, aZ⟩ := exQ (wr.heap.size)
    have cl := qh (show (wr.alloc (.cells #[.int .u32 (x.fn.toNat : Int), .int .u32 (x.idx.toNat : Int), .string (zc x.name)] 120)).heap.size = ge + 1 from by rw [← aZ]; simp)
    rw [aZ] at hE ⊢
    clear aZ e0 e1 e2
    generalize (wr.alloc (.cells #[.int .u32 (x.fn.toNat : Int), .int .u32 (x.idx.toNat : Int), .string (zc x.name)] 120)) = wb at *
    have bt := hE.o.cell
    have X := qh (anQ hE.o (anQ (Ext.trans hX.o.1 bl.o) (hX.o.2.1.ext bl.o)))
    have ms := qh hE.o.lt
    clear hE bl
    refine zi JS [kT 0, kT 1, kR 2, kT 3, kT 4, kT 5, kT 6, kT 7, kT 8, kT 9, kT 10, kT 11, kT 12, kT 13, kT 14, kR 15, kT 16, kT 17, kT 18] (by kernel_rfl) (by kernel_rfl) ?_
    simp only [zy, gzQ, gsQ]
    clear bt
    have gd := qh (zb wb)
    have X := qh (anQ (X.o.1.ext gd.o) (anQ (Ext.trans X.o.2.1 gd.o) (X.o.2.2.ext gd.o)))
    clear gd
    generalize wb.drew = wd at *
    have HC := qh (fun W (h : Ext wd W) => anQ (X.o.1.ext h).cell (X.o.2.2.ext h).cell)
    repeat (first | (apply item_take; rfl; rfl; rfl; rfl; exact fun _ _ _ _ h => h; (intro W e _ k; obtain ⟨q0, q1⟩ := HC.o W e; go_simp; exact k)) | (refine yd (by rfl) (fun _ _ _ _ h => h) ?_; try go_simp))
    apply ze; rfl; intro K hK; go_simp
    refine (j3 x.name wd).mono ?_
    rintro e wt ⟨rfl, kq⟩
    refine hK _ _ kq ?_
    clear hK K
    have X := qh (anQ (X.o.1.ext kq) (anQ (Ext.trans X.o.2.1 kq) (X.o.2.2.ext kq)))
    clear kq HC
    obtain ⟨bq, dX⟩ := exQ (z9 x.name)
    rw [dX]
    have dX := qh dX
    cases bq with
    | false =>
     repeat (first | (apply item_take; rfl; rfl; rfl; rfl; exact fun _ _ _ _ h => h; (intro _ _ _ k; go_simp; exact k)) | (refine yd (by rfl) (fun _ _ _ _ h => h) ?_; try go_simp))
     refine jE (by rfl) ?_
     repeat (first | (apply item_take; rfl; rfl; rfl; rfl; exact fun _ _ _ _ h => h; (intro _ _ _ k; go_simp; exact k)) | (refine yd (by rfl) (fun _ _ _ _ h => h) ?_; try go_simp))
     apply zl
     go_wp2
     go_ret
     exact Ans.no X.o.2.1
    | true =>
    rcases Nat.eq_zero_or_pos i with sO | sO
    ·have d0 : decide ((0 : Int) < (i : Int)) = false := decide_eq_false (by omega)
     repeat (first | (apply item_take; rfl; rfl; rfl; rfl; exact fun _ _ _ _ h => h; (intro _ _ _ k; go_simp; exact k)) | (refine yd (by rfl) (fun _ _ _ _ h => h) ?_; try go_simp))
     refine jE (by rfl) ?_
     repeat (first | (apply item_take; rfl; rfl; rfl; rfl; exact fun _ _ _ _ h => h; (intro _ _ _ k; go_simp; exact k)) | (refine yd (by rfl) (fun _ _ _ _ h => h) ?_; try go_simp))
     apply zl
     have HN := qh (anQ X.o.2.1 (anQ X.o.2.2 (JK.step hX.o.2.2 ow.o (fun h => (by cases h)) (Ca ow.o sO dX.o))))
     clear d0
     go_wp2
     go_roundw
     case rel => exact ⟨i + 1, by omega, by go_num, HN.o.1, HN.o.2.1, HN.o.2.2⟩
     case measure => simp [intOf]; omega
    ·obtain ⟨jj, nQ⟩ : ∃ jj, i = jj + 1 := ⟨i - 1, by omega⟩
     have ep : jj < m.locals.length := by omega
     have qQ : wrap64 ((i : Int) - 1) = (jj : Int) := by unfold wrap64; omega
     have kH : IntKind.i64.wrap ((i : Int) - 1) = (jj : Int) := by rw [IntKind.wrap_i64]; omega
     have d0 : decide ((0 : Int) < (i : Int)) = true := decide_eq_true (by omega)
     replace nQ := qh nQ
     obtain ⟨b2, o2, e2, p0, p1, p2, -⟩ := Lay.nam_at2 H.o.1.locals jj ep
     simp only [Option.some.injEq, Addr.mk.injEq] at e2
     obtain ⟨rfl, rfl, -⟩ := e2
     have hy := qh (show m.locals[jj]? = some m.locals[jj] from List.getElem?_eq_getElem ep)
     generalize m.locals[jj] = y at *
     have hp := qh (anQ p0 (anQ p1 p2))
     clear p0 p1 p2
     have HC := qh (fun W (h : Ext wt W) => anQ (X.o.1.ext h).cell (anQ (X.o.2.2.ext h).cell (anQ ((Ext.trans X.o.2.1 h).cell hp.o.1 (fun q => q)) (anQ ((Ext.trans X.o.2.1 h).cell hp.o.2.1 (fun q => q)) ((Ext.trans X.o.2.1 h).cell hp.o.2.2 (fun q => q))))))
     repeat (first | (apply item_take; rfl; rfl; rfl; rfl; exact fun _ _ _ _ h => h; (intro W e _ k; obtain ⟨q0, q1, q2, q3, q4⟩ := HC.o W e; go_simp; exact k)) | (refine yd (by rfl) (fun _ _ _ _ h => h) ?_; try go_simp))
     apply ze; rfl; intro K hK; go_simp
     refine (zaO x y wt).mono ?_
     rintro e wn ⟨bb, rfl, pb, kb⟩
     refine hK _ _ kb ?_
     clear hK K
     have X := qh (anQ (X.o.1.ext kb) (anQ (Ext.trans X.o.2.1 kb) (X.o.2.2.ext kb)))
     have pb := qh pb
     clear kb HC
     cases bb with
     | false =>
      repeat (first | (apply item_take; rfl; rfl; rfl; rfl; exact fun _ _ _ _ h => h; (intro _ _ _ k; go_simp; exact k)) | (refine yd (by rfl) (fun _ _ _ _ h => h) ?_; try go_simp))
      apply zl
      go_wp2
      go_ret
      exact Ans.no X.o.2.1
     | true =>
      repeat (first | (apply item_take; rfl; rfl; rfl; rfl; exact fun _ _ _ _ h => h; (intro _ _ _ k; go_simp; exact k)) | (refine yd (by rfl) (fun _ _ _ _ h => h) ?_; try go_simp))
      apply zl
      have HN := qh (anQ X.o.2.1 (anQ X.o.2.2 (JK.step hX.o.2.2 ow.o (fun h => (by cases h)) (BN ow.o nQ.o hy.o dX.o (pb.o rfl)))))
      clear d0 qQ kH
      go_wp2
      go_roundw
      case rel => exact ⟨i + 1, by omega, by go_num, HN.o.1, HN.o.2.1, HN.o.2.2⟩
      case measure => simp [intOf]; omega
   obtain rfl : i = m.locals.length := by omega
   have ai := hX.o
   have Cr := qh ai.2.2
   have HB := qh (anQ ai.2.1 ai.1)
   clear hX ai hi ah
   generalize wr = DS at *
   as_aux_lemma =>
   go_wp2
   go_ret
   exact Ans.yes (Aj.o ▸ zis R0.o R1.o R2.o R3.o R4.o R5.o R6.o R7.o R8.o R9.o Cr.o) HB.o.2
end Go.Proofs.YtejgninpjhcgnaaGreatDoor
