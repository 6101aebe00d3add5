/- Texts of this proof, one behind the other. -/
import Derived.Test.YtejgninpjhcgnaaGreatDoorPart7
import Derived.Lib.ConvBytes
namespace Go.Proofs.YtejgninpjhcgnaaGreatDoor
open Go.RowKit
set_option linter.unusedSimpArgs false
set_option linter.unusedVariables false
set_option maxRecDepth 100000
set_option maxHeartbeats 4000000
structure WK (S : Sink) (lo g : Nat) (w W : World) (pre : List UInt8) (bx : List (Nat × Array Value × TypeId)) : Prop where
 wr : Wrote S.toHold lo g w pre W
 lo : lo ≤ W.heap.size
 box : ∀ b ∈ bx, Blk W b.1 b.2.1 b.2.2 ∧ ¬ S.foot W g b.1
section
variable {S : Sink} {lo g : Nat} {w W W' : World} {pre pre' : List UInt8} {bx : List (Nat × Array Value × TypeId)}
theorem WK.start (h : S.is lo g pre w) (hl : lo ≤ w.heap.size) : WK S lo g w w pre [] := ⟨Wrote.refl h, hl, fun _ h => by cases h⟩
theorem WK.is (h : WK S lo g w W pre bx) : S.is lo g pre W := h.wr.is
theorem WK.step (h : WK S lo g w W pre bx) (k : Wrote S.toHold lo g W pre' W') : WK S lo g w W' pre' bx :=
 ⟨h.wr.trans k, nlQ h.lo k.fr.size, fun b hb => by
  obtain ⟨h1, h2⟩ := h.box b hb
  exact ⟨h1.fr k.fr h2, fun q => (k.foot _ q).elim h2 (fun q => by have := h1.lt; omega)⟩⟩
theorem WK.ext (h : WK S lo g w W pre bx) (hx : Ext W W') : WK S lo g w W' pre bx := h.step ((Wrote.refl h.wr.is).ext hx)
theorem WK.push (h : WK S lo g w W pre bx) (cs : Array Value) (T : TypeId) : WK S lo g w (W.alloc (.cells cs T)) pre ((W.heap.size, cs, T) :: bx) := by
 have h' := h.ext (za W (.cells cs T))
 refine ⟨h'.wr, h'.lo, fun b hb => ?_⟩
 rcases List.mem_cons.1 hb with rfl | hb
 ·refine ⟨zk W cs T, fun q => ?_⟩
  have := S.lt h.wr.is _ (((S.frame h.wr.is (za W (.cells cs T)) (fun _ _ h => h)).2 _).1 q)
  exact Nat.lt_irrefl _ this.2
 ·exact h'.box b hb
theorem WK.pop {b : Nat × Array Value × TypeId} (h : WK S lo g w W pre (b :: bx)) : WK S lo g w W pre bx := ⟨h.wr, h.lo, fun c hc => h.box c (List.mem_cons_of_mem _ hc)⟩
theorem WK.box0 {b : Nat} {cs : Array Value} {T : TypeId} (h : WK S lo g w W pre ((b, cs, T) :: bx)) : ∀ j, W.cell? ⟨b, j, none⟩ = cs[j]? := (h.box _ (.head _)).1.cell
theorem WK.box1 {b : Nat} {cs : Array Value} {T : TypeId} {b0 : Nat × Array Value × TypeId} (h : WK S lo g w W pre (b0 :: (b, cs, T) :: bx)) : ∀ j, W.cell? ⟨b, j, none⟩ = cs[j]? := (h.box _ (.tail _ (.head _))).1.cell
theorem WK.rd {α : Type} {l : Lay α} {cs : List Value} {x : α} {A : Nat → Prop} (h : WK S lo g w W pre bx) (hR : l.rd A w cs x) (hA : Away S.toHold g w A) : l.rd A W cs x := Lay.fr hR h.wr.fr (fun k hk => hA k hk)
theorem WK.away {A : Nat → Prop} (h : WK S lo g w W pre bx) (hA : Away S.toHold g w A) : Away S.toHold g W A := hA.step h.wr
theorem WK.eq (h : WK S lo g w W pre bx) (e : pre = pre') : WK S lo g w W pre' bx := e ▸ h
theorem Wrote.eq {S : Hold} (h : Wrote S lo g w pre W) (e : pre = pre') : Wrote S lo g w pre' W := e ▸ h
theorem WK.awayNew {A : Nat → Prop} {W0 : World} (h0 : S.is lo g pre' W0) (hx : Ext W0 W) (hA : ∀ k, A k → W0.heap.size ≤ k ∧ k < W.heap.size) : Away S.toHold g W A := fun k hk =>
 ⟨(hA k hk).2, fun q => by
  have := S.lt h0 k (((S.frame h0 hx (fun _ _ h => h)).2 k).1 q)
  have := (hA k hk).1
  omega⟩
end
theorem zfz (w : World) (e : TypeId) (s : ByteArray) : Ext w (Lib.bytesWorld w e s) :=
 ⟨rfl, rfl, rfl, by rw [Lib.bytesWorld_size]; omega, fun k hk _ => Lib.bytesWorld_at_old w e s k hk⟩
theorem zgE (w : World) (s : List UInt8) (hc : grownCap w (zc s).size 0 5 ≤ maxLen) : Lay.u8.slice.rd (fun k => w.heap.size ≤ k ∧ k < (Lib.bytesWorld w 5 (zc s)).heap.size) (Lib.bytesWorld w 5 (zc s)) [.slice (some ⟨w.heap.size, 0, none⟩) s.length (grownCap w (zc s).size 0 5)] s := by
 refine ⟨_, _, rfl, grownCap_ge w _ 0 _, hc, fun _ => ⟨w.heap.size, 0, _, _, _, _, rfl, ⟨Nat.le_refl _, by rw [Lib.bytesWorld_size]; omega⟩, Lib.bytesWorld_at_new w _ _, zar s, fun j hj => ?_⟩⟩
 rw [List.length_map] at hj
 unfold Lib.bytesCells
 rw [Nat.zero_add, Array.getElem?_append_left (by rw [Array.size_map]; exact hj)]
 show ((s.toArray.map fun b => Value.int .u8 (b.toNat : Int)))[j]? = _
 simp
theorem yJ (s : List UInt8) (W : World) : (convert 9 22 (.string (zc s))).run Tryz.prog W = .ok (.slice (some ⟨W.heap.size, 0, none⟩) s.length (grownCap W (zc s).size 0 5)) (Lib.bytesWorld W 5 (zc s)) :=
 Lib.run_convert_string_bytes W _ _ _ (zc s) Tryz.underlying9 Tryz.underlying22 Tryz.underlying5
variable {n : Nat}
theorem jd (h : n < 4294967296) : (n : Int) % 4294967296 = n ∧ IntKind.u32.wrap (n : Int) = n := ⟨by omega, by rw [IntKind.wrap_u32]; omega⟩
theorem je (S : Sink) (lo g : Nat) (l : List UInt8) (aa : Option Addr) (m c : Nat) (A : Nat → Prop) (bs : List UInt8) (w : World) (hS : S.is lo g bs w) (hR : Lay.u8.slice.rd A w [.slice aa m c] l) (hA : Away S.toHold g w A) (ap : lo ≤ w.heap.size) (hn : l.length < 4294967296) (hl : bs.length + (zq l).length + 10 ≤ 70368744177664) :
 Calls Tryz.prog 116 #[.iface S.T (.pointer (some ⟨g, 0, none⟩)), .slice aa m c] w fun e w' => e = .returned .nilIface ∧ Wrote S.toHold lo g w (bs ++ zq l) w' := by
 obtain ⟨a', c', e, ce, bh⟩ := Lay.slice_form hR
 obtain ⟨rfl, rfl, rfl⟩ : aa = a' ∧ m = l.length ∧ c = c' := by simpa using e
 have oc := S.nil g
 have nK := S.meth g
 have oe := S.call
 obtain ⟨dN, dQ⟩ := jd hn
 have K0 := qh (WK.start hS ap)
 have aj := qh (show bs.length + ((uleb l.length).length + l.length) + 10 ≤ 70368744177664 from by simpa [zq] using hl)
 have H := qh (anQ hR (anQ hA hn))
 clear hS hR hA ap hn hl ce bh e
 go_enter Tryz.func116, Tryz.ntmps116
 go_wp2_with fail
 refine (zf S lo g l.length H.o.2.2 bs w K0.o.is K0.o.lo (by have := aj.o; omega)).mono ?_
 rintro e w1 ⟨rfl, k⟩
 have K1 := qh (K0.o.step k)
 clear k
 go_wp2_with fail
 refine (S.write lo g _ l w1 A aa _ c K1.o.is (K1.o.rd H.o.1 H.o.2.1) K1.o.lo (by have := aj.o; simp only [laQ]; omega)).mono ?_
 rintro e w2 ⟨rfl, k1, k2, k3⟩
 have K2 := qh (K1.o.step ⟨k1, k2, k3⟩)
 clear k1 k2 k3
 go_wp2
 go_ret
 exact ⟨rfl, K2.o.wr.eq (List.append_assoc ..)⟩
theorem zS (S : Sink) (lo g : Nat) (s : List UInt8) (bs : List UInt8) (w : World) (n : Nat) (cl : w.heap.size = n) (hS : S.is lo g bs w) (ap : lo ≤ w.heap.size) (hn : s.length < 4294967296) (hl : bs.length + (zq s).length + 10 ≤ 70368744177664) :
 Calls Tryz.prog 116 #[.iface S.T (.pointer (some ⟨g, 0, none⟩)), .slice (some ⟨n, 0, none⟩) s.length (grownCap w (zc s).size 0 5)] (Lib.bytesWorld w 5 (zc s)) fun e w' => e = .returned .nilIface ∧ Wrote S.toHold lo g w (bs ++ zq s) w' := by
 subst cl
 have hx := zfz w 5 (zc s)
 have K := (WK.start hS ap).ext hx
 have cl : (zc s).size ≤ 140737488355328 := by rw [zB]; omega
 refine (je S lo g s _ _ _ _ bs _ K.is (zgE w s (grownCap_le_maxLen w _ 0 _ (by unfold maxLen; omega))) (WK.awayNew hS hx (fun k hk => hk)) K.lo hn hl).mono ?_
 rintro e w' ⟨rfl, k⟩
 exact ⟨rfl, (K.step k).wr⟩
theorem zbP (g : Nat) (aa : Option Addr) (n cap : Nat) (lr : Int) (w : World) (h : Blk w g (bufC (.slice aa n cap) lr) 314) (hz : aa = none ∧ n = 0 ∧ cap = 0 ∨ ∃ b, aa = some ⟨b, 0, none⟩) (hn : n ≤ cap) (hc : cap ≤ maxLen) :
 Calls Tryz.prog 149 #[.pointer (some ⟨g, 0, none⟩)] w fun e w' => e = .returned (.slice aa n cap) ∧ Ext w w' := by
 have dh := h.cell
 unfold maxLen at hc
 have Ah : wrap64 (n : Int) = n := by unfold wrap64; omega
 rcases hz with ⟨rfl, rfl, rfl⟩ | ⟨b, rfl⟩
 all_goals
  go_enter Tryz.func149, Tryz.ntmps149
  go_wp2
  go_quiet (fail)
  go_wp2
  go_ret
  exact ⟨by simp, (Fr.refl _ w).drewN _⟩
theorem Z0 (S : Sink) (lo g lb gb : Nat) (body bs : List UInt8) (w : World) (hS : S.is lo g bs w) (hB : IsBf lb gb body w) (hF : ∀ k, jA w gb k → ¬ S.foot w g k) (ap : lo ≤ w.heap.size) (hn : body.length < 4294967296) (hl : bs.length + (zq body).length + 10 ≤ 70368744177664) :
 Calls Tryz.prog 111 #[.iface S.T (.pointer (some ⟨g, 0, none⟩)), .pointer (some ⟨gb, 0, none⟩)] w fun e w' => e = .returned .nilIface ∧ Wrote S.toHold lo g w (bs ++ zq body) w' := by
 have oc := S.nil g
 have nK := S.meth g
 have oe := S.call
 obtain ⟨dN, dQ⟩ := jd hn
 obtain ⟨b9, v, lr, hb, ho, aO⟩ := hB
 obtain ⟨aa, c, rfl, ce, bh⟩ := ho.form
 have K0 := qh (WK.start hS ap)
 have aj := qh (show bs.length + ((uleb body.length).length + body.length) + 10 ≤ 70368744177664 from by simpa [zq] using hl)
 have kX : Lay.u8.slice.rd (fun k => jA w gb k ∧ k < w.heap.size) w [.slice aa body.length c] body := by
  obtain ⟨a', c', e', h1, h2, h3⟩ := ho.slice
  rcases za0 ho with ⟨q, rfl⟩ | ⟨h, cap, bO, q, _, hh, q1, q2, q3, q4⟩
  ·exact ⟨a', c', e', h1, h2, fun q => absurd q (by simp)⟩
  ·cases q
   exact ⟨_, _, rfl, q1, q2, fun _ => ⟨h, 0, bO, _, _, _, rfl, ⟨.inr ⟨_, hb.cell 0, rfl⟩, Blk.lt hh⟩, hh, zar body, fun j hj => by
    rw [← q4] at hj ⊢
    rw [ltQ] at hj
    rw [Nat.zero_add, List.getElem?_take, if_pos (by omega)]
    simp⟩⟩
 have hA : Away S.toHold g w (fun k => jA w gb k ∧ k < w.heap.size) := fun k hk => ⟨hk.2, hF k hk.1⟩
 have AM := hF gb (.inl rfl)
 have hz : aa = none ∧ body.length = 0 ∧ c = 0 ∨ ∃ b, aa = some ⟨b, 0, none⟩ := by
  rcases za0 ho with ⟨q, rfl⟩ | ⟨h, cap, bO, q, _⟩
  ·cases q; exact .inl ⟨rfl, rfl, rfl⟩
  ·cases q; exact .inr ⟨h, rfl⟩
 have H := qh (anQ hb (anQ kX (anQ hA (anQ hn (anQ AM (anQ hz (anQ ce bh)))))))
 clear hS hF ap hn hl hb ho aO kX hA ce bh AM hz
 go_enter Tryz.func111, Tryz.ntmps111
 go_wp2_with fail
 refine (JT gb aa body.length c lr w H.o.1 (by have := aj.o; omega)).mono ?_
 rintro e w0 ⟨rfl, hx⟩
 have K1 := qh (K0.o.ext hx)
 have hx := qh hx
 go_wp2_with fail
 refine (zf S lo g body.length H.o.2.2.2.1 bs w0 K1.o.is K1.o.lo (by have := aj.o; omega)).mono ?_
 rintro e w1 ⟨rfl, k⟩
 have K2 := qh (K1.o.step k)
 clear k
 have dw := qh (H.o.1.fr K2.o.wr.fr H.o.2.2.2.2.1)
 go_wp2_with fail
 refine zi (y4 (S.foot w1 g)) [kT 0, kT 1, kT 3, kT 4, kT 5, kR 2, kR 6, kT 7, kT 8, kT 9, kT 10, kT 11] (by kernel_rfl) (by kernel_rfl) ?_
 simp only [zy, gzQ, gsQ]
 repeat (apply item_take; rfl; rfl; rfl; rfl; exact fun _ _ _ _ h => h; (intro _ _ _ k; go_simp; exact k))
 apply ze; rfl; intro K hK; go_simp
 refine (zbP gb aa body.length c lr w1.drew (dw.o.ext (zb w1)) H.o.2.2.2.2.2.1 H.o.2.2.2.2.2.2.1 H.o.2.2.2.2.2.2.2).mono ?_
 rintro e w2 ⟨rfl, bY⟩
 refine hK _ _ bY.to ?_
 clear hK K
 have bY := qh (Ext.trans (zb w1) bY)
 have K3 := qh (K2.o.ext bY.o)
 repeat (apply item_take; rfl; rfl; rfl; rfl; exact fun _ _ _ _ h => h; (intro _ _ _ k; go_simp; exact k))
 apply ze; rfl; intro K hK; go_simp
 refine (S.write lo g _ body w2 _ aa _ c K3.o.is (K3.o.rd H.o.2.1 H.o.2.2.1) K3.o.lo (by have := aj.o; simp only [laQ]; omega)).mono ?_
 rintro e w3 ⟨rfl, k1, k2, k3⟩
 refine hK _ _ (k2.mono fun k _ hk => ((S.frame K2.o.is bY.o (fun _ _ h => h)).2 k).1 hk) ?_
 clear hK K
 have K4 := qh (K3.o.step ⟨k1, k2, k3⟩)
 clear k1 k2 k3
 repeat (apply item_take; rfl; rfl; rfl; rfl; exact fun _ _ _ _ h => h; (intro _ _ _ k; go_simp; exact k))
 apply zl
 go_wp2
 go_ret
 exact ⟨rfl, K4.o.wr.eq (List.append_assoc ..)⟩
mutual
def fit1 : Ins → Prop
 | .mk _ args _ _ body => args.length ≤ 1048576 ∧ body.length ≤ 1048576 ∧ fitA body
def fitA : List Ins → Prop
 | [] => True
 | x :: xs => fit1 x ∧ fitA xs
end
theorem zeu : ∀ {l : List Ins}, fitA l → ∀ (i : Nat) (h : i < l.length), fit1 l[i]
 | _ :: _, h, 0, _ => h.1
 | _ :: _, h, i + 1, hi => zeu h.2 i (by simpa using hi)
theorem zh6 : (Tryz.prog.info? 243).map (fun i => (i.zero, i.size, i.bytes)) = some (some (.agg #[.int .i64 0, .int .u64 0]), Lay.arg.size, 16) := by kernel_rfl
theorem zfA (n : Nat) : (Tryz.prog.info? 242).map (fun i => (i.zero, i.size, i.bytes)) = some (some (.agg #[.int .i64 0, .slice none 0 0, .bool false, .int .i64 0, .slice none 0 0]), (Lay.ins n).size, 72) := by rw [Lay.ins_size]; kernel_rfl
theorem zj1 {A : Nat → Prop} {w : World} {op ty : Int} {args : List (Int × UInt64)} {st : Bool} {body : List Ins} {v1 v2 : Value} (h1 : -9223372036854775808 ≤ op ∧ op ≤ 9223372036854775807) (h2 : -9223372036854775808 ≤ ty ∧ ty ≤ 9223372036854775807)
 (ha : Lay.arg.slice.rd A w [v1] args) (hb : (Lay.ins n).slice.rd A w [v2] body) : (Lay.ins (n + 1)).rd A w [.int .i64 op, v1, .bool st, .int .i64 ty, v2] (.mk op args st ty body) :=
 ⟨[_], _, rfl, ⟨rfl, h1⟩, [_], _, rfl, ha, [_], _, rfl, rfl, [_], _, rfl, ⟨rfl, h2⟩, hb⟩
theorem zgF : Lay.arg.flat := Lay.flat_arg
theorem j5 (n : Nat) : ∀ (l : List Ins) (aa : Option Addr) (m c : Nat) (A : Nat → Prop) (w : World), (Lay.ins n).slice.rd A w [.slice aa m c] l → (∀ k, A k → k < w.heap.size) → l.length ≤ 1048576 → fitA l →
 Calls Tryz.prog 47 #[.slice aa m c] w fun e w' => ∃ v, e = .returned v ∧ Own (Lay.ins n) 242 w.heap.size w' v l ∧ Ext w w' := by
 induction n using Nat.strongRecOn with
 | ind n ih =>
  intro l aa m c A w hR hA lw de
  obtain ⟨a', c', e, ce, bh⟩ := Lay.slice_form hR
  obtain ⟨rfl, rfl, rfl⟩ : aa = a' ∧ m = l.length ∧ c = c' := by simpa using e
  have ao : (l.length : Int) ≤ 9223372036854775807 := by simp only [maxLen] at bh; omega
  have H := qh (anQ hR (anQ hA (anQ lw (anQ de ih))))
  clear hR hA ih lw de ce bh e
  go_enter Tryz.func47, Tryz.ntmps47
  go_wp2_with fail
  go_loopw [3, 11] (fun s3 nN w' => ∃ (i : Nat), i ≤ l.length ∧ nN = .int .i64 i ∧ Hd (Own (Lay.ins n) 242 w.heap.size w' s3 (l.take i)) ∧ Hd (Ext w w')) (fun _ nN _ => l.length - (intOf nN).toNat)
  case atStart => exact ⟨0, nzQ _, rfl, jz _ _ _ _, Fr.refl _ _⟩
  case round =>
   obtain ⟨i, hi, rfl, hO, hX⟩ := hrel
   by_cases ah : i < l.length
   ·obtain ⟨hR, hA, lw, de, ih⟩ := H.o
    have eM := Lay.fr hR hX.o (fun k hk => ⟨hA k hk, fun h => h⟩)
    obtain ⟨k, b, o, a1, n1, c1, a2, n2, c2, rfl, rfl, eH, e0, e1, e2, e3, e4, em, el, aY, bi⟩ := Lay.ins_at eM i ah
    have aX := qh (show l.take (i + 1) = l.take i ++ [l[i]] from tsQ ah)
    have hf := zeu de i ah
    generalize l[i] = x at *
    obtain ⟨op, args, st, ty, body⟩ := x
    simp only [Ins.op, Ins.args, Ins.st, Ins.ty, Ins.body] at e0 e1 e2 e3 e4 em el aY bi
    obtain ⟨nF, og, iQ, gI, eI⟩ := Lay.slice_form aY
    obtain ⟨rfl, rfl, rfl⟩ : a1 = nF ∧ n1 = args.length ∧ c1 = og := by simpa using iQ
    obtain ⟨qF, pX, mM, km, ev⟩ := Lay.slice_form bi
    obtain ⟨rfl, rfl, rfl⟩ : a2 = qF ∧ n2 = body.length ∧ c2 = pX := by simpa using mM
    have qS : (args.length : Int) ≤ 9223372036854775807 := by simp only [maxLen] at eI; omega
    have HB := qh (anQ em (anQ el (anQ aY (anQ bi hf))))
    clear hR hA lw de ih eM aY bi eH iQ mM gI eI km ev em el hf
    go_wp2_with fail
    refine zbh JS (.fork [kT 0, kT 1, kT 2, kT 3, kT 4, kT 5, kT 6, kT 7] 8 10 (.seq [kT 9, kR 10, kL 11]) (.seq [kR 8, kT 9, kL 11])) (by kernel_rfl) (by kernel_rfl) ?_
    simp only [zb0, zy, gzQ, gsQ]
    have cY := zk wr #[.int .i64 op, .slice a1 args.length c1, .bool st, .int .i64 ty, .slice a2 body.length c2] 76
    have cN := za wr (.cells #[.int .i64 op, .slice a1 args.length c1, .bool st, .int .i64 ty, .slice a2 body.length c2] 76)
    generalize (wr.alloc (.cells #[.int .i64 op, .slice a1 args.length c1, .bool st, .int .i64 ty, .slice a2 body.length c2] 76)) = W1 at *
    have bQ := zb W1
    have bN := cY.ext bQ
    have bY := Ext.trans cN bQ
    generalize W1.drew = W2 at *
    have HC := qh (fun W' (h : Ext W2 W') => (bN.ext h).cell)
    have H2 := qh (anQ bN bY)
    clear cY cN bQ bN bY
    repeat (apply item_take; rfl; rfl; rfl; rfl; exact fun _ _ _ _ h => h; (intro W e _ k; have q := HC.o W e; go_simp; exact k))
    refine zdr rfl rfl ?_ ?_
    case' _ =>
     intro K hK; go_simp
     obtain ⟨em, el, aY, bi, hf⟩ := HB.o
     obtain ⟨hR, hA, lw, de, ih⟩ := H.o
     refine (ih k (by omega) body a2 body.length c2 A W2 (Lay.fr bi H2.o.2 (fun k hk => ⟨nqQ (hA k hk) hX.o.size, fun h => h⟩)) (fun k hk => nqQ (hA k hk) (Ext.trans hX.o H2.o.2).size) hf.2.1 hf.2.2).mono ?_
     rintro e w3 ⟨v2, rfl, kn, eZ⟩
     refine hK _ _ eZ ?_
     clear hK K
     obtain ⟨ba, bn, bc, rfl⟩ := kn.shape
     have iI := qh (anQ kn eZ)
     clear em el aY bi hf hR hA lw de ih kn eZ
     repeat (apply item_take; rfl; rfl; rfl; rfl; exact fun _ _ _ _ h => h; (intro _ _ _ k; go_simp; exact k))
     apply ze; rfl; intro K hK; go_simp
     refine hK _ _ (za _ _) ?_
     clear hK K
     apply zu; rfl; intro K hK; go_simp
     refine hK _ _ ?_
     clear hK K
     apply zl
     obtain ⟨W4, g, H4, cT, hg⟩ : ∃ W4 g, Hd (Blk W4 g #[.int .i64 op, .slice none 0 0, .bool st, .int .i64 ty, .slice ba bn bc] 242 ∧ Ext W2 W4 ∧ (wr.heap.size < g ∧ W2.heap.size ≤ g) ∧ (Lay.ins k).slice.rd (fun k' => wr.heap.size < k' ∧ k' < W4.heap.size ∧ k' ≠ g) W4 [.slice ba bn bc] body) ∧ (w3.alloc (.cells #[.int .i64 op, .slice none 0 0, .bool st, .int .i64 ty, .slice ba bn bc] 242)) = W4 ∧ w3.heap.size = g := by
      refine ⟨_, _, ⟨zk _ _ _, Ext.trans iI.o.2 (za _ _), ?_, ?_⟩, rfl, rfl⟩
      ·have := H2.o.1.lt; have := iI.o.2.size; exact ⟨by omega, this⟩
      ·refine Lay.mono _ (Lay.fr iI.o.1.slice (za _ _) (fun k hk => ⟨hk.2, fun h => h⟩)) (fun k hk => ⟨by have := H2.o.1.lt; omega, by simp; omega, by omega⟩)
     rw [cT, hg]
     clear iI cT hg w3
    rotate_left
    case' _ =>
     intro K hK; go_simp
     refine hK _ _ (za _ _) ?_
     clear hK K
     apply ze; rfl; intro K hK; go_simp
     obtain ⟨em, el, aY, bi, hf⟩ := HB.o
     obtain ⟨hR, hA, lw, de, ih⟩ := H.o
     have bY := Ext.trans H2.o.2 (za W2 (.cells #[.int .i64 0, .slice none 0 0, .bool false, .int .i64 0, .slice none 0 0] 242))
     refine (ih k (by omega) body a2 body.length c2 A _ (Lay.fr bi bY (fun k hk => ⟨nqQ (hA k hk) hX.o.size, fun h => h⟩)) (fun k hk => nqQ (hA k hk) (Ext.trans hX.o bY).size) hf.2.1 hf.2.2).mono ?_
     rintro e w3 ⟨v2, rfl, kn, eZ⟩
     refine hK _ _ eZ ?_
     clear hK K
     obtain ⟨ba, bn, bc, rfl⟩ := kn.shape
     have iI := qh (anQ kn eZ)
     have hG := (zk W2 #[.int .i64 0, .slice none 0 0, .bool false, .int .i64 0, .slice none 0 0] 242).ext eZ
     have HG := qh hG
     have wX := hG.cell
     have vW := hG.frz
     clear em el aY bi hf hR hA lw de ih kn eZ bY hG
     repeat (apply item_take; rfl; rfl; rfl; rfl; exact fun _ _ _ _ h => h; (intro _ _ _ k; go_simp; exact k))
     apply zu; rfl; intro K hK; go_simp
     refine hK _ _ ?_
     clear hK K
     apply zl
     obtain ⟨W4, g, H4, cT, hg⟩ : ∃ W4 g, Hd (Blk W4 g #[.int .i64 op, .slice none 0 0, .bool st, .int .i64 ty, .slice ba bn bc] 242 ∧ Ext W2 W4 ∧ (wr.heap.size < g ∧ W2.heap.size ≤ g) ∧ (Lay.ins k).slice.rd (fun k' => wr.heap.size < k' ∧ k' < W4.heap.size ∧ k' ≠ g) W4 [.slice ba bn bc] body) ∧ (((((w3.setCell ⟨W2.heap.size, 0, none⟩ (.int .i64 op)).setCell ⟨W2.heap.size, 1, none⟩ (.slice none 0 0)).setCell ⟨W2.heap.size, 2, none⟩ (.bool st)).setCell ⟨W2.heap.size, 3, none⟩ (.int .i64 ty)).setCell ⟨W2.heap.size, 4, none⟩ (.slice ba bn bc)) = W4 ∧ W2.heap.size = g := by
      have qs := Fr.setCell (Fr.setCell (Fr.setCell (Fr.setCell (Fr.setCell (Fr.refl (fun k => k = W2.heap.size) w3) (p := ⟨W2.heap.size, 0, none⟩) (.inl rfl) (.int .i64 op)) (p := ⟨W2.heap.size, 1, none⟩) (.inl rfl) (.slice none 0 0)) (p := ⟨W2.heap.size, 2, none⟩) (.inl rfl) (.bool st)) (p := ⟨W2.heap.size, 3, none⟩) (.inl rfl) (.int .i64 ty)) (p := ⟨W2.heap.size, 4, none⟩) (.inl rfl) (.slice ba bn bc)
      have fF := Ext.fr (Ext.trans (za _ _) iI.o.2) qs
      refine ⟨_, _, ⟨?_, fF.mono (fun k hk e => absurd hk (by omega)), ⟨H2.o.1.lt, Nat.le_refl _⟩, ?_⟩, rfl, rfl⟩
      ·have := ((((HG.o.set 0 (.int .i64 op)).set 1 (.slice none 0 0)).set 2 (.bool st)).set 3 (.int .i64 ty)).set 4 (.slice ba bn bc)
       simpa using this
      ·have hs := iI.o.1.slice
       refine Lay.mono _ (Lay.fr hs qs (fun k hk => ⟨hk.2, fun e => by have := hk.1; simp at this; omega⟩)) (fun k hk => ⟨by have := H2.o.1.lt; have := hk.1; simp at this; omega, nqQ hk.2 qs.size, by have := hk.1; simp at this; omega⟩)
     rw [cT, hg]
     clear iI cT hg wX vW HG w3
    all_goals
     have eN := (H2.o.1.ext H4.o.2.1).cell
     have dY := H4.o.1.cell
     go_wp2_with fail
     clear eN dY
     obtain ⟨wo, rfl⟩ : ∃ wo : World, wo = wr := ⟨_, rfl⟩
     go_loopw [28] (fun xK w' => ∃ (j : Nat) (va : Value), j ≤ args.length ∧ xK = .int .i64 j ∧ Hd (Blk w' g #[.int .i64 op, va, .bool st, .int .i64 ty, .slice ba bn bc] 242 ∧ Own Lay.arg 243 W4.heap.size w' va (args.take j) ∧ Fr (fun k => k = g) W4 w')) (fun xK _ => args.length - (intOf xK).toNat)
     case atStart => exact ⟨0, _, nzQ _, rfl, H4.o.1, jz _ _ _ _, Fr.refl _ _⟩
     case round =>
      obtain ⟨j, va, hj, rfl, hV⟩ := hrel
      have ie := H4.o.1.lt
      by_cases ep : j < args.length
      ·have hA := H.o.2.1
       have na := hX.o.size
       have aY := Lay.fr HB.o.2.2.1 (Ext.fr (Ext.trans H2.o.2 H4.o.2.1) hV.o.2.2) (fun k hk => ⟨nqQ (hA k hk) na, fun e => by have := hA k hk; have := H4.o.2.2.1.1; omega⟩)
       obtain ⟨b3, o3, rfl, mp, g0, g1, uB, uq⟩ := zdn aY j ep
       have pv := qh (anQ uB uq)
       have td := qh (show args.take (j + 1) = args.take j ++ [args[j]] from tsQ ep)
       generalize args[j] = aq at *
       obtain ⟨ak, ab⟩ := aq
       simp only [] at g0 g1
       have dY := hV.o.1.cell
       have fx := hV.o.1.frz
       have mw := hV.o.1.lt
       obtain ⟨aN, aw, az, rfl⟩ := hV.o.2.1.shape
       clear aY mp hA na uB uq
       go_wp2_with (at_builtin; refine Hd.o ?_)
       have nA := za wr (.cells #[.int .i64 ak, .int .u64 ab.toNat] 239)
       refine yT Lay.arg W4.heap.size (wr.heap.size + 1) (by simp) rfl (.tmp 33) (.tmp 39) _ _ _ 16 rfl Tryz.underlying240 zh6 rfl (by omega) (by decide) (.slice aN aw az) (args.take j) (ak, ab) _ rfl rfl (hV.o.2.1.ext nA) ⟨[_], [_], rfl, ⟨rfl, pv.o⟩, rfl⟩ (nlQ hV.o.2.2.size nA.size) (by have := HB.o.2.2.2.2.1; rw [ltQ]; omega) ?_
       intro v1 w1 h1 h2 h3
       have aO : ∀ k', k' = g → ¬ some k' = (Value.slice aN aw az).ownBlock := fun k' e h => by have := (hV.o.2.1.lt k' h.symm).1; omega
       have fb := (hV.o.1.ext nA).fr h2 (aO g rfl)
       have wG := fb.cell
       have wZ := fb.frz
       have ns : Own Lay.arg 243 W4.heap.size w1 v1 (args.take (j + 1)) := by rw [td.o]; exact h1
       have tl : Fr (fun k => k = g) W4 w1 := Fr.trans (hV.o.2.2.ext nA) h2 (fun _ _ h => h) (fun k hk e => absurd hk (by have := (hV.o.2.1.lt k e.symm).1; omega))
       obtain ⟨aR, aV, aU, rfl⟩ := h1.shape
       have H5 := qh (anQ fb (anQ ns tl))
       clear h1 h2 h3 fb ns tl dY fx nA aO
       go_wp2_with fail
       have bf : Hd (Blk (w1.setCell ⟨g, 1, none⟩ (.slice aR aV aU)) g #[.int .i64 op, .slice aR aV aU, .bool st, .int .i64 ty, .slice ba bn bc] 242 ∧ Own Lay.arg 243 W4.heap.size (w1.setCell ⟨g, 1, none⟩ (.slice aR aV aU)) (.slice aR aV aU) (args.take (j + 1)) ∧ Fr (fun k => k = g) W4 (w1.setCell ⟨g, 1, none⟩ (.slice aR aV aU))) := by
        refine ⟨?_, Own.only zgF H5.o.2.1 (zh _ _ _) (fun k' h e => by have := (H5.o.2.1.lt k' h).1; have e' : k' = g := e; omega), H5.o.2.2.setCell (.inl rfl) _⟩
        have := H5.o.1.set 1 (.slice aR aV aU)
        simpa using this
       clear wG wZ
       go_roundw
       case rel => exact ⟨j + 1, _, by omega, by go_num, bf⟩
       case measure => simp [intOf]; omega
      ·obtain rfl : j = args.length := by omega
       have dY := hV.o.1.cell
       obtain ⟨aN, aw, az, rfl⟩ := hV.o.2.1.shape
       go_wp2_with (at_builtin; refine Hd.o ?_)
       have ff : Ext wo wr := Ext.trans H2.o.2 (Fr.new (Ext.fr H4.o.2.1 hV.o.2.2) (fun k e => by have := H4.o.2.2.1.2; have e' : k = g := e; omega))
       refine yT (Lay.ins (k + 1)) w.heap.size wr.heap.size rfl rfl (.tmp 43) (.tmp 45) _ _ _ 72 rfl Tryz.underlying108 (zfA (k + 1)) (by rw [Lay.ins_size]; rfl) (by omega) (by rw [Lay.ins_size]; decide) u3 (l.take i) (.mk op args st ty body) _ rfl rfl (hO.o.ext ff) ?_ (nlQ hX.o.size ff.size) (by have := H.o.2.2.1; rw [ltQ]; omega) ?_
       ·have hu := hO.o.lt
        have cl := hX.o.size
        have rj := ff.size
        have AC := H4.o.2.1.size
        have CB := H2.o.1.lt
        have ha := hV.o.2.1.slice
        rw [tlQ] at ha
        refine zj1 HB.o.1 HB.o.2.1 (Lay.mono _ ha (fun k' hk => ⟨by omega, hk.2, fun e => by have := hu k' e.symm; omega⟩)) (Lay.mono _ (Lay.fr H4.o.2.2.2 hV.o.2.2 (fun k' hk => ⟨hk.2.1, fun e => hk.2.2 e⟩)) (fun k' hk => ⟨by omega, nqQ hk.2.1 hV.o.2.2.size, fun e => by have := hu k' e.symm; omega⟩))
       intro v1 w1 h1 h2 h3
       have kK : Hd (Own (Lay.ins (k + 1)) 242 w.heap.size w1 v1 (l.take (i + 1))) := by show Own _ _ _ _ _ _; rw [aX.o]; exact h1
       have iE : Hd (Ext w w1) := Fr.new (Ext.fr (Ext.trans hX.o ff) h2) (fun k' e => (hO.o.lt k' e.symm).1)
       clear h1 h2 h3 dY ff
       go_wp2
       go_roundw
       case rel => exact ⟨i + 1, by omega, by go_num, kK, iE⟩
       case measure => simp [intOf]; omega
   ·obtain rfl : i = l.length := by omega
    go_wp2
    go_ret
    have := hO.o
    rw [tlQ] at this
    exact ⟨_, rfl, this, hX.o⟩
def yf (a : Int × UInt64) : Value :=
 if a.1 = 0 then .iface 21 (.int .i32 (wrap32 (a.2.toNat : Int)))
 else if a.1 = 1 then .iface 2 (.int .i64 (wrap64 (a.2.toNat : Int)))
 else if a.1 = 2 then .iface 24 (.int .u32 ((a.2.toNat : Int) % 4294967296))
 else if a.1 = 3 then .iface 373 (.float .f32 (a.2.toNat % 4294967296))
 else if a.1 = 4 then .iface 375 (.float .f64 a.2.toNat)
 else if a.1 = 5 then .iface 5 (.int .u8 ((a.2.toNat : Int) % 256))
 else .iface 89 (.int .u64 (a.2.toNat : Int))
theorem zfB (a : Int × UInt64) : (yf a).oneCell' = true := by unfold yf; (repeat' split) <;> rfl
theorem zdD (a : Int × UInt64) : ∃ T v, yf a = .iface T v := by unfold yf; (repeat' split) <;> exact ⟨_, _, rfl⟩
namespace Lay
def anyv : Lay (Int × UInt64) := cell1 yf zfB
theorem flat_anyv : anyv.flat := flat_cell1 _ _
def KindAt (A : Nat → Prop) (w : World) (kp : Option Addr) (ty : Int) : Prop :=
 if 0 ≤ ty then ∃ kb ko bO T fz, kp = some ⟨kb, ko, none⟩ ∧ A kb ∧ w.heap[kb]? = some (.cells bO T fz) ∧ bO[ko]? = some (.int .i64 ty) else kp = none
def own : Nat → Lay Ins
 | 0 => never Ins 1
 | n + 1 => {
  size := 1
  rd := fun A w cs x => ∃ a m c, anyv.slice.rd A w [.slice a m c] x.args ∧
   if x.st = true then ∃ kp ba bn bc, cs = [.iface 333 (.agg #[.int .u8 (x.op % 256), .slice a m c, .pointer kp, .slice ba bn bc])] ∧ KindAt A w kp x.ty ∧ (own n).slice.rd A w [.slice ba bn bc] x.body
   else cs = [.iface 330 (.agg #[.int .u8 (x.op % 256), .slice a m c])]
  len := by
   rintro A w cs x ⟨a, m, c, _, h⟩
   split at h
   ·obtain ⟨_, _, _, _, rfl, _⟩ := h; rfl
   ·subst h; rfl
  one := by
   rintro A w cs x ⟨a, m, c, _, h⟩ u hu
   split at h
   ·obtain ⟨_, _, _, _, rfl, _⟩ := h; obtain rfl := List.mem_singleton.1 hu; rfl
   ·subst h; obtain rfl := List.mem_singleton.1 hu; rfl
  frame := by
   rintro A w w' cs x ⟨a, m, c, h1, h⟩ hf
   refine ⟨a, m, c, anyv.slice.frame h1 hf, ?_⟩
   split at h
   ·rename_i hs
    rw [if_pos hs]
    obtain ⟨kp, ba, bn, bc, e, hk, hb⟩ := h
    refine ⟨kp, ba, bn, bc, e, ?_, (own n).slice.frame hb hf⟩
    unfold KindAt at *
    split at hk
    ·rename_i ht
     rw [if_pos ht]
     obtain ⟨kb, ko, bO, T, fz, e1, e2, e3, e4⟩ := hk
     exact ⟨kb, ko, bO, T, fz, e1, e2, (hf kb e2).trans e3, e4⟩
    ·rename_i ht
     rw [if_neg ht]; exact hk
   ·rename_i hs
    rw [if_neg hs]; exact h
  mono := by
   rintro A A' w cs x ⟨a, m, c, h1, h⟩ hf
   refine ⟨a, m, c, anyv.slice.mono h1 hf, ?_⟩
   split at h
   ·rename_i hs
    rw [if_pos hs]
    obtain ⟨kp, ba, bn, bc, e, hk, hb⟩ := h
    refine ⟨kp, ba, bn, bc, e, ?_, (own n).slice.mono hb hf⟩
    unfold KindAt at *
    split at hk
    ·rename_i ht
     rw [if_pos ht]
     obtain ⟨kb, ko, bO, T, fz, e1, e2, e3, e4⟩ := hk
     exact ⟨kb, ko, bO, T, fz, e1, hf kb e2, e3, e4⟩
    ·rename_i ht
     rw [if_neg ht]; exact hk
   ·rename_i hs
    rw [if_neg hs]; exact h }
theorem own_size : ∀ n, (own n).size = 1
 | 0 => rfl
 | _ + 1 => rfl
theorem own_mk_plain {n : Nat} {A : Nat → Prop} {w : World} {op ty : Int} {args : List (Int × UInt64)} {body : List Ins} {a : Option Addr} {m c : Nat} (h : anyv.slice.rd A w [.slice a m c] args) :
 (own (n + 1)).rd A w [.iface 330 (.agg #[.int .u8 (op % 256), .slice a m c])] (.mk op args false ty body) := ⟨a, m, c, h, by
  show if false = true then _ else _
  exact rfl⟩
theorem own_mk_block {n : Nat} {A : Nat → Prop} {w : World} {op ty : Int} {args : List (Int × UInt64)} {body : List Ins} {a ba kp : Option Addr} {m c bn bc : Nat} (h : anyv.slice.rd A w [.slice a m c] args) (hk : KindAt A w kp ty) (hb : (own n).slice.rd A w [.slice ba bn bc] body) :
 (own (n + 1)).rd A w [.iface 333 (.agg #[.int .u8 (op % 256), .slice a m c, .pointer kp, .slice ba bn bc])] (.mk op args true ty body) := ⟨a, m, c, h, by
  show if true = true then _ else _
  exact ⟨kp, ba, bn, bc, rfl, hk, hb⟩⟩
end Lay
theorem zje : (Tryz.prog.info? 20).map (fun i => (i.zero, i.size, i.bytes)) = some (some .nilIface, Lay.anyv.size, 16) := by kernel_rfl
theorem zbp (n : Nat) : (Tryz.prog.info? 294).map (fun i => (i.zero, i.size, i.bytes)) = some (some .nilIface, (Lay.own n).size, 16) := by rw [Lay.own_size]; kernel_rfl
theorem zfC (n : Int) (w : World) : (callFunc 158 #[.int .u32 n]).run Tryz.prog w = .ok (.value (.float .f32 n.toNat)) w := by
 kernel_rfl
theorem zfD (n : Int) (w : World) : (callFunc 159 #[.int .u64 n]).run Tryz.prog w = .ok (.value (.float .f64 n.toNat)) w := by
 kernel_rfl
theorem zgG (k : Int) (b : UInt64) (w : World) : Calls Tryz.prog 121 #[.agg #[.int .i64 k, .int .u64 (b.toNat : Int)]] w fun e w' => e = .returned (yf (k, b)) ∧ Ext w w' := by
 have hb := b.toNat_lt
 have DZ := zfC
 have Dd := zfD
 by_cases h : k = 0 ∨ k = 1 ∨ k = 2 ∨ k = 3 ∨ k = 4 ∨ k = 5
 ·have hv := qh (show yf (k, b) = yf (k, b) from rfl)
  rcases h with rfl | rfl | rfl | rfl | rfl | rfl
  all_goals
   generalize hn : b.toNat = n at *
   have hn := qh hn
   go_enter Tryz.func121, Tryz.ntmps121
   go_wp2
   go_ret
   exact ⟨by simp [yf, hn.o], za _ _⟩
 ·simp only [not_or] at h
  obtain ⟨h0, h1, h2, h3, h4, h5⟩ := h
  have hv := qh (show yf (k, b) = .iface 89 (.int .u64 (b.toNat : Int)) from by simp [yf, h0, h1, h2, h3, h4, h5])
  simp only [← beq_eq_false_iff_ne] at h0 h1 h2 h3 h4 h5
  generalize b.toNat = n at *
  go_enter Tryz.func121, Tryz.ntmps121
  go_wp2
  go_ret
  exact ⟨by rw [hv.o]; rfl, za _ _⟩
theorem Z1 (n : Nat) : ∀ (l : List Ins) (aa : Option Addr) (m c : Nat) (A : Nat → Prop) (w : World), (Lay.ins n).slice.rd A w [.slice aa m c] l → (∀ k, A k → k < w.heap.size) → l.length ≤ 1048576 → fitA l →
 Calls Tryz.prog 88 #[.slice aa m c] w fun e w' => ∃ v, e = .returned v ∧ Own (Lay.own n) 294 w.heap.size w' v l ∧ Ext w w' := by
 induction n using Nat.strongRecOn with
 | ind n ih =>
  intro l aa m c A w hR hA lw de
  obtain ⟨a', c', e, ce, bh⟩ := Lay.slice_form hR
  obtain ⟨rfl, rfl, rfl⟩ : aa = a' ∧ m = l.length ∧ c = c' := by simpa using e
  have ao : (l.length : Int) ≤ 9223372036854775807 := by simp only [maxLen] at bh; omega
  have H := qh (anQ hR (anQ hA (anQ lw (anQ de ih))))
  clear hR hA ih lw de ce bh e
  go_enter Tryz.func88, Tryz.ntmps88
  go_wp2_with fail
  go_loopw [3, 13] (fun s3 fX w' => ∃ (i : Nat), i ≤ l.length ∧ fX = .int .i64 i ∧ Hd (Own (Lay.own n) 294 w.heap.size w' s3 (l.take i)) ∧ Hd (Ext w w')) (fun _ fX _ => l.length - (intOf fX).toNat)
  case atStart => exact ⟨0, nzQ _, rfl, jz _ _ _ _, Fr.refl _ _⟩
  case round =>
   obtain ⟨i, hi, rfl, hO, hX⟩ := hrel
   by_cases ah : i < l.length
   ·obtain ⟨hR, hA, lw, de, ih⟩ := H.o
    have eM := Lay.fr hR hX.o (fun k hk => ⟨hA k hk, fun h => h⟩)
    obtain ⟨k, b, o, a1, n1, c1, a2, n2, c2, rfl, rfl, eH, e0, e1, e2, e3, e4, em, el, aY, bi⟩ := Lay.ins_at eM i ah
    have aX := qh (show l.take (i + 1) = l.take i ++ [l[i]] from tsQ ah)
    have hf := zeu de i ah
    generalize l[i] = x at *
    obtain ⟨op, args, st, ty, body⟩ := x
    simp only [Ins.op, Ins.args, Ins.st, Ins.ty, Ins.body] at e0 e1 e2 e3 e4 em el aY bi
    obtain ⟨nF, og, iQ, gI, eI⟩ := Lay.slice_form aY
    obtain ⟨rfl, rfl, rfl⟩ : a1 = nF ∧ n1 = args.length ∧ c1 = og := by simpa using iQ
    obtain ⟨qF, pX, mM, km, ev⟩ := Lay.slice_form bi
    obtain ⟨rfl, rfl, rfl⟩ : a2 = qF ∧ n2 = body.length ∧ c2 = pX := by simpa using mM
    have qS : (args.length : Int) ≤ 9223372036854775807 := by simp only [maxLen] at eI; omega
    have HB := qh (anQ em (anQ el (anQ aY (anQ bi hf))))
    clear hR hA lw de ih eM aY bi eH iQ mM gI eI km ev em el hf
    go_wp2_with fail
    have cY : Blk ((wr.alloc (.cells #[.int .i64 op, .slice a1 args.length c1, .bool st, .int .i64 ty, .slice a2 body.length c2] 242)).alloc (.cells #[.int .u8 (op % 256), .slice none 0 0] 330)) wr.heap.size #[.int .i64 op, .slice a1 args.length c1, .bool st, .int .i64 ty, .slice a2 body.length c2] 242 := (zk wr _ _).ext (za _ _)
    have bN : Blk ((wr.alloc (.cells #[.int .i64 op, .slice a1 args.length c1, .bool st, .int .i64 ty, .slice a2 body.length c2] 242)).alloc (.cells #[.int .u8 (op % 256), .slice none 0 0] 330)) (wr.heap.size + 1) #[.int .u8 (op % 256), .slice none 0 0] 330 := by
     have := zk (wr.alloc (.cells #[.int .i64 op, .slice a1 args.length c1, .bool st, .int .i64 ty, .slice a2 body.length c2] 242)) #[.int .u8 (op % 256), .slice none 0 0] 330
     simpa using this
    have cN : Ext wr ((wr.alloc (.cells #[.int .i64 op, .slice a1 args.length c1, .bool st, .int .i64 ty, .slice a2 body.length c2] 242)).alloc (.cells #[.int .u8 (op % 256), .slice none 0 0] 330)) := Ext.trans (za _ _) (za _ _)
    generalize ((wr.alloc (.cells #[.int .i64 op, .slice a1 args.length c1, .bool st, .int .i64 ty, .slice a2 body.length c2] 242)).alloc (.cells #[.int .u8 (op % 256), .slice none 0 0] 330)) = W1 at *
    have H1 := qh (anQ cY (anQ bN (anQ cN True.intro)))
    clear cY bN cN
    obtain ⟨wo, rfl⟩ : ∃ wo : World, wo = wr := ⟨_, rfl⟩
    obtain ⟨g, hg⟩ := exQ (wo.heap.size + 1)
    rw [hg] at H1 ⊢
    have hg := qh hg
    go_loopw [24] (fun vf w' => ∃ (j : Nat) (va : Value), j ≤ args.length ∧ vf = .int .i64 j ∧ Hd (Blk w' g #[.int .u8 (op % 256), va] 330 ∧ Own Lay.anyv 20 W1.heap.size w' va (args.take j) ∧ Fr (fun k => k = g) W1 w')) (fun vf _ => args.length - (intOf vf).toNat)
    case atStart => exact ⟨0, _, nzQ _, rfl, H1.o.2.1, jz _ _ _ _, Fr.refl _ _⟩
    case round =>
     obtain ⟨j, va, hj, rfl, hV⟩ := hrel
     obtain ⟨aN, aw, az, rfl⟩ := hV.o.2.1.shape
     by_cases ep : j < args.length
     ·have hA := H.o.2.1
      have na := hX.o.size
      have aY := Lay.fr HB.o.2.2.1 (Ext.fr H1.o.2.2.1 hV.o.2.2) (fun k hk => ⟨nqQ (hA k hk) na, fun e => by have e' : k = g := e; have := hA k hk; have := hg.o; omega⟩)
      obtain ⟨b3, o3, rfl, mp, g0, g1, -, -⟩ := zdn aY j ep
      have td := qh (show args.take (j + 1) = args.take j ++ [args[j]] from tsQ ep)
      generalize args[j] = aq at *
      obtain ⟨ak, ab⟩ := aq
      simp only [] at g0 g1
      clear aY mp hA na
      go_wp2_with fail
      have BY := zk wr #[.int .i64 ak, .int .u64 ab.toNat] 243
      have nA := za wr (.cells #[.int .i64 ak, .int .u64 ab.toNat] 243)
      refine zi JS [kT 0, kT 1, kT 2, kR 3, kR 4, kL 5, kT 6, kL 7] (by kernel_rfl) (by kernel_rfl) ?_
      simp only [zy, gzQ, gsQ]
      have HC := qh (fun W' (h : Ext (wr.alloc (.cells #[.int .i64 ak, .int .u64 ab.toNat] 243)).drew W') => anQ ((BY.ext (Ext.trans (zb _) h)).cell) ((hV.o.1.ext (Ext.trans nA (Ext.trans (zb _) h))).cell))
      have nA := qh (Ext.trans nA (zb _))
      clear BY
      generalize (wr.alloc (.cells #[.int .i64 ak, .int .u64 ab.toNat] 243)).drew = W3 at *
      repeat (apply item_take; rfl; rfl; rfl; rfl; exact fun _ _ _ _ h => h; (intro W e _ k; have q := HC.o W e; go_simp; exact k))
      apply ze; rfl; intro K hK; go_simp
      obtain ⟨aT, av, vl⟩ := zdD (ak, ab)
      have rE := zgG ak ab W3
      rw [vl] at rE
      have vl := qh (show [Value.iface aT av] = [yf (ak, ab)] from by rw [vl])
      refine rE.mono ?_
      clear rE
      rintro e w4 ⟨rfl, fF⟩
      refine hK _ _ fF ?_
      clear hK K
      have fF := qh (Ext.trans nA.o fF)
      apply ze; rfl; intro K hK; go_simp
      refine hK _ _ (za _ _) ?_
      clear hK K HC
      apply zu; rfl; intro K hK
      refine JZ Lay.anyv W1.heap.size (.tmp 29) (.tmp 32) _ _ _ 16 rfl Tryz.underlying297 zje rfl (by omega) (by decide) (.slice aN aw az) (args.take j) (ak, ab) _ rfl rfl (hV.o.2.1.ext fF.o) vl.o (nlQ hV.o.2.2.size fF.o.size) (by have := HB.o.2.2.2.2.1; rw [ltQ]; omega) ?_
      intro v1 w5 h1 h2 h3
      refine hK _ _ ?_
      clear hK K
      have aO : ∀ k', k' = g → ¬ some k' = (Value.slice aN aw az).ownBlock := fun k' e h => by have := (hV.o.2.1.lt k' h.symm).1; have := H1.o.2.1.lt; omega
      have fb := (hV.o.1.ext fF.o).fr h2 (aO g rfl)
      have wG := fb.cell
      have wZ := fb.frz
      have ns : Own Lay.anyv 20 W1.heap.size w5 v1 (args.take (j + 1)) := by rw [td.o]; exact h1
      have tl : Fr (fun k => k = g) W1 w5 := Fr.trans (hV.o.2.2.ext fF.o) h2 (fun _ _ h => h) (fun k hk e => absurd hk (by have := (hV.o.2.1.lt k e.symm).1; omega))
      obtain ⟨aR, aV, aU, rfl⟩ := h1.shape
      have H5 := qh (anQ fb (anQ ns tl))
      clear h1 h2 h3 fb ns tl aO
      repeat (apply item_take; rfl; rfl; rfl; rfl; exact fun _ _ _ _ h => h; (intro _ _ _ k; go_simp; exact k))
      apply zu; rfl; intro K hK; go_simp
      refine hK _ _ ?_
      clear hK K wG wZ
      apply zl
      have bf : Hd (Blk (w5.setCell ⟨g, 1, none⟩ (.slice aR aV aU)) g #[.int .u8 (op % 256), .slice aR aV aU] 330 ∧ Own Lay.anyv 20 W1.heap.size (w5.setCell ⟨g, 1, none⟩ (.slice aR aV aU)) (.slice aR aV aU) (args.take (j + 1)) ∧ Fr (fun k => k = g) W1 (w5.setCell ⟨g, 1, none⟩ (.slice aR aV aU))) := by
       refine ⟨?_, Own.only Lay.flat_anyv H5.o.2.1 (zh _ _ _) (fun k' h e => by have := (H5.o.2.1.lt k' h).1; have e' : k' = g := e; have := H1.o.2.1.lt; omega), H5.o.2.2.setCell (.inl rfl) _⟩
       have := H5.o.1.set 1 (.slice aR aV aU)
       simpa using this
      go_wp2
      go_roundw
      case rel => exact ⟨j + 1, _, by omega, by go_num, bf⟩
      case measure => simp [intOf]; omega
     ·obtain rfl : j = args.length := by omega
      have hq := qh (show Ext wo wr from Fr.new (Ext.fr H1.o.2.2.1 hV.o.2.2) (fun k e => by have e' : k = g := e; have := hg.o; omega))
      have vn := qh (H1.o.1.fr hV.o.2.2 (fun e => by have e' : wo.heap.size = g := e; have := hg.o; omega))
      have ph := vn.o.cell
      have dY := hV.o.1.cell
      cases st with
      | false =>
       go_wp2_with (at_builtin; refine Hd.o ?_)
       have ff := hq
       have l0 := qh (show (Lay.own (k + 1)).rd (fun k' => w.heap.size ≤ k' ∧ k' < wr.heap.size ∧ some k' ≠ u3.ownBlock) wr (#[Value.iface 330 (.agg #[.int .u8 (op % 256), .slice aN aw az])] : Array Value).toList (.mk op args false ty body) from by
        have hu := hO.o.lt
        have cZ := hX.o.size
        have fI := H1.o.2.2.1.size
        have lX := hV.o.2.2.size
        have ha := hV.o.2.1.slice
        rw [tlQ] at ha
        exact Lay.own_mk_plain (Lay.mono _ ha (fun k' hk => ⟨by omega, by omega, fun e => by have := hu k' e.symm; omega⟩)))
       clear ph dY
       refine yT (Lay.own (k + 1)) w.heap.size wr.heap.size rfl rfl (.tmp 39) (.tmp 42) _ _ _ 16 rfl Tryz.underlying212 (zbp (k + 1)) (by rw [Lay.own_size]; rfl) (by omega) (by rw [Lay.own_size]; decide) u3 (l.take i) (.mk op args false ty body) _ rfl rfl (hO.o.ext ff.o) l0.o (nlQ hX.o.size ff.o.size) (by have := H.o.2.2.1; rw [ltQ]; omega) ?_
       intro v1 w1 h1 h2 h3
       have kK : Hd (Own (Lay.own (k + 1)) 294 w.heap.size w1 v1 (l.take (i + 1))) := by show Own _ _ _ _ _ _; rw [aX.o]; exact h1
       have iE : Hd (Ext w w1) := Fr.new (Ext.fr (Ext.trans hX.o ff.o) h2) (fun k' e => (hO.o.lt k' e.symm).1)
       clear h1 h2 h3 ff l0
       go_wp2
       go_roundw
       case rel => exact ⟨i + 1, by omega, by go_num, kK, iE⟩
       case measure => simp [intOf]; omega
      | true =>
       go_wp2_with fail
       refine zbh JS (.fork [kT 0, kT 1, kT 2] 3 5 (.seq [kT 4, kR 5, kL 6]) (.seq [kR 3, kT 4, kL 6])) (by kernel_rfl) (by kernel_rfl) ?_
       simp only [zb0, zy, gzQ, gsQ]
       have bQ := qh (zb wr)
       have HC := qh (fun W' (h : Ext wr.drew W') => anQ (vn.o.ext (Ext.trans bQ.o h)).cell (hV.o.1.ext (Ext.trans bQ.o h)).cell)
       clear ph dY
       generalize wr.drew = W2 at *
       repeat (apply item_take; rfl; rfl; rfl; rfl; exact fun _ _ _ _ h => h; (intro W e _ k; have q := HC.o W e; go_simp; exact k))
       refine zdr rfl rfl ?_ ?_
       ·intro K hK; go_simp
        refine (H.o.2.2.2.2 k (by omega) body a2 body.length c2 A W2 (Lay.fr HB.o.2.2.2.1 (Ext.trans hq.o bQ.o) (fun k hk => ⟨nqQ (H.o.2.1 k hk) hX.o.size, fun h => h⟩)) (fun k hk => nqQ (H.o.2.1 k hk) (Ext.trans hX.o (Ext.trans hq.o bQ.o)).size) HB.o.2.2.2.2.2.1 HB.o.2.2.2.2.2.2).mono ?_
        rintro e w3 ⟨v2, rfl, kn, eZ⟩
        refine hK _ _ eZ ?_
        clear hK K
        obtain ⟨ba, bn, bc, rfl⟩ := kn.shape
        have iI := qh (anQ kn eZ)
        clear kn eZ
        repeat (apply item_take; rfl; rfl; rfl; rfl; exact fun _ _ _ _ h => h; (intro _ _ _ k; go_simp; exact k))
        apply ze; rfl; intro K hK; go_simp
        refine hK _ _ (za _ _) ?_
        clear hK K
        apply zu; rfl; intro K hK; go_simp
        refine hK _ _ ?_
        clear hK K
        apply zl
        obtain ⟨W6, h, H6, mN, hh⟩ : ∃ W6 h, Hd (Blk W6 h #[.int .u8 (op % 256), .slice aN aw az, .pointer none, .slice ba bn bc] 333 ∧ Ext wr W6 ∧ (wo.heap.size < h ∧ wr.heap.size ≤ h) ∧ (Lay.own k).slice.rd (fun k' => wo.heap.size < k' ∧ k' < W6.heap.size ∧ k' ≠ h) W6 [.slice ba bn bc] body) ∧ (w3.alloc (.cells #[.int .u8 (op % 256), .slice aN aw az, .pointer none, .slice ba bn bc] 333)) = W6 ∧ w3.heap.size = h := by
         have cZ := H1.o.1.lt
         have fI := hV.o.2.2.size
         have lX := bQ.o.size
         have dU := iI.o.2.size
         refine ⟨_, _, ⟨zk _ _ _, Ext.trans bQ.o (Ext.trans iI.o.2 (za _ _)), ⟨by omega, by omega⟩, ?_⟩, rfl, rfl⟩
         exact Lay.mono _ (Lay.fr iI.o.1.slice (za _ _) (fun k hk => ⟨hk.2, fun h => h⟩)) (fun k hk => ⟨by omega, by simp; omega, by omega⟩)
        rw [mN, hh]
        clear iI mN hh HC w3
        have uz := H6.o.1.cell
        have tD := fun o => (H6.o.1.ext (za W6 o)).frz
        have mz := fun o => (H6.o.1.ext (za W6 o)).cell
        have ph := (vn.o.ext H6.o.2.1).cell
        by_cases fq : 0 ≤ ty
        case' neg =>
         have rC : decide (0 ≤ ty) = false := decide_eq_false fq
         go_wp2_with (at_builtin; refine Hd.o ?_)
         have ff := qh (show Ext wo W6 from Ext.trans hq.o H6.o.2.1)
         have l0 := qh (show (Lay.own (k + 1)).rd (fun k' => w.heap.size ≤ k' ∧ k' < W6.heap.size ∧ some k' ≠ u3.ownBlock) W6 (#[Value.iface 333 (.agg #[.int .u8 (op % 256), .slice aN aw az, .pointer none, .slice ba bn bc])] : Array Value).toList (.mk op args true ty body) from by
          have hu := hO.o.lt
          have cZ := hX.o.size
          have fI := H1.o.2.2.1.size
          have lX := hV.o.2.2.size
          have eP := H6.o.2.2.1
          have dU := H6.o.2.1.size
          have ha := hV.o.2.1.slice
          rw [tlQ] at ha
          refine Lay.own_mk_block (Lay.mono _ (Lay.fr ha H6.o.2.1 (fun k' hk => ⟨hk.2, fun h => h⟩)) (fun k' hk => ⟨by omega, by omega, fun e => by have := hu k' e.symm; omega⟩)) ?_ ?_
          ·unfold Lay.KindAt
           rw [if_neg (by omega)]
          ·exact Lay.mono _ H6.o.2.2.2 (fun k' hk => ⟨by omega, by omega, fun e => by have := hu k' e.symm; omega⟩))
         clear uz tD ph mz
         refine yT (Lay.own (k + 1)) w.heap.size W6.heap.size rfl rfl (.tmp 55) (.tmp 58) _ _ _ 16 rfl Tryz.underlying212 (zbp (k + 1)) (by rw [Lay.own_size]; rfl) (by omega) (by rw [Lay.own_size]; decide) u3 (l.take i) (.mk op args true ty body) _ rfl rfl (hO.o.ext ff.o) l0.o (nlQ hX.o.size ff.o.size) (by have := H.o.2.2.1; rw [ltQ]; omega) ?_
        case' pos =>
         have rC : decide (0 ≤ ty) = true := decide_eq_true fq
         go_wp2_with (at_builtin; refine Hd.o ?_)
         have ul := zk W6 #[.int .i64 ty] 218
         have qg := za W6 (.cells #[.int .i64 ty] 218)
         have wQ := (H6.o.1.ext qg).set 2 (.pointer (some ⟨W6.heap.size, 0, none⟩))
         have xy := H6.o.1.lt
         have p6 := zh (W6.alloc (.cells #[.int .i64 ty] 218)) ⟨h, 2, none⟩ (.pointer (some ⟨W6.heap.size, 0, none⟩))
         have kA : Fr (fun k' => k' = h) W6 _ := Ext.fr qg p6
         have qe := ul.fr p6 (fun e => by have e' : W6.heap.size = h := e; omega)
         have pY := qh (show ((W6.alloc (.cells #[.int .i64 ty] 218)).setCell ⟨h, 2, none⟩ (.pointer (some ⟨W6.heap.size, 0, none⟩))).heap.size = W6.heap.size + 1 from by simp [World.setCell])
         generalize ((W6.alloc (.cells #[.int .i64 ty] 218)).setCell ⟨h, 2, none⟩ (.pointer (some ⟨W6.heap.size, 0, none⟩))) = W8 at *
         have ff := qh (show Ext wo W8 from Ext.trans hq.o (Fr.new (Ext.fr H6.o.2.1 kA) (fun k' e => by have e' : k' = h := e; have := H6.o.2.2.1.2; omega)))
         have l0 := qh (show (Lay.own (k + 1)).rd (fun k' => w.heap.size ≤ k' ∧ k' < W8.heap.size ∧ some k' ≠ u3.ownBlock) W8 (#[Value.iface 333 (.agg #[.int .u8 (op % 256), .slice aN aw az, .pointer (some ⟨W6.heap.size, 0, none⟩), .slice ba bn bc])] : Array Value).toList (.mk op args true ty body) from by
          have hu := hO.o.lt
          have cZ := hX.o.size
          have fI := H1.o.2.2.1.size
          have lX := hV.o.2.2.size
          have eP := H6.o.2.2.1
          have dU := H6.o.2.1.size
          have D4 := kA.size
          have gO := qe.lt
          have ha := hV.o.2.1.slice
          rw [tlQ] at ha
          refine Lay.own_mk_block (Lay.mono _ (Lay.fr ha (Ext.fr H6.o.2.1 kA) (fun k' hk => ⟨hk.2, fun e => by have e' : k' = h := e; omega⟩)) (fun k' hk => ⟨by omega, by omega, fun e => by have := hu k' e.symm; omega⟩)) ?_ ?_
          ·unfold Lay.KindAt
           rw [if_pos fq]
           exact ⟨W6.heap.size, 0, _, _, _, rfl, ⟨by omega, by omega, fun e => by have := hu _ e.symm; omega⟩, qe, rfl⟩
          ·exact Lay.mono _ (Lay.fr H6.o.2.2.2 kA (fun k' hk => ⟨hk.2.1, fun e => hk.2.2 e⟩)) (fun k' hk => ⟨by omega, by omega, fun e => by have := hu k' e.symm; omega⟩))
         clear ul qg wQ xy p6 kA qe uz tD ph mz
         refine yT (Lay.own (k + 1)) w.heap.size (W6.heap.size + 1) pY.o rfl (.tmp 55) (.tmp 58) _ _ _ 16 rfl Tryz.underlying212 (zbp (k + 1)) (by rw [Lay.own_size]; rfl) (by omega) (by rw [Lay.own_size]; decide) u3 (l.take i) (.mk op args true ty body) _ rfl rfl (hO.o.ext ff.o) l0.o (nlQ hX.o.size ff.o.size) (by have := H.o.2.2.1; rw [ltQ]; omega) ?_
        all_goals
         intro v1 w1 h1 h2 h3
         have kK : Hd (Own (Lay.own (k + 1)) 294 w.heap.size w1 v1 (l.take (i + 1))) := by show Own _ _ _ _ _ _; rw [aX.o]; exact h1
         have iE : Hd (Ext w w1) := Fr.new (Ext.fr (Ext.trans hX.o ff.o) h2) (fun k' e => (hO.o.lt k' e.symm).1)
         clear h1 h2 h3 ff l0
         go_wp2
         go_roundw
         case rel => exact ⟨i + 1, by omega, by go_num, kK, iE⟩
         case measure => simp [intOf]; omega
       ·intro K hK; go_simp
        refine hK _ _ (za _ _) ?_
        clear hK K
        apply ze; rfl; intro K hK; go_simp
        have bY := Ext.trans (Ext.trans hq.o bQ.o) (za W2 (.cells #[.int .u8 0, .slice none 0 0, .pointer none, .slice none 0 0] 333))
        refine (H.o.2.2.2.2 k (by omega) body a2 body.length c2 A _ (Lay.fr HB.o.2.2.2.1 bY (fun k hk => ⟨nqQ (H.o.2.1 k hk) hX.o.size, fun h => h⟩)) (fun k hk => nqQ (H.o.2.1 k hk) (Ext.trans hX.o bY).size) HB.o.2.2.2.2.2.1 HB.o.2.2.2.2.2.2).mono ?_
        rintro e w3 ⟨v2, rfl, kn, eZ⟩
        refine hK _ _ eZ ?_
        clear hK K
        obtain ⟨ba, bn, bc, rfl⟩ := kn.shape
        have iI := qh (anQ kn eZ)
        have hG := (zk W2 #[.int .u8 0, .slice none 0 0, .pointer none, .slice none 0 0] 333).ext eZ
        have HG := qh hG
        have wX := hG.cell
        have vW := hG.frz
        clear kn eZ bY hG
        repeat (apply item_take; rfl; rfl; rfl; rfl; exact fun _ _ _ _ h => h; (intro _ _ _ k; go_simp; exact k))
        apply zu; rfl; intro K hK; go_simp
        refine hK _ _ ?_
        clear hK K
        apply zl
        obtain ⟨W6, h, H6, mN, hh⟩ : ∃ W6 h, Hd (Blk W6 h #[.int .u8 (op % 256), .slice aN aw az, .pointer none, .slice ba bn bc] 333 ∧ Ext wr W6 ∧ (wo.heap.size < h ∧ wr.heap.size ≤ h) ∧ (Lay.own k).slice.rd (fun k' => wo.heap.size < k' ∧ k' < W6.heap.size ∧ k' ≠ h) W6 [.slice ba bn bc] body) ∧ ((((w3.setCell ⟨W2.heap.size, 0, none⟩ (.int .u8 (op % 256))).setCell ⟨W2.heap.size, 1, none⟩ (.slice aN aw az)).setCell ⟨W2.heap.size, 2, none⟩ (.pointer none)).setCell ⟨W2.heap.size, 3, none⟩ (.slice ba bn bc)) = W6 ∧ W2.heap.size = h := by
         have qs := Fr.setCell (Fr.setCell (Fr.setCell (Fr.setCell (Fr.refl (fun k => k = W2.heap.size) w3) (p := ⟨W2.heap.size, 0, none⟩) (.inl rfl) (.int .u8 (op % 256))) (p := ⟨W2.heap.size, 1, none⟩) (.inl rfl) (.slice aN aw az)) (p := ⟨W2.heap.size, 2, none⟩) (.inl rfl) (.pointer none)) (p := ⟨W2.heap.size, 3, none⟩) (.inl rfl) (.slice ba bn bc)
         have fF := Ext.fr (Ext.trans (za _ _) iI.o.2) qs
         have cZ := H1.o.1.lt
         have fI := hV.o.2.2.size
         have lX := bQ.o.size
         refine ⟨_, _, ⟨?_, Ext.trans bQ.o (fF.mono (fun k hk e => absurd hk (by omega))), ⟨by omega, lX⟩, ?_⟩, rfl, rfl⟩
         ·have := (((HG.o.set 0 (.int .u8 (op % 256))).set 1 (.slice aN aw az)).set 2 (.pointer none)).set 3 (.slice ba bn bc)
          simpa using this
         ·have hs := iI.o.1.slice
          exact Lay.mono _ (Lay.fr hs qs (fun k hk => ⟨hk.2, fun e => by have := hk.1; simp at this; omega⟩)) (fun k hk => ⟨by have := hk.1; simp at this; omega, nqQ hk.2 qs.size, by have := hk.1; simp at this; omega⟩)
        rw [mN, hh]
        clear iI mN hh wX vW HG HC w3
        have uz := H6.o.1.cell
        have tD := fun o => (H6.o.1.ext (za W6 o)).frz
        have mz := fun o => (H6.o.1.ext (za W6 o)).cell
        have ph := (vn.o.ext H6.o.2.1).cell
        by_cases fq : 0 ≤ ty
        case' neg =>
         have rC : decide (0 ≤ ty) = false := decide_eq_false fq
         go_wp2_with (at_builtin; refine Hd.o ?_)
         have ff := qh (show Ext wo W6 from Ext.trans hq.o H6.o.2.1)
         have l0 := qh (show (Lay.own (k + 1)).rd (fun k' => w.heap.size ≤ k' ∧ k' < W6.heap.size ∧ some k' ≠ u3.ownBlock) W6 (#[Value.iface 333 (.agg #[.int .u8 (op % 256), .slice aN aw az, .pointer none, .slice ba bn bc])] : Array Value).toList (.mk op args true ty body) from by
          have hu := hO.o.lt
          have cZ := hX.o.size
          have fI := H1.o.2.2.1.size
          have lX := hV.o.2.2.size
          have eP := H6.o.2.2.1
          have dU := H6.o.2.1.size
          have ha := hV.o.2.1.slice
          rw [tlQ] at ha
          refine Lay.own_mk_block (Lay.mono _ (Lay.fr ha H6.o.2.1 (fun k' hk => ⟨hk.2, fun h => h⟩)) (fun k' hk => ⟨by omega, by omega, fun e => by have := hu k' e.symm; omega⟩)) ?_ ?_
          ·unfold Lay.KindAt
           rw [if_neg (by omega)]
          ·exact Lay.mono _ H6.o.2.2.2 (fun k' hk => ⟨by omega, by omega, fun e => by have := hu k' e.symm; omega⟩))
         clear uz tD ph mz
         refine yT (Lay.own (k + 1)) w.heap.size W6.heap.size rfl rfl (.tmp 55) (.tmp 58) _ _ _ 16 rfl Tryz.underlying212 (zbp (k + 1)) (by rw [Lay.own_size]; rfl) (by omega) (by rw [Lay.own_size]; decide) u3 (l.take i) (.mk op args true ty body) _ rfl rfl (hO.o.ext ff.o) l0.o (nlQ hX.o.size ff.o.size) (by have := H.o.2.2.1; rw [ltQ]; omega) ?_
        case' pos =>
         have rC : decide (0 ≤ ty) = true := decide_eq_true fq
         go_wp2_with (at_builtin; refine Hd.o ?_)
         have ul := zk W6 #[.int .i64 ty] 218
         have qg := za W6 (.cells #[.int .i64 ty] 218)
         have wQ := (H6.o.1.ext qg).set 2 (.pointer (some ⟨W6.heap.size, 0, none⟩))
         have xy := H6.o.1.lt
         have p6 := zh (W6.alloc (.cells #[.int .i64 ty] 218)) ⟨h, 2, none⟩ (.pointer (some ⟨W6.heap.size, 0, none⟩))
         have kA : Fr (fun k' => k' = h) W6 _ := Ext.fr qg p6
         have qe := ul.fr p6 (fun e => by have e' : W6.heap.size = h := e; omega)
         have pY := qh (show ((W6.alloc (.cells #[.int .i64 ty] 218)).setCell ⟨h, 2, none⟩ (.pointer (some ⟨W6.heap.size, 0, none⟩))).heap.size = W6.heap.size + 1 from by simp [World.setCell])
         generalize ((W6.alloc (.cells #[.int .i64 ty] 218)).setCell ⟨h, 2, none⟩ (.pointer (some ⟨W6.heap.size, 0, none⟩))) = W8 at *
         have ff := qh (show Ext wo W8 from Ext.trans hq.o (Fr.new (Ext.fr H6.o.2.1 kA) (fun k' e => by have e' : k' = h := e; have := H6.o.2.2.1.2; omega)))
         have l0 := qh (show (Lay.own (k + 1)).rd (fun k' => w.heap.size ≤ k' ∧ k' < W8.heap.size ∧ some k' ≠ u3.ownBlock) W8 (#[Value.iface 333 (.agg #[.int .u8 (op % 256), .slice aN aw az, .pointer (some ⟨W6.heap.size, 0, none⟩), .slice ba bn bc])] : Array Value).toList (.mk op args true ty body) from by
          have hu := hO.o.lt
          have cZ := hX.o.size
          have fI := H1.o.2.2.1.size
          have lX := hV.o.2.2.size
          have eP := H6.o.2.2.1
          have dU := H6.o.2.1.size
          have D4 := kA.size
          have gO := qe.lt
          have ha := hV.o.2.1.slice
          rw [tlQ] at ha
          refine Lay.own_mk_block (Lay.mono _ (Lay.fr ha (Ext.fr H6.o.2.1 kA) (fun k' hk => ⟨hk.2, fun e => by have e' : k' = h := e; omega⟩)) (fun k' hk => ⟨by omega, by omega, fun e => by have := hu k' e.symm; omega⟩)) ?_ ?_
          ·unfold Lay.KindAt
           rw [if_pos fq]
           exact ⟨W6.heap.size, 0, _, _, _, rfl, ⟨by omega, by omega, fun e => by have := hu _ e.symm; omega⟩, qe, rfl⟩
          ·exact Lay.mono _ (Lay.fr H6.o.2.2.2 kA (fun k' hk => ⟨hk.2.1, fun e => hk.2.2 e⟩)) (fun k' hk => ⟨by omega, by omega, fun e => by have := hu k' e.symm; omega⟩))
         clear ul qg wQ xy p6 kA qe uz tD ph mz
         refine yT (Lay.own (k + 1)) w.heap.size (W6.heap.size + 1) pY.o rfl (.tmp 55) (.tmp 58) _ _ _ 16 rfl Tryz.underlying212 (zbp (k + 1)) (by rw [Lay.own_size]; rfl) (by omega) (by rw [Lay.own_size]; decide) u3 (l.take i) (.mk op args true ty body) _ rfl rfl (hO.o.ext ff.o) l0.o (nlQ hX.o.size ff.o.size) (by have := H.o.2.2.1; rw [ltQ]; omega) ?_
        all_goals
         intro v1 w1 h1 h2 h3
         have kK : Hd (Own (Lay.own (k + 1)) 294 w.heap.size w1 v1 (l.take (i + 1))) := by show Own _ _ _ _ _ _; rw [aX.o]; exact h1
         have iE : Hd (Ext w w1) := Fr.new (Ext.fr (Ext.trans hX.o ff.o) h2) (fun k' e => (hO.o.lt k' e.symm).1)
         clear h1 h2 h3 ff l0
         go_wp2
         go_roundw
         case rel => exact ⟨i + 1, by omega, by go_num, kK, iE⟩
         case measure => simp [intOf]; omega
   ·obtain rfl : i = l.length := by omega
    go_wp2
    go_ret
    have := hO.o
    rw [tlQ] at this
    exact ⟨_, rfl, this, hX.o⟩
def zj2 (P : Program) (T t : TypeId) : Bool :=
 match P.underlying t, P.info? T with
 | some (.interface mV), some i => !(mV.toList.filter fun x => !i.methods.any fun m => m.name == x.1 && m.sig == x.2).isEmpty
 | _, _ => false
variable {l : List String}
theorem zb5 (h : l ≠ []) : ∃ m, Instr.least l = some m := by
 cases l with
 | nil => exact absurd rfl h
 | cons a l => exact ⟨_, rfl⟩
theorem zgH (p : String → Bool) (f : String → String) (h : l ≠ []) : ∃ m, (Instr.least (l.partition p).2 <|> Instr.least ((l.partition p).1.map f)) = some m := by
 rw [List.partition_eq_filter_filter]
 by_cases h1 : l.filter (not ∘ p) = []
 ·rw [h1]
  have h2 : l.filter p ≠ [] := by
   intro h2
   apply h
   rw [List.filter_eq_nil_iff] at h1 h2
   cases l with
   | nil => rfl
   | cons a l =>
    have a1 := h1 a (by simp)
    have a2 := h2 a (by simp)
    simp at a1 a2
    simp [a1] at a2
  exact zb5 (by simpa using h2)
 ·obtain ⟨m, hm⟩ := zb5 h1
  exact ⟨m, by show (Instr.least (l.filter (not ∘ p)) <|> _) = _; rw [hm]; rfl⟩
theorem zdE {mV : Array (String × TypeId)} {AV : Array Method} (h : (mV.toList.filter fun x => !AV.any fun m => m.name == x.1 && m.sig == x.2) ≠ []) : ∃ m, Instr.missingMethod mV AV = some m := by
 unfold Instr.missingMethod
 exact zgH _ _ (by simpa using h)
theorem zh7 {P : Program} {T x t : TypeId} {z : Value} (h : zj2 P T t = true) (hz : ∀ W, (zeroValue t).run P W = .ok z W) (v : Value) (W : World) : (Instr.typeAssert (.iface T v) x t true).run P W = .ok (.tuple #[z, .bool false]) W := by
 unfold zj2 at h
 split at h
 ·rename_i mV i hu hi
  obtain ⟨m, hm⟩ := zdE (by simpa using h)
  unfold Instr.typeAssert
  simp [run_underlying hu, typeInfo, hi, hm, hz]
 ·cases h
theorem zb6 (v : Value) (W : World) : (Instr.typeAssert (.iface 21 v) 20 21 true).run Tryz.prog W = .ok (.tuple #[v, .bool true]) W := by kernel_rfl
theorem zb7 (v : Value) (W : World) : (Instr.typeAssert (.iface 2 v) 20 21 true).run Tryz.prog W = .ok (.tuple #[.int .i32 0, .bool false]) W := by kernel_rfl
theorem zb8 (v : Value) (W : World) : (Instr.typeAssert (.iface 2 v) 20 2 true).run Tryz.prog W = .ok (.tuple #[v, .bool true]) W := by kernel_rfl
theorem zbq (v : Value) (W : World) : (Instr.typeAssert (.iface 24 v) 20 21 true).run Tryz.prog W = .ok (.tuple #[.int .i32 0, .bool false]) W := by kernel_rfl
theorem zbr (v : Value) (W : World) : (Instr.typeAssert (.iface 24 v) 20 2 true).run Tryz.prog W = .ok (.tuple #[.int .i64 0, .bool false]) W := by kernel_rfl
theorem zbs (v : Value) (W : World) : (Instr.typeAssert (.iface 24 v) 20 24 true).run Tryz.prog W = .ok (.tuple #[v, .bool true]) W := by kernel_rfl
theorem zbt (v : Value) (W : World) : (Instr.typeAssert (.iface 89 v) 20 21 true).run Tryz.prog W = .ok (.tuple #[.int .i32 0, .bool false]) W := by kernel_rfl
theorem zbu (v : Value) (W : World) : (Instr.typeAssert (.iface 89 v) 20 2 true).run Tryz.prog W = .ok (.tuple #[.int .i64 0, .bool false]) W := by kernel_rfl
theorem zbv (v : Value) (W : World) : (Instr.typeAssert (.iface 89 v) 20 24 true).run Tryz.prog W = .ok (.tuple #[.int .u32 0, .bool false]) W := by kernel_rfl
theorem zbw (v : Value) (W : World) : (Instr.typeAssert (.iface 89 v) 20 89 true).run Tryz.prog W = .ok (.tuple #[v, .bool true]) W := by kernel_rfl
theorem zay (v : Value) (W : World) : (Instr.typeAssert (.iface 373 v) 20 21 true).run Tryz.prog W = .ok (.tuple #[.int .i32 0, .bool false]) W := by kernel_rfl
theorem zaz (v : Value) (W : World) : (Instr.typeAssert (.iface 373 v) 20 2 true).run Tryz.prog W = .ok (.tuple #[.int .i64 0, .bool false]) W := by kernel_rfl
theorem zaA (v : Value) (W : World) : (Instr.typeAssert (.iface 373 v) 20 24 true).run Tryz.prog W = .ok (.tuple #[.int .u32 0, .bool false]) W := by kernel_rfl
theorem zaB (v : Value) (W : World) : (Instr.typeAssert (.iface 373 v) 20 89 true).run Tryz.prog W = .ok (.tuple #[.int .u64 0, .bool false]) W := by kernel_rfl
theorem zaC (v : Value) (W : World) : (Instr.typeAssert (.iface 373 v) 20 373 true).run Tryz.prog W = .ok (.tuple #[v, .bool true]) W := by kernel_rfl
theorem zaD (v : Value) (W : World) : (Instr.typeAssert (.iface 375 v) 20 21 true).run Tryz.prog W = .ok (.tuple #[.int .i32 0, .bool false]) W := by kernel_rfl
theorem zaE (v : Value) (W : World) : (Instr.typeAssert (.iface 375 v) 20 2 true).run Tryz.prog W = .ok (.tuple #[.int .i64 0, .bool false]) W := by kernel_rfl
theorem zaF (v : Value) (W : World) : (Instr.typeAssert (.iface 375 v) 20 24 true).run Tryz.prog W = .ok (.tuple #[.int .u32 0, .bool false]) W := by kernel_rfl
theorem zaG (v : Value) (W : World) : (Instr.typeAssert (.iface 375 v) 20 89 true).run Tryz.prog W = .ok (.tuple #[.int .u64 0, .bool false]) W := by kernel_rfl
theorem zaH (v : Value) (W : World) : (Instr.typeAssert (.iface 375 v) 20 373 true).run Tryz.prog W = .ok (.tuple #[.float .f32 0, .bool false]) W := by kernel_rfl
theorem zaI (v : Value) (W : World) : (Instr.typeAssert (.iface 375 v) 20 375 true).run Tryz.prog W = .ok (.tuple #[v, .bool true]) W := by kernel_rfl
theorem zb9 (v : Value) (W : World) : (Instr.typeAssert (.iface 5 v) 20 21 true).run Tryz.prog W = .ok (.tuple #[.int .i32 0, .bool false]) W := by kernel_rfl
theorem zca (v : Value) (W : World) : (Instr.typeAssert (.iface 5 v) 20 2 true).run Tryz.prog W = .ok (.tuple #[.int .i64 0, .bool false]) W := by kernel_rfl
theorem zcb (v : Value) (W : World) : (Instr.typeAssert (.iface 5 v) 20 24 true).run Tryz.prog W = .ok (.tuple #[.int .u32 0, .bool false]) W := by kernel_rfl
theorem zcc (v : Value) (W : World) : (Instr.typeAssert (.iface 5 v) 20 89 true).run Tryz.prog W = .ok (.tuple #[.int .u64 0, .bool false]) W := by kernel_rfl
theorem zcd (v : Value) (W : World) : (Instr.typeAssert (.iface 5 v) 20 373 true).run Tryz.prog W = .ok (.tuple #[.float .f32 0, .bool false]) W := by kernel_rfl
theorem zce (v : Value) (W : World) : (Instr.typeAssert (.iface 5 v) 20 375 true).run Tryz.prog W = .ok (.tuple #[.float .f64 0, .bool false]) W := by kernel_rfl
theorem zcf (v : Value) (W : World) : (Instr.typeAssert (.iface 5 v) 20 5 true).run Tryz.prog W = .ok (.tuple #[v, .bool true]) W := by kernel_rfl
theorem zj3 (v : Value) (W : World) : (Instr.typeAssert (.iface 330 v) 294 301 true).run Tryz.prog W = .ok (.tuple #[.nilIface, .bool false]) W :=
 zh7 (by kernel_rfl) (fun W => by kernel_rfl) v W
theorem zh8 (v : Value) (W : World) : (Instr.typeAssert (.iface 333 v) 294 301 true).run Tryz.prog W = .ok (.tuple #[.iface 333 v, .bool true]) W := by kernel_rfl
theorem zcg (n : Nat) (w : World) : (callFunc 144 #[.float .f32 n]).run Tryz.prog w = .ok (.value (.int .u32 n)) w := by
 kernel_rfl
theorem zch (n : Nat) (w : World) : (callFunc 145 #[.float .f64 n]).run Tryz.prog w = .ok (.value (.int .u64 n)) w := by
 kernel_rfl
theorem zfE (v : Value) (W : World) : (nilAhead 559 330 v "Op").run Tryz.prog W = .ok (some false) W := by kernel_rfl
theorem zev (a b : Value) (W : World) : (method 559 330 (.agg #[a, b]) "Op").run Tryz.prog W = .ok (218, .agg #[a, b]) W := by kernel_rfl
theorem zfF (v : Value) (W : World) : (nilAhead 559 330 v "ImmediateArgs").run Tryz.prog W = .ok (some false) W := by kernel_rfl
theorem zew (a b : Value) (W : World) : (method 559 330 (.agg #[a, b]) "ImmediateArgs").run Tryz.prog W = .ok (217, .agg #[a, b]) W := by kernel_rfl
theorem zdF (a b c d : Value) (W : World) : (nilAhead 559 333 (.agg #[a, b, c, d]) "Op").run Tryz.prog W = .ok (some false) W := by kernel_rfl
theorem zcJ (a b c d : Value) (W : World) : (method 559 333 (.agg #[a, b, c, d]) "Op").run Tryz.prog W = .ok (218, .agg #[a, b]) W := by kernel_rfl
theorem zdG (a b c d : Value) (W : World) : (nilAhead 559 333 (.agg #[a, b, c, d]) "ImmediateArgs").run Tryz.prog W = .ok (some false) W := by kernel_rfl
theorem zcK (a b c d : Value) (W : World) : (method 559 333 (.agg #[a, b, c, d]) "ImmediateArgs").run Tryz.prog W = .ok (217, .agg #[a, b]) W := by kernel_rfl
theorem zdH (a b c d : Value) (W : World) : (nilAhead 559 333 (.agg #[a, b, c, d]) "BlockType").run Tryz.prog W = .ok (some false) W := by kernel_rfl
theorem zcL (a b c d : Value) (W : World) : (method 559 333 (.agg #[a, b, c, d]) "BlockType").run Tryz.prog W = .ok (219, .agg #[a, b, c, d]) W := by kernel_rfl
theorem zdI (a b c d : Value) (W : World) : (nilAhead 559 333 (.agg #[a, b, c, d]) "Instructions").run Tryz.prog W = .ok (some false) W := by kernel_rfl
theorem zcM (a b c d : Value) (W : World) : (method 559 333 (.agg #[a, b, c, d]) "Instructions").run Tryz.prog W = .ok (220, .agg #[a, b, c, d]) W := by kernel_rfl
theorem zaJ (a b : Value) (w : World) : Calls Tryz.prog 218 #[.agg #[a, b]] w fun e w' => e = .returned a ∧ Ext w w' := by
 go_enter Tryz.func218, Tryz.ntmps218
 go_wp2
 go_ret
 exact ⟨rfl, za _ _⟩
theorem jV (a b : Value) (w : World) : Calls Tryz.prog 217 #[.agg #[a, b]] w fun e w' => e = .returned b ∧ Ext w w' := by
 go_enter Tryz.func217, Tryz.ntmps217
 go_wp2
 go_ret
 exact ⟨rfl, za _ _⟩
theorem Z2 (a b c d : Value) (w : World) : Calls Tryz.prog 219 #[.agg #[a, b, c, d]] w fun e w' => e = .returned c ∧ Ext w w' := by
 go_enter Tryz.func219, Tryz.ntmps219
 go_wp2
 go_ret
 exact ⟨rfl, za _ _⟩
theorem Zh (a b c d : Value) (w : World) : Calls Tryz.prog 220 #[.agg #[a, b, c, d]] w fun e w' => e = .returned d ∧ Ext w w' := by
 go_enter Tryz.func220, Tryz.ntmps220
 go_wp2
 go_ret
 exact ⟨rfl, za _ _⟩
end Go.Proofs.YtejgninpjhcgnaaGreatDoor
