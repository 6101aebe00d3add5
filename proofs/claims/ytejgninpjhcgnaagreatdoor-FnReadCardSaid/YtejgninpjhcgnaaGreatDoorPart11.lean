/- Texts of this proof, one behind the other. -/
import Derived.Test.YtejgninpjhcgnaaGreatDoorPart10
namespace Go.Proofs.YtejgninpjhcgnaaGreatDoor
open Go.RowKit
set_option linter.unusedSimpArgs false
set_option linter.unusedVariables false
set_option maxRecDepth 100000
set_option maxHeartbeats 8000000
theorem zit : (Tryz.prog.info? 234).map (fun i => (i.zero, i.size, i.bytes)) = some (some (.agg #[.int .u32 0, .int .u32 0, .string ⟨#[]⟩]), Lay.nam.size, 32) := by kernel_rfl
variable {α : Type}
theorem zei {p : List UInt8 → PR α} {P : α → Prop} (hp : ∀ bs x r, p bs = .ok x r → P x) : ∀ {n : Nat} {bs r : List UInt8} {xs : List α}, pRep p n bs = .ok xs r → ∀ x ∈ xs, P x
 | 0, bs, r, xs, h => by injection h with h1 h2; rw [← h1]; intro x hx; cases hx
 | n + 1, bs, r, xs, h => by
  rw [ja] at h
  cases h1 : p bs with
  | ok x r1 =>
   rw [h1, PR.bind_ok] at h
   cases h2 : pRep p n r1 with
   | ok ys r2 =>
    rw [h2, PR.bind_ok] at h
    injection h with h3 h4
    rw [← h3]
    intro z hz
    rcases List.mem_cons.1 hz with rfl | hz
    ·exact hp _ _ _ h1
    ·exact zei hp h2 z hz
   | bad => rw [h2] at h; cases h
   | any => rw [h2] at h; cases h
  | bad => rw [h1] at h; cases h
  | any => rw [h1] at h; cases h
variable {f : UInt32} {bs r : List UInt8}
theorem ziu {x : Nam} (h : pNam f bs = .ok x r) : x.fn = f := by
 rw [pNam.eq_1] at h
 cases hp : pNum bs with
 | ok n r' =>
  rw [hp, PR.bind_ok] at h
  cases hq : zR r' with
  | ok l r2 => rw [hq, PR.bind_ok] at h; injection h with h1 h2; rw [← h1]
  | bad => rw [hq] at h; cases h
  | any => rw [hq] at h; cases h
 | bad => rw [hp] at h; cases h
 | any => rw [hp] at h; cases h
theorem zeG {xs : List Nam} (h : pVec (pNam f) bs = .ok xs r) : ∀ x ∈ xs, x.fn = f := by
 unfold pVec at h
 cases hp : pNum bs with
 | ok n r' => rw [hp, PR.bind_ok] at h; exact zei (fun _ _ _ => ziu) h
 | bad => rw [hp] at h; cases h
 | any => rw [hp] at h; cases h
structure NlSt (S : Rdr) (D F : Nat → Prop) (g : Nat) (pe pu : Addr) (L b o : Nat) (cs : Array Value) (T : TypeId) (lo : Nat) (v0 : Value) (w : World) (r : List UInt8) (va : Value) (xs : List Nam) (W : World) : Prop where
 rx : RdX S D F g pe pu L r W
 blk : Blk W b (cs.setIfInBounds (o + 2) va) T
 row : OwnG Lay.nam 234 lo (fun _ => True) W va xs
 fr : Fr (fun k => F k ∨ k = b ∨ some k = v0.ownBlock) w W
 own : ∀ k, va.ownBlock = some k → (¬ F k ∧ ¬ D k ∧ ¬ k = b ∧ L ≤ k) ∧ (v0.ownBlock = some k ∨ w.heap.size ≤ k)
section
variable {S : Rdr} {D F : Nat → Prop} {g : Nat} {pe pu : Addr} {L b o : Nat} {cs : Array Value} {T : TypeId} {lo : Nat} {v0 : Value} {w W W' : World} {r r' : List UInt8} {va vb : Value} {xs ys : List Nam}
theorem NlSt.read (h : NlSt S D F g pe pu L b o cs T lo v0 w r va xs W) (hb : ¬ F b) (h1 : RdX S D F g pe pu L r' W') (hf : Fr F W W') : NlSt S D F g pe pu L b o cs T lo v0 w r' va xs W' :=
 ⟨h1, h.blk.fr hf hb, h.row.frFlat z7 hf (fun k hk e => (h.own k hk).1.1 e), Fr.trans h.fr hf (fun _ _ e => e) (fun _ _ e => .inl e), h.own⟩
theorem NlSt.ext (h : NlSt S D F g pe pu L b o cs T lo v0 w r va xs W) (hx : Ext W W') : NlSt S D F g pe pu L b o cs T lo v0 w r va xs W' :=
 ⟨h.rx.ext hx, h.blk.ext hx, h.row.ext hx, h.fr.ext hx, h.own⟩
theorem NlSt.grown (h : NlSt S D F g pe pu L b o cs T lo v0 w r va xs W) (hw : w.heap.size ≤ W.heap.size) (h2 : Fr (fun k => some k = va.ownBlock) W W') :
 RdX S D F g pe pu L r W' ∧ Blk W' b (cs.setIfInBounds (o + 2) va) T ∧ Fr (fun k => F k ∨ k = b ∨ some k = v0.ownBlock) w W' :=
 ⟨h.rx.fr h2 (fun k e => (h.own k e.symm).1.2.2.2) (fun k hk e => (h.own k e.symm).1.1 hk) (fun k hk e => (h.own k e.symm).1.2.1 hk), h.blk.fr h2 (fun e => (h.own b e.symm).1.2.2.1 rfl),
  Fr.trans h.fr h2 (fun _ _ e => e) (fun k hk e => (h.own k e.symm).2.elim (fun q => .inr (.inr q.symm)) (fun q => by omega))⟩
theorem NlSt.set (h : NlSt S D F g pe pu L b o cs T lo v0 w r va xs W) (hF : ¬ F b) (hD : ¬ D b) (hL : L ≤ b) (B3 : ∀ k, vb.ownBlock = some k → ¬ k = b)
 (hg : RdX S D F g pe pu L r W' ∧ Blk W' b (cs.setIfInBounds (o + 2) va) T ∧ Fr (fun k => F k ∨ k = b ∨ some k = v0.ownBlock) w W') (h1 : OwnG Lay.nam 234 lo (fun _ => True) W' vb ys)
 (aj : ∀ k, F k ∨ D k ∨ k = b → k < W.heap.size) (DW : L ≤ W.heap.size) (hw : w.heap.size ≤ W.heap.size) (ho : ∀ k, vb.ownBlock = some k → va.ownBlock = some k ∨ W.heap.size ≤ k) : NlSt S D F g pe pu L b o cs T lo v0 w r vb ys (W'.setCell ⟨b, o + 2, none⟩ vb) := by
 have hs := zf W' ⟨b, o + 2, none⟩ vb
 refine ⟨hg.1.fr hs (fun k e => by have e' : k = b := e; rw [e']; exact hL) (fun k hk e => by have e' : k = b := e; subst e'; exact hF hk) (fun k hk e => by have e' : k = b := e; subst e'; exact hD hk), ?_, h1.frFlat z7 hs (fun k hk e => B3 k hk e), Fr.trans hg.2.2 hs (fun _ _ e => e) (fun _ _ e => .inr (.inl e)), fun k hk => ?_⟩
 ·have := hg.2.1.set (o + 2) vb
  rwa [Z3] at this
 ·rcases ho k hk with q | q
  ·exact h.own k q
  ·exact ⟨⟨fun e => by have := aj k (.inl e); omega, fun e => by have := aj k (.inr (.inl e)); omega, fun e => by have := aj k (.inr (.inr e)); omega, by omega⟩, .inr (by omega)⟩
end
theorem ziv (S : Rdr) (D F : Nat → Prop) (g : Nat) (pe pu : Addr) (L : Nat) (bs : List UInt8) (w : World) (h : RdX S D F g pe pu L bs w) (b o : Nat) (cs : Array Value) (T : TypeId) (hB : Blk w b cs T) (hF : ¬ F b) (hD : ¬ D b) (hb : L ≤ b) (ag : zaJ bs ≠ .any)
 (lo : Nat) (v0 : Value) (gX : List Nam) (iP : cs[o + 2]? = some v0) (hR : OwnG Lay.nam 234 lo (fun _ => True) w v0 gX) (bj : lo ≤ w.heap.size) (c8 : b < lo) (ah : ∀ k, v0.ownBlock = some k → ¬ F k ∧ ¬ D k ∧ ¬ k = b ∧ L ≤ k) (aT : gX.length + bs.length ≤ 1099511627776) :
 Calls Tryz.prog 166 #[.iface S.T (.pointer (some ⟨g, 0, none⟩)), .pointer (some ⟨b, o, none⟩)] w fun e w' => ∃ ls r va, zaJ bs = .ok ls r ∧ e = .returned .nilIface ∧ NlSt S D F g pe pu L b o cs T lo v0 w r va (gX ++ ls) w' := by
 have H0 : Hq (NlSt S D F g pe pu L b o cs T lo v0 w bs v0 gX w) := ⟨h, by rw [Jj iP]; exact hB, hR, Fr.refl _ _, fun k hk => ⟨ah k hk, .inl hk⟩⟩
 have lV : pVec Jv bs ≠ .any := PR.stepNe (zaJ.eq_1 bs) ag
 have HC := qh (jS S D F g pe pu L bs w h (PR.ne_any lV))
 have lp := qh (anQ hF (anQ hD (anQ hb (anQ c8 (anQ bj (anQ aT (anQ (S.lt h.is) h.sp.lw)))))))
 have lV := qh lV
 have iP := qh iP
 clear h hB hF hD hb hR bj c8 ah aT ag
 go_enter Tryz.func166, Tryz.ntmps166
 go_wp2_with fail
 refine HC.o.mono ?_
 rintro e w1 ⟨n, rest, hr, rfl, h1, h2⟩
 have hp := qh (show pVec Jv bs = pRep Jv n.toNat rest from by unfold pVec; rw [hr]; rfl)
 have ey := qh (show pRep Jv n.toNat rest ≠ .any from by rw [← hp.o]; exact lV.o)
 have uo := qh (jx hr)
 have eZ := n.toNat_lt
 have H1 := qh (H0.o.read lp.o.1 h1 h2)
 generalize n.toNat = m at *
 clear h1 h2 hr HC lV
 go_wp2_with fail
 go_loopw [21] (fun iM w' => ∃ (i : Nat), i ≤ m ∧ iM = .int .u32 i ∧ Hq (∃ (ls : List (List Nam)) (r : List UInt8) (va : Value), pRep Jv i rest = .ok ls r ∧ ls.flatten.length + r.length ≤ rest.length ∧ NlSt S D F g pe pu L b o cs T lo v0 w r va (gX ++ ls.flatten) w')) (fun iM _ => m - (intOf iM).toNat)
 case atStart => exact ⟨0, nzQ _, rfl, [], rest, v0, rfl, by simp, by simpa using H1.o⟩
 case round =>
  obtain ⟨i, hi, rfl, hV⟩ := hrel
  by_cases aj : i < m
  ·obtain ⟨ls, r, va, q1, q2, q3⟩ := hV.o
   have HV := qh (anQ q1 (anQ q2 q3))
   have iD := qh (yE q1 aj ey.o)
   have iB := qh (Jv.eq_1 r)
   clear hV q1 q2 q3
   go_wp2_with fail
   refine (jS S D F g pe pu L r wr HV.o.2.2.rx (PR.stepNe iB.o iD.o)).mono ?_
   rintro e w2 ⟨fn, r2, aY, rfl, k1, k4⟩
   have kC := qh (PR.step iB.o aY)
   have qH := fn.toNat_lt
   have H2 := qh (HV.o.2.2.read lp.o.1 k1 k4)
   clear k1 k4 aY
   go_wp2_with fail
   refine (zcP fn r2 w2 H2.o.rx (by rw [← kC.o]; exact iD.o)).mono ?_
   rintro e w3 ⟨ns, r3, gb, mu, rfl, k1, k2, k3, k4⟩
   have mI := qh (show Jv r = .ok ns r3 from kC.o.trans mu)
   have gz := qh (show gX.length + ls.flatten.length + ns.length ≤ 1099511627776 from by
    have q1 := YQ mI.o
    have q2 := HV.o.2.1
    have q3 := uo.o
    have q4 := lp.o.2.2.2.2.2.1
    omega)
   have De := qh k3
   have H3 : Hq (NlSt S D F g pe pu L b o cs T lo v0 w r3 va (gX ++ ls.flatten) w3 ∧ Lay.enam.slice.rd (aN w2 w3) w3 [.slice (some ⟨gb, 0, none⟩) ns.length ns.length] ns ∧ ∀ k, va.ownBlock = some k → k < w2.heap.size) := ⟨H2.o.read lp.o.1 k1 k4, k2, fun k hk => (H2.o.row.lt k hk).2⟩
   have Dw := qh k4.size
   have eW := qh H2.o.fr.size
   have ff : (ns.length : Int) ≤ 4294967296 := by omega
   clear k1 k2 k3 k4 mu H2
   go_wp2_with fail
   go_loopw [41] (fun qA w' => ∃ (j : Nat), j ≤ ns.length ∧ qA = .int .i64 j ∧ Hq (∃ (vb : Value), NlSt S D F g pe pu L b o cs T lo v0 w r3 vb (gX ++ ls.flatten ++ ns.take j) w' ∧ Lay.enam.slice.rd (aN w2 w3) w' [.slice (some ⟨gb, 0, none⟩) ns.length ns.length] ns ∧ (∀ k, vb.ownBlock = some k → k < w2.heap.size ∨ w3.heap.size ≤ k) ∧ w3.heap.size ≤ w'.heap.size)) (fun qA _ => ns.length - (intOf qA).toNat)
   case atStart => exact ⟨0, nzQ _, rfl, va, by simpa using H3.o.1, H3.o.2.1, fun k hk => .inl (H3.o.2.2 k hk), Nat.le_refl _⟩
   case round =>
    obtain ⟨j, hj, rfl, hU⟩ := hrel
    by_cases hjl : j < ns.length
    ·obtain ⟨vb, p1, p2, p3, p4⟩ := hU.o
     obtain ⟨ap, am, ar, rfl⟩ := p1.row.shape
     obtain ⟨Di, o', es, he, hA, mF, oR, km⟩ := zb5 p2 j hjl
     simp only [Option.some.injEq, Addr.mk.injEq, and_true] at he
     obtain ⟨rfl, rfl⟩ := he
     obtain ⟨_, _, rfl, rfl, rfl, l6⟩ := oR
     have dr := km 0 (by show 0 < 2; omega)
     have cw := km 1 (by show 1 < 2; omega)
     simp only [Nat.zero_add, Nat.add_zero] at dr cw
     rw [show Lay.enam.size = 2 from rfl] at dr cw
     simp only [List.cons_append, List.nil_append, List.getElem?_cons_zero, List.getElem?_cons_succ] at dr cw
     obtain ⟨nx, na⟩ := exQ (ns[j])
     have bU : Hq (ns.take (j + 1) = ns.take j ++ [nx]) := by show _ = _; rw [tsQ hjl, na]
     have cr := qh (show (zd nx.name).size ≤ maxLen from by rw [← na]; exact l6)
     have wR := qh (show nx.fn = fn from by rw [← na]; exact zeG (kC.o.symm.trans mI.o) _ (List.getElem_mem hjl))
     rw [na] at dr cw
     have DN := nx.idx.toNat_lt
     have dH : Hq ((gX ++ ls.flatten ++ ns.take j).length ≤ 1099511627776) := by
      have := gz.o
      show _ ≤ _
      rw [laQ, laQ, ltQ]
      omega
     obtain ⟨gm, ir⟩ := exQ (wr.heap.size)
     have pC : Hq (¬ gm = b ∧ b < w.heap.size ∧ ∀ k, (Value.slice ap am ar).ownBlock = some k → k < gm ∧ ¬ k = b) := ⟨by have := p1.blk.lt; omega, by have := lp.o.2.2.2.1; have := lp.o.2.2.2.2.1; omega, fun k hk => ⟨by rw [← ir]; exact (p1.row.lt k hk).2, (p1.own k hk).1.2.2.1⟩⟩
     have HE : Hq (Blk (wr.alloc (.cells #[.int .u32 (nx.idx.toNat : Int), .string (zd nx.name)] 232)) gm #[.int .u32 (nx.idx.toNat : Int), .string (zd nx.name)] 232) := by rw [← ir]; exact zl _ _ _
     have bP := za wr (.cells #[.int .u32 (nx.idx.toNat : Int), .string (zd nx.name)] 232)
     have HU : Hq (NlSt S D F g pe pu L b o cs T lo v0 w r3 (.slice ap am ar) (gX ++ ls.flatten ++ ns.take j) (wr.alloc (.cells #[.int .u32 (nx.idx.toNat : Int), .string (zd nx.name)] 232)) ∧ Lay.enam.slice.rd (aN w2 w3) (wr.alloc (.cells #[.int .u32 (nx.idx.toNat : Int), .string (zd nx.name)] 232)) [.slice (some ⟨gb, 0, none⟩) ns.length ns.length] ns ∧ (∀ k, (Value.slice ap am ar).ownBlock = some k → k < w2.heap.size ∨ w3.heap.size ≤ k) ∧ w3.heap.size ≤ (wr.alloc (.cells #[.int .u32 (nx.idx.toNat : Int), .string (zd nx.name)] 232)).heap.size) := ⟨p1.ext bP, Lay.fr p2 bP (fun k hk => ⟨nqQ hk.2 p4, fun q => q⟩), p3, nlQ p4 bP.size⟩
     clear p1 p2 p3 p4 hU km bP l6 hA mF
     go_wp2_with fail
     generalize wr.alloc (.cells #[.int .u32 (nx.idx.toNat : Int), .string (zd nx.name)] 232) = Wm at *
     clear dr cw
     refine zj (yX (fun k => ¬ (k = b ∨ k = gm))) [kT 0, kT 1, kT 2, kT 3, kT 4, kT 5, kT 6, kT 7, kT 8, kT 9, kT 10, kT 11, kR 12, kR 13, kT 14, kT 15, kL 16] (by kernel_rfl) (by kernel_rfl) ?_
     simp only [zx, gzQ, gsQ]
     have HD : Hq (NlSt S D F g pe pu L b o cs T lo v0 w r3 (.slice ap am ar) (gX ++ ls.flatten ++ ns.take j) Wm.drew ∧ Lay.enam.slice.rd (aN w2 w3) Wm.drew [.slice (some ⟨gb, 0, none⟩) ns.length ns.length] ns ∧ (∀ k, (Value.slice ap am ar).ownBlock = some k → k < w2.heap.size ∨ w3.heap.size ≤ k) ∧ w3.heap.size ≤ Wm.drew.heap.size ∧ Blk Wm.drew gm #[.int .u32 (nx.idx.toNat : Int), .string (zd nx.name)] 232) := ⟨HU.o.1.ext (zb _), Lay.fr HU.o.2.1 (zb _) (fun k hk => ⟨nqQ hk.2 HU.o.2.2.2, fun q => q⟩), HU.o.2.2.1, HU.o.2.2.2, HE.o.ext (zb _)⟩
     clear HU HE
     generalize Wm.drew = Wd at *
     have HC := qh (fun W' (h : Fr (fun k => ¬ (k = b ∨ k = gm)) Wd W') => anQ (((HD.o.1.blk.fr h (fun e => e (.inl rfl))).cell (o + 2)).trans (jn iP.o)) (HD.o.2.2.2.2.fr h (fun e => e (.inr rfl))).cell)
     repeat (apply item_take; rfl; rfl; rfl; rfl; exact fun _ _ _ _ h => h; (intro W e _ k; obtain ⟨q, q2⟩ := HC.o W e; go_simp; exact k))
     apply zg; rfl; intro K hK; go_simp
     refine hK _ _ (za _ _).to ?_
     clear hK K
     apply zg; rfl; intro K hK
     refine zu Lay.nam lo (.tmp 49) (.tmp 57) _ _ _ 32 rfl Tryz.underlying190 zit rfl (by omega) (by decide) (.slice ap am ar) (gX ++ ls.flatten ++ ns.take j) nx _ rfl rfl HD.o.1.row ?_ ?_ ?_ ?_
     ·exact ⟨[_], [_, _], rfl, by show [Value.int .u32 _] = [Value.int .u32 (nx.fn.toNat : Int)]; rw [wR.o], [_], [_], rfl, rfl, rfl, cr.o⟩
     ·have := lp.o.2.2.2.2.1; have := HD.o.1.fr.size; omega
     ·have := dH.o; omega
     intro v1 Wa h1 h2 h3 h4
     refine hK _ _ (h3.mono (fun k _ e e2 => by
      have q := pC.o.2.2 k e.symm
      rcases e2 with e2 | e2
      ·exact q.2 e2
      ·omega)) ?_
     clear hK K
     obtain ⟨az, aR, aO, rfl⟩ := h1.shape
     have sd : w.heap.size ≤ Wd.heap.size := HD.o.1.fr.size
     have HA := HD.o.1.grown sd h2
     have ii := (HA.2.1.cell (o + 2)).trans (jn iP.o)
     have il := HA.2.1.frz (o + 2)
     have h6 : Hq (NlSt S D F g pe pu L b o cs T lo v0 w r3 (.slice az aR aO) (gX ++ ls.flatten ++ ns.take (j + 1)) (Wa.setCell ⟨b, o + 2, none⟩ (.slice az aR aO)) ∧ Lay.enam.slice.rd (aN w2 w3) (Wa.setCell ⟨b, o + 2, none⟩ (.slice az aR aO)) [.slice (some ⟨gb, 0, none⟩) ns.length ns.length] ns ∧ (∀ k, (Value.slice az aR aO).ownBlock = some k → k < w2.heap.size ∨ w3.heap.size ≤ k) ∧ w3.heap.size ≤ (Wa.setCell ⟨b, o + 2, none⟩ (.slice az aR aO)).heap.size) := by
      have th := lp.o.2.2.2.2.2.2.1
      have mF := pC.o.2.1
      rw [bU.o, ← List.append_assoc]
      refine ⟨HD.o.1.set lp.o.1 lp.o.2.1 lp.o.2.2.1 (fun k hk => ?_) HA h1 (fun k hk => ?_) (nlQ lp.o.2.2.2.2.2.2.2 sd) sd h4, ?_, fun k hk => ?_, ?_⟩
      ·rcases h4 k hk with q | q
       ·exact (pC.o.2.2 k q).2
       ·omega
      ·rcases hk with q | q | q
       ·have := th.2.1 k q; omega
       ·have := (th.2.2 k q).1; omega
       ·omega
      ·refine Lay.fr (Lay.fr HD.o.2.1 h2 (fun k hk => ⟨nqQ hk.2 HD.o.2.2.2.1, fun e => ?_⟩)) (zf Wa ⟨b, o + 2, none⟩ (.slice az aR aO)) (fun k hk => ⟨nqQ hk.2 (nlQ HD.o.2.2.2.1 h2.size), fun e => ?_⟩)
       ·have := HD.o.2.2.1 k e.symm
        have := hk.1
        have := hk.2
        omega
       ·have e' : k = b := e
        have := hk.1
        have := eW.o
        omega
      ·rcases h4 k hk with q | q
       ·exact HD.o.2.2.1 k q
       ·exact .inr (nlQ HD.o.2.2.2.1 q)
      ·have := h2.size
       have := HD.o.2.2.2.1
       simp
       omega
     clear h1 h2 h3 h4 HA HD
     repeat (apply item_take; rfl; rfl; rfl; rfl; exact fun _ _ _ _ h => h; (intro _ _ _ k; go_simp; exact k))
     apply zn; rfl; intro K hK; go_simp
     refine hK _ _ ?_
     clear hK K ii il
     apply zm
     go_wp2
     go_roundw
     case rel => exact ⟨j + 1, by omega, by go_num, _, h6.o⟩
     case measure => simp [intOf]; omega
    ·obtain rfl : j = ns.length := by omega
     obtain ⟨vb, p1, p2, p3, p4⟩ := hU.o
     have HU : Hq (NlSt S D F g pe pu L b o cs T lo v0 w r3 vb (gX ++ (ls ++ [ns]).flatten) wr) := by
      rw [tlQ] at p1
      have e : (ls ++ [ns]).flatten = ls.flatten ++ ns := by simp
      rw [e, ← List.append_assoc]
      exact p1
     have cV := qh (yu HV.o.1 mI.o)
     have ev := qh (Zc (fun _ _ _ => YQ) cV.o)
     clear hU p1 p2 p3 p4
     go_wp2
     go_roundw
     case rel => exact ⟨i + 1, by omega, by go_num, _, r3, vb, cV.o, ev.o, HU.o⟩
     case measure => simp [intOf]; omega
  ·obtain rfl : i = m := by omega
   obtain ⟨ls, r, va, q1, q2, q3⟩ := hV.o
   have HV := qh (anQ q1 q3)
   clear hV q1 q2 q3
   go_wp2
   go_ret
   refine ⟨ls.flatten, r, va, ?_, rfl, HV.o.2⟩
   rw [zaJ.eq_1, hp.o, HV.o.1]
   rfl
def zcQ (D F : Nat → Prop) (g : Nat) (bs : List UInt8) (w : World) : Prop :=
 (∃ (aa : Option Addr) (al : List UInt8) (cap off : Nat) (pr : Int), Blk w g #[.slice aa al.length cap, .int .i64 off, .int .i64 pr] 399 ∧ Lay.u8.slice.rd D w [.slice aa al.length cap] al ∧ off ≤ al.length ∧ bs = al.drop off ∧ ∀ k, D k → k < w.heap.size ∧ k ≠ g) ∧ ∀ k, F k ↔ k = g
variable {D F : Nat → Prop} {g : Nat} {w w' : World} {S : Nat → Prop}
theorem zcQ.frame (h : zcQ D F g bs w) (hf : Fr S w w') (hF : ∀ k, F k → ¬ S k) (hD : ∀ k, D k → ¬ S k) : zcQ D F g bs w' := by
 obtain ⟨⟨aa, al, cap, off, lr, hb, h1, h2, h3, h4⟩, fh⟩ := h
 exact ⟨⟨aa, al, cap, off, lr, hb.fr hf (hF g ((fh g).2 rfl)), Lay.fr h1 hf (fun k hk => ⟨(h4 k hk).1, hD k hk⟩), h2, h3, fun k hk => ⟨nqQ (h4 k hk).1 hf.size, (h4 k hk).2⟩⟩, fh⟩
theorem zcR (D F : Nat → Prop) (g b o m c : Nat) (v : Value) (w : World) (h : zcQ D F g [] w) (hv : w.cell? js = some v) :
 Calls Tryz.prog 222 #[.pointer (some ⟨g, 0, none⟩), .slice (some ⟨b, o, none⟩) m c] w fun e w' => e = .returned (.tuple #[.int .i64 0, v]) ∧ zcQ D F g [] w' ∧ Fr F w w' := by
 have HI := qh h
 obtain ⟨⟨aa, al, cap, off, lr, hb, h1, h2, h3, h4⟩, fh⟩ := h
 have bj : al.length = off := by have := congrArg List.length h3; rw [ldQ] at this; simp at this; omega
 have hc := hb.cell
 have d0 : decide ((al.length : Int) ≤ (off : Int)) = true := decide_eq_true (by omega)
 have d1 : decide (al.length ≤ off) = true := decide_eq_true (by omega)
 have bj := qh bj
 have gY : ∀ n, (w.drewN n).cell? js = some v := fun n => hv
 clear h1 h2 h3 h4 fh hb
 go_enter Tryz.func222, Tryz.ntmps222
 go_wp2_with fail
 go_quiet (fail)
 have df := qh (show Ext w (w.drewN nq) from (Fr.refl _ w).drewN _)
 have iP := gY nq
 clear hc gY
 generalize w.drewN nq = W0 at *
 have Dq : ∀ n, (W0.drewN n).cell? js = some v := fun n => iP
 go_wp2_with fail
 go_quiet (fail)
 go_wp2
 go_ret2
 have hx : Ext w (W0.drewN nq) := df.o.trans ((Fr.refl _ W0).drewN _)
 exact ⟨rfl, HI.o.frame hx (fun _ _ h => h) (fun _ _ h => h), hx.to⟩
theorem zb6 (D F : Nat → Prop) (g b o m c : Nat) (bs : List UInt8) (cs : Array Value) (Tb : TypeId) (w : World) (h : zcQ D F g bs w) (hB : Blk w b cs Tb) (cr : o + m ≤ cs.size) (iW : m ≤ c) (cn : c ≤ maxLen) (Ap : ¬ F b) (hD : ¬ D b) (hm : 0 < m) (bz : 0 < bs.length) :
 Calls Tryz.prog 222 #[.pointer (some ⟨g, 0, none⟩), .slice (some ⟨b, o, none⟩) m c] w fun e w' => ∃ n : Nat, 0 < n ∧ n ≤ m ∧ n ≤ bs.length ∧ e = .returned (.tuple #[.int .i64 n, .nilIface]) ∧ zcQ D F g (bs.drop n) w' ∧
  Fr (fun k => F k ∨ k = b) w w' ∧ Blk w' b (splice cs.toList o (zC (bs.take n))).toArray Tb := by
 obtain ⟨⟨aa, al, cap, off, lr, hb, h1, h2, h3, h4⟩, fh⟩ := h
 have bj : bs.length = al.length - off := by rw [h3, ldQ]
 have ag : ¬ b = g := fun e => Ap ((fh b).2 e)
 have bd : al.length ≤ cap ∧ cap ≤ maxLen := by
  obtain ⟨_, _, e, h5, h6, _⟩ := id h1
  simp only [List.cons.injEq, Value.slice.injEq, and_true] at e
  obtain ⟨-, -, rfl⟩ := e
  exact ⟨h5, h6⟩
 have kQ : (c : Int) ≤ 9223372036854775807 := by simp only [maxLen] at cn; omega
 have AA : (cap : Int) ≤ 9223372036854775807 := by have := bd.2; simp only [maxLen] at this; omega
 have kI := bd.1
 have hc := hb.cell
 have hf := hb.frz
 have H := qh (anQ hb (anQ h1 (anQ h4 (anQ fh (anQ bj (anQ ag (anQ hB (anQ cr (anQ hD h3)))))))))
 have BM : off < al.length := by omega
 have d0 : decide ((al.length : Int) ≤ (off : Int)) = false := decide_eq_false (by omega)
 have d1 : decide (al.length ≤ off) = false := decide_eq_false (by omega)
 clear h1 h3 h4 fh hb hB cr hD Ap bd
 go_enter Tryz.func222, Tryz.ntmps222
 go_wp2_with fail
 go_quiet (fail)
 have dS := qh (H.o.1.ext ((Fr.refl _ w).drewN nq))
 have BA := qh (show Ext w (w.drewN nq) from (Fr.refl _ w).drewN nq)
 clear hc hf
 generalize w.drewN nq = W0 at *
 have hc := dS.o.cell
 have hf := dS.o.frz
 go_wp2_with fail
 have de : Blk (W0.setCell ⟨g, 2, none⟩ (.int .i64 (-1))) g #[.slice aa al.length cap, .int .i64 off, .int .i64 (-1)] 399 := by
  have := dS.o.set 2 (.int .i64 (-1))
  simpa using this
 have kO := Ext.fr BA.o (zf W0 ⟨g, 2, none⟩ (.int .i64 (-1)))
 generalize (W0.setCell ⟨g, 2, none⟩ (.int .i64 (-1))) = w1 at *
 have H1 := qh (anQ de (show Fr (fun k => k = g) w w1 from kO))
 clear de kO hc hf
 refine zj (yX (fun k => k = b)) [kT 0, kT 1, kT 2, kT 3, kT 4, kT 5, kT 6, kT 7, kT 8, kT 9, kL 10, kT 11] (by kernel_rfl) (by kernel_rfl) ?_
 simp only [zx, gzQ, gsQ]
 have HC : Hq (∀ W', Fr (fun k => k = b) w1.drew W' → ∀ j, W'.cell? ⟨g, j, none⟩ = (#[Value.slice aa al.length cap, .int .i64 off, .int .i64 (-1)] : Array Value)[j]?) := fun W' hE => (H1.o.1.fr ((zb w1).fr hE) (fun e => H.o.2.2.2.2.2.1 e.symm)).cell
 repeat (apply item_take; rfl; rfl; rfl; rfl; exact fun _ _ _ _ h => h; (intro W e _ k; have q := HC.o W e; go_simp; exact k))
 rw [if_neg (show ¬ cap = off by omega), ← H.o.2.2.2.2.1]
 have cz := qh ((H.o.2.2.2.2.2.2.1).fr (H1.o.2.drew) H.o.2.2.2.2.2.1)
 have lu := qh (show Lay.u8.slice.rd D w1.drew [.slice (aa.map (·.add off)) bs.length (cap - off)] bs from by
  have := zbT H.o.2.1 h2
  rw [← H.o.2.2.2.2.2.2.2.2.2] at this
  exact Lay.fr this H1.o.2.drew (fun k hk => H.o.2.2.1 k hk))
 apply zn; rfl; intro K hK
 refine zds (.tmp 20) (.tmp 29) 22 22 5 rfl Tryz.underlying22 (by kernel_rfl) b o m c cs Tb _ _ bs rfl rfl cz.o H.o.2.2.2.2.2.2.2.1 lu.o ?_
 intro w2 bi dI
 refine hK _ _ ?_
 have H2 := qh (anQ bi (Fr.trans H1.o.2 ((zb w1).fr dI) (U := fun k => k = g ∨ k = b) (fun _ _ h => .inl h) (fun _ _ h => .inr h)))
 have eG : (bs.take m).length ≤ m := by rw [ltQ]; omega
 have fy : (bs.take m).length ≤ bs.length := by rw [ltQ]; omega
 have pi : 0 < (bs.take m).length := by rw [ltQ]; omega
 have mL : Hq (bs.take m = bs.take (bs.take m).length) := by show _ = _; rw [ltQ]; rcases Nat.le_total m bs.length with h | h; rw [Nat.min_eq_left h]; rw [Nat.min_eq_right h, List.take_of_length_le h, tlQ]
 generalize (bs.take m).length = n at *
 have iL := H1.o.1.fr ((zb w1).fr dI) (fun e => H.o.2.2.2.2.2.1 e.symm)
 have cw := iL.cell
 have fj := iL.frz
 have HG := qh iL
 have Cp := H.o.2.2.2.2.1
 clear hK K cz bi dI HC iL
 repeat (apply item_take; rfl; rfl; rfl; rfl; exact fun _ _ _ _ h => h; (intro _ _ _ k; go_simp; exact k))
 apply zm
 have ru : wrap64 ((off : Int) + (n : Int)) = ((off + n : Nat) : Int) := by unfold wrap64; omega
 have vw : IntKind.i64.wrap ((off : Int) + (n : Int)) = ((off + n : Nat) : Int) := by rw [IntKind.wrap_i64]; omega
 have DB : IntKind.i64.wrap (n : Int) = (n : Int) := by rw [IntKind.wrap_i64]; omega
 go_wp2
 go_ret2
 have hs := Fr.setCell (Fr.refl (fun k => k = g) w2) (p := ⟨g, 1, none⟩) (.inl rfl) (.int .i64 ((off : Int) + (n : Int)))
 have hF := Fr.trans H2.o.2 hs (U := fun k => k = g ∨ k = b) (fun _ _ h => h) (fun _ _ h => .inl h)
 refine ⟨n, pi, eG, fy, rfl, ⟨⟨aa, al, cap, off + n, -1, ?_, Lay.fr H.o.2.1 hF (fun k hk => ⟨(H.o.2.2.1 k hk).1, fun e => e.elim (H.o.2.2.1 k hk).2 (fun e => H.o.2.2.2.2.2.2.2.2.1 (e ▸ hk))⟩), by omega, ?_, fun k hk => ⟨nqQ (H.o.2.2.1 k hk).1 hF.size, (H.o.2.2.1 k hk).2⟩⟩, H.o.2.2.2.1⟩, hF.mono (fun k _ e => e.imp (fun e => (H.o.2.2.2.1 k).2 e) id), ?_⟩
 ·have := HG.o.set 1 (.int .i64 ((off + n : Nat) : Int))
  rw [show ((off + n : Nat) : Int) = (off : Int) + (n : Int) from by omega] at this ⊢
  simpa using this
 ·rw [H.o.2.2.2.2.2.2.2.2.2, List.drop_drop]
 ·have := H2.o.1.fr hs H.o.2.2.2.2.2.1
  rw [mL.o] at this; exact this
noncomputable def byrR : Rdr where
 is := zcQ
 lt := fun ⟨⟨aa, al, cap, off, lr, hb, h1, h2, h3, h4⟩, fh⟩ => ⟨(fh _).2 rfl, fun k hk => by obtain rfl := (fh k).1 hk; exact hb.lt, fun k hk => ⟨(h4 k hk).1, fun e => (h4 k hk).2 ((fh k).1 e)⟩⟩
 frame h hf hF hD := h.frame hf hF hD
 T := 343
 f := 222
 nil g W := by kernel_rfl
 meth g W := by kernel_rfl
 call args W := by kernel_rfl
 read D F g b o m c bs cs Tb w h hB cr iW cn hF hD hm bz := zb6 D F g b o m c bs cs Tb w h hB cr iW cn hF hD hm bz
 eof D F g b o m c v w h hv hm rp := zcR D F g b o m c v w h hv
 left g w := match w.cell? ⟨g, 0, none⟩, w.cell? ⟨g, 1, none⟩ with
  | some (.slice _ n _), some (.int _ k) => n - k.toNat
  | _, _ => 0
 left_is := fun ⟨⟨aa, al, cap, off, lr, hb, h1, h2, h3, h4⟩, fh⟩ => by
  have e0 := hb.cell 0
  have e1 := hb.cell 1
  simp only [List.getElem?_toArray, List.getElem?_cons_zero, List.getElem?_cons_succ] at e0 e1
  rw [e0, e1, h3, ldQ]
  simp
theorem Zv (aa : Option Addr) (n c : Nat) (w : World) :
 Calls Tryz.prog 129 #[.slice aa n c] w fun e w' => e = .returned (.pointer (some ⟨w.heap.size, 0, none⟩)) ∧ w' = w.alloc (.cells #[.slice aa n c, .int .i64 0, .int .i64 (-1)] 399) := by
 go_enter Tryz.func129, Tryz.ntmps129
 go_wp2
 go_ret
 exact ⟨rfl, rfl⟩
variable {A : Nat → Prop}
theorem zfX {aa : Option Addr} {n c : Nat} (h : Lay.u8.slice.rd A w [.slice aa n c] bs) (hA : ∀ k, A k → k < w.heap.size) :
 byrR.is A (fun k => k = w.heap.size) w.heap.size bs (w.alloc (.cells #[.slice aa n c, .int .i64 0, .int .i64 (-1)] 399)) := by
 obtain ⟨a', c', e, -, -⟩ := Lay.slice_form h
 obtain ⟨rfl, rfl, rfl⟩ : aa = a' ∧ n = bs.length ∧ c = c' := by simpa using e
 have hx := za w (.cells #[.slice aa bs.length c, .int .i64 0, .int .i64 (-1)] 399)
 exact ⟨⟨aa, bs, c, 0, -1, zl _ _ _, Lay.fr h hx (fun k hk => ⟨hA k hk, fun h => h⟩), nzQ _, rfl, fun k hk => ⟨nqQ (hA k hk) hx.size, fun e => by have := hA k hk; omega⟩⟩, fun k => Iff.rfl⟩
structure EV where
 start : Value
 types : Value
 imports : Value
 functions : Value
 tables : Value
 memories : Value
 elements : Value
 globals : Value
 exports : Value
 codes : Value
 datas : Value
 customs : Value
 funcs : Value
 locals : Value
def EV.zero : EV := ⟨.pointer none, .slice none 0 0, .slice none 0 0, .slice none 0 0, .slice none 0 0, .slice none 0 0, .slice none 0 0, .slice none 0 0, .slice none 0 0, .slice none 0 0, .slice none 0 0, .slice none 0 0, .slice none 0 0, .slice none 0 0⟩
abbrev yg (m : Mod) (v : EV) : Array Value := #[.int .u32 0, v.start, v.types, v.imports, v.functions, v.tables, v.memories, v.elements, v.globals, v.exports, v.codes, v.datas, v.customs, .string (zd m.named), v.funcs, v.locals]
structure NmSt (S : Rdr) (D F : Nat → Prop) (g : Nat) (pe pu : Addr) (L b lo : Nat) (A : Nat → Prop) (v0 : Value) (w : World) (r : List UInt8) (m : Mod) (v : EV) (W : World) : Prop where
 rx : RdX S D F g pe pu L r W
 blk : Blk W b (yg m v) 194
 nm : (zd m.named).size ≤ maxLen
 fu : Lay.enam.slice.rd (fun k => (A k ∨ w.heap.size ≤ k) ∧ k < W.heap.size ∧ some k ≠ v.locals.ownBlock) W [v.funcs] m.funcs
 row : OwnG Lay.nam 234 lo (fun _ => True) W v.locals m.locals
 fr : Fr (fun k => F k ∨ k = b ∨ some k = v0.ownBlock) w W
 own : ∀ k, v.locals.ownBlock = some k → (¬ F k ∧ ¬ D k ∧ ¬ k = b ∧ L ≤ k) ∧ (v0.ownBlock = some k ∨ w.heap.size ≤ k)
structure NmH (D F : Nat → Prop) (L b lo : Nat) (A : Nat → Prop) (w : World) : Prop where
 nF : ¬ F b
 nD : ¬ D b
 lb : L ≤ b
 blo : b < lo
 lo : lo ≤ w.heap.size
 A : ∀ k, A k → k < w.heap.size ∧ ¬ F k ∧ ¬ k = b
 F : ∀ k, F k → k < w.heap.size
 D : ∀ k, D k → k < w.heap.size
 L : L ≤ w.heap.size
section
variable {S : Rdr} {D F : Nat → Prop} {g : Nat} {pe pu : Addr} {L b lo : Nat} {A : Nat → Prop} {v0 : Value} {w W W' : World} {r r' : List UInt8} {m m' : Mod} {v v' : EV}
theorem NmSt.read (h : NmSt S D F g pe pu L b lo A v0 w r m v W) (H : NmH D F L b lo A w) {U : Nat → Prop} (h1 : RdX S D F g pe pu L r' W') (hf : Fr U W W') (hU : ∀ k, U k → F k ∨ W.heap.size ≤ k) : NmSt S D F g pe pu L b lo A v0 w r' m v W' := by
 have hw := h.fr.size
 refine ⟨h1, h.blk.fr hf (fun e => (hU b e).elim H.nF (fun q => by have := h.blk.lt; omega)), h.nm, ?_, h.row.frFlat z7 hf (fun k hk e => (hU k e).elim (h.own k hk).1.1 (fun q => by have := (h.row.lt k hk).2; omega)), Fr.trans h.fr hf (fun _ _ e => e) (fun k hk e => (hU k e).elim .inl (fun q => by omega)), h.own⟩
 refine Lay.mono _ (Lay.fr h.fu hf (fun k hk => ⟨hk.2.1, fun e => ?_⟩)) (fun k hk => ⟨hk.1, nqQ hk.2.1 hf.size, hk.2.2⟩)
 rcases hU k e with q | q
 ·rcases hk.1 with q2 | q2
  ·exact (H.A k q2).2.1 q
  ·have := H.F k q; omega
 ·have := hk.2.1; omega
theorem NmSt.rest (h : NmSt S D F g pe pu L b lo A v0 w r m v W) (H : NmH D F L b lo A w) {gr : Nat} (hg : w.heap.size ≤ gr) (hf : Fr (fun k => k = gr ∨ k = b ∨ some k = v.locals.ownBlock) W W') :
 RdX S D F g pe pu L r W' ∧ Fr (fun k => F k ∨ k = b ∨ some k = v0.ownBlock) w W' := by
 have hL := H.L
 refine ⟨h.rx.fr hf (fun k e => ?_) (fun k hk e => ?_) (fun k hk e => ?_), Fr.trans h.fr hf (fun _ _ e => e) (fun k hk e => ?_)⟩
 ·rcases e with e | e | e
  ·omega
  ·rw [e]; exact H.lb
  ·exact (h.own k e.symm).1.2.2.2
 ·rcases e with e | e | e
  ·have := H.F k hk; omega
  ·subst e; exact H.nF hk
  ·exact (h.own k e.symm).1.1 hk
 ·rcases e with e | e | e
  ·have := H.D k hk; omega
  ·subst e; exact H.nD hk
  ·exact (h.own k e.symm).1.2.1 hk
 ·rcases e with e | e | e
  ·omega
  ·exact .inr (.inl e)
  ·exact (h.own k e.symm).2.elim (fun q => .inr (.inr q.symm)) (fun q => by omega)
end
theorem zfY : (Tryz.prog.info? 5).map (fun i => (i.zero, i.size, i.bytes)) = some (some (.int .u8 0), Lay.u8.size, 1) := by kernel_rfl
variable {xs : List α} {l : Lay α} {e : TypeId} {lo : Nat}
theorem Own.frFlat (hl : l.flat) {v : Value} (h : Own l e lo w v xs) (hf : Fr S w w') (ho : ∀ k, v.ownBlock = some k → ¬ S k) : Own l e lo w' v xs := by
 obtain ⟨flat, h1, h2⟩ := (h.g).frFlat hl hf ho
 exact ⟨flat, h1, Lay.all_flat hl h2⟩
variable {pe pu : Addr} {L : Nat}
theorem zfZ {S : Rdr} (h : RdX S D F g pe pu L bs w) :
 Calls Tryz.prog 167 #[.iface S.T (.pointer (some ⟨g, 0, none⟩))] w fun e w' => ∃ a m c, e = .returned (.tuple #[.slice a m c, .nilIface]) ∧ Lay.u8.slice.rd (aN w w') w' [.slice a m c] bs ∧ RdX S D F g pe pu L [] w' ∧ Fr F w w' := by
 have mN := S.nil g
 have mR := S.meth g
 have mV := S.call
 have un := zb1 pe
 have ff := fun w : World => run_eql_iface_nil_left (P := Tryz.prog) (w := w) 380 (.pointer (some pe)) Tryz.underlying79
 have A2 : ∀ (fn : Fn) (first cap : Array Value) (w : World), (Instr.makeFunc fn first cap).run Tryz.prog w = .ok (.func fn first cap) w := fun _ _ _ _ => rfl
 have H := qh h
 have aj := qh (S.lt h.is)
 clear h
 go_enter Tryz.func167, Tryz.ntmps167
 obtain ⟨kU, hi, dt, dO, en⟩ := info_parts (show (Tryz.prog.info? 5).map (fun i => (i.zero, i.size, i.bytes)) = some (some (.int .u8 0), 1, 1) from by kernel_rfl)
 have gV := qh (anQ hi (anQ dt (anQ dO en)))
 clear hi dt dO en
 go_wp2_with (at_make; refine Hq.o ?_)
 obtain ⟨hi, dt, dO, en⟩ := gV.o
 obtain ⟨W0, fQ, H0⟩ : ∃ W0, Hq (w.alloc (.cells #[] 5) = W0) ∧ Hq (Ext w W0 ∧ Own Lay.u8 5 w.heap.size W0 (.slice (some ⟨w.heap.size, 0, none⟩) 0 0) []) := by
  refine ⟨_, rfl, za _ _, [], ⟨by simp, .inr ⟨w.heap.size, 0, #[], rfl, Nat.le_refl _, zl w _ _, Nat.le_refl _, by decide, by simp, by simp⟩⟩, rfl⟩
 rw [fQ.o]
 refine wpList_make_full _ rfl (.const (.int .i64 512)) (.const (.int .i64 512)) 22 rfl W0.heap.size 5 kU (.int .u8 0) 1 Tryz.underlying22 hi dt dO .i64 .i64 (512 : Int) (512 : Int) 512 rfl rfl rfl rfl (by rw [en]; decide) (by show 512 ≤ 9223372036854775807; omega) (Nat.le_refl _) ?_
 intro w3 hO hG
 obtain ⟨c2, ct, cT⟩ := J8 (P := Tryz.prog) (w1 := W0) hO
 have hx : Ext W0 w3 := (yW hG).mono (fun _ _ h => by cases h)
 obtain ⟨gb, bt⟩ := exQ (W0.heap.size)
 have gz : w.heap.size ≤ W0.heap.size := H0.o.1.size
 have bo : Hq (¬ F gb ∧ ¬ D gb ∧ L ≤ gb ∧ w.heap.size ≤ gb ∧ gb < w3.heap.size) := by
  have h3 := aj.o
  have fx := H.o.sp.lw
  exact ⟨fun q => by have := h3.2.1 _ q; omega, fun q => by have := (h3.2.2 _ q).1; omega, by omega, by omega, by rw [← bt]; exact ct.lt⟩
 rw [bt] at ct
 rw [bt]
 have H3 : Hq (RdX S D F g pe pu L bs w3 ∧ (∃ cs : Array Value, Blk w3 gb cs 5 ∧ cs.size = 512) ∧ Own Lay.u8 5 w.heap.size w3 (.slice (some ⟨w.heap.size, 0, none⟩) 0 0) [] ∧ Fr F w w3 ∧ ∀ k, (Value.slice (some ⟨w.heap.size, 0, none⟩) 0 0).ownBlock = some k → ¬ k = gb) := ⟨(H.o.ext H0.o.1).ext hx, ⟨c2, ct, by omega⟩, H0.o.2.ext hx, (Ext.trans H0.o.1 hx).to, fun k hk => by have := (H0.o.2.lt k hk).2; omega⟩
 clear hO hG hi dt dO en gV hx ct cT bt fQ
 go_wp2_with fail
 go_loopw [4] (fun s4 w' => ∃ (bf r : List UInt8), bf ++ r = bs ∧ Hq (RdX S D F g pe pu L r w' ∧ (∃ cs : Array Value, Blk w' gb cs 5 ∧ cs.size = 512) ∧ Own Lay.u8 5 w.heap.size w' s4 bf ∧ Fr F w w' ∧ (∀ k, s4.ownBlock = some k → ¬ k = gb))) (fun _ w' => S.left g w')
 case atStart => exact ⟨[], bs, rfl, H3.o⟩
 case round =>
  obtain ⟨bf, r, nL, hV⟩ := hrel
  obtain ⟨u1, u2, u3, rfl⟩ := hV.o.2.2.1.shape
  have fJ := qh (S.left_is hV.o.1.is)
  obtain ⟨hr, ⟨cs, hB, iF⟩, hO, hF, ah⟩ := hV.o
  have HV := qh (anQ hr (anQ hB (anQ iF (anQ hO (anQ hF ah)))))
  clear hV hr hB iF hO hF ah
  go_wp2_with fail
  by_cases h0 : r = []
  ·subst h0
   have Hi := HV.o.1.is
   refine (S.eof D F g _ _ _ _ (eofV pe) _ Hi HV.o.1.sp.eof (by omega) HV.o.1.s.nf).mono ?_
   rintro e w4 ⟨rfl, tS, kp⟩
   have H4 : Hq (RdX S D F g pe pu L [] w4 ∧ Own Lay.u8 5 w.heap.size w4 (.slice u1 u2 u3) bf ∧ Fr F w w4) := ⟨HV.o.1.step tS kp HV.o.1.hF (Nat.le_refl _), HV.o.2.2.2.1.fr kp (fun k h1 h2 e => by have := aj.o.2.1 k e; omega), Fr.trans HV.o.2.2.2.2.1 kp (fun _ _ e => e) (fun _ _ e => e)⟩
   have kI := qh (show bf.length ≤ 140737488355328 from by have := H.o.len; rw [← nL, List.append_nil] at this; exact this)
   clear tS kp Hi HV
   go_wp2_with (at_builtin; refine Hq.o ?_)
   refine jF Lay.u8 w.heap.size rfl (.tmp 16) (.tmp 19) _ _ _ 1 rfl Tryz.underlying22 zfY rfl (by omega) (by decide) (.slice u1 u2 u3) bf [] _ 0 512 (A := fun _ => False) rfl rfl H4.o.2.1 (Lay.rd_end (by decide)) (fun flat h => by rw [show flat = [] from h]; rfl) H4.o.2.2.size (by have := kI.o; simp; omega) ?_
   intro v1 w6 h1 h2 h3
   have H6 : Hq (RdX S D F g pe pu L [] w6 ∧ Own Lay.u8 5 w.heap.size w6 v1 bf ∧ Fr F w w6) := by
    have dW : ∀ k, some k = (Value.slice u1 u2 u3).ownBlock → w.heap.size ≤ k := fun k hk => (H4.o.2.1.lt k hk.symm).1
    have fx := H.o.sp.lw
    refine ⟨H4.o.1.fr h2 (fun k e => by have := dW k e; omega) (fun k hk e => by have := dW k e; have := aj.o.2.1 k hk; omega) (fun k hk e => by have := dW k e; have := (aj.o.2.2 k hk).1; omega), by simpa using h1, Fr.trans H4.o.2.2 h2 (fun _ _ e => e) (fun k hk e => by have := dW k e; omega)⟩
   obtain ⟨Ad, Af, Ac, rfl⟩ := H6.o.2.1.shape
   have tK := H6.o.1.sp.eof
   have dG := qh (show bf = bs from by simpa using nL)
   clear h1 h2 h3 H4
   go_wp2
   go_ret2
   refine ⟨Ad, Af, Ac, rfl, ?_, H6.o.1, H6.o.2.2⟩
   rw [← dG.o]
   exact H6.o.2.1.slice
  ·have iR : 0 < r.length := List.length_pos_iff.2 h0
   refine (S.read D F g gb 0 512 512 r cs 5 _ HV.o.1.is HV.o.2.1 (by rw [HV.o.2.2.1]; omega) (Nat.le_refl _) (by simp only [maxLen]; omega) bo.o.1 bo.o.2.1 (by omega) iR).mono ?_
   rintro e w4 ⟨q, fq, cV, ev, rfl, tS, kp, ij⟩
   have H4 : Hq (RdX S D F g pe pu L (r.drop q) w4 ∧ Own Lay.u8 5 w.heap.size w4 (.slice u1 u2 u3) bf ∧ Fr F w w4 ∧ Blk w4 gb (splice cs.toList 0 (zC (r.take q))).toArray 5 ∧ (splice cs.toList 0 (zC (r.take q))).toArray.size = 512 ∧ Lay.u8.slice.rd (fun k => k = gb) w4 [.slice (some ⟨gb, 0, none⟩) q 512] (r.take q) ∧ ∀ k, (Value.slice u1 u2 u3).ownBlock = some k → ¬ k = gb) := by
    have tV : (r.take q).length = q := by rw [ltQ]; omega
    have c6 : cs.toList.length = 512 := by rw [Array.length_toList (xs := cs)]; exact HV.o.2.2.1
    have em : splice cs.toList 0 (zC (r.take q)) = zC (r.take q) ++ cs.toList.drop q := by
     unfold splice
     rw [yv, tV, Nat.zero_add]; simp
    refine ⟨HV.o.1.step tS kp (fun k e => e.elim (HV.o.1.hF k) (fun e => by have := bo.o.2.2.1; omega)) (by rw [ldQ]; omega), HV.o.2.2.2.1.frFlat Lay.flat_u8 kp (fun k hk e => e.elim (fun e => by have := (HV.o.2.2.2.1.lt k hk).1; have := aj.o.2.1 k e; omega) (HV.o.2.2.2.2.2 k hk)), Fr.trans HV.o.2.2.2.2.1 kp (fun _ _ e => e) (fun k hk e => e.elim id (fun e => by have := bo.o.2.2.2.1; omega)), ij, ?_, ?_, HV.o.2.2.2.2.2⟩
    ·rw [em, List.size_toArray, laQ, yv, tV, ldQ, c6]; omega
    ·rw [em] at ij
     refine ⟨_, 512, by rw [tV], by rw [tV]; exact cV, by decide, fun _ => ⟨gb, 0, _, 5, (0, 0), zC (r.take q), rfl, rfl, ij, zb3 _ _ _, fun j hj => ?_⟩⟩
     rw [Nat.zero_add]
     simp only [List.getElem?_toArray]
     rw [List.getElem?_append_left hj]
   have kI := qh (show bf.length + r.length ≤ 140737488355328 from by have := H.o.len; rw [← nL, laQ] at this; exact this)
   have BU := qh (show (r.take q).length = q from by rw [ltQ]; omega)
   clear tS kp ij HV iR
   go_wp2_with (at_builtin; refine Hq.o ?_)
   refine jF Lay.u8 w.heap.size rfl (.tmp 16) (.tmp 19) _ _ _ 1 rfl Tryz.underlying22 zfY rfl (by omega) (by decide) (.slice u1 u2 u3) bf (r.take q) _ q 512 rfl rfl H4.o.2.1 H4.o.2.2.2.2.2.1 (fun flat h => Lay.all_flat Lay.flat_u8 h) H4.o.2.2.1.size (by have := kI.o; rw [BU.o]; omega) ?_
   intro v1 w6 h1 h2 h3
   have H6 : Hq (RdX S D F g pe pu L (r.drop q) w6 ∧ (∃ cs : Array Value, Blk w6 gb cs 5 ∧ cs.size = 512) ∧ Own Lay.u8 5 w.heap.size w6 v1 (bf ++ r.take q) ∧ Fr F w w6 ∧ (∀ k, v1.ownBlock = some k → ¬ k = gb)) := by
    have dW : ∀ k, some k = (Value.slice u1 u2 u3).ownBlock → w.heap.size ≤ k := fun k hk => (H4.o.2.1.lt k hk.symm).1
    have fx := H.o.sp.lw
    have Cd := H4.o.2.2.2.1.lt
    refine ⟨H4.o.1.fr h2 (fun k e => by have := dW k e; omega) (fun k hk e => by have := dW k e; have := aj.o.2.1 k hk; omega) (fun k hk e => by have := dW k e; have := (aj.o.2.2 k hk).1; omega), ⟨_, H4.o.2.2.2.1.fr h2 (fun e => H4.o.2.2.2.2.2.2 gb e.symm rfl), H4.o.2.2.2.2.1⟩, h1, Fr.trans H4.o.2.2.1 h2 (fun _ _ e => e) (fun k hk e => by have := dW k e; omega), fun k hk => ?_⟩
    rcases h3 k hk with z | z
    ·exact H4.o.2.2.2.2.2.2 k z
    ·omega
   obtain ⟨Ad, Af, Ac, rfl⟩ := H6.o.2.2.1.shape
   have tK := H6.o.1.sp.eof
   have eP := qh (S.left_is H6.o.1.is)
   clear h1 h2 h3 H4
   go_wp2
   go_roundw
   case rel => exact ⟨bf ++ r.take q, r.drop q, by rw [List.append_assoc, List.take_append_drop, nL], H6.o⟩
   case measure => rw [eP.o, fJ.o, ldQ]; omega
theorem zg9 : (Tryz.prog.info? 230).map (fun i => (i.zero, i.size, i.bytes)) = some (some (.agg #[.string ⟨#[]⟩, .slice none 0 0]), Lay.cus.size, 40) := by kernel_rfl
theorem zju {S : Rdr} (bs nm : List UInt8) (w : World) (h : RdX S D F g pe pu L bs w) (b o : Nat) (cs : Array Value) (T : TypeId) (hB : Blk w b cs T) (hF : ¬ F b) (hD : ¬ D b) (hb : L ≤ b)
 (lo : Nat) (X : Nat → Prop) (v0 : Value) (gX : List Cus) (iP : cs[o]? = some v0) (hR : OwnG Lay.cus 230 lo X w v0 gX) (bj : lo ≤ w.heap.size) (pd : ∀ k, F k → X k) (oz : X b) (hX : ∀ k, X k → k < w.heap.size) (c8 : b < lo) (ah : ∀ k, v0.ownBlock = some k → ¬ F k ∧ ¬ D k ∧ ¬ k = b ∧ L ≤ k) (aT : gX.length ≤ 1099511627776) (eC : (zd nm).size ≤ maxLen) :
 Calls Tryz.prog 133 #[.iface S.T (.pointer (some ⟨g, 0, none⟩)), .string (zd nm), .pointer (some ⟨b, o, none⟩)] w fun e w' => ∃ v, e = .returned .nilIface ∧ RdX S D F g pe pu L [] w' ∧ Blk w' b (cs.setIfInBounds o v) T ∧ OwnG Lay.cus 230 lo X w' v (gX ++ [⟨nm, bs⟩]) ∧ Fr (fun k => F k ∨ k = b ∨ some k = v0.ownBlock) w w' ∧ (∀ k, v.ownBlock = some k → v0.ownBlock = some k ∨ w.heap.size ≤ k) := by
 have HC := qh (zfZ h)
 have HK := qh (anQ h (anQ hB (anQ hF (anQ hD (anQ hb (anQ hR (anQ bj (anQ pd (anQ oz (anQ hX (anQ c8 (anQ ah (anQ aT (anQ eC (S.lt h.is)))))))))))))))
 have iP := qh iP
 obtain ⟨ap, am, ar, rfl⟩ := hR.shape
 clear h hB hF hD hb hR bj pd oz hX c8 ah aT eC
 go_enter Tryz.func133, Tryz.ntmps133
 go_wp2_with fail
 refine HC.o.mono ?_
 rintro e w1 ⟨u1, u2, u3, rfl, k1, k2, k3⟩
 obtain ⟨h, hB, hF, hD, hb, hR, bj, pd, oz, hX, c8, ah, aT, eC, aj⟩ := HK.o
 have lR := k3.size
 have HA := qh (anQ k2 (anQ (hB.fr k3 hF) (anQ (hR.fr k3 (fun k e => .inl (pd k e)) (fun k hk e => (ah k hk).1 e)) (anQ k3 (anQ (show Lay.u8.slice.rd (fun k => ¬ X k ∧ k < w1.heap.size ∧ some k ≠ (Value.slice ap am ar).ownBlock) w1 [.slice u1 u2 u3] bs from Lay.mono _ k1 (fun k hk => ⟨fun q => by have := hX k q; have := hk.1; omega, hk.2, fun e => by have := (hR.lt k e.symm).2; have := hk.1; omega⟩)) lR)))))
 have fM := (HA.o.2.1.cell o).trans iP.o
 clear h hB hF hD hb hR bj pd oz hX c8 ah aT eC aj k1 k2 k3 lR HC
 go_wp2_with (at_builtin; refine Hq.o ?_)
 obtain ⟨h, hB, hF, hD, hb, hR, bj, pd, oz, hX, c8, ah, aT, eC, aj⟩ := HK.o
 refine zU Lay.cus lo w1.heap.size rfl rfl (.tmp 20) (.tmp 24) _ _ _ 40 rfl Tryz.underlying188 zg9 rfl (by omega) (by decide) (.slice ap am ar) gX ⟨nm, bs⟩ _ rfl rfl HA.o.2.2.1 ⟨[_], [_], rfl, ⟨rfl, eC⟩, HA.o.2.2.2.2.1⟩ (by have := HA.o.2.2.2.2.2; omega) (by omega) ?_
 intro v1 w2 h1 h2 h3
 have fx := h.sp.lw
 obtain ⟨az, aR, aO, rfl⟩ := h1.shape
 have HB : Hq (RdX S D F g pe pu L [] w2 ∧ Blk w2 b cs T ∧ OwnG Lay.cus 230 lo X w2 (.slice az aR aO) (gX ++ [⟨nm, bs⟩]) ∧ Fr (fun k => F k ∨ k = b ∨ some k = (Value.slice ap am ar).ownBlock) w w2 ∧ (∀ k, (Value.slice az aR aO).ownBlock = some k → (Value.slice ap am ar).ownBlock = some k ∨ w.heap.size ≤ k)) :=
  ⟨HA.o.1.fr h2 (fun k e => (ah k e.symm).2.2.2) (fun k hk e => (ah k e.symm).1 hk) (fun k hk e => (ah k e.symm).2.1 hk), HA.o.2.1.fr h2 (fun e => (ah b e.symm).2.2.1 rfl), h1, Fr.trans HA.o.2.2.2.1 h2 (fun _ _ e => .inl e) (fun _ _ e => .inr (.inr e)), fun k hk => (h3 k hk).imp id (fun q => nlQ HA.o.2.2.2.2.2 q)⟩
 have bS := (HB.o.2.1.cell o).trans iP.o
 have cp := HB.o.2.1.frz o
 clear h hB hF hD hb hR bj pd oz hX c8 ah aT eC aj h1 h2 h3 fM HA fx
 go_wp2
 go_ret
 obtain ⟨h, hB, hF, hD, hb, hR, bj, pd, oz, hX, c8, ah, aT, eC, aj⟩ := HK.o
 have hs := zf w2 ⟨b, o, none⟩ (.slice az aR aO)
 refine ⟨_, rfl, HB.o.1.fr hs (fun k e => by have e' : k = b := e; rw [e']; exact hb) (fun k hk e => by have e' : k = b := e; subst e'; exact hF hk) (fun k hk e => by have e' : k = b := e; subst e'; exact hD hk), HB.o.2.1.set o _, HB.o.2.2.1.fr hs (fun k e => .inl (by have e' : k = b := e; rw [e']; exact oz)) (fun k hk e => by have e' : k = b := e; have := (HB.o.2.2.1.lt k hk).1; omega), Fr.trans HB.o.2.2.2.1 hs (fun _ _ e => e) (fun _ _ e => .inr (.inl e)), HB.o.2.2.2.2⟩
def Lay.estart : Lay (Bool × UInt32) where
 size := 1
 rd A w cs x := (x.1 = false ∧ x.2 = 0 ∧ cs = [.pointer none]) ∨ (x.1 = true ∧ ∃ b, cs = [.pointer (some ⟨b, 0, none⟩)] ∧ A b ∧ w.heap[b]? = some (.cells #[.int .u32 (x.2.toNat : Int)] 24 (0, 0)))
 len := by rintro A w cs x (⟨_, _, h⟩ | ⟨_, b, h, _⟩) <;> (rw [h]; rfl)
 one := by rintro A w cs x (⟨_, _, h⟩ | ⟨_, b, h, _⟩) z hz <;> (rw [h] at hz; obtain rfl := List.mem_singleton.1 hz; rfl)
 frame := by
  rintro A w w' cs x (h | ⟨h1, b, h, hA, hb⟩) hf
  ·exact .inl h
  ·exact .inr ⟨h1, b, h, hA, (hf b hA).trans hb⟩
 mono := by
  rintro A A' w cs x (h | ⟨h1, b, h, hA, hb⟩) hf
  ·exact .inl h
  ·exact .inr ⟨h1, b, h, hf b hA, hb⟩
structure EAt (A : Nat → Prop) (w : World) (m : Mod) (v : EV) : Prop where
 start : Lay.estart.rd A w [v.start] (m.hasStart, m.start)
 types : (Lay.ft).slice.rd A w [v.types] m.types
 imports : (Lay.eimp).slice.rd A w [v.imports] m.imports
 functions : (Lay.u32).slice.rd A w [v.functions] m.functions
 tables : (Lay.etab).slice.rd A w [v.tables] m.tables
 memories : (Lay.elim).slice.rd A w [v.memories] m.memories
 elements : (Lay.eelem).slice.rd A w [v.elements] m.elements
 globals : (Lay.eglob).slice.rd A w [v.globals] m.globals
 exports : (Lay.expo).slice.rd A w [v.exports] m.exports
 codes : (Lay.u8.slice).slice.rd A w [v.codes] m.codes
 datas : (Lay.edat).slice.rd A w [v.datas] m.datas
 funcs : (Lay.enam).slice.rd A w [v.funcs] m.funcs
 named : (zd m.named).size ≤ maxLen
variable {v : EV} {m : Mod}
theorem EAt.frame (h : EAt A w m v) (hf : ∀ k, A k → w'.heap[k]? = w.heap[k]?) : EAt A w' m v :=
 ⟨Lay.frame _ h.start hf, Lay.frame _ h.types hf, Lay.frame _ h.imports hf, Lay.frame _ h.functions hf, Lay.frame _ h.tables hf, Lay.frame _ h.memories hf, Lay.frame _ h.elements hf, Lay.frame _ h.globals hf, Lay.frame _ h.exports hf, Lay.frame _ h.codes hf, Lay.frame _ h.datas hf, Lay.frame _ h.funcs hf, h.named⟩
theorem EAt.mono {A' : Nat → Prop} (h : EAt A w m v) (hf : ∀ k, A k → A' k) : EAt A' w m v :=
 ⟨Lay.mono _ h.start hf, Lay.mono _ h.types hf, Lay.mono _ h.imports hf, Lay.mono _ h.functions hf, Lay.mono _ h.tables hf, Lay.mono _ h.memories hf, Lay.mono _ h.elements hf, Lay.mono _ h.globals hf, Lay.mono _ h.exports hf, Lay.mono _ h.codes hf, Lay.mono _ h.datas hf, Lay.mono _ h.funcs hf, h.named⟩
theorem EAt.fr (h : EAt A w m v) (hf : Fr S w w') (ha : ∀ k, A k → k < w.heap.size ∧ ¬ S k) : EAt A w' m v :=
 h.frame fun k hk => hf.block k (ha k hk).1 (ha k hk).2
variable {x : Value}
theorem EAt.set_types (h : EAt A w m v) {xs : List FT} (hx : (Lay.ft).slice.rd A w [x] xs) : EAt A w { m with types := xs } { v with types := x } :=
 { h with types := hx }
theorem EAt.set_imports (h : EAt A w m v) {xs : List Imp} (hx : (Lay.eimp).slice.rd A w [x] xs) : EAt A w { m with imports := xs } { v with imports := x } :=
 { h with imports := hx }
theorem EAt.set_functions (h : EAt A w m v) {xs : List UInt32} (hx : (Lay.u32).slice.rd A w [x] xs) : EAt A w { m with functions := xs } { v with functions := x } :=
 { h with functions := hx }
theorem EAt.set_tables (h : EAt A w m v) {xs : List Lim} (hx : (Lay.etab).slice.rd A w [x] xs) : EAt A w { m with tables := xs } { v with tables := x } :=
 { h with tables := hx }
theorem EAt.set_memories (h : EAt A w m v) {xs : List Lim} (hx : (Lay.elim).slice.rd A w [x] xs) : EAt A w { m with memories := xs } { v with memories := x } :=
 { h with memories := hx }
theorem EAt.set_elements (h : EAt A w m v) {xs : List Elem} (hx : (Lay.eelem).slice.rd A w [x] xs) : EAt A w { m with elements := xs } { v with elements := x } :=
 { h with elements := hx }
theorem EAt.set_globals (h : EAt A w m v) {xs : List Glob} (hx : (Lay.eglob).slice.rd A w [x] xs) : EAt A w { m with globals := xs } { v with globals := x } :=
 { h with globals := hx }
theorem EAt.set_exports (h : EAt A w m v) {xs : List Expo} (hx : (Lay.expo).slice.rd A w [x] xs) : EAt A w { m with exports := xs } { v with exports := x } :=
 { h with exports := hx }
theorem EAt.set_codes (h : EAt A w m v) {xs : List (List UInt8)} (hx : (Lay.u8.slice).slice.rd A w [x] xs) : EAt A w { m with codes := xs } { v with codes := x } :=
 { h with codes := hx }
theorem EAt.set_datas (h : EAt A w m v) {xs : List Dat} (hx : (Lay.edat).slice.rd A w [x] xs) : EAt A w { m with datas := xs } { v with datas := x } :=
 { h with datas := hx }
theorem EAt.set_funcs (h : EAt A w m v) {xs : List Nam} (hx : (Lay.enam).slice.rd A w [x] xs) : EAt A w { m with funcs := xs } { v with funcs := x } :=
 { h with funcs := hx }
theorem EAt.set_start (h : EAt A w m v) {n : UInt32} (hx : Lay.estart.rd A w [x] (true, n)) : EAt A w { m with hasStart := true, start := n } { v with start := x } :=
 { h with start := hx }
theorem EAt.other {m' : Mod} {v' : EV} (h : EAt A w m v) (hm : m' = { m with customs := m'.customs, locals := m'.locals }) (hv : v' = { v with customs := v'.customs, locals := v'.locals }) : EAt A w m' v' := by
 rw [hm, hv]
 exact ⟨h.start, h.types, h.imports, h.functions, h.tables, h.memories, h.elements, h.globals, h.exports, h.codes, h.datas, h.funcs, h.named⟩
structure FreshE (m : Mod) (v : EV) : Prop where
 types : m.types = [] → v.types = .slice none 0 0
 imports : m.imports = [] → v.imports = .slice none 0 0
 tables : m.tables = [] → v.tables = .slice none 0 0
 memories : m.memories = [] → v.memories = .slice none 0 0
 elements : m.elements = [] → v.elements = .slice none 0 0
 globals : m.globals = [] → v.globals = .slice none 0 0
 exports : m.exports = [] → v.exports = .slice none 0 0
 codes : m.codes = [] → v.codes = .slice none 0 0
 datas : m.datas = [] → v.datas = .slice none 0 0
abbrev aEM (L0 : Nat) (W : World) (v : EV) : Nat → Prop := fun k => L0 ≤ k ∧ k < W.heap.size ∧ some k ≠ v.customs.ownBlock ∧ some k ≠ v.locals.ownBlock
structure EM (S : Rdr) (D F : Nat → Prop) (g : Nat) (pe pu : Addr) (L b : Nat) (w : World) (r : List UInt8) (m : Mod) (v : EV) (W : World) : Prop where
 rx : RdX S D F g pe pu L r W
 blk : Blk W b (yg m v) 194
 at' : EAt (aEM w.heap.size W v) W m v
 cus : OwnG Lay.cus 230 w.heap.size (fun k => k < w.heap.size ∨ some k = v.locals.ownBlock) W v.customs m.customs
 loc : OwnG Lay.nam 234 w.heap.size (fun _ => True) W v.locals m.locals
 cl : ∀ k, v.customs.ownBlock = some k → ¬ v.locals.ownBlock = some k
 fr : Fr (fun k => F k ∨ k = b) w W
 fresh : FreshE m v
 lenC : m.customs.length + r.length ≤ 1099511627776
 lenL : m.locals.length + r.length ≤ 1099511627776
structure EH (D F : Nat → Prop) (L b : Nat) (w : World) : Prop where
 nF : ¬ F b
 nD : ¬ D b
 lb : L ≤ b
 bw : b < w.heap.size
 F : ∀ k, F k → k < w.heap.size
 D : ∀ k, D k → k < w.heap.size
 L : L ≤ w.heap.size
variable {X X' : Nat → Prop}
theorem OwnG.widen {v : Value} (h : OwnG l e lo X w v xs) (hX : ∀ k, X' k → X k ∨ w.heap.size ≤ k) : OwnG l e lo X' w v xs := by
 obtain ⟨flat, h1, h2⟩ := h
 exact ⟨flat, h1, Lay.all_mono (fun k hk => ⟨fun q => (hX k q).elim hk.1 (fun q => by have := hk.2.1; omega), hk.2⟩) h2⟩
theorem OwnG.weak {v : Value} (h : OwnG l e lo X w v xs) (hX : ∀ k, X' k → X k) : OwnG l e lo X' w v xs := by
 obtain ⟨flat, h1, h2⟩ := h
 exact ⟨flat, h1, Lay.all_mono (fun k hk => ⟨fun q => hk.1 (hX k q), hk.2⟩) h2⟩
section
variable {S : Rdr} {D F : Nat → Prop} {g : Nat} {pe pu : Addr} {L b : Nat} {w W W' W5 W6 : World} {r r' : List UInt8} {m m' : Mod} {v v' : EV}
theorem EM.read (h : EM S D F g pe pu L b w r m v W) (H : EH D F L b w) {U : Nat → Prop} (h1 : RdX S D F g pe pu L r' W') (hf : Fr U W W') (hU : ∀ k, U k → F k ∨ W.heap.size ≤ k) (hl : r'.length ≤ r.length) : EM S D F g pe pu L b w r' m v W' := by
 have hw := h.fr.size
 have DA := h.blk.lt
 refine ⟨h1, h.blk.fr hf (fun e => (hU b e).elim H.nF (fun q => by omega)), (h.at'.fr hf (fun k hk => ⟨hk.2.1, fun e => ?_⟩)).mono (fun k hk => ⟨hk.1, nqQ hk.2.1 hf.size, hk.2.2⟩), h.cus.fr hf (fun k e => (hU k e).elim (fun q => .inl (.inl (H.F k q))) .inr) (fun k hk e => ?_), h.loc.frFlat z7 hf (fun k hk e => ?_), h.cl, Fr.trans h.fr hf (fun _ _ e => e) (fun k hk e => (hU k e).elim .inl (fun q => by omega)), h.fresh, by have := h.lenC; omega, by have := h.lenL; omega⟩
 ·rcases hU k e with q | q
  ·have := H.F k q; have := hk.1; omega
  ·have := hk.2.1; omega
 ·have := h.cus.lt k hk
  rcases hU k e with q | q
  ·have := H.F k q; omega
  ·omega
 ·have := h.loc.lt k hk
  rcases hU k e with q | q
  ·have := H.F k q; omega
  ·omega
theorem EM.rest (h : EM S D F g pe pu L b w r m v W) (H : EH D F L b w) {gr : Nat} (hg : w.heap.size ≤ gr) {U : Nat → Prop} (hU : ∀ k, U k → w.heap.size ≤ k) (hf : Fr (fun k => k = gr ∨ k = b ∨ U k) W W6) :
 RdX S D F g pe pu L r W6 ∧ Fr (fun k => F k ∨ k = b) w W6 := by
 have hL := H.L
 have hb := H.bw
 refine ⟨h.rx.fr hf (fun k e => ?_) (fun k hk e => ?_) (fun k hk e => ?_), Fr.trans h.fr hf (fun _ _ e => e) (fun k hk e => ?_)⟩
 ·rcases e with e | e | e
  ·omega
  ·rw [e]; exact H.lb
  ·have := hU k e; omega
 ·have := H.F k hk
  rcases e with e | e | e
  ·omega
  ·subst e; exact H.nF hk
  ·have := hU k e; omega
 ·have := H.D k hk
  rcases e with e | e | e
  ·omega
  ·subst e; exact H.nD hk
  ·have := hU k e; omega
 ·rcases e with e | e | e
  ·omega
  ·exact .inr e
  ·have := hU k e; omega
theorem EM.parts (h : EM S D F g pe pu L b w r m v W) (H : EH D F L b w) {gr : Nat} (hg : W.heap.size ≤ gr) (h5 : Fr (fun k => F k ∨ W.heap.size ≤ k) W W5) (hf : Fr (fun k => k = gr ∨ k = b) W5 W6) :
 EAt (aEM w.heap.size W6 v) W6 m v ∧ OwnG Lay.cus 230 w.heap.size (fun k => k < w.heap.size ∨ some k = v.locals.ownBlock) W6 v.customs m.customs ∧ OwnG Lay.nam 234 w.heap.size (fun _ => True) W6 v.locals m.locals := by
 have hw := h.fr.size
 have hb := H.bw
 have gC : Fr (fun k => F k ∨ W.heap.size ≤ k ∨ k = b) W W6 := Fr.trans h5 hf (fun _ _ e => e.elim .inl (fun e => .inr (.inl e))) (fun k _ e => e.elim (fun e => .inr (.inl (by omega))) (fun e => .inr (.inr e)))
 refine ⟨(h.at'.fr gC (fun k hk => ⟨hk.2.1, fun e => ?_⟩)).mono (fun k hk => ⟨hk.1, nqQ hk.2.1 gC.size, hk.2.2⟩), h.cus.fr gC (fun k e => ?_) (fun k hk e => ?_), h.loc.frFlat z7 gC (fun k hk e => ?_)⟩
 ·have h1 := hk.1
  have h2 := hk.2.1
  rcases e with e | e | e
  ·have := H.F k e; omega
  ·omega
  ·omega
 ·rcases e with e | e | e
  ·exact .inl (.inl (H.F k e))
  ·exact .inr e
  ·exact .inl (.inl (by omega))
 ·have := h.cus.lt k hk
  rcases e with e | e | e
  ·have := H.F k e; omega
  ·omega
  ·omega
 ·have := h.loc.lt k hk
  rcases e with e | e | e
  ·have := H.F k e; omega
  ·omega
  ·omega
theorem EM.newA (h : EM S D F g pe pu L b w r m v W) (hW : W.heap.size ≤ W5.heap.size) : ∀ k, aN W5 W6 k → aEM w.heap.size W6 v k := fun k hk => by
 have := h.fr.size
 exact ⟨by have := hk.1; omega, hk.2, fun e => by have := (h.cus.lt k e.symm).2; have := hk.1; omega, fun e => by have := (h.loc.lt k e.symm).2; have := hk.1; omega⟩
end
end Go.Proofs.YtejgninpjhcgnaaGreatDoor
