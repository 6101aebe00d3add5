/- Texts of this proof, one behind the other. -/
import Derived.Test.YtejgninpjhcgnaaGreatDoorPart8
namespace Go.Proofs.YtejgninpjhcgnaaGreatDoor
open Go.RowKit
set_option linter.unusedSimpArgs false
set_option linter.unusedVariables false
set_option maxRecDepth 100000
set_option maxHeartbeats 16000000
theorem zg6 : (Tryz.prog.info? 100).map (fun i => (i.zero, i.size, i.bytes)) = some (some (.agg #[.string ⟨#[]⟩, .slice none 0 0]), Lay.cus.size, 40) := by kernel_rfl
theorem jm (l : List UInt8) : (zd l).toList = l := by
 rw [ByteArray.toList_eq]; rfl
theorem Za (lo : Bool) : ∀ (f : Nat) (m : Mod) (last : Nat) (s : St), (zw lo f m last s).1.customs = m.customs
 | 0, m, _, _ => rfl
 | f + 1, m, last, s => by
  unfold zw
  split
  ·dsimp only
   split
   ·rfl
   ·refine (Za lo f _ _ _).trans ?_
    unfold jr
    split
    ·rfl
    ·split <;> rfl
  ·rfl
theorem zcM (lo : Bool) (D A : Nat → Prop) (g gm gn L0 : Nat) (s : St) (M : Mod) (seen : Bool) (w : World) (q0 q1 q2 q3 q4 q5 q6 q7 q8 q9 bN bk bl oq fA fB : Value) (h : SpR D g lo s w) (hB : Blk w gm #[q0, q1, q2, q3, q4, q5, q6, q7, q8, q9, bN, bk, bl, oq, .string (zd M.named), fA, fB] 37) (hN : Blk w gn #[.bool seen] 4) (ag : ¬ gm = g ∧ ¬ gn = g ∧ ¬ gm = gn) (dP : ∀ k, D k → ¬ k = gm ∧ ¬ k = gn ∧ k < L0) (hl : s.b.length ≤ 1048576)
 (hA : ∀ k, A k → k < w.heap.size ∧ ¬ k = g ∧ ¬ k = gm ∧ ¬ k = gn ∧ some k ≠ oq.ownBlock) (hf : Lay.nam.slice.rd A w [fA] M.funcs) (dw : Lay.nam.slice.rd A w [fB] M.locals) (hn : (zd M.named).size ≤ maxLen)
 (hC : OwnG Lay.cus 100 L0 (fun k => ¬ D k) w oq M.customs) (Ar : ∀ k, oq.ownBlock = some k → ¬ k = g ∧ ¬ k = gm ∧ ¬ k = gn) (hL : L0 ≤ w.heap.size) (qt : gm < L0) (c6 : M.customs.length ≤ 1048576) :
 Calls Tryz.prog 53 #[.pointer (some ⟨g, 0, none⟩), .pointer (some ⟨gm, 0, none⟩), .pointer (some ⟨gn, 0, none⟩)] w fun e w' => e = .returned (.tuple #[]) ∧ ∃ dN dX dY, (Blk w' gm #[q0, q1, q2, q3, q4, q5, q6, q7, q8, q9, bN, bk, bl, dN, .string (zd (zs lo M seen s).1.named), dX, dY] 37 ∧ Lay.nam.slice.rd (fun k => (A k ∨ w.heap.size ≤ k) ∧ k < w'.heap.size ∧ some k ≠ (dN : Value).ownBlock) w' [dX] (zs lo M seen s).1.funcs ∧ Lay.nam.slice.rd (fun k => (A k ∨ w.heap.size ≤ k) ∧ k < w'.heap.size ∧ some k ≠ (dN : Value).ownBlock) w' [dY] (zs lo M seen s).1.locals ∧ (zd (zs lo M seen s).1.named).size ≤ maxLen ∧ OwnG Lay.cus 100 L0 (fun k => ¬ D k) w' dN (zs lo M seen s).1.customs ∧ Blk w' gn #[.bool (zs lo M seen s).2.1] 4 ∧ SpR D g lo (zs lo M seen s).2.2 w' ∧ Fr (fun k => k = g ∨ k = gm ∨ k = gn ∨ some k = oq.ownBlock) w w') ∧ ∀ k, dN.ownBlock = some k → oq.ownBlock = some k ∨ w.heap.size ≤ k := by
 have dK := hB
 obtain ⟨b1, b2, b3, rfl⟩ := hC.shape
 have H := qh (anQ h.lt (anQ hl (anQ hB.lt (anQ ag (anQ dP (anQ hA (anQ Ar (anQ hL (anQ c6 hN.lt)))))))))
 have HI : Hq (Blk w gm #[q0, q1, q2, q3, q4, q5, q6, q7, q8, q9, bN, bk, bl, (.slice b1 b2 b3), .string (zd M.named), fA, fB] 37 ∧ Lay.nam.slice.rd (fun k => (A k ∨ w.heap.size ≤ k) ∧ k < w.heap.size ∧ some k ≠ ((.slice b1 b2 b3) : Value).ownBlock) w [fA] M.funcs ∧ Lay.nam.slice.rd (fun k => (A k ∨ w.heap.size ≤ k) ∧ k < w.heap.size ∧ some k ≠ ((.slice b1 b2 b3) : Value).ownBlock) w [fB] M.locals ∧ (zd M.named).size ≤ maxLen ∧ OwnG Lay.cus 100 L0 (fun k => ¬ D k) w (.slice b1 b2 b3) M.customs ∧ Blk w gn #[.bool seen] 4 ∧ SpR D g lo s w ∧ Fr (fun k => k = g ∨ k = gm ∨ k = gn ∨ some k = (Value.slice b1 b2 b3).ownBlock) w w) := ⟨hB, Lay.mono _ hf (fun k hk => ⟨.inl hk, (hA k hk).1, (hA k hk).2.2.2.2⟩), Lay.mono _ dw (fun k hk => ⟨.inl hk, (hA k hk).1, (hA k hk).2.2.2.2⟩), hn, hC, hN, h, Fr.refl _ _⟩
 have qG := qh (show ∀ k, (Value.slice b1 b2 b3).ownBlock = some k → k < w.heap.size from fun k hk => (hC.lt k hk).2)
 have qt := qh qt
 clear h hl hB ag dP hA hf dw hn hN hC Ar hL c6 dK
 go_enter Tryz.func53, Tryz.ntmps53
 go_wp2_with fail
 refine (Ja HI.o.2.2.2.2.2.2.1 (by have := H.o.2.1; omega)).mono ?_
 rintro e w1 ⟨rfl, k1, k2⟩
 have dD := qh (show zs lo M seen s = if (zr s).2.v ≠ 0 then (M, seen, (zr s).2) else if (zr s).1 ≠ zdC then ({ M with customs := M.customs ++ [⟨(zr s).1, (zr s).2.b⟩] }, seen, (zr s).2) else ((zw lo 4 M 0 (if seen then (zr s).2.fail 2 else (zr s).2)).1, true, if (zw lo 4 M 0 (if seen then (zr s).2.fail 2 else (zr s).2)).2.v ≠ 0 then { (zw lo 4 M 0 (if seen then (zr s).2.fail 2 else (zr s).2)).2 with v := 2 } else (zw lo 4 M 0 (if seen then (zr s).2.fail 2 else (zr s).2)).2) from rfl)
 have gf := qh (show (zd (zr s).1).size ≤ maxLen from yd (nlQ (Jc s) (nlQ H.o.2.1 (by decide))))
 have de := qh (show (zr s).2.b.length ≤ 1048576 from nlQ (jv s) H.o.2.1)
 generalize (zr s).1 = nm at *
 generalize (zr s).2 = t at *
 have HJ : Hq (Blk w1 gm #[q0, q1, q2, q3, q4, q5, q6, q7, q8, q9, bN, bk, bl, (.slice b1 b2 b3), .string (zd M.named), fA, fB] 37 ∧ Lay.nam.slice.rd (fun k => (A k ∨ w.heap.size ≤ k) ∧ k < w1.heap.size ∧ some k ≠ ((.slice b1 b2 b3) : Value).ownBlock) w1 [fA] M.funcs ∧ Lay.nam.slice.rd (fun k => (A k ∨ w.heap.size ≤ k) ∧ k < w1.heap.size ∧ some k ≠ ((.slice b1 b2 b3) : Value).ownBlock) w1 [fB] M.locals ∧ (zd M.named).size ≤ maxLen ∧ OwnG Lay.cus 100 L0 (fun k => ¬ D k) w1 (.slice b1 b2 b3) M.customs ∧ Blk w1 gn #[.bool seen] 4 ∧ SpR D g lo t w1 ∧ Fr (fun k => k = g ∨ k = gm ∨ k = gn ∨ some k = (Value.slice b1 b2 b3).ownBlock) w w1) := ⟨HI.o.1.fr k2 H.o.2.2.2.1.1, zS HI.o.2.1 k2 (fun k hk => ⟨hk.2.1, fun e => by
  have e' : k = g := e
  rcases hk.1 with q | q
  ·exact (H.o.2.2.2.2.2.1 k q).2.1 e'
  ·have := H.o.1.1; omega⟩) (fun k hk => ⟨hk.1, nqQ hk.2.1 k2.size, hk.2.2⟩), zS HI.o.2.2.1 k2 (fun k hk => ⟨hk.2.1, fun e => by
  have e' : k = g := e
  rcases hk.1 with q | q
  ·exact (H.o.2.2.2.2.2.1 k q).2.1 e'
  ·have := H.o.1.1; omega⟩) (fun k hk => ⟨hk.1, nqQ hk.2.1 k2.size, hk.2.2⟩), HI.o.2.2.2.1, HI.o.2.2.2.2.1.fr k2 (fun k e => .inl (fun q => by have e' : k = g := e; exact (H.o.1.2 k q).2 e')) (fun k hk e => (H.o.2.2.2.2.2.2.1 k hk).1 e), HI.o.2.2.2.2.2.1.fr k2 H.o.2.2.2.1.2.1, k1, k2.mono (fun k _ e => .inl e)⟩
 clear k1 k2
 go_wp2_with fail
 refine (z8 HJ.o.2.2.2.2.2.2.1).mono ?_
 rintro e w2 ⟨rfl, rfl⟩
 by_cases hv : t.v = 0
 ·rw [decide_eq_true hv]
  have dD := qh (dD.o.trans (if_neg (fun h => h hv)))
  by_cases eC : nm = zdC
  ·have dD := qh (dD.o.trans (if_neg (fun h => h eC)))
   have kv : (zd nm).toList = [110, 97, 109, 101] := by rw [jm, eC]; rfl
   have mX := HJ.o.2.2.2.2.2.1.cell
   have uA := HJ.o.2.2.2.2.2.1.frz
   clear eC
   cases seen with
   | false =>
    obtain ⟨w3, rfl⟩ : ∃ w3, w3 = w2 := ⟨_, rfl⟩
    have gH := HJ
    go_wp2_with fail
    have eA := zf w3 ⟨gn, 0, none⟩ (.bool true)
    have fI : Hq (Blk (w3.setCell ⟨gn, 0, none⟩ (.bool true)) gm #[q0, q1, q2, q3, q4, q5, q6, q7, q8, q9, bN, bk, bl, (.slice b1 b2 b3), .string (zd M.named), fA, fB] 37 ∧ Lay.nam.slice.rd (fun k => (A k ∨ w.heap.size ≤ k) ∧ k < (w3.setCell ⟨gn, 0, none⟩ (.bool true)).heap.size ∧ some k ≠ ((.slice b1 b2 b3) : Value).ownBlock) (w3.setCell ⟨gn, 0, none⟩ (.bool true)) [fA] M.funcs ∧ Lay.nam.slice.rd (fun k => (A k ∨ w.heap.size ≤ k) ∧ k < (w3.setCell ⟨gn, 0, none⟩ (.bool true)).heap.size ∧ some k ≠ ((.slice b1 b2 b3) : Value).ownBlock) (w3.setCell ⟨gn, 0, none⟩ (.bool true)) [fB] M.locals ∧ (zd M.named).size ≤ maxLen ∧ OwnG Lay.cus 100 L0 (fun k => ¬ D k) (w3.setCell ⟨gn, 0, none⟩ (.bool true)) (.slice b1 b2 b3) M.customs ∧ Blk (w3.setCell ⟨gn, 0, none⟩ (.bool true)) gn #[.bool true] 4 ∧ SpR D g lo t (w3.setCell ⟨gn, 0, none⟩ (.bool true)) ∧ Fr (fun k => k = g ∨ k = gm ∨ k = gn ∨ some k = (Value.slice b1 b2 b3).ownBlock) w (w3.setCell ⟨gn, 0, none⟩ (.bool true))) := by
     refine ⟨gH.o.1.fr eA H.o.2.2.2.1.2.2, zS gH.o.2.1 eA (fun k hk => ⟨hk.2.1, fun e => by
      rcases hk.1 with q | q
      ·have hq := H.o.2.2.2.2.2.1 k q
       exact hq.2.2.2.1 e
      ·have := H.o.2.2.2.2.2.2.2.2.2; have e' : k = gn := e; omega⟩) (fun k hk => ⟨hk.1, nqQ hk.2.1 eA.size, hk.2.2⟩), zS gH.o.2.2.1 eA (fun k hk => ⟨hk.2.1, fun e => by
      rcases hk.1 with q | q
      ·have hq := H.o.2.2.2.2.2.1 k q
       exact hq.2.2.2.1 e
      ·have := H.o.2.2.2.2.2.2.2.2.2; have e' : k = gn := e; omega⟩) (fun k hk => ⟨hk.1, nqQ hk.2.1 eA.size, hk.2.2⟩), gH.o.2.2.2.1, gH.o.2.2.2.2.1.fr eA (fun k e => .inl (fun q => by have e' : k = gn := e; exact (H.o.2.2.2.2.1 k q).2.1 e')) (fun k hk e => (H.o.2.2.2.2.2.2.1 k hk).2.2 e), ?_, gH.o.2.2.2.2.2.2.1.fr eA (fun e => H.o.2.2.2.1.2.1 e.symm) (fun k hk e => (H.o.2.2.2.2.1 k hk).2.1 e), Fr.trans gH.o.2.2.2.2.2.2.2 eA (fun _ _ h => h) (fun _ _ e => .inr (.inr (.inl e)))⟩
     have := gH.o.2.2.2.2.2.1.set 0 (.bool true)
     simpa using this
    clear eA mX uA HJ gH
    generalize w3.setCell ⟨gn, 0, none⟩ (.bool true) = W4 at *
    refine (zaK lo D (fun k => (A k ∨ w.heap.size ≤ k) ∧ k < W4.heap.size ∧ some k ≠ ((.slice b1 b2 b3) : Value).ownBlock) g gm t M W4 q0 q1 q2 q3 q4 q5 q6 q7 q8 q9 bN bk bl (.slice b1 b2 b3) fA fB fI.o.2.2.2.2.2.2.1 fI.o.1 H.o.2.2.2.1.1 (fun k hk => (H.o.2.2.2.2.1 k hk).1) de.o (fun k hk => ⟨hk.2.1, fun e => by
     rcases hk.1 with q | q
     ·exact (H.o.2.2.2.2.2.1 k q).2.1 e
     ·have := H.o.1.1; omega, fun e => by
     rcases hk.1 with q | q
     ·exact (H.o.2.2.2.2.2.1 k q).2.2.1 e
     ·have := H.o.2.2.1; omega⟩) fI.o.2.1 fI.o.2.2.1 fI.o.2.2.2.1).mono ?_
    rintro e W5 ⟨rfl, dX, dY, k1, k2, k3, k4, k5, k6⟩
    have qj := qh (Za lo 4 M 0 t)
    have dD := qh (show zs lo M false s = ((zw lo 4 M 0 t).1, true, if (zw lo 4 M 0 t).2.v ≠ 0 then { (zw lo 4 M 0 t).2 with v := 2 } else (zw lo 4 M 0 t).2) from dD.o)
    generalize (zw lo 4 M 0 t).1 = M2 at *
    generalize (zw lo 4 M 0 t).2 = p2 at *
    have gK : Hq (Blk W5 gm #[q0, q1, q2, q3, q4, q5, q6, q7, q8, q9, bN, bk, bl, (.slice b1 b2 b3), .string (zd M2.named), dX, dY] 37 ∧ Lay.nam.slice.rd (fun k => (A k ∨ w.heap.size ≤ k) ∧ k < W5.heap.size ∧ some k ≠ ((.slice b1 b2 b3) : Value).ownBlock) W5 [dX] M2.funcs ∧ Lay.nam.slice.rd (fun k => (A k ∨ w.heap.size ≤ k) ∧ k < W5.heap.size ∧ some k ≠ ((.slice b1 b2 b3) : Value).ownBlock) W5 [dY] M2.locals ∧ (zd M2.named).size ≤ maxLen ∧ OwnG Lay.cus 100 L0 (fun k => ¬ D k) W5 (.slice b1 b2 b3) M2.customs ∧ Blk W5 gn #[.bool true] 4 ∧ SpR D g lo p2 W5 ∧ Fr (fun k => k = g ∨ k = gm ∨ k = gn ∨ some k = (Value.slice b1 b2 b3).ownBlock) w W5) := ⟨k1, Lay.mono _ k2 (fun k hk => ⟨hk.1.elim (fun q => q.1) (fun q => .inr (by have := fI.o.2.2.2.2.2.2.2.size; omega)), hk.2, fun e => hk.1.elim (fun q => q.2.2 e) (fun q => by have := qG.o k e.symm; have := fI.o.2.2.2.2.2.2.2.size; omega)⟩), Lay.mono _ k3 (fun k hk => ⟨hk.1.elim (fun q => q.1) (fun q => .inr (by have := fI.o.2.2.2.2.2.2.2.size; omega)), hk.2, fun e => hk.1.elim (fun q => q.2.2 e) (fun q => by have := qG.o k e.symm; have := fI.o.2.2.2.2.2.2.2.size; omega)⟩), k4, by rw [qj.o]; exact fI.o.2.2.2.2.1.fr k6 (fun k e => .inl (fun q => Or.elim e (fun e => (H.o.1.2 k q).2 e) (fun e => (H.o.2.2.2.2.1 k q).1 e))) (fun k hk e => Or.elim e (fun e => (H.o.2.2.2.2.2.2.1 k hk).1 e) (fun e => (H.o.2.2.2.2.2.2.1 k hk).2.1 e)), fI.o.2.2.2.2.2.1.fr k6 (fun e => Or.elim e (fun e => H.o.2.2.2.1.2.1 e) (fun e => H.o.2.2.2.1.2.2 e.symm)), k5, Fr.trans fI.o.2.2.2.2.2.2.2 k6 (fun _ _ h => h) (fun _ _ e => Or.elim e .inl (fun e => .inr (.inl e)))⟩
    clear k1 k2 k3 k4 k5 k6 fI
    obtain ⟨aa, cap, eH, fU, fT⟩ := gK.o.2.2.2.2.2.2.1
    have sL := eH.cell
    have xD := eH.frz
    have eH := qh (anQ eH (anQ fU fT))
    clear fU fT
    by_cases hpv : p2.v = 0
    ·have wS : ((p2.v : Int) != 0) = false := by rw [bne_eq_false_iff_eq]; omega
     have eh := qh (show ∃ dN dX dY, (Blk W5 gm #[q0, q1, q2, q3, q4, q5, q6, q7, q8, q9, bN, bk, bl, dN, .string (zd (zs lo M false s).1.named), dX, dY] 37 ∧ Lay.nam.slice.rd (fun k => (A k ∨ w.heap.size ≤ k) ∧ k < W5.heap.size ∧ some k ≠ (dN : Value).ownBlock) W5 [dX] (zs lo M false s).1.funcs ∧ Lay.nam.slice.rd (fun k => (A k ∨ w.heap.size ≤ k) ∧ k < W5.heap.size ∧ some k ≠ (dN : Value).ownBlock) W5 [dY] (zs lo M false s).1.locals ∧ (zd (zs lo M false s).1.named).size ≤ maxLen ∧ OwnG Lay.cus 100 L0 (fun k => ¬ D k) W5 dN (zs lo M false s).1.customs ∧ Blk W5 gn #[.bool (zs lo M false s).2.1] 4 ∧ SpR D g lo (zs lo M false s).2.2 W5 ∧ Fr (fun k => k = g ∨ k = gm ∨ k = gn ∨ some k = (Value.slice b1 b2 b3).ownBlock) w W5) ∧ ∀ k, dN.ownBlock = some k → (Value.slice b1 b2 b3).ownBlock = some k ∨ w.heap.size ≤ k from ⟨.slice b1 b2 b3, dX, dY, by rw [dD.o, if_neg (fun h => h hpv)]; exact ⟨gK.o, fun k hk => .inl hk⟩⟩)
     clear gK eH HI
     go_wp2
     go_end0
     exact ⟨rfl, eh.o⟩
    ·have wS : ((p2.v : Int) != 0) = true := by rw [bne_iff_ne]; omega
     go_wp2
     go_end0
     have iA := zf W5 ⟨g, 1, none⟩ (.int .i64 2)
     refine ⟨rfl, .slice b1 b2 b3, dX, dY, ?_, fun k hk => .inl hk⟩
     rw [dD.o, if_pos hpv]
     refine ⟨gK.o.1.fr iA H.o.2.2.2.1.1, zS gK.o.2.1 iA (fun k hk => ⟨hk.2.1, fun e => by
      rcases hk.1 with q | q
      ·have hq := H.o.2.2.2.2.2.1 k q
       exact hq.2.1 e
      ·have := H.o.1.1; have e' : k = g := e; omega⟩) (fun k hk => ⟨hk.1, nqQ hk.2.1 iA.size, hk.2.2⟩), zS gK.o.2.2.1 iA (fun k hk => ⟨hk.2.1, fun e => by
      rcases hk.1 with q | q
      ·have hq := H.o.2.2.2.2.2.1 k q
       exact hq.2.1 e
      ·have := H.o.1.1; have e' : k = g := e; omega⟩) (fun k hk => ⟨hk.1, nqQ hk.2.1 iA.size, hk.2.2⟩), gK.o.2.2.2.1, gK.o.2.2.2.2.1.fr iA (fun k e => .inl (fun q => by have e' : k = g := e; exact (H.o.1.2 k q).2 e')) (fun k hk e => (H.o.2.2.2.2.2.2.1 k hk).1 e), gK.o.2.2.2.2.2.1.fr iA H.o.2.2.2.1.2.1, SpR.mk (aa := aa) (cap := cap) ?_ eH.o.2.1 eH.o.2.2 iA, Fr.trans gK.o.2.2.2.2.2.2.2 iA (fun _ _ h => h) (fun _ _ e => .inl e)⟩
     have := eH.o.1.set 1 (.int .i64 2)
     simpa using this
   | true =>
    go_wp2_with fail
    refine (zp D g lo t 2 w2 HJ.o.2.2.2.2.2.2.1).mono ?_
    rintro e w3 ⟨rfl, k1, k2⟩
    have gH : Hq (Blk w3 gm #[q0, q1, q2, q3, q4, q5, q6, q7, q8, q9, bN, bk, bl, (.slice b1 b2 b3), .string (zd M.named), fA, fB] 37 ∧ Lay.nam.slice.rd (fun k => (A k ∨ w.heap.size ≤ k) ∧ k < w3.heap.size ∧ some k ≠ ((.slice b1 b2 b3) : Value).ownBlock) w3 [fA] M.funcs ∧ Lay.nam.slice.rd (fun k => (A k ∨ w.heap.size ≤ k) ∧ k < w3.heap.size ∧ some k ≠ ((.slice b1 b2 b3) : Value).ownBlock) w3 [fB] M.locals ∧ (zd M.named).size ≤ maxLen ∧ OwnG Lay.cus 100 L0 (fun k => ¬ D k) w3 (.slice b1 b2 b3) M.customs ∧ Blk w3 gn #[.bool true] 4 ∧ SpR D g lo (t.fail 2) w3 ∧ Fr (fun k => k = g ∨ k = gm ∨ k = gn ∨ some k = (Value.slice b1 b2 b3).ownBlock) w w3) := ⟨HJ.o.1.fr k2 H.o.2.2.2.1.1, zS HJ.o.2.1 k2 (fun k hk => ⟨hk.2.1, fun e => by
     rcases hk.1 with q | q
     ·have hq := H.o.2.2.2.2.2.1 k q
      exact hq.2.1 e
     ·have := H.o.1.1; have e' : k = g := e; omega⟩) (fun k hk => ⟨hk.1, nqQ hk.2.1 k2.size, hk.2.2⟩), zS HJ.o.2.2.1 k2 (fun k hk => ⟨hk.2.1, fun e => by
     rcases hk.1 with q | q
     ·have hq := H.o.2.2.2.2.2.1 k q
      exact hq.2.1 e
     ·have := H.o.1.1; have e' : k = g := e; omega⟩) (fun k hk => ⟨hk.1, nqQ hk.2.1 k2.size, hk.2.2⟩), HJ.o.2.2.2.1, HJ.o.2.2.2.2.1.fr k2 (fun k e => .inl (fun q => by have e' : k = g := e; exact (H.o.1.2 k q).2 e')) (fun k hk e => (H.o.2.2.2.2.2.2.1 k hk).1 e), HJ.o.2.2.2.2.2.1.fr k2 H.o.2.2.2.1.2.1, k1, Fr.trans HJ.o.2.2.2.2.2.2.2 k2 (fun _ _ h => h) (fun _ _ e => .inl e)⟩
    clear k1 k2 mX uA
    have mX := gH.o.2.2.2.2.2.1.cell
    have uA := gH.o.2.2.2.2.2.1.frz
    go_wp2_with fail
    have eA := zf w3 ⟨gn, 0, none⟩ (.bool true)
    have fI : Hq (Blk (w3.setCell ⟨gn, 0, none⟩ (.bool true)) gm #[q0, q1, q2, q3, q4, q5, q6, q7, q8, q9, bN, bk, bl, (.slice b1 b2 b3), .string (zd M.named), fA, fB] 37 ∧ Lay.nam.slice.rd (fun k => (A k ∨ w.heap.size ≤ k) ∧ k < (w3.setCell ⟨gn, 0, none⟩ (.bool true)).heap.size ∧ some k ≠ ((.slice b1 b2 b3) : Value).ownBlock) (w3.setCell ⟨gn, 0, none⟩ (.bool true)) [fA] M.funcs ∧ Lay.nam.slice.rd (fun k => (A k ∨ w.heap.size ≤ k) ∧ k < (w3.setCell ⟨gn, 0, none⟩ (.bool true)).heap.size ∧ some k ≠ ((.slice b1 b2 b3) : Value).ownBlock) (w3.setCell ⟨gn, 0, none⟩ (.bool true)) [fB] M.locals ∧ (zd M.named).size ≤ maxLen ∧ OwnG Lay.cus 100 L0 (fun k => ¬ D k) (w3.setCell ⟨gn, 0, none⟩ (.bool true)) (.slice b1 b2 b3) M.customs ∧ Blk (w3.setCell ⟨gn, 0, none⟩ (.bool true)) gn #[.bool true] 4 ∧ SpR D g lo (t.fail 2) (w3.setCell ⟨gn, 0, none⟩ (.bool true)) ∧ Fr (fun k => k = g ∨ k = gm ∨ k = gn ∨ some k = (Value.slice b1 b2 b3).ownBlock) w (w3.setCell ⟨gn, 0, none⟩ (.bool true))) := by
     refine ⟨gH.o.1.fr eA H.o.2.2.2.1.2.2, zS gH.o.2.1 eA (fun k hk => ⟨hk.2.1, fun e => by
      rcases hk.1 with q | q
      ·have hq := H.o.2.2.2.2.2.1 k q
       exact hq.2.2.2.1 e
      ·have := H.o.2.2.2.2.2.2.2.2.2; have e' : k = gn := e; omega⟩) (fun k hk => ⟨hk.1, nqQ hk.2.1 eA.size, hk.2.2⟩), zS gH.o.2.2.1 eA (fun k hk => ⟨hk.2.1, fun e => by
      rcases hk.1 with q | q
      ·have hq := H.o.2.2.2.2.2.1 k q
       exact hq.2.2.2.1 e
      ·have := H.o.2.2.2.2.2.2.2.2.2; have e' : k = gn := e; omega⟩) (fun k hk => ⟨hk.1, nqQ hk.2.1 eA.size, hk.2.2⟩), gH.o.2.2.2.1, gH.o.2.2.2.2.1.fr eA (fun k e => .inl (fun q => by have e' : k = gn := e; exact (H.o.2.2.2.2.1 k q).2.1 e')) (fun k hk e => (H.o.2.2.2.2.2.2.1 k hk).2.2 e), ?_, gH.o.2.2.2.2.2.2.1.fr eA (fun e => H.o.2.2.2.1.2.1 e.symm) (fun k hk e => (H.o.2.2.2.2.1 k hk).2.1 e), Fr.trans gH.o.2.2.2.2.2.2.2 eA (fun _ _ h => h) (fun _ _ e => .inr (.inr (.inl e)))⟩
     have := gH.o.2.2.2.2.2.1.set 0 (.bool true)
     simpa using this
    clear eA mX uA HJ gH
    generalize w3.setCell ⟨gn, 0, none⟩ (.bool true) = W4 at *
    refine (zaK lo D (fun k => (A k ∨ w.heap.size ≤ k) ∧ k < W4.heap.size ∧ some k ≠ ((.slice b1 b2 b3) : Value).ownBlock) g gm (t.fail 2) M W4 q0 q1 q2 q3 q4 q5 q6 q7 q8 q9 bN bk bl (.slice b1 b2 b3) fA fB fI.o.2.2.2.2.2.2.1 fI.o.1 H.o.2.2.2.1.1 (fun k hk => (H.o.2.2.2.2.1 k hk).1) (nzQ _) (fun k hk => ⟨hk.2.1, fun e => by
     rcases hk.1 with q | q
     ·exact (H.o.2.2.2.2.2.1 k q).2.1 e
     ·have := H.o.1.1; omega, fun e => by
     rcases hk.1 with q | q
     ·exact (H.o.2.2.2.2.2.1 k q).2.2.1 e
     ·have := H.o.2.2.1; omega⟩) fI.o.2.1 fI.o.2.2.1 fI.o.2.2.2.1).mono ?_
    rintro e W5 ⟨rfl, dX, dY, k1, k2, k3, k4, k5, k6⟩
    have qj := qh (Za lo 4 M 0 (t.fail 2))
    have dD := qh (show zs lo M true s = ((zw lo 4 M 0 (t.fail 2)).1, true, if (zw lo 4 M 0 (t.fail 2)).2.v ≠ 0 then { (zw lo 4 M 0 (t.fail 2)).2 with v := 2 } else (zw lo 4 M 0 (t.fail 2)).2) from dD.o)
    generalize (zw lo 4 M 0 (t.fail 2)).1 = M2 at *
    generalize (zw lo 4 M 0 (t.fail 2)).2 = p2 at *
    have gK : Hq (Blk W5 gm #[q0, q1, q2, q3, q4, q5, q6, q7, q8, q9, bN, bk, bl, (.slice b1 b2 b3), .string (zd M2.named), dX, dY] 37 ∧ Lay.nam.slice.rd (fun k => (A k ∨ w.heap.size ≤ k) ∧ k < W5.heap.size ∧ some k ≠ ((.slice b1 b2 b3) : Value).ownBlock) W5 [dX] M2.funcs ∧ Lay.nam.slice.rd (fun k => (A k ∨ w.heap.size ≤ k) ∧ k < W5.heap.size ∧ some k ≠ ((.slice b1 b2 b3) : Value).ownBlock) W5 [dY] M2.locals ∧ (zd M2.named).size ≤ maxLen ∧ OwnG Lay.cus 100 L0 (fun k => ¬ D k) W5 (.slice b1 b2 b3) M2.customs ∧ Blk W5 gn #[.bool true] 4 ∧ SpR D g lo p2 W5 ∧ Fr (fun k => k = g ∨ k = gm ∨ k = gn ∨ some k = (Value.slice b1 b2 b3).ownBlock) w W5) := ⟨k1, Lay.mono _ k2 (fun k hk => ⟨hk.1.elim (fun q => q.1) (fun q => .inr (by have := fI.o.2.2.2.2.2.2.2.size; omega)), hk.2, fun e => hk.1.elim (fun q => q.2.2 e) (fun q => by have := qG.o k e.symm; have := fI.o.2.2.2.2.2.2.2.size; omega)⟩), Lay.mono _ k3 (fun k hk => ⟨hk.1.elim (fun q => q.1) (fun q => .inr (by have := fI.o.2.2.2.2.2.2.2.size; omega)), hk.2, fun e => hk.1.elim (fun q => q.2.2 e) (fun q => by have := qG.o k e.symm; have := fI.o.2.2.2.2.2.2.2.size; omega)⟩), k4, by rw [qj.o]; exact fI.o.2.2.2.2.1.fr k6 (fun k e => .inl (fun q => Or.elim e (fun e => (H.o.1.2 k q).2 e) (fun e => (H.o.2.2.2.2.1 k q).1 e))) (fun k hk e => Or.elim e (fun e => (H.o.2.2.2.2.2.2.1 k hk).1 e) (fun e => (H.o.2.2.2.2.2.2.1 k hk).2.1 e)), fI.o.2.2.2.2.2.1.fr k6 (fun e => Or.elim e (fun e => H.o.2.2.2.1.2.1 e) (fun e => H.o.2.2.2.1.2.2 e.symm)), k5, Fr.trans fI.o.2.2.2.2.2.2.2 k6 (fun _ _ h => h) (fun _ _ e => Or.elim e .inl (fun e => .inr (.inl e)))⟩
    clear k1 k2 k3 k4 k5 k6 fI
    obtain ⟨aa, cap, eH, fU, fT⟩ := gK.o.2.2.2.2.2.2.1
    have sL := eH.cell
    have xD := eH.frz
    have eH := qh (anQ eH (anQ fU fT))
    clear fU fT
    by_cases hpv : p2.v = 0
    ·have wS : ((p2.v : Int) != 0) = false := by rw [bne_eq_false_iff_eq]; omega
     have eh := qh (show ∃ dN dX dY, (Blk W5 gm #[q0, q1, q2, q3, q4, q5, q6, q7, q8, q9, bN, bk, bl, dN, .string (zd (zs lo M true s).1.named), dX, dY] 37 ∧ Lay.nam.slice.rd (fun k => (A k ∨ w.heap.size ≤ k) ∧ k < W5.heap.size ∧ some k ≠ (dN : Value).ownBlock) W5 [dX] (zs lo M true s).1.funcs ∧ Lay.nam.slice.rd (fun k => (A k ∨ w.heap.size ≤ k) ∧ k < W5.heap.size ∧ some k ≠ (dN : Value).ownBlock) W5 [dY] (zs lo M true s).1.locals ∧ (zd (zs lo M true s).1.named).size ≤ maxLen ∧ OwnG Lay.cus 100 L0 (fun k => ¬ D k) W5 dN (zs lo M true s).1.customs ∧ Blk W5 gn #[.bool (zs lo M true s).2.1] 4 ∧ SpR D g lo (zs lo M true s).2.2 W5 ∧ Fr (fun k => k = g ∨ k = gm ∨ k = gn ∨ some k = (Value.slice b1 b2 b3).ownBlock) w W5) ∧ ∀ k, dN.ownBlock = some k → (Value.slice b1 b2 b3).ownBlock = some k ∨ w.heap.size ≤ k from ⟨.slice b1 b2 b3, dX, dY, by rw [dD.o, if_neg (fun h => h hpv)]; exact ⟨gK.o, fun k hk => .inl hk⟩⟩)
     clear gK eH HI
     go_wp2
     go_end0
     exact ⟨rfl, eh.o⟩
    ·have wS : ((p2.v : Int) != 0) = true := by rw [bne_iff_ne]; omega
     go_wp2
     go_end0
     have iA := zf W5 ⟨g, 1, none⟩ (.int .i64 2)
     refine ⟨rfl, .slice b1 b2 b3, dX, dY, ?_, fun k hk => .inl hk⟩
     rw [dD.o, if_pos hpv]
     refine ⟨gK.o.1.fr iA H.o.2.2.2.1.1, zS gK.o.2.1 iA (fun k hk => ⟨hk.2.1, fun e => by
      rcases hk.1 with q | q
      ·have hq := H.o.2.2.2.2.2.1 k q
       exact hq.2.1 e
      ·have := H.o.1.1; have e' : k = g := e; omega⟩) (fun k hk => ⟨hk.1, nqQ hk.2.1 iA.size, hk.2.2⟩), zS gK.o.2.2.1 iA (fun k hk => ⟨hk.2.1, fun e => by
      rcases hk.1 with q | q
      ·have hq := H.o.2.2.2.2.2.1 k q
       exact hq.2.1 e
      ·have := H.o.1.1; have e' : k = g := e; omega⟩) (fun k hk => ⟨hk.1, nqQ hk.2.1 iA.size, hk.2.2⟩), gK.o.2.2.2.1, gK.o.2.2.2.2.1.fr iA (fun k e => .inl (fun q => by have e' : k = g := e; exact (H.o.1.2 k q).2 e')) (fun k hk e => (H.o.2.2.2.2.2.2.1 k hk).1 e), gK.o.2.2.2.2.2.1.fr iA H.o.2.2.2.1.2.1, SpR.mk (aa := aa) (cap := cap) ?_ eH.o.2.1 eH.o.2.2 iA, Fr.trans gK.o.2.2.2.2.2.2.2 iA (fun _ _ h => h) (fun _ _ e => .inl e)⟩
     have := eH.o.1.set 1 (.int .i64 2)
     simpa using this
  ·have dD := qh (dD.o.trans (if_pos eC))
   have kv : ((zd nm).toList == [110, 97, 109, 101]) = false := by rw [jm]; exact beq_eq_false_iff_ne.2 eC
   obtain ⟨aa, cap, eH, fU, fT⟩ := HJ.o.2.2.2.2.2.2.1
   have eH := qh (anQ eH (anQ fU fT))
   clear fU fT
   go_wp2_with fail
   refine zj (yX (fun k => ¬ (k = gm ∨ k = g))) [kT 0, kT 1, kT 2, kT 3, kT 4, kT 5, kT 6, kT 7, kT 8, kT 9, kT 10, kR 11, kR 12, kT 13, kT 14, kL 15] (by kernel_rfl) (by kernel_rfl) ?_
   simp only [zx, gzQ, gsQ]
   have HC := qh (fun W' (h : Fr (fun k => ¬ (k = gm ∨ k = g)) w2.drew W') => anQ (HJ.o.1.fr ((zb _).fr h) (fun e => e (.inl rfl))).cell (eH.o.1.fr ((zb _).fr h) (fun e => e (.inr rfl))).cell)
   have sU := qh (show Lay.u8.slice.rd D w2.drew [.slice aa t.b.length cap] t.b from Lay.frame _ eH.o.2.1 (fun k hk => (zb w2).block k (eH.o.2.2 k hk).1 (fun q => q)))
   have kB : Hq (Blk w2.drew gm #[q0, q1, q2, q3, q4, q5, q6, q7, q8, q9, bN, bk, bl, (.slice b1 b2 b3), .string (zd M.named), fA, fB] 37 ∧ Lay.nam.slice.rd (fun k => (A k ∨ w.heap.size ≤ k) ∧ k < w2.drew.heap.size ∧ some k ≠ ((.slice b1 b2 b3) : Value).ownBlock) w2.drew [fA] M.funcs ∧ Lay.nam.slice.rd (fun k => (A k ∨ w.heap.size ≤ k) ∧ k < w2.drew.heap.size ∧ some k ≠ ((.slice b1 b2 b3) : Value).ownBlock) w2.drew [fB] M.locals ∧ (zd M.named).size ≤ maxLen ∧ OwnG Lay.cus 100 L0 (fun k => ¬ D k) w2.drew (.slice b1 b2 b3) M.customs ∧ Blk w2.drew gn #[.bool seen] 4 ∧ SpR D g lo t w2.drew ∧ Fr (fun k => k = g ∨ k = gm ∨ k = gn ∨ some k = (Value.slice b1 b2 b3).ownBlock) w w2.drew) := ⟨HJ.o.1.ext (zb _), (Lay.frame _ HJ.o.2.1 (fun k hk => (zb w2).block k hk.2.1 (fun q => q))), (Lay.frame _ HJ.o.2.2.1 (fun k hk => (zb w2).block k hk.2.1 (fun q => q))), HJ.o.2.2.2.1, HJ.o.2.2.2.2.1.ext (zb _), HJ.o.2.2.2.2.2.1.ext (zb _), HJ.o.2.2.2.2.2.2.1.ext (zb _), HJ.o.2.2.2.2.2.2.2.drew⟩
   clear HJ HI eH
   generalize w2.drew = W0 at *
   repeat (apply item_take; rfl; rfl; rfl; rfl; exact fun _ _ _ _ h => h; (intro W e _ k; obtain ⟨q, q2⟩ := HC.o W e; go_simp; exact k))
   apply zg; rfl; intro K hK; go_simp
   refine hK _ _ (za _ _).to ?_
   clear hK K
   apply zg; rfl; intro K hK
   refine zu Lay.cus L0 (.tmp 18) (.tmp 25) _ _ _ 40 rfl Tryz.underlying34 zg6 rfl (by omega) (by decide) (.slice b1 b2 b3) M.customs ⟨nm, t.b⟩ _ rfl rfl kB.o.2.2.2.2.1 ?_ (by have := H.o.2.2.2.2.2.2.2.1; have := kB.o.2.2.2.2.2.2.2.size; omega) (by have := H.o.2.2.2.2.2.2.2.2.1; omega) ?_
   ·refine ⟨[_], [_], rfl, ⟨rfl, gf.o⟩, Lay.mono _ sU.o (fun k hk => ⟨fun q => q hk, (kB.o.2.2.2.2.2.2.1.lt.2 k hk).1, fun e => ?_⟩)⟩
    have := (kB.o.2.2.2.2.1.lt k e.symm).1
    have := (H.o.2.2.2.2.1 k hk).2.2
    omega
   intro v1 Wa h1 h2 h3 h4
   refine hK _ _ (h3.mono (fun k _ e e2 => Or.elim e2 (fun e2 => (H.o.2.2.2.2.2.2.1 k e.symm).2.1 e2) (fun e2 => (H.o.2.2.2.2.2.2.1 k e.symm).1 e2))) ?_
   clear hK K
   obtain ⟨az, aR, aO, rfl⟩ := h1.shape
   have cz := kB.o.1.fr h2 (fun e => (H.o.2.2.2.2.2.2.1 gm e.symm).2.1 rfl)
   have hs := zf Wa ⟨gm, 13, none⟩ (.slice az aR aO)
   have hF : Fr (fun k => k = gm ∨ some k = (Value.slice b1 b2 b3).ownBlock) W0 (Wa.setCell ⟨gm, 13, none⟩ (.slice az aR aO)) := Fr.trans h2 hs (fun _ _ e => .inr e) (fun _ _ e => .inl e)
   have tf : ∀ k, (Value.slice az aR aO).ownBlock = some k → ¬ k = gm := fun k hk e => by
    have := (h1.lt k hk).1
    have := qt.o
    omega
   have HX : Hq (Blk (Wa.setCell ⟨gm, 13, none⟩ (.slice az aR aO)) gm #[q0, q1, q2, q3, q4, q5, q6, q7, q8, q9, bN, bk, bl, (.slice az aR aO), .string (zd ({ M with customs := M.customs ++ [⟨nm, t.b⟩] } : Mod).named), fA, fB] 37 ∧ Lay.nam.slice.rd (fun k => (A k ∨ w.heap.size ≤ k) ∧ k < (Wa.setCell ⟨gm, 13, none⟩ (.slice az aR aO)).heap.size ∧ some k ≠ ((.slice az aR aO) : Value).ownBlock) (Wa.setCell ⟨gm, 13, none⟩ (.slice az aR aO)) [fA] ({ M with customs := M.customs ++ [⟨nm, t.b⟩] } : Mod).funcs ∧ Lay.nam.slice.rd (fun k => (A k ∨ w.heap.size ≤ k) ∧ k < (Wa.setCell ⟨gm, 13, none⟩ (.slice az aR aO)).heap.size ∧ some k ≠ ((.slice az aR aO) : Value).ownBlock) (Wa.setCell ⟨gm, 13, none⟩ (.slice az aR aO)) [fB] ({ M with customs := M.customs ++ [⟨nm, t.b⟩] } : Mod).locals ∧ (zd ({ M with customs := M.customs ++ [⟨nm, t.b⟩] } : Mod).named).size ≤ maxLen ∧ OwnG Lay.cus 100 L0 (fun k => ¬ D k) (Wa.setCell ⟨gm, 13, none⟩ (.slice az aR aO)) (.slice az aR aO) ({ M with customs := M.customs ++ [⟨nm, t.b⟩] } : Mod).customs ∧ Blk (Wa.setCell ⟨gm, 13, none⟩ (.slice az aR aO)) gn #[.bool seen] 4 ∧ SpR D g lo t (Wa.setCell ⟨gm, 13, none⟩ (.slice az aR aO)) ∧ Fr (fun k => k = g ∨ k = gm ∨ k = gn ∨ some k = (Value.slice b1 b2 b3).ownBlock) w (Wa.setCell ⟨gm, 13, none⟩ (.slice az aR aO))) := by
    refine ⟨?_, zS kB.o.2.1 hF (fun k hk => ⟨hk.2.1, fun e => by
     rcases hk.1 with q | q
     ·have hq := H.o.2.2.2.2.2.1 k q
      rcases e with e | e
      ·exact hq.2.2.1 e
      ·exact hq.2.2.2.2 e
     ·rcases e with e | e
      ·have := H.o.2.2.1; omega
      ·have := (qG.o k e.symm); omega⟩) (fun k hk => ⟨hk.1, nqQ hk.2.1 hF.size, fun e => (h4 k e.symm).elim (fun q => hk.2.2 q.symm) (fun q => by have := hk.2.1; omega)⟩), zS kB.o.2.2.1 hF (fun k hk => ⟨hk.2.1, fun e => by
     rcases hk.1 with q | q
     ·have hq := H.o.2.2.2.2.2.1 k q
      rcases e with e | e
      ·exact hq.2.2.1 e
      ·exact hq.2.2.2.2 e
     ·rcases e with e | e
      ·have := H.o.2.2.1; omega
      ·have := (qG.o k e.symm); omega⟩) (fun k hk => ⟨hk.1, nqQ hk.2.1 hF.size, fun e => (h4 k e.symm).elim (fun q => hk.2.2 q.symm) (fun q => by have := hk.2.1; omega)⟩), kB.o.2.2.2.1, h1.fr hs (fun k e => .inl (fun q => by have e' : k = gm := e; exact (H.o.2.2.2.2.1 k q).1 e')) (fun k hk e => tf k hk e), (kB.o.2.2.2.2.2.1.fr hF (fun e => Or.elim e (fun e => H.o.2.2.2.1.2.2 e.symm) (fun e => (H.o.2.2.2.2.2.2.1 gn e.symm).2.2 rfl))), kB.o.2.2.2.2.2.2.1.fr hF (fun e => Or.elim e (fun e => H.o.2.2.2.1.1 e.symm) (fun e => (H.o.2.2.2.2.2.2.1 g e.symm).1 rfl)) (fun k hk e => Or.elim e (fun e => (H.o.2.2.2.2.1 k hk).1 e) (fun e => by have := (kB.o.2.2.2.2.1.lt k e.symm).1; have := (H.o.2.2.2.2.1 k hk).2.2; omega)), Fr.trans kB.o.2.2.2.2.2.2.2 hF (fun _ _ h => h) (fun _ _ e => Or.elim e (fun e => .inr (.inl e)) (fun e => .inr (.inr (.inr e))))⟩
    have := cz.set 13 (.slice az aR aO)
    simpa using this
   have rK := qh (show ∀ k, (Value.slice az aR aO).ownBlock = some k → (Value.slice b1 b2 b3).ownBlock = some k ∨ w.heap.size ≤ k from fun k hk => (h4 k hk).imp id (fun q => by have := kB.o.2.2.2.2.2.2.2.size; omega))
   have fp := cz.cell
   have ep := cz.frz
   clear h1 h2 h3 h4 hs hF tf kB cz
   repeat (apply item_take; rfl; rfl; rfl; rfl; exact fun _ _ _ _ h => h; (intro _ _ _ k; go_simp; exact k))
   apply zn; rfl; intro K hK; go_simp
   refine hK _ _ ?_
   clear hK K fp ep
   apply zm
   have CE : ∀ k, (Value.slice az aR aO).ownBlock = some k → (Value.slice b1 b2 b3).ownBlock = some k ∨ w.heap.size ≤ k := fun k hk => (rK.o k hk).imp id (fun q => q)
   have eh := qh (show ∃ dN dX dY, (Blk (Wa.setCell ⟨gm, 13, none⟩ (.slice az aR aO)) gm #[q0, q1, q2, q3, q4, q5, q6, q7, q8, q9, bN, bk, bl, dN, .string (zd (zs lo M seen s).1.named), dX, dY] 37 ∧ Lay.nam.slice.rd (fun k => (A k ∨ w.heap.size ≤ k) ∧ k < (Wa.setCell ⟨gm, 13, none⟩ (.slice az aR aO)).heap.size ∧ some k ≠ (dN : Value).ownBlock) (Wa.setCell ⟨gm, 13, none⟩ (.slice az aR aO)) [dX] (zs lo M seen s).1.funcs ∧ Lay.nam.slice.rd (fun k => (A k ∨ w.heap.size ≤ k) ∧ k < (Wa.setCell ⟨gm, 13, none⟩ (.slice az aR aO)).heap.size ∧ some k ≠ (dN : Value).ownBlock) (Wa.setCell ⟨gm, 13, none⟩ (.slice az aR aO)) [dY] (zs lo M seen s).1.locals ∧ (zd (zs lo M seen s).1.named).size ≤ maxLen ∧ OwnG Lay.cus 100 L0 (fun k => ¬ D k) (Wa.setCell ⟨gm, 13, none⟩ (.slice az aR aO)) dN (zs lo M seen s).1.customs ∧ Blk (Wa.setCell ⟨gm, 13, none⟩ (.slice az aR aO)) gn #[.bool (zs lo M seen s).2.1] 4 ∧ SpR D g lo (zs lo M seen s).2.2 (Wa.setCell ⟨gm, 13, none⟩ (.slice az aR aO)) ∧ Fr (fun k => k = g ∨ k = gm ∨ k = gn ∨ some k = (Value.slice b1 b2 b3).ownBlock) w (Wa.setCell ⟨gm, 13, none⟩ (.slice az aR aO))) ∧ ∀ k, dN.ownBlock = some k → (Value.slice b1 b2 b3).ownBlock = some k ∨ w.heap.size ≤ k from ⟨.slice az aR aO, fA, fB, by rw [dD.o]; exact ⟨HX.o, CE⟩⟩)
   clear HX
   go_wp2
   (try simp only [Exit.inBlock, Exit.then]); refine bodyPost_ret (results_none rfl _ _ _) rfl ?_
   exact ⟨rfl, eh.o⟩
 ·rw [decide_eq_false hv]
  have dD := qh (dD.o.trans (if_pos hv))
  have eh := qh (show ∃ dN dX dY, (Blk w2 gm #[q0, q1, q2, q3, q4, q5, q6, q7, q8, q9, bN, bk, bl, dN, .string (zd (zs lo M seen s).1.named), dX, dY] 37 ∧ Lay.nam.slice.rd (fun k => (A k ∨ w.heap.size ≤ k) ∧ k < w2.heap.size ∧ some k ≠ (dN : Value).ownBlock) w2 [dX] (zs lo M seen s).1.funcs ∧ Lay.nam.slice.rd (fun k => (A k ∨ w.heap.size ≤ k) ∧ k < w2.heap.size ∧ some k ≠ (dN : Value).ownBlock) w2 [dY] (zs lo M seen s).1.locals ∧ (zd (zs lo M seen s).1.named).size ≤ maxLen ∧ OwnG Lay.cus 100 L0 (fun k => ¬ D k) w2 dN (zs lo M seen s).1.customs ∧ Blk w2 gn #[.bool (zs lo M seen s).2.1] 4 ∧ SpR D g lo (zs lo M seen s).2.2 w2 ∧ Fr (fun k => k = g ∨ k = gm ∨ k = gn ∨ some k = (Value.slice b1 b2 b3).ownBlock) w w2) ∧ ∀ k, dN.ownBlock = some k → (Value.slice b1 b2 b3).ownBlock = some k ∨ w.heap.size ≤ k from ⟨.slice b1 b2 b3, fA, fB, by rw [dD.o]; exact ⟨HJ.o, fun k hk => .inl hk⟩⟩)
  clear HI HJ
  go_wp2
  (try simp only [Exit.inBlock, Exit.then]); refine bodyPost_ret (results_none rfl _ _ _) rfl ?_
  exact ⟨rfl, eh.o⟩
abbrev aN (w W : World) : Nat → Prop := fun k => w.heap.size ≤ k ∧ k < W.heap.size
variable {α : Type} {l : Lay α} {w W W' : World} {cs : List Value} {x : α}
theorem zee {S : Nat → Prop} (h : l.rd (aN w W) W cs x) (hf : Fr S W W') (hS : ∀ k, S k → k < w.heap.size) : l.rd (aN w W') W' cs x :=
 l.mono (Lay.fr h hf (fun k hk => ⟨hk.2, fun q => by have := hS k q; have := hk.1; omega⟩)) (fun k hk => ⟨hk.1, nqQ hk.2 hf.size⟩)
theorem Zn (h : l.rd (aN W W') W' cs x) (hw : w.heap.size ≤ W.heap.size) : l.rd (aN w W') W' cs x :=
 l.mono h (fun k hk => ⟨nlQ hw hk.1, hk.2⟩)
structure Yb (S : Rdr) (D F : Nat → Prop) (g : Nat) (pe pu : Addr) (L b : Nat) (w : World) (bs : List UInt8) (cs : Array Value) (T : TypeId) (W : World) : Prop where
 rx : RdX S D F g pe pu L bs W
 blk : Blk W b cs T
 fr : Fr (fun k => F k ∨ k = b) w W
 nF : ¬ F b
 nD : ¬ D b
 lb : L ≤ b
 old : ∀ k, F k ∨ k = b → k < w.heap.size
section
variable {S : Rdr} {D F : Nat → Prop} {g : Nat} {pe pu : Addr} {L b : Nat} {w W W' : World} {bs r : List UInt8} {cs fb : Array Value} {T : TypeId}
theorem Yb.start (h : RdX S D F g pe pu L bs w) (hB : Blk w b cs T) (hF : ¬ F b) (hD : ¬ D b) (hb : L ≤ b) : Yb S D F g pe pu L b w bs cs T w :=
 ⟨h, hB, Fr.refl _ _, hF, hD, hb, fun k e => e.elim (fun e => (S.lt h.is).2.1 k e) (fun e => by rw [e]; exact hB.lt)⟩
theorem Yb.read (h : Yb S D F g pe pu L b w bs cs T W) (h1 : RdX S D F g pe pu L r W') (h2 : Fr F W W') : Yb S D F g pe pu L b w r cs T W' :=
 ⟨h1, h.blk.fr h2 h.nF, Fr.trans h.fr h2 (fun _ _ e => e) (fun _ _ e => .inl e), h.nF, h.nD, h.lb, h.old⟩
theorem Yb.into (h : Yb S D F g pe pu L b w bs cs T W) (h1 : RdX S D F g pe pu L r W') (hB : Blk W' b fb T) (h2 : Fr (fun k => F k ∨ k = b) W W') : Yb S D F g pe pu L b w r fb T W' :=
 ⟨h1, hB, Fr.trans h.fr h2 (fun _ _ e => e) (fun _ _ e => e), h.nF, h.nD, h.lb, h.old⟩
theorem Yb.ext (h : Yb S D F g pe pu L b w bs cs T W) (hx : Ext W W') : Yb S D F g pe pu L b w bs cs T W' :=
 ⟨h.rx.ext hx, h.blk.ext hx, h.fr.ext hx, h.nF, h.nD, h.lb, h.old⟩
theorem Yb.set (h : Yb S D F g pe pu L b w bs cs T W) (o : Nat) (v : Value) : Yb S D F g pe pu L b w bs (cs.setIfInBounds o v) T (W.setCell ⟨b, o, none⟩ v) := by
 have hs := zf W ⟨b, o, none⟩ v
 exact ⟨h.rx.fr hs (fun k e => by have e' : k = b := e; rw [e']; exact h.lb) (fun k hk e => by have e' : k = b := e; subst e'; exact h.nF hk) (fun k hk e => by have e' : k = b := e; subst e'; exact h.nD hk), h.blk.set o v,
  Fr.trans h.fr hs (fun _ _ e => e) (fun _ _ e => .inr e), h.nF, h.nD, h.lb, h.old⟩
theorem Yb.other (h : Yb S D F g pe pu L b w bs cs T W) {gn : Nat} (hg : w.heap.size ≤ gn) (h1 : RdX S D F g pe pu L r W') (h2 : Fr (fun k => F k ∨ k = gn) W W') : Yb S D F g pe pu L b w r cs T W' :=
 ⟨h1, h.blk.fr h2 (fun e => e.elim h.nF (fun e => by have := h.old b (.inr rfl); omega)), Fr.trans h.fr h2 (fun _ _ e => e) (fun k hk e => e.elim .inl (fun e => by omega)), h.nF, h.nD, h.lb, h.old⟩
theorem Yb.new (h : Yb S D F g pe pu L b w bs cs T W) : ¬ F W.heap.size ∧ ¬ D W.heap.size ∧ L ≤ W.heap.size ∧ w.heap.size ≤ W.heap.size ∧ ¬ W.heap.size = b := by
 have h1 := S.lt h.rx.is
 have h2 := h.blk.lt
 exact ⟨fun q => by have := h1.2.1 _ q; omega, fun q => by have := (h1.2.2 _ q).1; omega, h.rx.sp.lw, h.fr.size, by omega⟩
theorem Yb.bad (h : Yb S D F g pe pu L b w bs cs T W) {α : Type} {p : PR α} {lx : α → World → Prop} {v : Value} (hp : p = .bad) (hv : BadV pe W' v) (hs : Spec pe pu L W') (h2 : Fr (fun k => F k ∨ k = b) W W') : PX S D F g pe pu L b p lx w (.returned v) W' :=
 .inr ⟨hp, v, rfl, hv, hs, Fr.trans h.fr h2 (fun _ _ e => e) (fun _ _ e => e)⟩
theorem Yb.badO (h : Yb S D F g pe pu L b w bs cs T W) {α : Type} {p : PR α} {lx : α → World → Prop} {v : Value} {gn : Nat} (hg : w.heap.size ≤ gn) (hp : p = .bad) (hv : BadV pe W' v) (hs : Spec pe pu L W') (h2 : Fr (fun k => F k ∨ k = gn) W W') : PX S D F g pe pu L b p lx w (.returned v) W' :=
 .inr ⟨hp, v, rfl, hv, hs, Fr.trans h.fr h2 (fun _ _ e => e) (fun k hk e => e.elim .inl (fun e => by omega))⟩
theorem Yb.badX (h : Yb S D F g pe pu L b w bs cs T W) {α : Type} {p : PR α} {lx : α → World → Prop} {v : Value} (hp : p = .bad) (hv : BadV pe W' v) (hx : Ext W W') : PX S D F g pe pu L b p lx w (.returned v) W' :=
 .inr ⟨hp, v, rfl, hv, (h.ext hx).rx.sp, h.fr.ext hx⟩
theorem Yb.ok (h : Yb S D F g pe pu L b w r cs T W) {α : Type} {p : PR α} {x : α} {lx : α → World → Prop} (hp : p = .ok x r) (hu : lx x W) : PX S D F g pe pu L b p lx w (.returned .nilIface) W :=
 .inl ⟨x, r, hp, rfl, h.rx, hu, h.fr⟩
end
variable {o : Nat}
theorem Ji {cs : Array Value} (ho : o < cs.size) : ∃ x, cs[o]? = some x := ⟨cs[o], Array.getElem?_eq_getElem ho⟩
variable {u : Value}
theorem Jx {p : Addr} (h : l.rd (aN w W) W cs x) (hp : p.block < w.heap.size) : l.rd (aN w (W.setCell p u)) (W.setCell p u) cs x :=
 zee h (zf W p u) (fun k e => by rw [e]; exact hp)
theorem zeF (S : Rdr) (D F : Nat → Prop) (g : Nat) (pe pu : Addr) (L : Nat) (bs : List UInt8) (w : World) (h : RdX S D F g pe pu L bs w) (b o : Nat) (cs : Array Value) (T : TypeId) (hB : Blk w b cs T) (ho : o < cs.size) (hF : ¬ F b) (hD : ¬ D b) (hb : L ≤ b) (ag : zR bs ≠ .any) :
 Calls Tryz.prog 131 #[.iface S.T (.pointer (some ⟨g, 0, none⟩)), .pointer (some ⟨b, o, none⟩)] w fun e w' => PX S D F g pe pu L b (zR bs) (fun l W => Blk W b (cs.setIfInBounds o (.string (zd l))) T ∧ (zd l).size ≤ maxLen) w e w' := by
 have H := qh (Yb.start h hB hF hD hb)
 obtain ⟨x, hx⟩ := Ji ho
 have ag := qh ag
 clear h hB hF hD hb
 go_enter Tryz.func131, Tryz.ntmps131
 have Hn := qh H.o.new
 obtain ⟨gn, dh⟩ := exQ (w.heap.size)
 go_wp2_with fail
 rw [dh] at Hn
 have HE := qh (H.o.ext (za w (.cells #[.slice none 0 0] 22)))
 have HG : Hq (Blk (w.alloc (.cells #[.slice none 0 0] 22)) gn #[.slice none 0 0] 22) := by rw [← dh]; exact zl _ _ _
 have hW := qh (za w (.cells #[.slice none 0 0] 22))
 generalize w.alloc (.cells #[.slice none 0 0] 22) = w1 at *
 refine (zdD S D F g pe pu L bs w1 HE.o.rx gn 0 _ _ HG.o (by decide) Hn.o.1 Hn.o.2.1 Hn.o.2.2.1 ag.o).mono ?_
 rintro e w2 (⟨l, r, hr, rfl, h1, ⟨v, h2, h3, a1, a2, a3, rfl⟩, h4⟩ | ⟨hr, v, rfl, hv, hs, h4⟩)
 ·have H2 := qh (HE.o.other (gn := gn) (by omega) h1 h4)
  have gI := Jt h3 (fun _ hk => hk.2) 22 9 5 Tryz.underlying22 Tryz.underlying5 Tryz.underlying9 w2 (Fr.refl _ _)
  have bS := h2.cell
  have fM := H2.o.blk.cell o
  rw [hx] at fM
  have iZ := H2.o.blk.frz o
  have hr := qh hr
  have iJ := qh (show (zd l).size ≤ maxLen from yd (by
   have q := hr.o
   cases hp : pNum bs with
   | ok n r' =>
    have h9 := HE.o.rx.len
    have h8 := jx hp
    unfold zR at q
    rw [hp, PR.bind_ok] at q
    unfold ZY at q
    split at q
    ·injection q with q1 q2
     rw [← q1, ltQ]
     omega
    ·cases q
   | bad => unfold zR at q; rw [hp] at q; cases q
   | any => unfold zR at q; rw [hp] at q; cases q))
  clear h1 h2 h3 h4 HE HG
  go_wp2
  go_ret
  exact (H2.o.set o _).ok hr.o ⟨(H2.o.set o _).blk, iJ.o⟩
 ·have H2 := qh (anQ hr (anQ hv (anQ hs h4)))
  clear hr hv hs h4
  obtain ⟨p, dR, pT, rfl, dM, cW⟩ := H2.o.2.1
  go_wp2
  go_ret
  exact HE.o.badO (gn := gn) (by omega) H2.o.1 H2.o.2.1 H2.o.2.2.1 H2.o.2.2.2
variable {B : List Value} {i : Nat}
theorem zef {A : List Value} (hA : A.length = i) (hi : i < B.length) (v : Value) : (A ++ B.drop i).toArray.setIfInBounds i v = ((A ++ [v]) ++ B.drop (i + 1)).toArray := by
 subst hA
 have e := List.drop_eq_getElem_cons hi
 rw [e]
 generalize B[A.length] = u
 generalize List.drop (A.length + 1) B = q
 simp
variable {n : Nat}
theorem zdF {A : List Value} (hA : A.length = i) (hB : B.length = n) (hi : i ≤ n) : (A ++ B.drop i).length = n := by
 rw [laQ, ldQ]; omega
variable {A : Nat → Prop}
theorem zcN {f : α → Value} {h1 : ∀ x, (f x).oneCell' = true} : ∀ xs : List α, (Lay.cell1 f h1).all A w (xs.map f) xs
 | [] => rfl
 | x :: xs => ⟨[f x], xs.map f, rfl, rfl, zcN xs⟩
theorem zeg : ∀ xs : List Int, (∀ x ∈ xs, 0 ≤ x ∧ x ≤ 3) → Lay.int.all A w (xs.map (Value.int .i64)) xs
 | [], _ => rfl
 | x :: xs, h => ⟨[.int .i64 x], xs.map (Value.int .i64), rfl, ⟨rfl, by have := h x List.mem_cons_self; omega⟩, zeg xs (fun y hy => h y (List.mem_cons_of_mem _ hy))⟩
theorem zfP {b : Nat} {flat : List Value} {T : TypeId} {xs : List α} (h : Blk W b flat.toArray T) (hn : xs.length = n) (hl : n ≤ maxLen) (ha : l.all A W flat xs) (hA : A b) : l.slice.rd A W [.slice (some ⟨b, 0, none⟩) n n] xs := by
 subst hn
 exact ⟨_, xs.length, rfl, Nat.le_refl _, hl, fun _ => ⟨b, 0, _, T, (0, 0), flat, rfl, hA, h, ha, fun j hj => by rw [Nat.zero_add]; simp⟩⟩
theorem zhS (S : Rdr) (D F : Nat → Prop) (g : Nat) (pe pu : Addr) (L : Nat) (bs : List UInt8) (w : World) (h : RdX S D F g pe pu L bs w) (b o : Nat) (cs : Array Value) (T : TypeId) (hB : Blk w b cs T) (ho : o < cs.size) (hF : ¬ F b) (hD : ¬ D b) (hb : L ≤ b) (ag : pVec pNum bs ≠ .any) :
 Calls Tryz.prog 172 #[.iface S.T (.pointer (some ⟨g, 0, none⟩)), .pointer (some ⟨b, o, none⟩)] w fun e w' => PX S D F g pe pu L b (pVec pNum bs) (fun l W => ∃ v, Blk W b (cs.setIfInBounds o v) T ∧ Lay.u32.slice.rd (aN w W) W [v] l ∧ ∃ a m c, v = .slice a m c) w e w' := by
 have HC := qh (jS S D F g pe pu L bs w h (PR.ne_any ag))
 have H := qh (Yb.start h hB hF hD hb)
 obtain ⟨x, hx⟩ := Ji ho
 have ag := qh ag
 clear h hB hF hD hb
 go_enter Tryz.func172, Tryz.ntmps172
 go_wp2_with fail
 refine HC.o.mono ?_
 rintro e w1 ⟨n, rest, hr, rfl, h1, h2⟩
 have hp := qh (show pVec pNum bs = pRep pNum n.toNat rest from by unfold pVec; rw [hr]; rfl)
 have ey := qh (show pRep pNum n.toNat rest ≠ .any from by rw [← hp.o]; exact ag.o)
 have eZ := n.toNat_lt
 have H1 := qh (H.o.read h1 h2)
 generalize n.toNat = m at *
 clear h1 h2 hr HC ag
 obtain ⟨kU, hi, dt, dO, en⟩ := info_parts (show (Tryz.prog.info? 24).map (fun i => (i.zero, i.size, i.bytes)) = some (some (.int .u32 0), 1, 4) from by kernel_rfl)
 have gV := qh (anQ hi (anQ dt (anQ dO en)))
 clear hi dt dO en
 go_wp2_with (at_make; refine Hq.o ?_)
 obtain ⟨hi, dt, dO, en⟩ := gV.o
 refine wpList_make_full _ rfl (.tmp 18) (.tmp 18) 27 rfl w1.heap.size 24 kU (.int .u32 0) 1 Tryz.underlying27 hi dt dO .u32 .u32 (m : Int) (m : Int) m rfl rfl rfl rfl (by rw [en]; omega) (by show m ≤ 9223372036854775807; omega) (Nat.le_refl _) ?_
 intro w2 hO hG
 obtain ⟨c2, ct, cT⟩ := J8 (P := Tryz.prog) (w1 := w1) hO
 have eQ : Ext w1 w2 := (yW hG).mono (fun _ _ h => by cases h)
 obtain ⟨gb, bt⟩ := exQ (w1.heap.size)
 have bo := qh H1.o.new
 rw [bt] at ct bo
 rw [bt]
 have H2 := qh (H1.o.ext eQ)
 have xp := qh ct
 have cT := qh (show c2.toList.length = m from by rw [Array.length_toList (xs := c2)]; omega)
 clear hO hG hi dt dO en gV eQ ct bt
 go_wp2_with fail
 go_loopw [21] (fun iM w' => ∃ (i : Nat), i ≤ m ∧ iM = .int .u32 i ∧ Hq (∃ (xs : List UInt32) (r : List UInt8), pRep pNum i rest = .ok xs r ∧ xs.length = i ∧ Yb S D F g pe pu L b w r cs T w' ∧ Blk w' gb (xs.map (fun n : UInt32 => Value.int .u32 (n.toNat : Int)) ++ c2.toList.drop i).toArray 24)) (fun iM _ => m - (intOf iM).toNat)
 case atStart => exact ⟨0, nzQ _, rfl, [], rest, rfl, rfl, H2.o, by simpa using xp.o⟩
 case round =>
  obtain ⟨i, hi, rfl, hV⟩ := hrel
  by_cases aj : i < m
  ·obtain ⟨xs, r, q1, q2, q3, q4⟩ := hV.o
   have HV := qh (anQ q1 (anQ q2 (anQ q3 q4)))
   have c6 := zdF (A := xs.map (fun n : UInt32 => Value.int .u32 (n.toNat : Int))) (B := c2.toList) (i := i) (n := m) (by rw [List.length_map]; exact q2) cT.o hi
   clear hV q1 q2 q3 q4
   go_wp2_with fail
   refine (zfL S D F g pe pu L r wr HV.o.2.2.1.rx gb i _ _ HV.o.2.2.2 (by rw [List.size_toArray, c6]; omega) bo.o.1 bo.o.2.1 bo.o.2.2.1 (yE HV.o.1 aj ey.o)).mono ?_
   rintro e w4 (⟨y, r4, i1, rfl, k1, k2, k3⟩ | ⟨i1, v, rfl, hv, eA, k3⟩)
   ·have vP : Hq (∃ (xs : List UInt32) (r : List UInt8), pRep pNum (i + 1) rest = .ok xs r ∧ xs.length = i + 1 ∧ Yb S D F g pe pu L b w r cs T w4 ∧ Blk w4 gb (xs.map (fun n : UInt32 => Value.int .u32 (n.toNat : Int)) ++ c2.toList.drop (i + 1)).toArray 24) := by
     refine ⟨_, r4, yu HV.o.1 i1, by rw [laQ, HV.o.2.1]; rfl, HV.o.2.2.1.other (gn := gb) bo.o.2.2.2.1 k1 k3, ?_⟩
     rw [zef (by rw [List.length_map]; exact HV.o.2.1) (by rw [cT.o]; exact aj)] at k2
     rw [List.map_append]
     exact k2
    clear k1 k2 k3 i1 HV c6
    go_wp2
    go_roundw
    case rel => exact ⟨i + 1, by omega, by go_num, vP.o⟩
    case measure => simp [intOf]; omega
   ·have H4 := qh (anQ (jg HV.o.1 aj i1) (anQ hv (anQ eA k3)))
    clear i1 hv eA k3
    obtain ⟨p, dR, pT, rfl, dM, cW⟩ := H4.o.2.1
    go_wp2
    go_ret
    exact HV.o.2.2.1.badO (gn := gb) bo.o.2.2.2.1 (by rw [hp.o, H4.o.1]) H4.o.2.1 H4.o.2.2.1 H4.o.2.2.2
  ·obtain rfl : i = m := by omega
   obtain ⟨xs, r, q1, q2, q3, q4⟩ := hV.o
   have HV := qh (anQ q1 (anQ q2 (anQ q3 q4)))
   have fM := q3.blk.cell o
   rw [hx] at fM
   have iZ := q3.blk.frz o
   clear hV q1 q2 q3 q4
   go_wp2
   go_ret
   have hY := HV.o.2.2.1.set o (.slice (some ⟨gb, 0, none⟩) i i)
   refine hY.ok (x := xs) (by rw [hp.o]; exact HV.o.1) ⟨_, hY.blk, ?_, _, _, _, rfl⟩
   have fv := HV.o.2.2.2.fr (zf wr ⟨b, o, none⟩ (.slice (some ⟨gb, 0, none⟩) i i)) bo.o.2.2.2.2
   rw [show c2.toList.drop i = [] from List.drop_eq_nil_of_le (by rw [cT.o]; omega), List.append_nil] at fv
   exact zfP fv HV.o.2.1 (by simp only [maxLen]; omega) (zcN xs) ⟨bo.o.2.2.2.1, fv.lt⟩
theorem zjp (S : Rdr) (D F : Nat → Prop) (g : Nat) (pe pu : Addr) (L : Nat) (bs : List UInt8) (w : World) (h : RdX S D F g pe pu L bs w) (b o : Nat) (cs : Array Value) (T : TypeId) (hB : Blk w b cs T) (ho : o < cs.size) (hF : ¬ F b) (hD : ¬ D b) (hb : L ≤ b) (ag : pVec pVT bs ≠ .any) :
 Calls Tryz.prog 182 #[.iface S.T (.pointer (some ⟨g, 0, none⟩)), .pointer (some ⟨b, o, none⟩)] w fun e w' => PX S D F g pe pu L b (pVec pVT bs) (fun l W => ∃ v, Blk W b (cs.setIfInBounds o v) T ∧ Lay.int.slice.rd (aN w W) W [v] l ∧ ∃ a m c, v = .slice a m c) w e w' := by
 have HC := qh (jS S D F g pe pu L bs w h (PR.ne_any ag))
 have H := qh (Yb.start h hB hF hD hb)
 obtain ⟨x, hx⟩ := Ji ho
 have ag := qh ag
 clear h hB hF hD hb
 go_enter Tryz.func182, Tryz.ntmps182
 go_wp2_with fail
 refine HC.o.mono ?_
 rintro e w1 ⟨n, rest, hr, rfl, h1, h2⟩
 have hp := qh (show pVec pVT bs = pRep pVT n.toNat rest from by unfold pVec; rw [hr]; rfl)
 have ey := qh (show pRep pVT n.toNat rest ≠ .any from by rw [← hp.o]; exact ag.o)
 have eZ := n.toNat_lt
 have H1 := qh (H.o.read h1 h2)
 generalize n.toNat = m at *
 clear h1 h2 hr HC ag
 obtain ⟨kU, hi, dt, dO, en⟩ := info_parts (show (Tryz.prog.info? 218).map (fun i => (i.zero, i.size, i.bytes)) = some (some (.int .i64 0), 1, 8) from by kernel_rfl)
 have gV := qh (anQ hi (anQ dt (anQ dO en)))
 clear hi dt dO en
 go_wp2_with (at_make; refine Hq.o ?_)
 obtain ⟨hi, dt, dO, en⟩ := gV.o
 refine wpList_make_full _ rfl (.tmp 18) (.tmp 18) 195 rfl w1.heap.size 218 kU (.int .i64 0) 1 Tryz.underlying195 hi dt dO .u32 .u32 (m : Int) (m : Int) m rfl rfl rfl rfl (by rw [en]; omega) (by show m ≤ 9223372036854775807; omega) (Nat.le_refl _) ?_
 intro w2 hO hG
 obtain ⟨c2, ct, cT⟩ := J8 (P := Tryz.prog) (w1 := w1) hO
 have eQ : Ext w1 w2 := (yW hG).mono (fun _ _ h => by cases h)
 obtain ⟨gb, bt⟩ := exQ (w1.heap.size)
 have bo := qh H1.o.new
 rw [bt] at ct bo
 rw [bt]
 have H2 := qh (H1.o.ext eQ)
 have xp := qh ct
 have cT := qh (show c2.toList.length = m from by rw [Array.length_toList (xs := c2)]; omega)
 clear hO hG hi dt dO en gV eQ ct bt
 go_wp2_with fail
 go_loopw [21] (fun iM w' => ∃ (i : Nat), i ≤ m ∧ iM = .int .u32 i ∧ Hq (∃ (xs : List Int) (r : List UInt8), pRep pVT i rest = .ok xs r ∧ xs.length = i ∧ Yb S D F g pe pu L b w r cs T w' ∧ Blk w' gb (xs.map (Value.int .i64) ++ c2.toList.drop i).toArray 218 ∧ ∀ x ∈ xs, 0 ≤ x ∧ x ≤ 3)) (fun iM _ => m - (intOf iM).toNat)
 case atStart => exact ⟨0, nzQ _, rfl, [], rest, rfl, rfl, H2.o, by simpa using xp.o, by intro x hx; cases hx⟩
 case round =>
  obtain ⟨i, hi, rfl, hV⟩ := hrel
  by_cases aj : i < m
  ·obtain ⟨xs, r, q1, q2, q3, q4, q5⟩ := hV.o
   have HV := qh (anQ q1 (anQ q2 (anQ q3 (anQ q4 q5))))
   have c6 := zdF (A := xs.map (Value.int .i64)) (B := c2.toList) (i := i) (n := m) (by rw [List.length_map]; exact q2) cT.o hi
   clear hV q1 q2 q3 q4 q5
   go_wp2_with fail
   refine (zjo S D F g pe pu L r wr HV.o.2.2.1.rx gb i _ _ HV.o.2.2.2.1 (by rw [List.size_toArray, c6]; omega) bo.o.1 bo.o.2.1 bo.o.2.2.1 (yE HV.o.1 aj ey.o)).mono ?_
   rintro e w4 (⟨y, r4, i1, rfl, k1, ⟨k2, kr⟩, k3⟩ | ⟨i1, v, rfl, hv, eA, k3⟩)
   ·have vP : Hq (∃ (xs : List Int) (r : List UInt8), pRep pVT (i + 1) rest = .ok xs r ∧ xs.length = i + 1 ∧ Yb S D F g pe pu L b w r cs T w4 ∧ Blk w4 gb (xs.map (Value.int .i64) ++ c2.toList.drop (i + 1)).toArray 218 ∧ ∀ x ∈ xs, 0 ≤ x ∧ x ≤ 3) := by
     refine ⟨_, r4, yu HV.o.1 i1, by rw [laQ, HV.o.2.1]; rfl, HV.o.2.2.1.other (gn := gb) bo.o.2.2.2.1 k1 k3, ?_, fun z hz => by
      rcases List.mem_append.1 hz with hz | hz
      ·exact HV.o.2.2.2.2 z hz
      ·obtain rfl := List.mem_singleton.1 hz; exact kr⟩
     rw [zef (by rw [List.length_map]; exact HV.o.2.1) (by rw [cT.o]; exact aj)] at k2
     rw [List.map_append]
     exact k2
    clear k1 k2 k3 i1 HV c6
    go_wp2
    go_roundw
    case rel => exact ⟨i + 1, by omega, by go_num, vP.o⟩
    case measure => simp [intOf]; omega
   ·have H4 := qh (anQ (jg HV.o.1 aj i1) (anQ hv (anQ eA k3)))
    clear i1 hv eA k3
    obtain ⟨p, dR, pT, rfl, dM, cW⟩ := H4.o.2.1
    go_wp2
    go_ret
    exact HV.o.2.2.1.badO (gn := gb) bo.o.2.2.2.1 (by rw [hp.o, H4.o.1]) H4.o.2.1 H4.o.2.2.1 H4.o.2.2.2
  ·obtain rfl : i = m := by omega
   obtain ⟨xs, r, q1, q2, q3, q4, q5⟩ := hV.o
   have HV := qh (anQ q1 (anQ q2 (anQ q3 (anQ q4 q5))))
   have fM := q3.blk.cell o
   rw [hx] at fM
   have iZ := q3.blk.frz o
   clear hV q1 q2 q3 q4 q5
   go_wp2
   go_ret
   have hY := HV.o.2.2.1.set o (.slice (some ⟨gb, 0, none⟩) i i)
   refine hY.ok (x := xs) (by rw [hp.o]; exact HV.o.1) ⟨_, hY.blk, ?_, _, _, _, rfl⟩
   have fv := HV.o.2.2.2.1.fr (zf wr ⟨b, o, none⟩ (.slice (some ⟨gb, 0, none⟩) i i)) bo.o.2.2.2.2
   rw [show c2.toList.drop i = [] from List.drop_eq_nil_of_le (by rw [cT.o]; omega), List.append_nil] at fv
   exact zfP fv HV.o.2.1 (by simp only [maxLen]; omega) (zeg xs HV.o.2.2.2.2) ⟨bo.o.2.2.2.1, fv.lt⟩
namespace Lay
def elim : Lay Lim where
 size := 2
 rd A w cs x := ∃ q, cs = [.int .u32 (x.min.toNat : Int), .pointer q] ∧ ((x.bounded = false ∧ x.max = 0 ∧ q = none) ∨ (x.bounded = true ∧ ∃ b T, q = some ⟨b, 0, none⟩ ∧ A b ∧ w.heap[b]? = some (.cells #[.int .u32 (x.max.toNat : Int)] T (0, 0))))
 len := by rintro A w cs x ⟨q, rfl, _⟩; rfl
 one := by
  rintro A w cs x ⟨q, rfl, _⟩ u hu
  simp only [List.mem_cons, List.not_mem_nil, or_false] at hu
  rcases hu with rfl | rfl <;> rfl
 frame := by
  rintro A w w' cs x ⟨q, rfl, h | ⟨h, b, T, rfl, hA, hb⟩⟩ hf
  ·exact ⟨q, rfl, .inl h⟩
  ·exact ⟨_, rfl, .inr ⟨h, b, T, rfl, hA, (hf b hA).trans hb⟩⟩
 mono := by
  rintro A A' w cs x ⟨q, rfl, h | ⟨h, b, T, rfl, hA, hb⟩⟩ hf
  ·exact ⟨q, rfl, .inl h⟩
  ·exact ⟨_, rfl, .inr ⟨h, b, T, rfl, hf b hA, hb⟩⟩
def etab : Lay Lim := ((cell1 (fun _ : Unit => .int .i64 0) (fun _ => rfl)).pair elim).via (fun x => ((), x))
def edesc : Lay Imp where
 size := 1
 rd A w cs x := (x.kind = 0 ∧ x.lim = ⟨0, false, 0⟩ ∧ x.ty = 0 ∧ x.mtb = false ∧ cs = [.iface 286 (.agg #[.int .u32 (x.index.toNat : Int)])]) ∨
  (x.kind = 1 ∧ x.index = 0 ∧ x.ty = 0 ∧ x.mtb = false ∧ ∃ u v, cs = [.iface 287 (.agg #[.int .i64 0, u, v])] ∧ elim.rd A w [u, v] x.lim) ∨
  (x.kind = 2 ∧ x.index = 0 ∧ x.ty = 0 ∧ x.mtb = false ∧ ∃ u v, cs = [.iface 290 (.agg #[u, v])] ∧ elim.rd A w [u, v] x.lim)
 len := by
  rintro A w cs x (⟨_, _, _, _, h⟩ | ⟨_, _, _, _, u, v, h, _⟩ | ⟨_, _, _, _, u, v, h, _⟩) <;> (rw [h]; rfl)
 one := by
  rintro A w cs x (⟨_, _, _, _, h⟩ | ⟨_, _, _, _, u, v, h, _⟩ | ⟨_, _, _, _, u, v, h, _⟩) z hz <;> (rw [h] at hz; obtain rfl := List.mem_singleton.1 hz; rfl)
 frame := by
  rintro A w w' cs x (⟨h1, h2, h3, h4, h⟩ | ⟨h1, h2, h3, h4, u, v, h, k⟩ | ⟨h1, h2, h3, h4, u, v, h, k⟩) hf
  ·exact .inl ⟨h1, h2, h3, h4, h⟩
  ·exact .inr (.inl ⟨h1, h2, h3, h4, u, v, h, elim.frame k hf⟩)
  ·exact .inr (.inr ⟨h1, h2, h3, h4, u, v, h, elim.frame k hf⟩)
 mono := by
  rintro A A' w cs x (⟨h1, h2, h3, h4, h⟩ | ⟨h1, h2, h3, h4, u, v, h, k⟩ | ⟨h1, h2, h3, h4, u, v, h, k⟩) hf
  ·exact .inl ⟨h1, h2, h3, h4, h⟩
  ·exact .inr (.inl ⟨h1, h2, h3, h4, u, v, h, elim.mono k hf⟩)
  ·exact .inr (.inr ⟨h1, h2, h3, h4, u, v, h, elim.mono k hf⟩)
def eimp : Lay Imp := (strB.pair (strB.pair edesc)).via (fun x => (x.mdl, x.name, x))
def kon : Lay Ins where
 size := 1
 rd A w cs x := (∃ v : Int, x = .mk 65 [(0, yK (v % 4294967296))] false (-1) [] ∧ -2147483648 ≤ v ∧ v < 2147483648 ∧ cs = [.iface 437 (.agg #[.int .i32 v])]) ∨
  (∃ v : Int, x = .mk 66 [(1, yK v)] false (-1) [] ∧ -9223372036854775808 ≤ v ∧ v < 9223372036854775808 ∧ cs = [.iface 441 (.agg #[.int .i64 v])])
 len := by rintro A w cs x (⟨v, _, _, _, h⟩ | ⟨v, _, _, _, h⟩) <;> (rw [h]; rfl)
 one := by rintro A w cs x (⟨v, _, _, _, h⟩ | ⟨v, _, _, _, h⟩) z hz <;> (rw [h] at hz; obtain rfl := List.mem_singleton.1 hz; rfl)
 frame h _ := h
 mono h _ := h
def eglob : Lay Glob := (int.pair (bool.pair kon.slice)).via (fun x => (x.ty, x.mtb, x.init))
def eelem : Lay Elem := (u32.pair (kon.slice.pair u32.slice)).via (fun x => (x.index, x.off, x.ids))
def edat : Lay Dat := (u32.pair (kon.slice.pair u8.slice)).via (fun x => (x.index, x.off, x.init))
def enam : Lay Nam := (u32.pair strB).via (fun x => (x.idx, x.name))
end Lay
variable {β : Type} {p : PR β} {q : PR α} {f : α → List UInt8 → PR β}
theorem PR.step {r : List UInt8} (hp : p = q.bind f) (hq : q = .ok x r) : p = f x r := by rw [hp, hq]; rfl
theorem PR.stepBad (hp : p = q.bind f) (hq : q = .bad) : p = .bad := by rw [hp, hq]; rfl
theorem PR.stepNe (hp : p = q.bind f) (ag : p ≠ .any) : q ≠ .any := fun e => ag (by rw [hp, e]; rfl)
variable {v : Value}
theorem Jj {cs : Array Value} (h : cs[o]? = some v) : cs.setIfInBounds o v = cs := by
 obtain ⟨hl, e⟩ := Array.getElem?_eq_some_iff.1 h
 unfold Array.setIfInBounds
 rw [dif_pos hl]
 subst e
 exact Array.set_getElem_self hl
theorem zeh {cs : Array Value} {j : Nat} (h : cs[j]? = some v) (hj : ¬ o = j) : (cs.setIfInBounds o u)[j]? = some v := by
 rw [Array.getElem?_setIfInBounds, if_neg hj]; exact h
theorem zg7 (S : Rdr) (D F : Nat → Prop) (g : Nat) (pe pu : Addr) (L : Nat) (bs : List UInt8) (w : World) (h : RdX S D F g pe pu L bs w) (b o : Nat) (cs : Array Value) (T : TypeId) (hB : Blk w b cs T) (ho : o < cs.size) (hF : ¬ F b) (hD : ¬ D b) (hb : L ≤ b) (ag : pLim bs ≠ .any) (hz : cs[o + 1]? = some (.pointer none)) :
 Calls Tryz.prog 170 #[.iface S.T (.pointer (some ⟨g, 0, none⟩)), .pointer (some ⟨b, o, none⟩)] w fun e w' => PX S D F g pe pu L b (pLim bs) (fun x W => ∃ q, Blk W b ((cs.setIfInBounds o (.int .u32 (x.min.toNat : Int))).setIfInBounds (o + 1) (.pointer q)) T ∧ Lay.elim.rd (aN w W) W [.int .u32 (x.min.toNat : Int), .pointer q] x) w e w' := by
 have ch := qh (Yb.start h hB hF hD hb)
 have aX := qh ch.o.old
 have ag := qh ag
 have dQ := qh (pLim.eq_1 bs)
 obtain ⟨x0, df⟩ := Ji ho
 clear h hB hF hD hb
 go_enter Tryz.func170, Tryz.ntmps170
 go_wp2_with fail
 refine (Y8 S D F g pe pu L bs w ch.o.rx (PR.stepNe dQ.o ag.o)).mono ?_
 rintro e w1 ⟨c, r1, hr, rfl, k1, k4⟩
 have et := qh (PR.step dQ.o (show y7 bs = .ok c r1 from by rw [hr]; rfl))
 have ue := c.toNat_lt
 have db := qh (ch.o.read k1 k4)
 clear k1 k4 hr
 go_wp2_with fail
 refine (jS S D F g pe pu L r1 w1 db.o.rx (PR.stepNe et.o ag.o)).mono ?_
 rintro e w2 ⟨m, r2, hr, rfl, k1, k4⟩
 have dU := qh (PR.step et.o hr)
 have hm := m.toNat_lt
 have cR := qh (db.o.read k1 k4)
 clear k1 k4 hr
 have c7 := qh (cR.o.set o (.int .u32 (m.toNat : Int)))
 have bS := cR.o.blk.cell o
 rw [df] at bS
 have cp := cR.o.blk.frz o
 by_cases h1 : c.toNat = 1
 ·have cj := qh (dU.o.trans (if_pos h1))
  have qQ : ((c.toNat : Int) == 1) = true := by rw [beq_iff_eq]; omega
  clear h1
  go_wp2_with fail
  clear bS cp
  refine (jS S D F g pe pu L r2 _ c7.o.rx (PR.stepNe cj.o ag.o)).mono ?_
  rintro e w4 ⟨x, r4, hr, rfl, k1, k4⟩
  have gc := qh (PR.step cj.o hr)
  have dH := x.toNat_lt
  have ej := qh (c7.o.read k1 k4)
  clear k1 k4 hr
  obtain ⟨gn, dh⟩ := exQ (w4.heap.size)
  have Hn := qh ej.o.new
  rw [dh] at Hn
  have fC := qh (ej.o.ext (za w4 (.cells #[.int .u32 (x.toNat : Int)] 24)))
  have HG : Hq (Blk (w4.alloc (.cells #[.int .u32 (x.toNat : Int)] 24)) gn #[.int .u32 (x.toNat : Int)] 24) := by rw [← dh]; exact zl _ _ _
  have eM := fC.o.blk.cell (o + 1)
  rw [zeh hz (by omega)] at eM
  have ea := fC.o.blk.frz (o + 1)
  go_wp2
  go_ret
  have nR := qh (fC.o.set (o + 1) (.pointer (some ⟨gn, 0, none⟩)))
  exact nR.o.ok gc.o ⟨_, nR.o.blk, _, rfl, .inr ⟨rfl, gn, _, rfl, ⟨Hn.o.2.2.2.1, by have := HG.o.lt; simpa using this⟩, HG.o.fr (zf _ ⟨b, o + 1, none⟩ _) Hn.o.2.2.2.2⟩⟩
 ·have cj := qh (dU.o.trans (if_neg h1))
  have qQ := bfQ (a := (c.toNat : Int)) (b := 1) (by omega)
  by_cases h0 : c.toNat = 0
  ·have dS : ((c.toNat : Int) == 0) = true := by rw [beq_iff_eq]; omega
   have gc := qh (PR.step cj.o (if_pos h0))
   clear h1 h0
   go_wp2
   go_ret
   have qL := zeh (u := .int .u32 (m.toNat : Int)) hz (show ¬ o = o + 1 by omega)
   exact c7.o.ok gc.o ⟨none, by rw [Jj qL]; exact c7.o.blk, _, rfl, .inl ⟨rfl, rfl, rfl⟩⟩
  ·have dS := bfQ (a := (c.toNat : Int)) (b := 0) (by omega)
   have cZ := qh (PR.stepBad cj.o (if_neg h0))
   clear h1 h0
   go_wp2_with fail
   refine (jO _ _ c7.o.rx.sp).mono ?_
   rintro e we ⟨v, rfl, hv, hx⟩
   have HB := qh (anQ hv hx)
   clear hv hx bS cp
   obtain ⟨p, dR, pT, rfl, dM, cW⟩ := HB.o.1
   go_wp2
   go_ret
   exact c7.o.badX cZ.o HB.o.1 HB.o.2
end Go.Proofs.YtejgninpjhcgnaaGreatDoor
