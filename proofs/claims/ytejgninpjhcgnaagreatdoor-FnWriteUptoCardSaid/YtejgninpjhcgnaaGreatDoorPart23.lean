/- Texts of this proof, one behind the other. -/
import Derived.Test.YtejgninpjhcgnaaGreatDoorPart22
namespace Go.Proofs.YtejgninpjhcgnaaGreatDoor
open Go.RowKit
set_option linter.unusedSimpArgs false
set_option linter.unusedVariables false
set_option maxRecDepth 100000
set_option maxHeartbeats 16000000
theorem ziC : (Tryz.prog.info? 100).map (fun i => (i.zero, i.size, i.bytes)) = some (some (.agg #[.string ⟨#[]⟩, .slice none 0 0]), Lay.cus.size, 40) := by kernel_rfl
theorem JY (l : List UInt8) : (zc l).toList = l := by
 rw [ByteArray.toList_eq]; rfl
theorem ZL (lo : Bool) : ∀ (f : Nat) (m : Mod) (last : Nat) (s : St), (zx lo f m last s).1.customs = m.customs
 | 0, m, _, _ => rfl
 | f + 1, m, last, s => by
  unfold zx
  split
  ·dsimp only
   split
   ·rfl
   ·refine (ZL lo f _ _ _).trans ?_
    unfold JN
    split
    ·rfl
    ·split <;> rfl
  ·rfl
theorem zd5 (lo : Bool) (D A : Nat → Prop) (g gm gn L0 : Nat) (s : St) (M : Mod) (seen : Bool) (w : World) (q0 q1 q2 q3 q4 q5 q6 q7 q8 q9 bw bo bp nU ez eO : Value) (h : SpR D g lo s w) (hB : Blk w gm #[q0, q1, q2, q3, q4, q5, q6, q7, q8, q9, bw, bo, bp, nU, .string (zc M.named), ez, eO] 37) (hN : Blk w gn #[.bool seen] 4) (aO : ¬ gm = g ∧ ¬ gn = g ∧ ¬ gm = gn) (df : ∀ k, D k → ¬ k = gm ∧ ¬ k = gn ∧ k < L0) (hl : s.b.length ≤ 1048576)
 (hA : ∀ k, A k → k < w.heap.size ∧ ¬ k = g ∧ ¬ k = gm ∧ ¬ k = gn ∧ some k ≠ nU.ownBlock) (hf : Lay.nam.slice.rd A w [ez] M.funcs) (ce : Lay.nam.slice.rd A w [eO] M.locals) (hn : (zc M.named).size ≤ maxLen)
 (hC : OwnG Lay.cus 100 L0 (fun k => ¬ D k) w nU M.customs) (BC : ∀ k, nU.ownBlock = some k → ¬ k = g ∧ ¬ k = gm ∧ ¬ k = gn) (hL : L0 ≤ w.heap.size) (qx : gm < L0) (dh : M.customs.length ≤ 1048576) :
 Calls Tryz.prog 53 #[.pointer (some ⟨g, 0, none⟩), .pointer (some ⟨gm, 0, none⟩), .pointer (some ⟨gn, 0, none⟩)] w fun e w' => e = .returned (.tuple #[]) ∧ ∃ dd dk dm, (Blk w' gm #[q0, q1, q2, q3, q4, q5, q6, q7, q8, q9, bw, bo, bp, dd, .string (zc (zz lo M seen s).1.named), dk, dm] 37 ∧ Lay.nam.slice.rd (fun k => (A k ∨ w.heap.size ≤ k) ∧ k < w'.heap.size ∧ some k ≠ (dd : Value).ownBlock) w' [dk] (zz lo M seen s).1.funcs ∧ Lay.nam.slice.rd (fun k => (A k ∨ w.heap.size ≤ k) ∧ k < w'.heap.size ∧ some k ≠ (dd : Value).ownBlock) w' [dm] (zz lo M seen s).1.locals ∧ (zc (zz lo M seen s).1.named).size ≤ maxLen ∧ OwnG Lay.cus 100 L0 (fun k => ¬ D k) w' dd (zz lo M seen s).1.customs ∧ Blk w' gn #[.bool (zz lo M seen s).2.1] 4 ∧ SpR D g lo (zz lo M seen s).2.2 w' ∧ Fr (fun k => k = g ∨ k = gm ∨ k = gn ∨ some k = nU.ownBlock) w w') ∧ ∀ k, dd.ownBlock = some k → nU.ownBlock = some k ∨ w.heap.size ≤ k := by
 have cg := hB
 obtain ⟨b1, b2, b3, rfl⟩ := hC.shape
 have H := qh (anQ h.lt (anQ hl (anQ hB.lt (anQ aO (anQ df (anQ hA (anQ BC (anQ hL (anQ dh hN.lt)))))))))
 have HI : Hd (Blk w gm #[q0, q1, q2, q3, q4, q5, q6, q7, q8, q9, bw, bo, bp, (.slice b1 b2 b3), .string (zc M.named), ez, eO] 37 ∧ Lay.nam.slice.rd (fun k => (A k ∨ w.heap.size ≤ k) ∧ k < w.heap.size ∧ some k ≠ ((.slice b1 b2 b3) : Value).ownBlock) w [ez] M.funcs ∧ Lay.nam.slice.rd (fun k => (A k ∨ w.heap.size ≤ k) ∧ k < w.heap.size ∧ some k ≠ ((.slice b1 b2 b3) : Value).ownBlock) w [eO] M.locals ∧ (zc M.named).size ≤ maxLen ∧ OwnG Lay.cus 100 L0 (fun k => ¬ D k) w (.slice b1 b2 b3) M.customs ∧ Blk w gn #[.bool seen] 4 ∧ SpR D g lo s w ∧ Fr (fun k => k = g ∨ k = gm ∨ k = gn ∨ some k = (Value.slice b1 b2 b3).ownBlock) w w) := ⟨hB, Lay.mono _ hf (fun k hk => ⟨.inl hk, (hA k hk).1, (hA k hk).2.2.2.2⟩), Lay.mono _ ce (fun k hk => ⟨.inl hk, (hA k hk).1, (hA k hk).2.2.2.2⟩), hn, hC, hN, h, Fr.refl _ _⟩
 have rU := qh (show ∀ k, (Value.slice b1 b2 b3).ownBlock = some k → k < w.heap.size from fun k hk => (hC.lt k hk).2)
 have qx := qh qx
 clear h hl hB aO df hA hf ce hn hN hC BC hL dh cg
 go_enter Tryz.func53, Tryz.ntmps53
 go_wp2_with fail
 refine (Jz HI.o.2.2.2.2.2.2.1 (by have := H.o.2.1; omega)).mono ?_
 rintro e w1 ⟨rfl, k1, k2⟩
 have ck := qh (show zz lo M seen s = if (zF s).2.v ≠ 0 then (M, seen, (zF s).2) else if (zF s).1 ≠ ji then ({ M with customs := M.customs ++ [⟨(zF s).1, (zF s).2.b⟩] }, seen, (zF s).2) else ((zx lo 4 M 0 (if seen then (zF s).2.fail 2 else (zF s).2)).1, true, if (zx lo 4 M 0 (if seen then (zF s).2.fail 2 else (zF s).2)).2.v ≠ 0 then { (zx lo 4 M 0 (if seen then (zF s).2.fail 2 else (zF s).2)).2 with v := 2 } else (zx lo 4 M 0 (if seen then (zF s).2.fail 2 else (zF s).2)).2) from rfl)
 have fh := qh (show (zc (zF s).1).size ≤ maxLen from yv (nlQ (JB s) (nlQ H.o.2.1 (by decide))))
 have dw := qh (show (zF s).2.b.length ≤ 1048576 from nlQ (jR s) H.o.2.1)
 generalize (zF s).1 = nm at *
 generalize (zF s).2 = t at *
 have HJ : Hd (Blk w1 gm #[q0, q1, q2, q3, q4, q5, q6, q7, q8, q9, bw, bo, bp, (.slice b1 b2 b3), .string (zc M.named), ez, eO] 37 ∧ Lay.nam.slice.rd (fun k => (A k ∨ w.heap.size ≤ k) ∧ k < w1.heap.size ∧ some k ≠ ((.slice b1 b2 b3) : Value).ownBlock) w1 [ez] M.funcs ∧ Lay.nam.slice.rd (fun k => (A k ∨ w.heap.size ≤ k) ∧ k < w1.heap.size ∧ some k ≠ ((.slice b1 b2 b3) : Value).ownBlock) w1 [eO] M.locals ∧ (zc M.named).size ≤ maxLen ∧ OwnG Lay.cus 100 L0 (fun k => ¬ D k) w1 (.slice b1 b2 b3) M.customs ∧ Blk w1 gn #[.bool seen] 4 ∧ SpR D g lo t w1 ∧ Fr (fun k => k = g ∨ k = gm ∨ k = gn ∨ some k = (Value.slice b1 b2 b3).ownBlock) w w1) := ⟨HI.o.1.fr k2 H.o.2.2.2.1.1, zT HI.o.2.1 k2 (fun k hk => ⟨hk.2.1, fun e => by
  have e' : k = g := e
  rcases hk.1 with q | q
  ·exact (H.o.2.2.2.2.2.1 k q).2.1 e'
  ·have := H.o.1.1; omega⟩) (fun k hk => ⟨hk.1, nqQ hk.2.1 k2.size, hk.2.2⟩), zT HI.o.2.2.1 k2 (fun k hk => ⟨hk.2.1, fun e => by
  have e' : k = g := e
  rcases hk.1 with q | q
  ·exact (H.o.2.2.2.2.2.1 k q).2.1 e'
  ·have := H.o.1.1; omega⟩) (fun k hk => ⟨hk.1, nqQ hk.2.1 k2.size, hk.2.2⟩), HI.o.2.2.2.1, HI.o.2.2.2.2.1.fr k2 (fun k e => .inl (fun q => by have e' : k = g := e; exact (H.o.1.2 k q).2 e')) (fun k hk e => (H.o.2.2.2.2.2.2.1 k hk).1 e), HI.o.2.2.2.2.2.1.fr k2 H.o.2.2.2.1.2.1, k1, k2.mono (fun k _ e => .inl e)⟩
 clear k1 k2
 go_wp2_with fail
 refine (yh HJ.o.2.2.2.2.2.2.1).mono ?_
 rintro e w2 ⟨rfl, rfl⟩
 by_cases hv : t.v = 0
 ·rw [decide_eq_true hv]
  have ck := qh (ck.o.trans (if_neg (fun h => h hv)))
  by_cases hnm : nm = ji
  ·have ck := qh (ck.o.trans (if_neg (fun h => h hnm)))
   have xE : (zc nm).toList = [110, 97, 109, 101] := by rw [JY, hnm]; rfl
   have nt := HJ.o.2.2.2.2.2.1.cell
   have uH := HJ.o.2.2.2.2.2.1.frz
   clear hnm
   cases seen with
   | false =>
    obtain ⟨w3, rfl⟩ : ∃ w3, w3 = w2 := ⟨_, rfl⟩
    have gy := HJ
    go_wp2_with fail
    have dU := zh w3 ⟨gn, 0, none⟩ (.bool true)
    have eY : Hd (Blk (w3.setCell ⟨gn, 0, none⟩ (.bool true)) gm #[q0, q1, q2, q3, q4, q5, q6, q7, q8, q9, bw, bo, bp, (.slice b1 b2 b3), .string (zc M.named), ez, eO] 37 ∧ Lay.nam.slice.rd (fun k => (A k ∨ w.heap.size ≤ k) ∧ k < (w3.setCell ⟨gn, 0, none⟩ (.bool true)).heap.size ∧ some k ≠ ((.slice b1 b2 b3) : Value).ownBlock) (w3.setCell ⟨gn, 0, none⟩ (.bool true)) [ez] M.funcs ∧ Lay.nam.slice.rd (fun k => (A k ∨ w.heap.size ≤ k) ∧ k < (w3.setCell ⟨gn, 0, none⟩ (.bool true)).heap.size ∧ some k ≠ ((.slice b1 b2 b3) : Value).ownBlock) (w3.setCell ⟨gn, 0, none⟩ (.bool true)) [eO] M.locals ∧ (zc M.named).size ≤ maxLen ∧ OwnG Lay.cus 100 L0 (fun k => ¬ D k) (w3.setCell ⟨gn, 0, none⟩ (.bool true)) (.slice b1 b2 b3) M.customs ∧ Blk (w3.setCell ⟨gn, 0, none⟩ (.bool true)) gn #[.bool true] 4 ∧ SpR D g lo t (w3.setCell ⟨gn, 0, none⟩ (.bool true)) ∧ Fr (fun k => k = g ∨ k = gm ∨ k = gn ∨ some k = (Value.slice b1 b2 b3).ownBlock) w (w3.setCell ⟨gn, 0, none⟩ (.bool true))) := by
     refine ⟨gy.o.1.fr dU H.o.2.2.2.1.2.2, zT gy.o.2.1 dU (fun k hk => ⟨hk.2.1, fun e => by
      rcases hk.1 with q | q
      ·have hq := H.o.2.2.2.2.2.1 k q
       exact hq.2.2.2.1 e
      ·have := H.o.2.2.2.2.2.2.2.2.2; have e' : k = gn := e; omega⟩) (fun k hk => ⟨hk.1, nqQ hk.2.1 dU.size, hk.2.2⟩), zT gy.o.2.2.1 dU (fun k hk => ⟨hk.2.1, fun e => by
      rcases hk.1 with q | q
      ·have hq := H.o.2.2.2.2.2.1 k q
       exact hq.2.2.2.1 e
      ·have := H.o.2.2.2.2.2.2.2.2.2; have e' : k = gn := e; omega⟩) (fun k hk => ⟨hk.1, nqQ hk.2.1 dU.size, hk.2.2⟩), gy.o.2.2.2.1, gy.o.2.2.2.2.1.fr dU (fun k e => .inl (fun q => by have e' : k = gn := e; exact (H.o.2.2.2.2.1 k q).2.1 e')) (fun k hk e => (H.o.2.2.2.2.2.2.1 k hk).2.2 e), ?_, gy.o.2.2.2.2.2.2.1.fr dU (fun e => H.o.2.2.2.1.2.1 e.symm) (fun k hk e => (H.o.2.2.2.2.1 k hk).2.1 e), Fr.trans gy.o.2.2.2.2.2.2.2 dU (fun _ _ h => h) (fun _ _ e => .inr (.inr (.inl e)))⟩
     have := gy.o.2.2.2.2.2.1.set 0 (.bool true)
     simpa using this
    clear dU nt uH HJ gy
    generalize w3.setCell ⟨gn, 0, none⟩ (.bool true) = W4 at *
    refine (zbI lo D (fun k => (A k ∨ w.heap.size ≤ k) ∧ k < W4.heap.size ∧ some k ≠ ((.slice b1 b2 b3) : Value).ownBlock) g gm t M W4 q0 q1 q2 q3 q4 q5 q6 q7 q8 q9 bw bo bp (.slice b1 b2 b3) ez eO eY.o.2.2.2.2.2.2.1 eY.o.1 H.o.2.2.2.1.1 (fun k hk => (H.o.2.2.2.2.1 k hk).1) dw.o (fun k hk => ⟨hk.2.1, fun e => by
     rcases hk.1 with q | q
     ·exact (H.o.2.2.2.2.2.1 k q).2.1 e
     ·have := H.o.1.1; omega, fun e => by
     rcases hk.1 with q | q
     ·exact (H.o.2.2.2.2.2.1 k q).2.2.1 e
     ·have := H.o.2.2.1; omega⟩) eY.o.2.1 eY.o.2.2.1 eY.o.2.2.2.1).mono ?_
    rintro e W5 ⟨rfl, dk, dm, k1, k2, k3, k4, k5, k6⟩
    have qr := qh (ZL lo 4 M 0 t)
    have ck := qh (show zz lo M false s = ((zx lo 4 M 0 t).1, true, if (zx lo 4 M 0 t).2.v ≠ 0 then { (zx lo 4 M 0 t).2 with v := 2 } else (zx lo 4 M 0 t).2) from ck.o)
    generalize (zx lo 4 M 0 t).1 = M2 at *
    generalize (zx lo 4 M 0 t).2 = p2 at *
    have gK : Hd (Blk W5 gm #[q0, q1, q2, q3, q4, q5, q6, q7, q8, q9, bw, bo, bp, (.slice b1 b2 b3), .string (zc M2.named), dk, dm] 37 ∧ Lay.nam.slice.rd (fun k => (A k ∨ w.heap.size ≤ k) ∧ k < W5.heap.size ∧ some k ≠ ((.slice b1 b2 b3) : Value).ownBlock) W5 [dk] M2.funcs ∧ Lay.nam.slice.rd (fun k => (A k ∨ w.heap.size ≤ k) ∧ k < W5.heap.size ∧ some k ≠ ((.slice b1 b2 b3) : Value).ownBlock) W5 [dm] M2.locals ∧ (zc M2.named).size ≤ maxLen ∧ OwnG Lay.cus 100 L0 (fun k => ¬ D k) W5 (.slice b1 b2 b3) M2.customs ∧ Blk W5 gn #[.bool true] 4 ∧ SpR D g lo p2 W5 ∧ Fr (fun k => k = g ∨ k = gm ∨ k = gn ∨ some k = (Value.slice b1 b2 b3).ownBlock) w W5) := ⟨k1, Lay.mono _ k2 (fun k hk => ⟨hk.1.elim (fun q => q.1) (fun q => .inr (by have := eY.o.2.2.2.2.2.2.2.size; omega)), hk.2, fun e => hk.1.elim (fun q => q.2.2 e) (fun q => by have := rU.o k e.symm; have := eY.o.2.2.2.2.2.2.2.size; omega)⟩), Lay.mono _ k3 (fun k hk => ⟨hk.1.elim (fun q => q.1) (fun q => .inr (by have := eY.o.2.2.2.2.2.2.2.size; omega)), hk.2, fun e => hk.1.elim (fun q => q.2.2 e) (fun q => by have := rU.o k e.symm; have := eY.o.2.2.2.2.2.2.2.size; omega)⟩), k4, by rw [qr.o]; exact eY.o.2.2.2.2.1.fr k6 (fun k e => .inl (fun q => Or.elim e (fun e => (H.o.1.2 k q).2 e) (fun e => (H.o.2.2.2.2.1 k q).1 e))) (fun k hk e => Or.elim e (fun e => (H.o.2.2.2.2.2.2.1 k hk).1 e) (fun e => (H.o.2.2.2.2.2.2.1 k hk).2.1 e)), eY.o.2.2.2.2.2.1.fr k6 (fun e => Or.elim e (fun e => H.o.2.2.2.1.2.1 e) (fun e => H.o.2.2.2.1.2.2 e.symm)), k5, Fr.trans eY.o.2.2.2.2.2.2.2 k6 (fun _ _ h => h) (fun _ _ e => Or.elim e .inl (fun e => .inr (.inl e)))⟩
    clear k1 k2 k3 k4 k5 k6 eY
    obtain ⟨aa, cap, eg, fG, fB⟩ := gK.o.2.2.2.2.2.2.1
    have tZ := eg.cell
    have wI := eg.frz
    have eg := qh (anQ eg (anQ fG fB))
    clear fG fB
    by_cases hpv : p2.v = 0
    ·have vy : ((p2.v : Int) != 0) = false := by rw [bne_eq_false_iff_eq]; omega
     have dy := qh (show ∃ dd dk dm, (Blk W5 gm #[q0, q1, q2, q3, q4, q5, q6, q7, q8, q9, bw, bo, bp, dd, .string (zc (zz lo M false s).1.named), dk, dm] 37 ∧ Lay.nam.slice.rd (fun k => (A k ∨ w.heap.size ≤ k) ∧ k < W5.heap.size ∧ some k ≠ (dd : Value).ownBlock) W5 [dk] (zz lo M false s).1.funcs ∧ Lay.nam.slice.rd (fun k => (A k ∨ w.heap.size ≤ k) ∧ k < W5.heap.size ∧ some k ≠ (dd : Value).ownBlock) W5 [dm] (zz lo M false s).1.locals ∧ (zc (zz lo M false s).1.named).size ≤ maxLen ∧ OwnG Lay.cus 100 L0 (fun k => ¬ D k) W5 dd (zz lo M false s).1.customs ∧ Blk W5 gn #[.bool (zz lo M false s).2.1] 4 ∧ SpR D g lo (zz lo M false s).2.2 W5 ∧ Fr (fun k => k = g ∨ k = gm ∨ k = gn ∨ some k = (Value.slice b1 b2 b3).ownBlock) w W5) ∧ ∀ k, dd.ownBlock = some k → (Value.slice b1 b2 b3).ownBlock = some k ∨ w.heap.size ≤ k from ⟨.slice b1 b2 b3, dk, dm, by rw [ck.o, if_neg (fun h => h hpv)]; exact ⟨gK.o, fun k hk => .inl hk⟩⟩)
     clear gK eg HI
     go_wp2
     go_end0
     exact ⟨rfl, dy.o⟩
    ·have vy : ((p2.v : Int) != 0) = true := by rw [bne_iff_ne]; omega
     go_wp2
     go_end0
     have gO := zh W5 ⟨g, 1, none⟩ (.int .i64 2)
     refine ⟨rfl, .slice b1 b2 b3, dk, dm, ?_, fun k hk => .inl hk⟩
     rw [ck.o, if_pos hpv]
     refine ⟨gK.o.1.fr gO H.o.2.2.2.1.1, zT gK.o.2.1 gO (fun k hk => ⟨hk.2.1, fun e => by
      rcases hk.1 with q | q
      ·have hq := H.o.2.2.2.2.2.1 k q
       exact hq.2.1 e
      ·have := H.o.1.1; have e' : k = g := e; omega⟩) (fun k hk => ⟨hk.1, nqQ hk.2.1 gO.size, hk.2.2⟩), zT gK.o.2.2.1 gO (fun k hk => ⟨hk.2.1, fun e => by
      rcases hk.1 with q | q
      ·have hq := H.o.2.2.2.2.2.1 k q
       exact hq.2.1 e
      ·have := H.o.1.1; have e' : k = g := e; omega⟩) (fun k hk => ⟨hk.1, nqQ hk.2.1 gO.size, hk.2.2⟩), gK.o.2.2.2.1, gK.o.2.2.2.2.1.fr gO (fun k e => .inl (fun q => by have e' : k = g := e; exact (H.o.1.2 k q).2 e')) (fun k hk e => (H.o.2.2.2.2.2.2.1 k hk).1 e), gK.o.2.2.2.2.2.1.fr gO H.o.2.2.2.1.2.1, SpR.mk (aa := aa) (cap := cap) ?_ eg.o.2.1 eg.o.2.2 gO, Fr.trans gK.o.2.2.2.2.2.2.2 gO (fun _ _ h => h) (fun _ _ e => .inl e)⟩
     have := eg.o.1.set 1 (.int .i64 2)
     simpa using this
   | true =>
    go_wp2_with fail
    refine (zr D g lo t 2 w2 HJ.o.2.2.2.2.2.2.1).mono ?_
    rintro e w3 ⟨rfl, k1, k2⟩
    have gy : Hd (Blk w3 gm #[q0, q1, q2, q3, q4, q5, q6, q7, q8, q9, bw, bo, bp, (.slice b1 b2 b3), .string (zc M.named), ez, eO] 37 ∧ Lay.nam.slice.rd (fun k => (A k ∨ w.heap.size ≤ k) ∧ k < w3.heap.size ∧ some k ≠ ((.slice b1 b2 b3) : Value).ownBlock) w3 [ez] M.funcs ∧ Lay.nam.slice.rd (fun k => (A k ∨ w.heap.size ≤ k) ∧ k < w3.heap.size ∧ some k ≠ ((.slice b1 b2 b3) : Value).ownBlock) w3 [eO] M.locals ∧ (zc M.named).size ≤ maxLen ∧ OwnG Lay.cus 100 L0 (fun k => ¬ D k) w3 (.slice b1 b2 b3) M.customs ∧ Blk w3 gn #[.bool true] 4 ∧ SpR D g lo (t.fail 2) w3 ∧ Fr (fun k => k = g ∨ k = gm ∨ k = gn ∨ some k = (Value.slice b1 b2 b3).ownBlock) w w3) := ⟨HJ.o.1.fr k2 H.o.2.2.2.1.1, zT HJ.o.2.1 k2 (fun k hk => ⟨hk.2.1, fun e => by
     rcases hk.1 with q | q
     ·have hq := H.o.2.2.2.2.2.1 k q
      exact hq.2.1 e
     ·have := H.o.1.1; have e' : k = g := e; omega⟩) (fun k hk => ⟨hk.1, nqQ hk.2.1 k2.size, hk.2.2⟩), zT HJ.o.2.2.1 k2 (fun k hk => ⟨hk.2.1, fun e => by
     rcases hk.1 with q | q
     ·have hq := H.o.2.2.2.2.2.1 k q
      exact hq.2.1 e
     ·have := H.o.1.1; have e' : k = g := e; omega⟩) (fun k hk => ⟨hk.1, nqQ hk.2.1 k2.size, hk.2.2⟩), HJ.o.2.2.2.1, HJ.o.2.2.2.2.1.fr k2 (fun k e => .inl (fun q => by have e' : k = g := e; exact (H.o.1.2 k q).2 e')) (fun k hk e => (H.o.2.2.2.2.2.2.1 k hk).1 e), HJ.o.2.2.2.2.2.1.fr k2 H.o.2.2.2.1.2.1, k1, Fr.trans HJ.o.2.2.2.2.2.2.2 k2 (fun _ _ h => h) (fun _ _ e => .inl e)⟩
    clear k1 k2 nt uH
    have nt := gy.o.2.2.2.2.2.1.cell
    have uH := gy.o.2.2.2.2.2.1.frz
    go_wp2_with fail
    have dU := zh w3 ⟨gn, 0, none⟩ (.bool true)
    have eY : Hd (Blk (w3.setCell ⟨gn, 0, none⟩ (.bool true)) gm #[q0, q1, q2, q3, q4, q5, q6, q7, q8, q9, bw, bo, bp, (.slice b1 b2 b3), .string (zc M.named), ez, eO] 37 ∧ Lay.nam.slice.rd (fun k => (A k ∨ w.heap.size ≤ k) ∧ k < (w3.setCell ⟨gn, 0, none⟩ (.bool true)).heap.size ∧ some k ≠ ((.slice b1 b2 b3) : Value).ownBlock) (w3.setCell ⟨gn, 0, none⟩ (.bool true)) [ez] M.funcs ∧ Lay.nam.slice.rd (fun k => (A k ∨ w.heap.size ≤ k) ∧ k < (w3.setCell ⟨gn, 0, none⟩ (.bool true)).heap.size ∧ some k ≠ ((.slice b1 b2 b3) : Value).ownBlock) (w3.setCell ⟨gn, 0, none⟩ (.bool true)) [eO] M.locals ∧ (zc M.named).size ≤ maxLen ∧ OwnG Lay.cus 100 L0 (fun k => ¬ D k) (w3.setCell ⟨gn, 0, none⟩ (.bool true)) (.slice b1 b2 b3) M.customs ∧ Blk (w3.setCell ⟨gn, 0, none⟩ (.bool true)) gn #[.bool true] 4 ∧ SpR D g lo (t.fail 2) (w3.setCell ⟨gn, 0, none⟩ (.bool true)) ∧ Fr (fun k => k = g ∨ k = gm ∨ k = gn ∨ some k = (Value.slice b1 b2 b3).ownBlock) w (w3.setCell ⟨gn, 0, none⟩ (.bool true))) := by
     refine ⟨gy.o.1.fr dU H.o.2.2.2.1.2.2, zT gy.o.2.1 dU (fun k hk => ⟨hk.2.1, fun e => by
      rcases hk.1 with q | q
      ·have hq := H.o.2.2.2.2.2.1 k q
       exact hq.2.2.2.1 e
      ·have := H.o.2.2.2.2.2.2.2.2.2; have e' : k = gn := e; omega⟩) (fun k hk => ⟨hk.1, nqQ hk.2.1 dU.size, hk.2.2⟩), zT gy.o.2.2.1 dU (fun k hk => ⟨hk.2.1, fun e => by
      rcases hk.1 with q | q
      ·have hq := H.o.2.2.2.2.2.1 k q
       exact hq.2.2.2.1 e
      ·have := H.o.2.2.2.2.2.2.2.2.2; have e' : k = gn := e; omega⟩) (fun k hk => ⟨hk.1, nqQ hk.2.1 dU.size, hk.2.2⟩), gy.o.2.2.2.1, gy.o.2.2.2.2.1.fr dU (fun k e => .inl (fun q => by have e' : k = gn := e; exact (H.o.2.2.2.2.1 k q).2.1 e')) (fun k hk e => (H.o.2.2.2.2.2.2.1 k hk).2.2 e), ?_, gy.o.2.2.2.2.2.2.1.fr dU (fun e => H.o.2.2.2.1.2.1 e.symm) (fun k hk e => (H.o.2.2.2.2.1 k hk).2.1 e), Fr.trans gy.o.2.2.2.2.2.2.2 dU (fun _ _ h => h) (fun _ _ e => .inr (.inr (.inl e)))⟩
     have := gy.o.2.2.2.2.2.1.set 0 (.bool true)
     simpa using this
    clear dU nt uH HJ gy
    generalize w3.setCell ⟨gn, 0, none⟩ (.bool true) = W4 at *
    refine (zbI lo D (fun k => (A k ∨ w.heap.size ≤ k) ∧ k < W4.heap.size ∧ some k ≠ ((.slice b1 b2 b3) : Value).ownBlock) g gm (t.fail 2) M W4 q0 q1 q2 q3 q4 q5 q6 q7 q8 q9 bw bo bp (.slice b1 b2 b3) ez eO eY.o.2.2.2.2.2.2.1 eY.o.1 H.o.2.2.2.1.1 (fun k hk => (H.o.2.2.2.2.1 k hk).1) (nzQ _) (fun k hk => ⟨hk.2.1, fun e => by
     rcases hk.1 with q | q
     ·exact (H.o.2.2.2.2.2.1 k q).2.1 e
     ·have := H.o.1.1; omega, fun e => by
     rcases hk.1 with q | q
     ·exact (H.o.2.2.2.2.2.1 k q).2.2.1 e
     ·have := H.o.2.2.1; omega⟩) eY.o.2.1 eY.o.2.2.1 eY.o.2.2.2.1).mono ?_
    rintro e W5 ⟨rfl, dk, dm, k1, k2, k3, k4, k5, k6⟩
    have qr := qh (ZL lo 4 M 0 (t.fail 2))
    have ck := qh (show zz lo M true s = ((zx lo 4 M 0 (t.fail 2)).1, true, if (zx lo 4 M 0 (t.fail 2)).2.v ≠ 0 then { (zx lo 4 M 0 (t.fail 2)).2 with v := 2 } else (zx lo 4 M 0 (t.fail 2)).2) from ck.o)
    generalize (zx lo 4 M 0 (t.fail 2)).1 = M2 at *
    generalize (zx lo 4 M 0 (t.fail 2)).2 = p2 at *
    have gK : Hd (Blk W5 gm #[q0, q1, q2, q3, q4, q5, q6, q7, q8, q9, bw, bo, bp, (.slice b1 b2 b3), .string (zc M2.named), dk, dm] 37 ∧ Lay.nam.slice.rd (fun k => (A k ∨ w.heap.size ≤ k) ∧ k < W5.heap.size ∧ some k ≠ ((.slice b1 b2 b3) : Value).ownBlock) W5 [dk] M2.funcs ∧ Lay.nam.slice.rd (fun k => (A k ∨ w.heap.size ≤ k) ∧ k < W5.heap.size ∧ some k ≠ ((.slice b1 b2 b3) : Value).ownBlock) W5 [dm] M2.locals ∧ (zc M2.named).size ≤ maxLen ∧ OwnG Lay.cus 100 L0 (fun k => ¬ D k) W5 (.slice b1 b2 b3) M2.customs ∧ Blk W5 gn #[.bool true] 4 ∧ SpR D g lo p2 W5 ∧ Fr (fun k => k = g ∨ k = gm ∨ k = gn ∨ some k = (Value.slice b1 b2 b3).ownBlock) w W5) := ⟨k1, Lay.mono _ k2 (fun k hk => ⟨hk.1.elim (fun q => q.1) (fun q => .inr (by have := eY.o.2.2.2.2.2.2.2.size; omega)), hk.2, fun e => hk.1.elim (fun q => q.2.2 e) (fun q => by have := rU.o k e.symm; have := eY.o.2.2.2.2.2.2.2.size; omega)⟩), Lay.mono _ k3 (fun k hk => ⟨hk.1.elim (fun q => q.1) (fun q => .inr (by have := eY.o.2.2.2.2.2.2.2.size; omega)), hk.2, fun e => hk.1.elim (fun q => q.2.2 e) (fun q => by have := rU.o k e.symm; have := eY.o.2.2.2.2.2.2.2.size; omega)⟩), k4, by rw [qr.o]; exact eY.o.2.2.2.2.1.fr k6 (fun k e => .inl (fun q => Or.elim e (fun e => (H.o.1.2 k q).2 e) (fun e => (H.o.2.2.2.2.1 k q).1 e))) (fun k hk e => Or.elim e (fun e => (H.o.2.2.2.2.2.2.1 k hk).1 e) (fun e => (H.o.2.2.2.2.2.2.1 k hk).2.1 e)), eY.o.2.2.2.2.2.1.fr k6 (fun e => Or.elim e (fun e => H.o.2.2.2.1.2.1 e) (fun e => H.o.2.2.2.1.2.2 e.symm)), k5, Fr.trans eY.o.2.2.2.2.2.2.2 k6 (fun _ _ h => h) (fun _ _ e => Or.elim e .inl (fun e => .inr (.inl e)))⟩
    clear k1 k2 k3 k4 k5 k6 eY
    obtain ⟨aa, cap, eg, fG, fB⟩ := gK.o.2.2.2.2.2.2.1
    have tZ := eg.cell
    have wI := eg.frz
    have eg := qh (anQ eg (anQ fG fB))
    clear fG fB
    by_cases hpv : p2.v = 0
    ·have vy : ((p2.v : Int) != 0) = false := by rw [bne_eq_false_iff_eq]; omega
     have dy := qh (show ∃ dd dk dm, (Blk W5 gm #[q0, q1, q2, q3, q4, q5, q6, q7, q8, q9, bw, bo, bp, dd, .string (zc (zz lo M true s).1.named), dk, dm] 37 ∧ Lay.nam.slice.rd (fun k => (A k ∨ w.heap.size ≤ k) ∧ k < W5.heap.size ∧ some k ≠ (dd : Value).ownBlock) W5 [dk] (zz lo M true s).1.funcs ∧ Lay.nam.slice.rd (fun k => (A k ∨ w.heap.size ≤ k) ∧ k < W5.heap.size ∧ some k ≠ (dd : Value).ownBlock) W5 [dm] (zz lo M true s).1.locals ∧ (zc (zz lo M true s).1.named).size ≤ maxLen ∧ OwnG Lay.cus 100 L0 (fun k => ¬ D k) W5 dd (zz lo M true s).1.customs ∧ Blk W5 gn #[.bool (zz lo M true s).2.1] 4 ∧ SpR D g lo (zz lo M true s).2.2 W5 ∧ Fr (fun k => k = g ∨ k = gm ∨ k = gn ∨ some k = (Value.slice b1 b2 b3).ownBlock) w W5) ∧ ∀ k, dd.ownBlock = some k → (Value.slice b1 b2 b3).ownBlock = some k ∨ w.heap.size ≤ k from ⟨.slice b1 b2 b3, dk, dm, by rw [ck.o, if_neg (fun h => h hpv)]; exact ⟨gK.o, fun k hk => .inl hk⟩⟩)
     clear gK eg HI
     go_wp2
     go_end0
     exact ⟨rfl, dy.o⟩
    ·have vy : ((p2.v : Int) != 0) = true := by rw [bne_iff_ne]; omega
     go_wp2
     go_end0
     have gO := zh W5 ⟨g, 1, none⟩ (.int .i64 2)
     refine ⟨rfl, .slice b1 b2 b3, dk, dm, ?_, fun k hk => .inl hk⟩
     rw [ck.o, if_pos hpv]
     refine ⟨gK.o.1.fr gO H.o.2.2.2.1.1, zT gK.o.2.1 gO (fun k hk => ⟨hk.2.1, fun e => by
      rcases hk.1 with q | q
      ·have hq := H.o.2.2.2.2.2.1 k q
       exact hq.2.1 e
      ·have := H.o.1.1; have e' : k = g := e; omega⟩) (fun k hk => ⟨hk.1, nqQ hk.2.1 gO.size, hk.2.2⟩), zT gK.o.2.2.1 gO (fun k hk => ⟨hk.2.1, fun e => by
      rcases hk.1 with q | q
      ·have hq := H.o.2.2.2.2.2.1 k q
       exact hq.2.1 e
      ·have := H.o.1.1; have e' : k = g := e; omega⟩) (fun k hk => ⟨hk.1, nqQ hk.2.1 gO.size, hk.2.2⟩), gK.o.2.2.2.1, gK.o.2.2.2.2.1.fr gO (fun k e => .inl (fun q => by have e' : k = g := e; exact (H.o.1.2 k q).2 e')) (fun k hk e => (H.o.2.2.2.2.2.2.1 k hk).1 e), gK.o.2.2.2.2.2.1.fr gO H.o.2.2.2.1.2.1, SpR.mk (aa := aa) (cap := cap) ?_ eg.o.2.1 eg.o.2.2 gO, Fr.trans gK.o.2.2.2.2.2.2.2 gO (fun _ _ h => h) (fun _ _ e => .inl e)⟩
     have := eg.o.1.set 1 (.int .i64 2)
     simpa using this
  ·have ck := qh (ck.o.trans (if_pos hnm))
   have xE : ((zc nm).toList == [110, 97, 109, 101]) = false := by rw [JY]; exact beq_eq_false_iff_ne.2 hnm
   obtain ⟨aa, cap, eg, fG, fB⟩ := HJ.o.2.2.2.2.2.2.1
   have eg := qh (anQ eg (anQ fG fB))
   clear fG fB
   go_wp2_with fail
   refine zi (y4 (fun k => ¬ (k = gm ∨ k = g))) [kT 0, kT 1, kT 2, kT 3, kT 4, kT 5, kT 6, kT 7, kT 8, kT 9, kT 10, kR 11, kR 12, kT 13, kT 14, kL 15] (by kernel_rfl) (by kernel_rfl) ?_
   simp only [zy, gzQ, gsQ]
   have HC := qh (fun W' (h : Fr (fun k => ¬ (k = gm ∨ k = g)) w2.drew W') => anQ (HJ.o.1.fr ((zb _).fr h) (fun e => e (.inl rfl))).cell (eg.o.1.fr ((zb _).fr h) (fun e => e (.inr rfl))).cell)
   have Cl := qh (show Lay.u8.slice.rd D w2.drew [.slice aa t.b.length cap] t.b from Lay.frame _ eg.o.2.1 (fun k hk => (zb w2).block k (eg.o.2.2 k hk).1 (fun q => q)))
   have kM : Hd (Blk w2.drew gm #[q0, q1, q2, q3, q4, q5, q6, q7, q8, q9, bw, bo, bp, (.slice b1 b2 b3), .string (zc M.named), ez, eO] 37 ∧ Lay.nam.slice.rd (fun k => (A k ∨ w.heap.size ≤ k) ∧ k < w2.drew.heap.size ∧ some k ≠ ((.slice b1 b2 b3) : Value).ownBlock) w2.drew [ez] M.funcs ∧ Lay.nam.slice.rd (fun k => (A k ∨ w.heap.size ≤ k) ∧ k < w2.drew.heap.size ∧ some k ≠ ((.slice b1 b2 b3) : Value).ownBlock) w2.drew [eO] M.locals ∧ (zc M.named).size ≤ maxLen ∧ OwnG Lay.cus 100 L0 (fun k => ¬ D k) w2.drew (.slice b1 b2 b3) M.customs ∧ Blk w2.drew gn #[.bool seen] 4 ∧ SpR D g lo t w2.drew ∧ Fr (fun k => k = g ∨ k = gm ∨ k = gn ∨ some k = (Value.slice b1 b2 b3).ownBlock) w w2.drew) := ⟨HJ.o.1.ext (zb _), (Lay.frame _ HJ.o.2.1 (fun k hk => (zb w2).block k hk.2.1 (fun q => q))), (Lay.frame _ HJ.o.2.2.1 (fun k hk => (zb w2).block k hk.2.1 (fun q => q))), HJ.o.2.2.2.1, HJ.o.2.2.2.2.1.ext (zb _), HJ.o.2.2.2.2.2.1.ext (zb _), HJ.o.2.2.2.2.2.2.1.ext (zb _), HJ.o.2.2.2.2.2.2.2.drew⟩
   clear HJ HI eg
   generalize w2.drew = W0 at *
   repeat (apply item_take; rfl; rfl; rfl; rfl; exact fun _ _ _ _ h => h; (intro W e _ k; obtain ⟨q, q2⟩ := HC.o W e; go_simp; exact k))
   apply ze; rfl; intro K hK; go_simp
   refine hK _ _ (za _ _).to ?_
   clear hK K
   apply ze; rfl; intro K hK
   refine zY Lay.cus L0 (.tmp 18) (.tmp 25) _ _ _ 40 rfl Tryz.underlying34 ziC rfl (by omega) (by decide) (.slice b1 b2 b3) M.customs ⟨nm, t.b⟩ _ rfl rfl kM.o.2.2.2.2.1 ?_ (by have := H.o.2.2.2.2.2.2.2.1; have := kM.o.2.2.2.2.2.2.2.size; omega) (by have := H.o.2.2.2.2.2.2.2.2.1; omega) ?_
   ·refine ⟨[_], [_], rfl, ⟨rfl, fh.o⟩, Lay.mono _ Cl.o (fun k hk => ⟨fun q => q hk, (kM.o.2.2.2.2.2.2.1.lt.2 k hk).1, fun e => ?_⟩)⟩
    have := (kM.o.2.2.2.2.1.lt k e.symm).1
    have := (H.o.2.2.2.2.1 k hk).2.2
    omega
   intro v1 Wa h1 h2 h3 h4
   refine hK _ _ (h3.mono (fun k _ e e2 => Or.elim e2 (fun e2 => (H.o.2.2.2.2.2.2.1 k e.symm).2.1 e2) (fun e2 => (H.o.2.2.2.2.2.2.1 k e.symm).1 e2))) ?_
   clear hK K
   obtain ⟨aR, aV, aU, rfl⟩ := h1.shape
   have cY := kM.o.1.fr h2 (fun e => (H.o.2.2.2.2.2.2.1 gm e.symm).2.1 rfl)
   have hs := zh Wa ⟨gm, 13, none⟩ (.slice aR aV aU)
   have hF : Fr (fun k => k = gm ∨ some k = (Value.slice b1 b2 b3).ownBlock) W0 (Wa.setCell ⟨gm, 13, none⟩ (.slice aR aV aU)) := Fr.trans h2 hs (fun _ _ e => .inr e) (fun _ _ e => .inl e)
   have t9 : ∀ k, (Value.slice aR aV aU).ownBlock = some k → ¬ k = gm := fun k hk e => by
    have := (h1.lt k hk).1
    have := qx.o
    omega
   have HX : Hd (Blk (Wa.setCell ⟨gm, 13, none⟩ (.slice aR aV aU)) gm #[q0, q1, q2, q3, q4, q5, q6, q7, q8, q9, bw, bo, bp, (.slice aR aV aU), .string (zc ({ M with customs := M.customs ++ [⟨nm, t.b⟩] } : Mod).named), ez, eO] 37 ∧ Lay.nam.slice.rd (fun k => (A k ∨ w.heap.size ≤ k) ∧ k < (Wa.setCell ⟨gm, 13, none⟩ (.slice aR aV aU)).heap.size ∧ some k ≠ ((.slice aR aV aU) : Value).ownBlock) (Wa.setCell ⟨gm, 13, none⟩ (.slice aR aV aU)) [ez] ({ M with customs := M.customs ++ [⟨nm, t.b⟩] } : Mod).funcs ∧ Lay.nam.slice.rd (fun k => (A k ∨ w.heap.size ≤ k) ∧ k < (Wa.setCell ⟨gm, 13, none⟩ (.slice aR aV aU)).heap.size ∧ some k ≠ ((.slice aR aV aU) : Value).ownBlock) (Wa.setCell ⟨gm, 13, none⟩ (.slice aR aV aU)) [eO] ({ M with customs := M.customs ++ [⟨nm, t.b⟩] } : Mod).locals ∧ (zc ({ M with customs := M.customs ++ [⟨nm, t.b⟩] } : Mod).named).size ≤ maxLen ∧ OwnG Lay.cus 100 L0 (fun k => ¬ D k) (Wa.setCell ⟨gm, 13, none⟩ (.slice aR aV aU)) (.slice aR aV aU) ({ M with customs := M.customs ++ [⟨nm, t.b⟩] } : Mod).customs ∧ Blk (Wa.setCell ⟨gm, 13, none⟩ (.slice aR aV aU)) gn #[.bool seen] 4 ∧ SpR D g lo t (Wa.setCell ⟨gm, 13, none⟩ (.slice aR aV aU)) ∧ Fr (fun k => k = g ∨ k = gm ∨ k = gn ∨ some k = (Value.slice b1 b2 b3).ownBlock) w (Wa.setCell ⟨gm, 13, none⟩ (.slice aR aV aU))) := by
    refine ⟨?_, zT kM.o.2.1 hF (fun k hk => ⟨hk.2.1, fun e => by
     rcases hk.1 with q | q
     ·have hq := H.o.2.2.2.2.2.1 k q
      rcases e with e | e
      ·exact hq.2.2.1 e
      ·exact hq.2.2.2.2 e
     ·rcases e with e | e
      ·have := H.o.2.2.1; omega
      ·have := (rU.o k e.symm); omega⟩) (fun k hk => ⟨hk.1, nqQ hk.2.1 hF.size, fun e => (h4 k e.symm).elim (fun q => hk.2.2 q.symm) (fun q => by have := hk.2.1; omega)⟩), zT kM.o.2.2.1 hF (fun k hk => ⟨hk.2.1, fun e => by
     rcases hk.1 with q | q
     ·have hq := H.o.2.2.2.2.2.1 k q
      rcases e with e | e
      ·exact hq.2.2.1 e
      ·exact hq.2.2.2.2 e
     ·rcases e with e | e
      ·have := H.o.2.2.1; omega
      ·have := (rU.o k e.symm); omega⟩) (fun k hk => ⟨hk.1, nqQ hk.2.1 hF.size, fun e => (h4 k e.symm).elim (fun q => hk.2.2 q.symm) (fun q => by have := hk.2.1; omega)⟩), kM.o.2.2.2.1, h1.fr hs (fun k e => .inl (fun q => by have e' : k = gm := e; exact (H.o.2.2.2.2.1 k q).1 e')) (fun k hk e => t9 k hk e), (kM.o.2.2.2.2.2.1.fr hF (fun e => Or.elim e (fun e => H.o.2.2.2.1.2.2 e.symm) (fun e => (H.o.2.2.2.2.2.2.1 gn e.symm).2.2 rfl))), kM.o.2.2.2.2.2.2.1.fr hF (fun e => Or.elim e (fun e => H.o.2.2.2.1.1 e.symm) (fun e => (H.o.2.2.2.2.2.2.1 g e.symm).1 rfl)) (fun k hk e => Or.elim e (fun e => (H.o.2.2.2.2.1 k hk).1 e) (fun e => by have := (kM.o.2.2.2.2.1.lt k e.symm).1; have := (H.o.2.2.2.2.1 k hk).2.2; omega)), Fr.trans kM.o.2.2.2.2.2.2.2 hF (fun _ _ h => h) (fun _ _ e => Or.elim e (fun e => .inr (.inl e)) (fun e => .inr (.inr (.inr e))))⟩
    have := cY.set 13 (.slice aR aV aU)
    simpa using this
   have ub := qh (show ∀ k, (Value.slice aR aV aU).ownBlock = some k → (Value.slice b1 b2 b3).ownBlock = some k ∨ w.heap.size ≤ k from fun k hk => (h4 k hk).imp id (fun q => by have := kM.o.2.2.2.2.2.2.2.size; omega))
   have fV := cY.cell
   have dV := cY.frz
   clear h1 h2 h3 h4 hs hF t9 kM cY
   repeat (apply item_take; rfl; rfl; rfl; rfl; exact fun _ _ _ _ h => h; (intro _ _ _ k; go_simp; exact k))
   apply zu; rfl; intro K hK; go_simp
   refine hK _ _ ?_
   clear hK K fV dV
   apply zl
   have uY : ∀ k, (Value.slice aR aV aU).ownBlock = some k → (Value.slice b1 b2 b3).ownBlock = some k ∨ w.heap.size ≤ k := fun k hk => (ub.o k hk).imp id (fun q => q)
   have dy := qh (show ∃ dd dk dm, (Blk (Wa.setCell ⟨gm, 13, none⟩ (.slice aR aV aU)) gm #[q0, q1, q2, q3, q4, q5, q6, q7, q8, q9, bw, bo, bp, dd, .string (zc (zz lo M seen s).1.named), dk, dm] 37 ∧ Lay.nam.slice.rd (fun k => (A k ∨ w.heap.size ≤ k) ∧ k < (Wa.setCell ⟨gm, 13, none⟩ (.slice aR aV aU)).heap.size ∧ some k ≠ (dd : Value).ownBlock) (Wa.setCell ⟨gm, 13, none⟩ (.slice aR aV aU)) [dk] (zz lo M seen s).1.funcs ∧ Lay.nam.slice.rd (fun k => (A k ∨ w.heap.size ≤ k) ∧ k < (Wa.setCell ⟨gm, 13, none⟩ (.slice aR aV aU)).heap.size ∧ some k ≠ (dd : Value).ownBlock) (Wa.setCell ⟨gm, 13, none⟩ (.slice aR aV aU)) [dm] (zz lo M seen s).1.locals ∧ (zc (zz lo M seen s).1.named).size ≤ maxLen ∧ OwnG Lay.cus 100 L0 (fun k => ¬ D k) (Wa.setCell ⟨gm, 13, none⟩ (.slice aR aV aU)) dd (zz lo M seen s).1.customs ∧ Blk (Wa.setCell ⟨gm, 13, none⟩ (.slice aR aV aU)) gn #[.bool (zz lo M seen s).2.1] 4 ∧ SpR D g lo (zz lo M seen s).2.2 (Wa.setCell ⟨gm, 13, none⟩ (.slice aR aV aU)) ∧ Fr (fun k => k = g ∨ k = gm ∨ k = gn ∨ some k = (Value.slice b1 b2 b3).ownBlock) w (Wa.setCell ⟨gm, 13, none⟩ (.slice aR aV aU))) ∧ ∀ k, dd.ownBlock = some k → (Value.slice b1 b2 b3).ownBlock = some k ∨ w.heap.size ≤ k from ⟨.slice aR aV aU, ez, eO, by rw [ck.o]; exact ⟨HX.o, uY⟩⟩)
   clear HX
   go_wp2
   (try simp only [Exit.inBlock, Exit.then]); refine bodyPost_ret (results_none rfl _ _ _) rfl ?_
   exact ⟨rfl, dy.o⟩
 ·rw [decide_eq_false hv]
  have ck := qh (ck.o.trans (if_pos hv))
  have dy := qh (show ∃ dd dk dm, (Blk w2 gm #[q0, q1, q2, q3, q4, q5, q6, q7, q8, q9, bw, bo, bp, dd, .string (zc (zz lo M seen s).1.named), dk, dm] 37 ∧ Lay.nam.slice.rd (fun k => (A k ∨ w.heap.size ≤ k) ∧ k < w2.heap.size ∧ some k ≠ (dd : Value).ownBlock) w2 [dk] (zz lo M seen s).1.funcs ∧ Lay.nam.slice.rd (fun k => (A k ∨ w.heap.size ≤ k) ∧ k < w2.heap.size ∧ some k ≠ (dd : Value).ownBlock) w2 [dm] (zz lo M seen s).1.locals ∧ (zc (zz lo M seen s).1.named).size ≤ maxLen ∧ OwnG Lay.cus 100 L0 (fun k => ¬ D k) w2 dd (zz lo M seen s).1.customs ∧ Blk w2 gn #[.bool (zz lo M seen s).2.1] 4 ∧ SpR D g lo (zz lo M seen s).2.2 w2 ∧ Fr (fun k => k = g ∨ k = gm ∨ k = gn ∨ some k = (Value.slice b1 b2 b3).ownBlock) w w2) ∧ ∀ k, dd.ownBlock = some k → (Value.slice b1 b2 b3).ownBlock = some k ∨ w.heap.size ≤ k from ⟨.slice b1 b2 b3, ez, eO, by rw [ck.o]; exact ⟨HJ.o, fun k hk => .inl hk⟩⟩)
  clear HI HJ
  go_wp2
  (try simp only [Exit.inBlock, Exit.then]); refine bodyPost_ret (results_none rfl _ _ _) rfl ?_
  exact ⟨rfl, dy.o⟩
theorem SpR.newD {D : Nat → Prop} {lo : Bool} {w : World} {b : List UInt8} {a : Option Addr} {m c : Nat} (hD : ∀ k, D k → k < w.heap.size) (hr : Lay.u8.slice.rd D w [.slice a m c] b) : SpR D w.heap.size lo ⟨b, 0⟩ (w.alloc (.cells #[.slice a m c, .int .i64 0, .bool lo] 142)) := by
 obtain ⟨aa, cap, e, h1, h2, h3⟩ := id hr
 simp only [List.cons.injEq, Value.slice.injEq, and_true] at e
 obtain ⟨rfl, rfl, rfl⟩ := e
 exact ⟨_, _, zk _ _ _, Lay.frame _ hr (fun k hk => (za w _).block k (hD k hk) (fun q => q)), fun k hk => ⟨by have := hD k hk; simp; omega, by have := hD k hk; omega⟩⟩
abbrev aM (D : Nat → Prop) (L0 : Nat) (W : World) (c : Value) : Nat → Prop := fun k => (D k ∨ L0 ≤ k) ∧ k < W.heap.size ∧ some k ≠ c.ownBlock
structure MG (D : Nat → Prop) (w : World) (gm gr gn L0 : Nat) : Prop where
 lm : gm < L0
 lr : gr < L0
 ln : gn < L0
 mr : ¬ gm = gr
 nr : ¬ gn = gr
 mn : ¬ gm = gn
 wm : w.heap.size ≤ gm
 wr : w.heap.size ≤ gr
 wn : w.heap.size ≤ gn
 D : ∀ k, D k → k < w.heap.size
structure MJ (N : Nat) (D : Nat → Prop) (w : World) (gm gr gn L0 : Nat) (W : World) (p : ModSt) (v : ModV) : Prop where
 m : Blk W gm (zs p.m v) 37
 n : Blk W gn #[.bool p.names] 4
 r : SpR D gr false p.s W
 at' : ModAt (N + 1) (aM D L0 W v.customs) W (zdY p.m) (zaQ v)
 cus : OwnG Lay.cus 100 L0 (fun k => ¬ D k) W v.customs p.m.customs
 fresh : FreshV p.last v
 ext : Ext w W
 lo : L0 ≤ W.heap.size
 len : p.m.customs.length + p.s.b.length ≤ 1048576
section
variable {N : Nat} {D : Nat → Prop} {w : World} {gm gr gn L0 : Nat} {W W' : World} {p : ModSt} {v : ModV}
theorem MJ.reader (h : MJ N D w gm gr gn L0 W p v) (G : MG D w gm gr gn L0) {s' : St} (hf : Fr (fun k => k = gr) W W') (hs : SpR D gr false s' W') (hl : s'.b.length ≤ p.s.b.length) : MJ N D w gm gr gn L0 W' { p with s := s' } v :=
 ⟨h.m.fr hf G.mr, h.n.fr hf G.nr, hs, (h.at'.fr hf (fun k hk => ⟨hk.2.1, fun e => by
  have e' : k = gr := e
  rcases hk.1 with q | q
  ·have := G.D k q; have := G.wr; omega
  ·have := G.lr; omega⟩)).mono (fun k hk => ⟨hk.1, nqQ hk.2.1 hf.size, hk.2.2⟩),
  h.cus.fr hf (fun k e => .inl (fun q => by have e' : k = gr := e; have := G.D k q; have := G.wr; omega)) (fun k hk e => by have e' : k = gr := e; have := (h.cus.lt k hk).1; have := G.lr; omega),
  h.fresh, Fr.new (Ext.fr h.ext hf) (fun k e => by have e' : k = gr := e; have := G.wr; omega), nlQ h.lo hf.size, by have := h.len; show p.m.customs.length + s'.b.length ≤ _; omega⟩
theorem MJ.new (h : MJ N D w gm gr gn L0 W p v) (hx : Ext W W') : MJ N D w gm gr gn L0 W' p v :=
 ⟨h.m.ext hx, h.n.ext hx, h.r.ext hx, (h.at'.fr hx (fun k hk => ⟨hk.2.1, fun e => e⟩)).mono (fun k hk => ⟨hk.1, nqQ hk.2.1 hx.size, hk.2.2⟩), h.cus.ext hx, h.fresh, Ext.trans h.ext hx, nlQ h.lo hx.size, h.len⟩
theorem MJ.section (h : MJ N D w gm gr gn L0 W p v) (G : MG D w gm gr gn L0) {W5 : World} {gs id : Nat} (lQ : p.last < id) {M' : Mod} {v' : ModV} (ie : W.heap.size ≤ gs) (hx : Ext W W') (hf : Fr (fun k => k = gs ∨ k = gm) W' W5)
 (hB : Blk W5 gm (zs M' v') 37) (hM : ModAt (N + 1) (aSec (aM D L0 W v.customs) D W' W5) W5 (zdY M') (zaQ v')) (hc : v'.customs = v.customs) (eK : FreshV id v') (rx : M'.customs = p.m.customs) :
 MJ N D w gm gr gn L0 W5 ⟨M', id, p.names, p.s⟩ v' := by
 have au : ∀ k, v.customs.ownBlock = some k → L0 ≤ k ∧ k < W.heap.size := h.cus.lt
 have h' := h.new hx
 have hD : ∀ k, D k → k < L0 := fun k hk => by have := G.D k hk; have := G.wm; have := G.lm; omega
 refine ⟨hB, h'.n.fr hf (fun e => e.elim (fun e => by have := G.ln; have := h.lo; omega) (fun e => G.mn e.symm)), h'.r.fr hf (fun e => e.elim (fun e => by have := G.lr; have := h.lo; omega) (fun e => G.mr e.symm)) (fun k hk e => e.elim (fun e => by have := hD k hk; have := h.lo; omega) (fun e => by have := G.D k hk; have := G.wm; omega)), ?_, ?_, eK, ?_, nlQ h'.lo hf.size, by rw [rx]; exact h.len⟩
 ·refine hM.mono fun k hk => ?_
  rw [hc]
  rcases hk.1 with q | q | q
  ·exact ⟨q.1, hk.2, q.2.2⟩
  ·exact ⟨.inl q, hk.2, fun e => by have := (au k e.symm).1; have := hD k q; omega⟩
  ·exact ⟨.inr (by have := h'.lo; omega), hk.2, fun e => by have := (au k e.symm).2; have := hx.size; omega⟩
 ·rw [hc, rx]
  exact h'.cus.fr hf (fun k e => .inl (fun q => e.elim (fun e => by have := hD k q; have := h.lo; omega) (fun e => by have := G.D k q; have := G.wm; omega))) (fun k hk e => by
   have hq := au k hk
   rcases e with e | e
   ·omega
   ·have := G.lm; omega)
 ·exact Fr.new (Ext.fr h'.ext hf) (fun k e => e.elim (fun e => by have := h.ext.size; omega) (fun e => by have := G.wm; omega))
theorem MJ.custom (h : MJ N D w gm gr gn L0 W p v) (G : MG D w gm gr gn L0) {W5 : World} {gs : Nat} {M' : Mod} {nm : Bool} {dd dk dm : Value} (ie : W.heap.size ≤ gs) (hx : Ext W W')
 (hf : Fr (fun k => k = gs ∨ k = gm ∨ k = gn ∨ some k = v.customs.ownBlock) W' W5) (m9 : Same p.m M') (hst : M'.hasStart = p.m.hasStart ∧ M'.start = p.m.start)
 (hB : Blk W5 gm (zs M' { v with customs := dd, funcs := dk, locals := dm }) 37) (hN : Blk W5 gn #[.bool nm] 4)
 (sR : Lay.nam.slice.rd (fun k => (aM D L0 W v.customs k ∨ W'.heap.size ≤ k) ∧ k < W5.heap.size ∧ some k ≠ dd.ownBlock) W5 [dk] M'.funcs)
 (t7 : Lay.nam.slice.rd (fun k => (aM D L0 W v.customs k ∨ W'.heap.size ≤ k) ∧ k < W5.heap.size ∧ some k ≠ dd.ownBlock) W5 [dm] M'.locals)
 (hn : (zc M'.named).size ≤ maxLen) (hc : OwnG Lay.cus 100 L0 (fun k => ¬ D k) W5 dd M'.customs) (ho : ∀ k, dd.ownBlock = some k → v.customs.ownBlock = some k ∨ W'.heap.size ≤ k) {s' : St} (hl : M'.customs.length + s'.b.length ≤ 1048576)
 (hR : s' = p.s) : MJ N D w gm gr gn L0 W5 ⟨M', p.last, nm, s'⟩ { v with customs := dd, funcs := dk, locals := dm } := by
 subst hR
 have au : ∀ k, v.customs.ownBlock = some k → L0 ≤ k ∧ k < W.heap.size := h.cus.lt
 have h' := h.new hx
 have hD : ∀ k, D k → k < L0 := fun k hk => by have := G.D k hk; have := G.wm; have := G.lm; omega
 have qw : ∀ k, aM D L0 W v.customs k → k < W'.heap.size ∧ ¬ (k = gs ∨ k = gm ∨ k = gn ∨ some k = v.customs.ownBlock) := fun k hk => ⟨nqQ hk.2.1 hx.size, fun e => by
  have hq := hk.1
  have := hk.2.1
  rcases e with e | e | e | e
  ·omega
  ·rcases hq with q | q
   ·have := G.D k q; have := G.wm; omega
   ·have := G.lm; omega
  ·rcases hq with q | q
   ·have := G.D k q; have := G.wn; omega
   ·have := G.ln; omega
  ·exact hk.2.2 e⟩
 have iP : ModAt (N + 1) (aM D L0 W5 dd) W5 (zdY p.m) (zaQ v) :=
  (((h.at'.fr hx (fun k hk => ⟨hk.2.1, fun e => e⟩)).fr hf qw)).mono (fun k hk => ⟨hk.1, nqQ (nqQ hk.2.1 hx.size) hf.size, fun e => (ho k e.symm).elim (fun q => hk.2.2 q.symm) (fun q => by have := hk.2.1; have := hx.size; omega)⟩)
 have tY : ∀ k, ((aM D L0 W v.customs k ∨ W'.heap.size ≤ k) ∧ k < W5.heap.size ∧ some k ≠ dd.ownBlock) → aM D L0 W5 dd k := fun k hk => ⟨hk.1.elim (fun q => q.1) (fun q => .inr (by have := h'.lo; omega)), hk.2⟩
 refine ⟨hB, hN, h'.r.fr hf (fun e => ?_) (fun k hk e => ?_), ?_, hc, ⟨h.fresh.tables, h.fresh.memories, h.fresh.globals, h.fresh.exports, h.fresh.elements, h.fresh.codes, h.fresh.datas⟩, ?_, nlQ h'.lo hf.size, hl⟩
 ·rcases e with e | e | e | e
  ·have := G.lr; have := h.lo; omega
  ·exact G.mr e.symm
  ·exact G.nr e.symm
  ·have := (au gr e.symm).1; have := G.lr; omega
 ·rcases e with e | e | e | e
  ·have := hD k hk; have := h.lo; omega
  ·have := G.D k hk; have := G.wm; omega
  ·have := G.D k hk; have := G.wn; omega
  ·have := (au k e.symm).1; have := hD k hk; omega
 ·obtain ⟨e1, e2, e3, e4, e5, e6, e7, e8, e9, uR, rK⟩ := m9
  refine ⟨?_, ?_, ?_, ?_, ?_, ?_, ?_, ?_, ?_, ?_, iP.customs, Lay.mono _ sR tY, Lay.mono _ t7 tY, hn⟩
  ·show Lay.ft.slice.rd _ _ [v.types] M'.types; rw [e2]; exact iP.types
  ·show Lay.imp.slice.rd _ _ [v.imports] M'.imports; rw [e3]; exact iP.imports
  ·show Lay.u32.slice.rd _ _ [v.functions] M'.functions; rw [e4]; exact iP.functions
  ·show Lay.lim.slice.rd _ _ [v.tables] M'.tables; rw [e5]; exact iP.tables
  ·show Lay.lim.slice.rd _ _ [v.memories] M'.memories; rw [e6]; exact iP.memories
  ·show (Lay.elem (N + 1)).slice.rd _ _ [v.elements] M'.elements; rw [e7]; exact iP.elements
  ·show (Lay.glob (N + 1)).slice.rd _ _ [v.globals] M'.globals; rw [e8]; exact iP.globals
  ·show Lay.expo.slice.rd _ _ [v.exports] M'.exports; rw [e9]; exact iP.exports
  ·show Lay.u8.slice.slice.rd _ _ [v.codes] M'.codes; rw [uR]; exact iP.codes
  ·show (Lay.dat (N + 1)).slice.rd _ _ [v.datas] M'.datas; rw [rK]; exact iP.datas
 ·exact Fr.new (Ext.fr h'.ext hf) (fun k e => by
   rcases e with e | e | e | e
   ·have := h.ext.size; omega
   ·have := G.wm; omega
   ·have := G.wn; omega
   ·have := (au k e.symm).1; have := G.lm; have := G.wm; omega)
theorem MJ.newF (h : MJ N D w gm gr gn L0 W p v) (hx : Ext W W') {gs : Nat} (ie : W.heap.size ≤ gs) {W6 : World} (hf : Fr (fun k => k = gs) W' W6) : MJ N D w gm gr gn L0 W6 p v :=
 h.new (Fr.new (Ext.fr hx hf) (fun k e => by cases e; omega))
theorem MJ.sectionF (h : MJ N D w gm gr gn L0 W p v) (G : MG D w gm gr gn L0) {W5 W6 : World} {gs id : Nat} (lQ : p.last < id) {M' : Mod} {v' : ModV} (ie : W.heap.size = gs) (wP : gs < W'.heap.size) (hx : Ext W W') (hf : Fr (fun k => k = gs ∨ k = gm) W' W5)
 (hB : Blk W5 gm (zs M' v') 37) (hM : ModAt (N + 1) (aSec (aM D L0 W v.customs) D W' W5) W5 (zdY M') (zaQ v')) (hc : v'.customs = v.customs) (eK : FreshV id v') (rx : M'.customs = p.m.customs)
 (dV : Fr (fun k => k = gs) W5 W6) : MJ N D w gm gr gn L0 W6 ⟨M', id, p.names, p.s⟩ v' := by
 have ap := h.lo
 refine h.section G lQ (Nat.le_of_eq ie) hx (Fr.trans hf dV (fun _ _ e => e) (fun _ _ e => .inl e)) (hB.fr dV (fun e => by have := G.lm; have e' : gm = gs := e; omega)) ((hM.fr dV (fun k hk => ⟨hk.2, fun e => ?_⟩)).mono (fun k hk => ⟨hk.1, nqQ hk.2 dV.size⟩)) hc eK rx
 have e' : k = gs := e
 rcases hk.1 with q | q | q
 ·have := q.2.1; omega
 ·have := G.D k q; have := h.ext.size; omega
 ·omega
theorem MJ.customF (h : MJ N D w gm gr gn L0 W p v) (G : MG D w gm gr gn L0) {W5 W6 : World} {gs : Nat} {M' : Mod} {nm : Bool} {dd dk dm : Value} (ie : W.heap.size = gs) (wP : gs < W'.heap.size) (hx : Ext W W')
 (hf : Fr (fun k => k = gs ∨ k = gm ∨ k = gn ∨ some k = v.customs.ownBlock) W' W5) (m9 : Same p.m M') (hst : M'.hasStart = p.m.hasStart ∧ M'.start = p.m.start)
 (hB : Blk W5 gm (zs M' { v with customs := dd, funcs := dk, locals := dm }) 37) (hN : Blk W5 gn #[.bool nm] 4)
 (sR : Lay.nam.slice.rd (fun k => (aM D L0 W v.customs k ∨ W'.heap.size ≤ k) ∧ k < W5.heap.size ∧ some k ≠ dd.ownBlock) W5 [dk] M'.funcs)
 (t7 : Lay.nam.slice.rd (fun k => (aM D L0 W v.customs k ∨ W'.heap.size ≤ k) ∧ k < W5.heap.size ∧ some k ≠ dd.ownBlock) W5 [dm] M'.locals)
 (hn : (zc M'.named).size ≤ maxLen) (hc : OwnG Lay.cus 100 L0 (fun k => ¬ D k) W5 dd M'.customs) (ho : ∀ k, dd.ownBlock = some k → v.customs.ownBlock = some k ∨ W'.heap.size ≤ k) (hl : M'.customs.length + p.s.b.length ≤ 1048576)
 (dV : Fr (fun k => k = gs) W5 W6) : MJ N D w gm gr gn L0 W6 ⟨M', p.last, nm, p.s⟩ { v with customs := dd, funcs := dk, locals := dm } := by
 have ap := h.lo
 have pd : ∀ k, ((aM D L0 W v.customs k ∨ W'.heap.size ≤ k) ∧ k < W5.heap.size ∧ some k ≠ dd.ownBlock) → k < W5.heap.size ∧ ¬ k = gs := fun k hk => ⟨hk.2.1, fun e => hk.1.elim (fun q => by have := q.2.1; omega) (fun q => by omega)⟩
 have pN : ∀ k, ((aM D L0 W v.customs k ∨ W'.heap.size ≤ k) ∧ k < W5.heap.size ∧ some k ≠ dd.ownBlock) → ((aM D L0 W v.customs k ∨ W'.heap.size ≤ k) ∧ k < W6.heap.size ∧ some k ≠ dd.ownBlock) := fun k hk => ⟨hk.1, nqQ hk.2.1 dV.size, hk.2.2⟩
 exact h.custom G (Nat.le_of_eq ie) hx (Fr.trans hf dV (fun _ _ e => e) (fun _ _ e => .inl e)) m9 hst (hB.fr dV (fun e => by have := G.lm; have e' : gm = gs := e; omega)) (hN.fr dV (fun e => by have := G.ln; have e' : gn = gs := e; omega)) (zT sR dV pd pN) (zT t7 dV pd pN) hn
  (hc.fr dV (fun k e => .inl (fun q => by have e' : k = gs := e; have := G.D k q; have := h.ext.size; omega)) (fun k hk e => by
   have e' : k = gs := e
   rcases ho k hk with q | q
   ·have := (h.cus.lt k q).2; omega
   ·omega)) ho hl rfl
theorem zdb {m m' : Mod} {v' : ModV} (h : Same m m') (hst : m'.hasStart = m.hasStart ∧ m'.start = m.start) : zs m' v' = #[.int .u32 (m.version.toNat : Int), .bool m.hasStart, .int .u32 (m.start.toNat : Int), v'.types, v'.imports, v'.functions, v'.tables, v'.memories, v'.elements, v'.globals, v'.exports, v'.codes, v'.datas, v'.customs, .string (zc m'.named), v'.funcs, v'.locals] := by
 unfold zs
 rw [h.version, hst.1, hst.2]
theorem MJ.all (h : MJ N D w gm gr gn L0 W p v) (G : MG D w gm gr gn L0) : ModAt (N + 1) (fun k => (D k ∨ w.heap.size ≤ k) ∧ k < W.heap.size) W p.m v := by
 have hM := h.at'.mono (A' := fun k => (D k ∨ w.heap.size ≤ k) ∧ k < W.heap.size) (fun k hk => ⟨hk.1.imp (fun q => q) (fun q => by have := G.wm; have := G.lm; omega), hk.2.1⟩)
 exact ⟨hM.types, hM.imports, hM.functions, hM.tables, hM.memories, hM.elements, hM.globals, hM.exports, hM.codes, hM.datas, Lay.mono _ h.cus.sliceD (fun k hk => ⟨hk.1.imp (fun q => q) (fun q => by have := G.wm; have := G.lm; omega), hk.2⟩), hM.funcs, hM.locals, hM.named⟩
theorem MJ.endAt (h : MJ N D w gm gr gn L0 W p v) (G : MG D w gm gr gn L0) (hs : Fr (fun k => k = gm) W W') : ModAt (N + 1) (fun k => (D k ∨ w.heap.size ≤ k) ∧ k < W'.heap.size) W' p.m v := by
 have hM := (h.at'.fr hs (fun k hk => ⟨hk.2.1, fun e => by
  have e' : k = gm := e
  rcases hk.1 with q | q
  ·have := G.D k q; have := G.wm; omega
  ·have := G.lm; omega⟩)).mono (A' := fun k => (D k ∨ w.heap.size ≤ k) ∧ k < W'.heap.size) (fun k hk => ⟨hk.1.imp (fun q => q) (fun q => by have := G.wm; have := G.lm; omega), nqQ hk.2.1 hs.size⟩)
 have hc := h.cus.fr hs (fun k e => .inl (fun q => by have e' : k = gm := e; have := G.D k q; have := G.wm; omega)) (fun k hk e => by have e' : k = gm := e; have := (h.cus.lt k hk).1; have := G.lm; omega)
 exact ⟨hM.types, hM.imports, hM.functions, hM.tables, hM.memories, hM.elements, hM.globals, hM.exports, hM.codes, hM.datas, Lay.mono _ hc.sliceD (fun k hk => ⟨hk.1.imp (fun q => q) (fun q => by have := G.wm; have := G.lm; omega), hk.2⟩), hM.funcs, hM.locals, hM.named⟩
theorem MJ.one (h : MJ N D w gm gr gn L0 W p v) (G : MG D w gm gr gn L0) : (zs p.m v).toList.all (·.oneCell') = true := by
 have hM := h.all G
 unfold zs
 simp only [List.all_cons, List.all_nil, Lay.slice_one hM.types, Lay.slice_one hM.imports, Lay.slice_one hM.functions, Lay.slice_one hM.tables, Lay.slice_one hM.memories, Lay.slice_one hM.elements, Lay.slice_one hM.globals, Lay.slice_one hM.exports, Lay.slice_one hM.codes, Lay.slice_one hM.datas, Lay.slice_one hM.customs, Lay.slice_one hM.funcs, Lay.slice_one hM.locals]
 rfl
end
end Go.Proofs.YtejgninpjhcgnaaGreatDoor
