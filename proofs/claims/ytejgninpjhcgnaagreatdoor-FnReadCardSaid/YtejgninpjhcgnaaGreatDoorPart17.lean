/- Texts of this proof, one behind the other. -/
import Derived.Test.YtejgninpjhcgnaaGreatDoorPart16
import Derived.Lib.AppendStr
namespace Go.Proofs.YtejgninpjhcgnaaGreatDoor
open Go.RowKit
set_option linter.unusedSimpArgs false
set_option linter.unusedVariables false
set_option maxRecDepth 100000
set_option maxHeartbeats 4000000
def jT (a : Int × UInt64) : List UInt8 := Jr a.1 ++ uleb a.2.toNat
mutual
def za2 : Ins → List UInt8
 | .mk op args st ty body => Jr op ++ (uleb args.length ++ (args.flatMap jT ++ (if st then uleb 1 ++ (Jr (ty + 1) ++ (uleb body.length ++ jJ body)) else uleb 0)))
def jJ : List Ins → List UInt8
 | [] => []
 | x :: xs => za2 x ++ jJ xs
end
def Yy (l : List Ins) : List UInt8 := uleb l.length ++ jJ l
theorem Zx : ∀ (l m : List Ins), jJ (l ++ m) = jJ l ++ jJ m
 | [], m => rfl
 | x :: l, m => by simp only [List.cons_append, jJ, Zx l m, List.append_assoc]
variable {l : List Ins} {i : Nat}
theorem zeX (h : i < l.length) : jJ (l.take (i + 1)) = jJ (l.take i) ++ za2 l[i] := by
 rw [tsQ h, Zx]; simp [jJ]
theorem zdV (h : i < l.length) : ∃ m, jJ l = jJ (l.take i) ++ (za2 l[i] ++ m) := by
 refine ⟨jJ (l.drop (i + 1)), ?_⟩
 have : l = l.take i ++ (l[i] :: l.drop (i + 1)) := by rw [← List.drop_eq_getElem_cons h, List.take_append_drop]
 conv => lhs; rw [this]
 rw [Zx, jJ]
theorem zcg {l : List (Int × UInt64)} (h : i < l.length) : ∃ m, l.flatMap jT = (l.take i).flatMap jT ++ (jT l[i] ++ m) := by
 refine ⟨(l.drop (i + 1)).flatMap jT, ?_⟩
 have : l = l.take i ++ (l[i] :: l.drop (i + 1)) := by rw [← List.drop_eq_getElem_cons h, List.take_append_drop]
 conv => lhs; rw [this]
 rw [List.flatMap_append, List.flatMap_cons]
theorem zc5 {l : List (Int × UInt64)} (h : i < l.length) : (l.take (i + 1)).flatMap jT = (l.take i).flatMap jT ++ jT l[i] := by
 rw [tsQ h, List.flatMap_append]; simp
theorem jc (lo g : Nat) (b : Bool) (bs : List UInt8) (w : World) (hS : ym.is lo g bs w) (bj : lo ≤ w.heap.size) (hl : bs.length + 10 ≤ zG) :
 Calls Tryz.prog 21 #[.pointer (some ⟨g, 0, none⟩), .bool b] w fun e w' => e = .returned (.tuple #[]) ∧ Wrote ym lo g w (bs ++ uleb (if b then 1 else 0)) w' := by
 have H := qh (anQ hS (anQ bj hl))
 clear hS bj hl
 cases b with
 | true =>
  go_enter Tryz.func21, Tryz.ntmps21
  go_wp2_with fail
  refine (zh lo g 1 (by decide) bs w H.o.1 H.o.2.1 H.o.2.2).mono ?_
  rintro e w1 ⟨rfl, hW⟩
  have hW := qh hW
  go_wp2
  go_end0
  exact ⟨rfl, hW.o⟩
 | false =>
  go_enter Tryz.func21, Tryz.ntmps21
  go_wp2_with fail
  refine (zh lo g 0 (by decide) bs w H.o.1 H.o.2.1 H.o.2.2).mono ?_
  rintro e w1 ⟨rfl, hW⟩
  have hW := qh hW
  go_wp2
  go_end0
  exact ⟨rfl, hW.o⟩
theorem JX (x : Int) : ∃ m : Nat, IntKind.u64.wrap x = (m : Int) ∧ m < 18446744073709551616 ∧ Jr x = uleb m :=
 ⟨(x % 18446744073709551616).toNat, by rw [IntKind.wrap_u64]; omega, by omega, rfl⟩
theorem zeY (x : Int) : ∃ m : Nat, (IntKind.u64.wrap (wrap64 (x + 1)) = (m : Int) ∧ IntKind.u64.wrap (IntKind.i64.wrap (x + 1)) = (m : Int)) ∧ m < 18446744073709551616 ∧ Jr (x + 1) = uleb m :=
 ⟨((x + 1) % 18446744073709551616).toNat, ⟨by rw [IntKind.wrap_u64]; unfold wrap64; omega, by rw [IntKind.wrap_u64, IntKind.wrap_i64]; omega⟩, by omega, rfl⟩
variable {S : Hold} {lo g : Nat} {bs : List UInt8} {w : World}
theorem JY (h : S.is lo g bs w) (o : Obj) : S.is lo g bs (w.alloc o) ∧ ¬ S.foot (w.alloc o) g w.heap.size := by
 obtain ⟨h1, h2⟩ := S.frame h (za w o) (fun _ _ h => h)
 exact ⟨h1, fun h3 => by have := (S.lt h _ ((h2 _).1 h3)).2; omega⟩
variable {b : Nat} {cs : Array Value} {T : TypeId}
theorem Wrote.blk {W : World} (h : Wrote S lo g w bs W) (hb : Blk w b cs T) (hn : ¬ S.foot w g b) : Blk W b cs T := hb.fr h.fr hn
theorem jW (n : Nat) : ∀ (l : List Ins) (lo g : Nat) (aa : Option Addr) (m c : Nat) (A : Nat → Prop) (bs : List UInt8) (w : World), ym.is lo g bs w → (Lay.ins n).slice.rd A w [.slice aa m c] l → (∀ k, A k → k < lo) → lo ≤ w.heap.size → bs.length + (Yy l).length + 10 ≤ zG →
 Calls Tryz.prog 27 #[.pointer (some ⟨g, 0, none⟩), .slice aa m c] w fun e w' => e = .returned (.tuple #[]) ∧ Wrote ym lo g w (bs ++ Yy l) w' := by
 induction n using Nat.strongRecOn with
 | ind n ih =>
  intro l lo g aa m c A bs w hS hR hA bj hl
  obtain ⟨a', c', e, dw, cn⟩ := Lay.slice_form hR
  obtain ⟨rfl, rfl, rfl⟩ : aa = a' ∧ m = l.length ∧ c = c' := by simpa using e
  have aT : (l.length : Int) ≤ 9223372036854775807 := by simp only [maxLen] at cn; omega
  have lR : IntKind.u64.wrap (l.length : Int) = (l.length : Int) := by rw [IntKind.wrap_u64]; omega
  have iX : l.length < 18446744073709551616 := by omega
  have fc : Hq (bs.length + ((uleb l.length).length + (jJ l).length) + 10 ≤ zG) := by rw [Yy, laQ] at hl; exact hl
  have H := qh (anQ hS (anQ hR (anQ hA (anQ bj (anQ iX ih)))))
  clear hS hR hA ih bj hl iX dw cn e
  go_enter Tryz.func27, Tryz.ntmps27
  go_wp2_with fail
  obtain ⟨hS, hR, hA, bj, iX, ih⟩ := H.o
  refine (zh lo g l.length iX bs w hS bj (by have := fc.o; omega)).mono ?_
  rintro e w1 ⟨rfl, iQ⟩
  have iQ := qh iQ
  clear hS hR hA bj iX ih
  go_wp2_with fail
  go_loopw [15] (fun qE w' => ∃ (i : Nat), i ≤ l.length ∧ qE = .int .i64 i ∧ Hq (Wrote ym lo g w (bs ++ (uleb l.length ++ jJ (l.take i))) w')) (fun qE _ => l.length - (intOf qE).toNat)
  case atStart => exact ⟨0, nzQ _, rfl, by show Wrote _ _ _ _ _ _; simpa [jJ] using iQ.o⟩
  case round =>
   obtain ⟨i, hi, rfl, hW⟩ := hrel
   by_cases aj : i < l.length
   ·obtain ⟨hS, hR, hA, bj, iX, ih⟩ := H.o
    have kH := Lay.fr hR (Wrote.below hS hW.o) (fun k hk => ⟨nqQ (hA k hk) bj, by have := hA k hk; omega⟩)
    obtain ⟨k, b, o, a1, n1, c1, a2, n2, c2, rfl, rfl, li, e0, e1, e2, e3, e4, gS, gQ, ck, dC⟩ := Lay.ins_at kH i aj
    have bU := qh (zeX aj)
    obtain ⟨rest, em⟩ := zdV aj
    have gJ := fc.o
    rw [em, laQ, laQ] at gJ
    have iK := nlQ bj hW.o.fr.size
    generalize l[i] = x at *
    obtain ⟨op, args, st, ty, body⟩ := x
    simp only [Ins.op, Ins.args, Ins.st, Ins.ty, Ins.body] at e0 e1 e2 e3 e4 gS gQ ck dC
    obtain ⟨uj, t6, rT, mB, lZ⟩ := Lay.slice_form ck
    obtain ⟨rfl, rfl, rfl⟩ : a1 = uj ∧ n1 = args.length ∧ c1 = t6 := by simpa using rT
    obtain ⟨xt, xG, sq, p8, nv⟩ := Lay.slice_form dC
    obtain ⟨rfl, rfl, rfl⟩ : a2 = xt ∧ n2 = body.length ∧ c2 = xG := by simpa using sq
    have kI : (args.length : Int) ≤ 9223372036854775807 := by simp only [maxLen] at lZ; omega
    have Du : IntKind.u64.wrap (args.length : Int) = (args.length : Int) := by rw [IntKind.wrap_u64]; omega
    have c8 : (body.length : Int) ≤ 9223372036854775807 := by simp only [maxLen] at nv; omega
    obtain ⟨mo, nu, tD, sk⟩ := JX op
    obtain ⟨mt, ⟨DX, CC⟩, rB, r8⟩ := zeY ty
    obtain ⟨pre, m9⟩ := exQ (bs ++ (uleb l.length ++ jJ (l.take i)))
    have sJ : pre.length = bs.length + ((uleb l.length).length + (jJ (l.take i)).length) := by rw [← m9]; simp
    have aV : Hq (∀ W, Wrote ym lo g w (pre ++ za2 (.mk op args st ty body)) W → Wrote ym lo g w (bs ++ (uleb l.length ++ jJ (l.take (i + 1)))) W) := fun W h => by
     rw [bU.o, ← List.append_assoc, ← List.append_assoc, List.append_assoc bs, m9]; exact h
    rw [m9] at hW
    have bd : Hq (pre.length + (za2 (.mk op args st ty body)).length + 10 ≤ zG) := by show _ ≤ _; omega
    clear em gJ sJ m9 bU
    have HB := qh (anQ tD (anQ sk (anQ rB (anQ r8 (anQ iK (anQ ck (anQ dC li)))))))
    clear hS hR hA bj iX ih kH ck dC li rT sq mB lZ p8 nv gS gQ tD sk rB r8 iK
    have nW := qh (show pre.length + ((uleb mo).length + ((uleb args.length).length + ((args.flatMap jT).length + (if st then uleb 1 ++ (uleb mt ++ Yy body) else uleb 0).length))) + 10 ≤ zG from by
     have := bd.o
     rw [za2, HB.o.2.1, HB.o.2.2.2.1] at this
     simpa [Yy] using this)
    have n9 : Hq (∀ W, Wrote ym lo g w (pre ++ (uleb mo ++ (uleb args.length ++ (args.flatMap jT ++ (if st then uleb 1 ++ (uleb mt ++ Yy body) else uleb 0))))) W → Wrote ym lo g w (bs ++ (uleb l.length ++ jJ (l.take (i + 1)))) W) := fun W h => aV.o W (by
     rw [za2, HB.o.2.1, HB.o.2.2.2.1]
     exact h)
    clear aV bd
    have uE : args.length < 18446744073709551616 := by omega
    go_wp2_with fail
    obtain ⟨p7, eG⟩ := JY hW.o.is (.cells #[.int .i64 op, .slice a1 args.length c1, .bool st, .int .i64 ty, .slice a2 body.length c2] 76)
    have cz := zl wr #[.int .i64 op, .slice a1 args.length c1, .bool st, .int .i64 ty, .slice a2 body.length c2] 76
    have eJ := za wr (.cells #[.int .i64 op, .slice a1 args.length c1, .bool st, .int .i64 ty, .slice a2 body.length c2] 76)
    generalize (wr.alloc (.cells #[.int .i64 op, .slice a1 args.length c1, .bool st, .int .i64 ty, .slice a2 body.length c2] 76)) = W1 at *
    have g8 := nlQ HB.o.2.2.2.2.1 eJ.size
    refine (zh lo g mo HB.o.1 pre W1 p7 g8 (by have := nW.o; omega)).mono ?_
    rintro e w2 ⟨rfl, oc⟩
    have au := (oc.blk cz eG).cell
    have H1 := qh (anQ p7 (anQ eG (anQ cz (anQ eJ (anQ g8 oc)))))
    clear p7 eG cz eJ g8 oc
    go_wp2_with fail
    obtain ⟨p7, eG, cz, eJ, g8, oc⟩ := H1.o
    refine (zh lo g args.length uE _ w2 oc.is (nlQ g8 oc.fr.size) (by have := nW.o; simp only [laQ]; omega)).mono ?_
    rintro e w3 ⟨rfl, rS⟩
    replace rS := oc.trans rS
    clear au
    have au := (rS.blk cz eG).cell
    have H3 := qh rS
    clear p7 eG cz eJ g8 oc rS
    go_wp2_with fail
    obtain ⟨wo, rfl⟩ : ∃ wo : World, wo = wr := ⟨_, rfl⟩
    go_loopw [33] (fun ma w' => ∃ (j : Nat), j ≤ args.length ∧ ma = .int .i64 j ∧ Hq (Wrote ym lo g W1 (pre ++ uleb mo ++ uleb args.length ++ (args.take j).flatMap jT) w')) (fun ma _ => args.length - (intOf ma).toNat)
    case atStart => exact ⟨0, nzQ _, rfl, by show Wrote _ _ _ _ _ _; simpa using H3.o⟩
    case round =>
     obtain ⟨j, hj, rfl, hV⟩ := hrel
     clear au
     by_cases hjl : j < args.length
     ·have ck := Lay.fr (Lay.fr HB.o.2.2.2.2.2.1 H1.o.2.2.2.1 (fun k hk => ⟨nqQ (H.o.2.2.1 k hk) HB.o.2.2.2.2.1, fun h => h⟩)) (Wrote.below H1.o.1 hV.o) (fun k hk => ⟨nqQ (H.o.2.2.1 k hk) H1.o.2.2.2.2.1, by have := H.o.2.2.1 k hk; omega⟩)
      obtain ⟨b3, o3, rfl, wG, g0, g1, -, -⟩ := zhO ck j hjl
      have bU := qh (zc5 hjl)
      obtain ⟨xZ, tI⟩ := zcg hjl
      generalize args[j] = aq at *
      obtain ⟨ak, ab⟩ := aq
      simp only [] at g0 g1
      obtain ⟨mk, oT, sx, rz⟩ := JX ak
      have sX := ab.toNat_lt
      have An := qh (show jT (ak, ab) = uleb mk ++ uleb ab.toNat from by rw [jT, rz])
      generalize jT (ak, ab) = DS at *
      generalize ab.toNat = mb at *
      have d4 := qh (show pre.length + ((uleb mo).length + ((uleb args.length).length + (((args.take j).flatMap jT).length + ((uleb mk).length + (uleb mb).length)))) + 10 ≤ zG from by
       have := nW.o
       rw [tI, An.o] at this
       simp only [laQ] at this
       omega)
      have HM := qh (anQ sx sX)
      clear tI ck wG sx rz sX
      go_wp2_with fail
      obtain ⟨mM, mL⟩ := JY hV.o.is (.cells #[.int .i64 ak, .int .u64 mb] 239)
      have ij := zl wr #[.int .i64 ak, .int .u64 mb] 239
      have gv := za wr (.cells #[.int .i64 ak, .int .u64 mb] 239)
      generalize (wr.alloc (.cells #[.int .i64 ak, .int .u64 mb] 239)) = W4 at *
      have gW := nlQ (nlQ H1.o.2.2.2.2.1 hV.o.fr.size) gv.size
      refine (zh lo g mk HM.o.1 _ W4 mM gW (by have := d4.o; simp only [laQ]; omega)).mono ?_
      rintro e w5 ⟨rfl, kN⟩
      have au := (kN.blk ij mL).cell
      have H4 := qh (anQ gv (anQ gW kN))
      clear mM mL ij gv gW kN
      go_wp2_with fail
      obtain ⟨gv, gW, kN⟩ := H4.o
      refine (zh lo g mb HM.o.2 _ w5 kN.is (nlQ gW kN.fr.size) (by have := d4.o; simp only [laQ]; omega)).mono ?_
      rintro e w6 ⟨rfl, o9⟩
      have bO := qh (show Wrote ym lo g W1 (pre ++ uleb mo ++ uleb args.length ++ (args.take (j + 1)).flatMap jT) w6 from by
       rw [bU.o, An.o, ← List.append_assoc, ← List.append_assoc]
       exact hV.o.trans (Wrote.after hV.o.is gv (kN.trans o9)))
      clear gv gW kN o9 au
      go_wp2
      go_roundw
      case rel => exact ⟨j + 1, by omega, by go_num, bO⟩
      case measure => simp [intOf]; omega
     ·obtain rfl : j = args.length := by omega
      have au := (hV.o.blk H1.o.2.2.1 H1.o.2.1).cell
      have bO := qh (show Wrote ym lo g W1 (pre ++ uleb mo ++ uleb args.length ++ args.flatMap jT) wr from by have := hV.o; rw [tlQ] at this; exact this)
      clear hV
      go_wp2_with fail
      refine (jc lo g st _ wr bO.o.is (nlQ H1.o.2.2.2.2.1 bO.o.fr.size) (by have := nW.o; simp only [laQ]; omega)).mono ?_
      rintro e w5 ⟨rfl, kN⟩
      replace kN := bO.o.trans kN
      clear au
      have au := (kN.blk H1.o.2.2.1 H1.o.2.1).cell
      have H5 := qh kN
      clear kN bO
      cases st with
      | false =>
       have aV := qh (show Wrote ym lo g w (bs ++ (uleb l.length ++ jJ (l.take (i + 1)))) w5 from
        n9.o w5 (hW.o.trans (Wrote.after hW.o.is H1.o.2.2.2.1 (by simpa using H5.o))))
       go_wp2
       go_roundw
       case rel => exact ⟨i + 1, by omega, by go_num, aV⟩
       case measure => simp [intOf]; omega
      | true =>
       go_wp2_with fail
       refine (zh lo g mt HB.o.2.2.1 _ w5 H5.o.is (nlQ H1.o.2.2.2.2.1 H5.o.fr.size) (by have := nW.o; simp only [if_true, laQ] at *; omega)).mono ?_
       rintro e w6 ⟨rfl, o9⟩
       replace o9 := H5.o.trans o9
       clear au
       have au := (o9.blk H1.o.2.2.1 H1.o.2.1).cell
       have H6 := qh o9
       clear o9 H5
       go_wp2_with fail
       have dC := Lay.fr (Lay.fr HB.o.2.2.2.2.2.2.1 H1.o.2.2.2.1 (fun k hk => ⟨nqQ (H.o.2.2.1 k hk) HB.o.2.2.2.2.1, fun h => h⟩)) (Wrote.below H1.o.1 H6.o) (fun k hk => ⟨nqQ (H.o.2.2.1 k hk) H1.o.2.2.2.2.1, by have := H.o.2.2.1 k hk; omega⟩)
       refine (H.o.2.2.2.2.2 k (by omega) body lo g a2 body.length c2 A _ w6 H6.o.is dC H.o.2.2.1 (nlQ H1.o.2.2.2.2.1 H6.o.fr.size) (by have := nW.o; simp only [if_true, laQ] at *; omega)).mono ?_
       rintro e w7 ⟨rfl, ui⟩
       replace ui := H6.o.trans ui
       have aV := qh (show Wrote ym lo g w (bs ++ (uleb l.length ++ jJ (l.take (i + 1)))) w7 from
        n9.o w7 (hW.o.trans (Wrote.after hW.o.is H1.o.2.2.2.1 (by simpa using ui))))
       clear au ui dC
       go_wp2
       go_roundw
       case rel => exact ⟨i + 1, by omega, by go_num, aV⟩
       case measure => simp [intOf]; omega
   ·obtain rfl : i = l.length := by omega
    go_wp2
    go_end0
    refine ⟨rfl, ?_⟩
    have := hW.o
    rw [tlQ] at this
    exact this
theorem zbr (s : ByteArray) : Lib.strCells s = s.data.toList.map fun b => Value.int .u8 (b.toNat : Int) := rfl
theorem zch {P : Program} (W : World) (base : Nat) (t u ty e : TypeId) (i : TypeInfo) (ht : P.underlying t = some (.slice e)) (hu : P.underlying u = some .string) (hi : P.info? e = some i) (hz : i.zero = some (.int .u8 0))
 (ms : i.size = 1) (n5 : i.bytes = 1) (v : Value) (n : Nat) (xs : List Value) (ah : W.ownsRow base e 1 v n xs) (s : ByteArray) (pO : n + s.size ≤ 140737488355328) (su : base ≤ W.heap.size) :
 ∃ v' w', (Builtin.append_ #[t, u] ty #[v, .string s]).run P W = .ok v' w' ∧ w'.ownsRow base e 1 v' (n + s.size) (xs ++ Lib.strCells s) ∧ W.grownBy w' v.ownBlock ∧ (v'.ownBlock = v.ownBlock ∨ v'.ownBlock = some W.heap.size) := by
 have C9 : n + s.size ≤ maxLen := by simp only [maxLen]; omega
 obtain ⟨v', w', hr, h1, h2, h3⟩ := Lib.run_append_own_string (P := P) W base t u ty e i ht hu hi hz ms n5 v n xs ah s C9 pO su
 refine ⟨v', w', hr, h1, h2, ?_⟩
 rcases ah.2 with ⟨rfl, rfl⟩ | ⟨g, cap, cX, rfl, qK, hg, uK, cn, iF, AF⟩
 ·by_cases hm : s.size = 0
  ·rw [h3.2 ⟨rfl, hm⟩]; exact .inl rfl
  ·have hq := run_append_nil_string (P := P) W t u ty e i (.int .u8 0) ht hu hi hz s (by omega) (by omega) (by rw [n5]; omega)
   have := hr.symm.trans hq
   simp only [Result.ok.injEq] at this
   rw [this.1]
   exact .inr rfl
 ·by_cases hroom : n + s.size ≤ cap
  ·have CO : cX.size = cap := by simpa using iF
   have hq := Lib.run_append_room_string (P := P) W t u ty e i ht hu hi ms g n cap cX hg s hroom (by omega)
   have := hr.symm.trans hq
   simp only [Result.ok.injEq] at this
   rw [this.1]
   exact .inl rfl
  ·have dH : xs.length = n := by simpa using ah.1
   have hq := Lib.run_append_grow_string (P := P) W t u ty e i (.int .u8 0) ht hu hi hz ⟨g, 0, none⟩ n cap xs (by rw [ms]; simpa using dH) (ah.cells (g := g) rfl) s (by omega) (by omega) (by rw [n5]; exact growslice_fits (by omega) (by omega))
   have := hr.symm.trans hq
   simp only [Result.ok.injEq] at this
   rw [this.1]
   exact .inr rfl
section
variable {P : Program} {aw : Array Oper} {rest : List Oper} {o : Oper} {a : Act} {Q : Exit → Act → World → Prop} {K : Act → World → Prop}
theorem zci {W : World} (lo : Nat) (s x : Operand) (t u e : TypeId)
 (ho : o.op = .call { callee := .builtin .append, args := #[s, x], argTypes := #[t, u] })
 (ht : P.underlying t = some (.slice e)) (hu : P.underlying u = some .string) (bR : (P.info? e).map (fun i => (i.zero, i.size, i.bytes)) = some (some (.int .u8 0), 1, 1))
 (v : Value) (xs : List UInt8) (st : ByteArray) (hs : a.eval s = v) (hx : a.eval x = .string st)
 (HO : Own Lay.u8 e lo W v xs) (bj : lo ≤ W.heap.size) (hl : xs.length + st.size ≤ 140737488355328)
 (h : ∀ v1 w1, Own Lay.u8 e lo w1 v1 (xs ++ st.data.toList) → Fr (fun k => some k = v.ownBlock) W w1 → (∀ k, v1.ownBlock = some k → v.ownBlock = some k ∨ W.heap.size ≤ k) → K (a.put o.dst v1) w1) :
 o.wp P a W K Q := by
 obtain ⟨i0, hi, kK⟩ := Option.map_eq_some_iff.1 bR
 simp only [Prod.mk.injEq] at kK
 obtain ⟨gf, dt, dO⟩ := kK
 obtain ⟨flat, HO, HF⟩ := HO
 have Ce : W.ownsRow lo e 1 v xs.length flat := HO
 obtain ⟨v1, w1, hr, h1, h2, h3⟩ := zch (P := P) W lo t u o.type e i0 ht hu hi gf dt dO v xs.length flat Ce st hl bj
 unfold Oper.wp execOp
 simp only [ho, resolve, invoke, builtin, Sem.run_bind, Sem.run_pure, Result.andThen_ok, List.map_toArray, List.map_cons, List.map_nil, hs, hx, hr]
 show K _ _
 refine h v1 w1 ⟨flat ++ Lib.strCells st, ?_, ?_⟩ (yW h2) (fun k hk => ?_)
 ·rw [laQ]; exact h1
 ·rw [zbr]
  exact Lay.all_append (Lay.all_flat Lay.flat_u8 HF) (zfn _)
 ·rcases h3 with h3 | h3
  ·exact .inl (h3 ▸ hk)
  ·rw [h3] at hk; injection hk with hk; exact .inr (Nat.le_of_eq hk)
theorem zeZ {W : World} (lo : Nat) (iI : o.guard = none) (s x : Operand) (t u e : TypeId)
 (ho : o.op = .call { callee := .builtin .append, args := #[s, x], argTypes := #[t, u] })
 (ht : P.underlying t = some (.slice e)) (hu : P.underlying u = some .string) (bR : (P.info? e).map (fun i => (i.zero, i.size, i.bytes)) = some (some (.int .u8 0), 1, 1))
 (v : Value) (xs : List UInt8) (st : ByteArray) (hs : a.eval s = v) (hx : a.eval x = .string st)
 (HO : Own Lay.u8 e lo W v xs) (bj : lo ≤ W.heap.size) (hl : xs.length + st.size ≤ 140737488355328)
 (h : ∀ v1 w1, Own Lay.u8 e lo w1 v1 (xs ++ st.data.toList) → Fr (fun k => some k = v.ownBlock) W w1 → (∀ k, v1.ownBlock = some k → v.ownBlock = some k ∨ W.heap.size ≤ k) → wpList P aw Q rest (a.put o.dst v1) w1) :
 wpList P aw Q (o :: rest) a W :=
 wpList_plain iI fun _ hK => zci lo s x t u e ho ht hu bR v xs st hs hx HO bj hl fun v1 w1 h1 h2 h3 => hK _ _ (h v1 w1 h1 h2 h3)
end
def zz (s : List UInt8) : List UInt8 := uleb s.length ++ s
theorem z4 (lo g : Nat) (st : ByteArray) (bs : List UInt8) (w : World) (hS : ym.is lo g bs w) (bj : lo ≤ w.heap.size) (hl : bs.length + st.size + 20 ≤ zG) :
 Calls Tryz.prog 23 #[.pointer (some ⟨g, 0, none⟩), .string st] w fun e w' => e = .returned (.tuple #[]) ∧ Wrote ym lo g w (bs ++ zz st.data.toList) w' := by
 have gz : st.data.toList.length = st.size := by simp
 have aU : st.size < 18446744073709551616 := by simp only [zG] at hl; omega
 have BW : (st.size : Int) ≤ 9223372036854775807 := by simp only [zG] at hl; omega
 have lR : IntKind.u64.wrap (st.size : Int) = (st.size : Int) := by rw [IntKind.wrap_u64]; omega
 have qR := jG st.size aU
 have H := qh (anQ hS (anQ bj (anQ hl (anQ aU (anQ qR gz)))))
 clear hS bj hl aU gz qR
 go_enter Tryz.func23, Tryz.ntmps23
 go_wp2_with fail
 refine (zh lo g st.size H.o.2.2.2.1 bs w H.o.1 H.o.2.1 (by have := H.o.2.2.1; omega)).mono ?_
 rintro e w1 ⟨rfl, hW⟩
 obtain ⟨hg, v, hb, ho, ag⟩ := hW.is
 have hc := hb.cell 0
 have hf := hb.frz 0
 simp only [List.getElem?_toArray, List.getElem?_cons_zero] at hc
 obtain ⟨aa, n, cap, rfl⟩ := ho.shape
 have H1 := qh (anQ hW (anQ hg (anQ hb (anQ ho ag))))
 clear hW hg hb ho ag
 go_wp2_with (at_builtin; refine Hq.o ?_)
 refine zeZ lo rfl (.tmp 12) (.tmp 13) _ _ _ rfl Tryz.underlying86 Tryz.underlying9 zjh (.slice aa n cap) (bs ++ uleb st.size) st rfl rfl H1.o.2.2.2.1 (nlQ H.o.2.1 H1.o.1.fr.size) (by have := H.o.2.2.1; have := H.o.2.2.2.2.1; rw [laQ]; simp only [zG] at *; omega) ?_
 intro v1 w2 h1 h2 h3
 have ct := H1.o.2.2.1.fr h2 (fun e => H1.o.2.2.2.2 e.symm)
 have cp := ct.frz 0
 have bS := ct.cell 0
 simp only [List.getElem?_toArray, List.getElem?_cons_zero] at bS
 have H2 := qh (anQ h1 (anQ h2 h3))
 obtain ⟨AZ, n1, ti, rfl⟩ := h1.shape
 clear h1 h2 h3 ct hc hf
 go_wp2
 go_end0
 refine ⟨rfl, H1.o.1.trans ?_⟩
 have := zeo H1.o.2.1 H1.o.2.2.1 H1.o.2.2.2.2 H2.o.1 H2.o.2.1 H2.o.2.2
 rw [zz, ← List.append_assoc, H.o.2.2.2.2.2]
 exact this
def jU (b : Bool) : List UInt8 := uleb (if b then 1 else 0)
def jo (l : Lim) : List UInt8 := uleb l.min.toNat ++ (jU l.bounded ++ if l.bounded then uleb l.max.toNat else [])
def jj (l : List Lim) : List UInt8 := uleb l.length ++ l.flatMap jo
def Jz (n : UInt32) : List UInt8 := uleb n.toNat
def Zy (l : List UInt32) : List UInt8 := uleb l.length ++ l.flatMap Jz
def Zz (t : FT) : List UInt8 := zz (Yd (t.ps, t.rs))
def jd (i : Imp) : List UInt8 := zz i.mdl ++ (zz i.name ++ (Jr i.kind ++ (uleb i.index.toNat ++ (jj [i.lim] ++ (Jr i.ty ++ jU i.mtb)))))
def yG (e : Elem) : List UInt8 := uleb e.index.toNat ++ (Yy e.off ++ Zy e.ids)
def yH (g : Glob) : List UInt8 := Jr g.ty ++ (jU g.mtb ++ Yy g.init)
def yU (e : Expo) : List UInt8 := zz e.name ++ (Jr e.kind ++ uleb e.index.toNat)
def jp (d : Dat) : List UInt8 := uleb d.index.toNat ++ (Yy d.off ++ zz d.init)
def j2 (c : Cus) : List UInt8 := zz c.name ++ zz c.data
def jA (n : Nam) : List UInt8 := uleb n.fn.toNat ++ (uleb n.idx.toNat ++ zz n.name)
def jK (l : List Nam) : List UInt8 := uleb l.length ++ l.flatMap jA
def Yz (el : List Nam) (f : UInt32) : Nat → Nat
 | 0 => 0
 | k + 1 => match el[k]? with
  | some x => if f.toNat < x.fn.toNat then Yz el f k else k + 1
  | none => k + 1
def insN (el : List Nam) (n : Nam) : List Nam := el.take (Yz el n.fn el.length) ++ n :: el.drop (Yz el n.fn el.length)
def Zj (l : List Nam) : List Nam := l.foldl insN []
def jP (m : Mod) : List UInt8 := jU m.hasStart ++ if m.hasStart then uleb m.start.toNat else []
def yI (m : Mod) : List UInt8 :=
 jP m ++ (uleb m.types.length ++ m.types.flatMap Zz) ++ (uleb m.imports.length ++ m.imports.flatMap jd) ++ Zy m.functions ++ jj m.tables ++ jj m.memories ++
 (uleb m.elements.length ++ m.elements.flatMap yG) ++ (uleb m.globals.length ++ m.globals.flatMap yH) ++ (uleb m.exports.length ++ m.exports.flatMap yU) ++
 (uleb m.codes.length ++ m.codes.flatMap zz) ++ (uleb m.datas.length ++ m.datas.flatMap jp) ++ (uleb m.customs.length ++ m.customs.flatMap j2) ++ zz m.named ++ jK m.funcs ++ jK (Zj m.locals)
variable {α : Type} {f : α → List UInt8}
theorem jB {l : List α} (h : i < l.length) : ∃ m, l.flatMap f = (l.take i).flatMap f ++ (f l[i] ++ m) := by
 refine ⟨(l.drop (i + 1)).flatMap f, ?_⟩
 have : l = l.take i ++ (l[i] :: l.drop (i + 1)) := by rw [← List.drop_eq_getElem_cons h, List.take_append_drop]
 conv => lhs; rw [this]
 rw [List.flatMap_append, List.flatMap_cons]
theorem Jn {l : List α} (h : i < l.length) : (l.take (i + 1)).flatMap f = (l.take i).flatMap f ++ f l[i] := by
 rw [tsQ h, List.flatMap_append]; simp
variable {w' : World}
theorem ZT (h : Wrote S lo g w bs w') (hb : Blk w b cs T) (hn : ¬ S.foot w g b) : Blk w' b cs T ∧ ¬ S.foot w' g b :=
 ⟨hb.fr h.fr hn, fun hf => (h.foot b hf).elim hn (fun h' => by have := hb.lt; omega)⟩
structure KSt (w : World) (lo g : Nat) (pre : List UInt8) (wc : World) (bx : List (Nat × Array Value × TypeId)) : Prop where
 is : ym.is lo g pre wc
 lo : lo ≤ wc.heap.size
 ext : Ext w wc
 box : ∀ b ∈ bx, Blk wc b.1 b.2.1 b.2.2 ∧ ¬ ym.foot wc g b.1
variable {pre pre' : List UInt8} {wc : World} {bx : List (Nat × Array Value × TypeId)}
theorem KSt.step (h : KSt w lo g pre wc bx) (hw : w.heap.size ≤ lo) (hR : Wrote ym lo g wc pre' w') : KSt w lo g pre' w' bx :=
 ⟨hR.is, nlQ h.lo hR.fr.size, Fr.new (Ext.fr h.ext (Wrote.below h.is hR)) (fun _ hk => nlQ hw hk), fun b hb => ZT hR (h.box b hb).1 (h.box b hb).2⟩
theorem KSt.grow (h : KSt w lo g pre wc bx) (hx : Ext wc w') : KSt w lo g pre w' bx :=
 have hf := ym.frame h.is hx (fun _ _ h => h)
 ⟨hf.1, nlQ h.lo hx.size, Ext.trans h.ext hx, fun b hb => ⟨(h.box b hb).1.ext hx, fun q => (h.box b hb).2 ((hf.2 _).1 q)⟩⟩
theorem KSt.push (h : KSt w lo g pre wc bx) (cs : Array Value) (T : TypeId) : KSt w lo g pre (wc.alloc (.cells cs T)) ((wc.heap.size, cs, T) :: bx) := by
 have h' := h.grow (za wc (.cells cs T))
 refine ⟨h'.is, h'.lo, h'.ext, fun b hb => ?_⟩
 rcases List.mem_cons.1 hb with rfl | hb
 ·exact ⟨zl wc cs T, (JY h.is _).2⟩
 ·exact h'.box b hb
theorem KSt.pop {b : Nat × Array Value × TypeId} (h : KSt w lo g pre wc (b :: bx)) : KSt w lo g pre wc bx := ⟨h.is, h.lo, h.ext, fun c hc => h.box c (List.mem_cons_of_mem _ hc)⟩
theorem KSt.box0 (h : KSt w lo g pre wc ((b, cs, T) :: bx)) : ∀ j, wc.cell? ⟨b, j, none⟩ = cs[j]? := (h.box _ (.head _)).1.cell
theorem KSt.box1 {b0 : Nat × Array Value × TypeId} (h : KSt w lo g pre wc (b0 :: (b, cs, T) :: bx)) : ∀ j, wc.cell? ⟨b, j, none⟩ = cs[j]? := (h.box _ (.tail _ (.head _))).1.cell
variable {A : Nat → Prop}
theorem KSt.rd {l : Lay α} (h : KSt w lo g pre wc bx) {cs : List Value} {x : α} (hR : l.rd A w cs x) (hA : ∀ k, A k → k < w.heap.size) : l.rd A wc cs x :=
 Lay.fr hR h.ext (fun k hk => ⟨hA k hk, fun h => h⟩)
theorem KSt.conv (h : KSt w lo g pre wc bx) (e : pre = pre') : KSt w lo g pre' wc bx := e ▸ h
structure Clean (m : Mod) : Prop where
 imports : ∀ x ∈ m.imports, CImp x
 globals : ∀ x ∈ m.globals, CCon x.init
 elements : ∀ x ∈ m.elements, CCon x.off
 datas : ∀ x ∈ m.datas, CCon x.off
structure Fresh (last : Nat) (m : Mod) : Prop where
 types : last < 1 → m.types = []
 imports : last < 2 → m.imports = []
 tables : last < 4 → m.tables = []
 memories : last < 5 → m.memories = []
 globals : last < 6 → m.globals = []
 exports : last < 7 → m.exports = []
 elements : last < 9 → m.elements = []
 codes : last < 10 → m.codes = []
 datas : last < 11 → m.datas = []
variable {a : Nat} {m : Mod}
theorem Fresh.mono (h : Fresh a m) (nL : a ≤ b) : Fresh b m := ⟨fun k => h.types (by omega), fun k => h.imports (by omega), fun k => h.tables (by omega), fun k => h.memories (by omega), fun k => h.globals (by omega), fun k => h.exports (by omega), fun k => h.elements (by omega), fun k => h.codes (by omega), fun k => h.datas (by omega)⟩
variable {m' : Mod}
theorem Fresh.same (h : Fresh a m) (e : Same m m') : Fresh a m' := ⟨fun k => e.types.trans (h.types k), fun k => e.imports.trans (h.imports k), fun k => e.tables.trans (h.tables k), fun k => e.memories.trans (h.memories k), fun k => e.globals.trans (h.globals k), fun k => e.exports.trans (h.exports k), fun k => e.elements.trans (h.elements k), fun k => e.codes.trans (h.codes k), fun k => e.datas.trans (h.datas k)⟩
theorem Clean.same (h : Clean m') (e : Same m m') : Clean m := ⟨e.imports ▸ h.imports, e.globals ▸ h.globals, e.elements ▸ h.elements, e.datas ▸ h.datas⟩
def SLaw (id : Nat) (m : Mod) (bs : List UInt8) : Prop := ((zE id m ⟨bs, 0⟩).2.v = 0 → Clean (zE id m ⟨bs, 0⟩).1 → ∃ r, zq id (nM m) bs = .ok (nM (zE id m ⟨bs, 0⟩).1) r) ∧ ((zE id m ⟨bs, 0⟩).2.v = 1 → Clean (zE id m ⟨bs, 0⟩).1 → zq id (nM m) bs = .bad)
theorem ZA (m : Mod) (s : St) : zE 1 m s = ({ m with types := (yt s).1 }, (yt s).2) := rfl
theorem ZB (m : Mod) (s : St) : zE 2 m s = ({ m with imports := (y6 s).1 }, (y6 s).2) := rfl
theorem ZC (m : Mod) (s : St) : zE 3 m s = ({ m with functions := (zZ s).1 }, (zZ s).2) := rfl
theorem ZD (m : Mod) (s : St) : zE 4 m s = ({ m with tables := (zW zX s).1 }, (zW zX s).2) := rfl
theorem ZE (m : Mod) (s : St) : zE 5 m s = ({ m with memories := (zW zD s).1 }, (zW zD s).2) := rfl
theorem ZF (m : Mod) (s : St) : zE 6 m s = ({ m with globals := (zW Je s).1 }, (zW Je s).2) := rfl
theorem ZG (m : Mod) (s : St) : zE 7 m s = ({ m with exports := (zW j5 s).1 }, (zW j5 s).2) := rfl
theorem ZH (m : Mod) (s : St) : zE 8 m s = ({ m with hasStart := true, start := (rNum s).1 }, (rNum s).2) := rfl
theorem ZI (m : Mod) (s : St) : zE 9 m s = ({ m with elements := (zW Jf s).1 }, (zW Jf s).2) := rfl
theorem JZ (m : Mod) (s : St) : zE 10 m s = ({ m with codes := (zW zY s).1 }, (zW zY s).2) := rfl
theorem J0 (m : Mod) (s : St) : zE 11 m s = ({ m with datas := (zW rDat s).1 }, (zW rDat s).2) := rfl
theorem zhW (m : Mod) (bs : List UInt8) : zq 1 m bs = if m.types = [] then (pVec pFT bs).bind fun x r => .ok { m with types := x } r else .any := rfl
theorem zjE (m : Mod) (hf : Fresh 0 m) (bs : List UInt8) : SLaw 1 m bs := by
 unfold SLaw
 rw [ZA, zhW, if_pos (show (nM m).types = [] from hf.types (by omega))]
 have h := zjC.vecAll ziG
 refine ⟨fun hv hc => ⟨(yt ⟨bs, 0⟩).2.b, ?_⟩, fun hv hc => ?_⟩
 ·rw [show pVec pFT bs = _ from h.good bs hv trivial, PR.bind_ok]; rfl
 ·rw [show pVec pFT bs = _ from h.bad bs hv trivial]; rfl
theorem zhX (m : Mod) (bs : List UInt8) : zq 2 m bs = if m.imports = [] then (pVec pImp bs).bind fun x r => .ok { m with imports := x } r else .any := rfl
theorem zjF (m : Mod) (hf : Fresh 1 m) (bs : List UInt8) : SLaw 2 m bs := by
 unfold SLaw
 rw [ZB, zhX, if_pos (show (nM m).imports = [] from hf.imports (by omega))]
 have h := ziI.vecId zhl
 refine ⟨fun hv hc => ⟨(y6 ⟨bs, 0⟩).2.b, ?_⟩, fun hv hc => ?_⟩
 ·rw [show pVec pImp bs = _ from h.good bs hv hc.imports, PR.bind_ok]; rfl
 ·rw [show pVec pImp bs = _ from h.bad bs hv hc.imports]; rfl
theorem zhY (m : Mod) (bs : List UInt8) : zq 3 m bs = (pVec pNum bs).bind fun x r => .ok { m with functions := x } r := rfl
theorem zjG (m : Mod) (_ : Fresh 2 m) (bs : List UInt8) : SLaw 3 m bs := by
 unfold SLaw
 rw [ZC, zhY]
 have h := zaY
 refine ⟨fun hv hc => ⟨(zZ ⟨bs, 0⟩).2.b, ?_⟩, fun hv hc => ?_⟩
 ·rw [show pVec pNum bs = _ from h.good bs hv trivial, PR.bind_ok]; rfl
 ·rw [show pVec pNum bs = _ from h.bad bs hv trivial]; rfl
theorem zhZ (m : Mod) (bs : List UInt8) : zq 4 m bs = if m.tables = [] then (pVec pTab bs).bind fun x r => .ok { m with tables := x } r else .any := rfl
theorem zjH (m : Mod) (hf : Fresh 3 m) (bs : List UInt8) : SLaw 4 m bs := by
 unfold SLaw
 rw [ZD, zhZ, if_pos (show (nM m).tables = [] from hf.tables (by omega))]
 have h := zgf.vecAll zce
 refine ⟨fun hv hc => ⟨(zW zX ⟨bs, 0⟩).2.b, ?_⟩, fun hv hc => ?_⟩
 ·rw [show pVec pTab bs = _ from h.good bs hv trivial, PR.bind_ok]; rfl
 ·rw [show pVec pTab bs = _ from h.bad bs hv trivial]; rfl
theorem zh0 (m : Mod) (bs : List UInt8) : zq 5 m bs = if m.memories = [] then (pVec pLim bs).bind fun x r => .ok { m with memories := x } r else .any := rfl
theorem zjI (m : Mod) (hf : Fresh 4 m) (bs : List UInt8) : SLaw 5 m bs := by
 unfold SLaw
 rw [ZE, zh0, if_pos (show (nM m).memories = [] from hf.memories (by omega))]
 have h := zdS.vecAll ZS
 refine ⟨fun hv hc => ⟨(zW zD ⟨bs, 0⟩).2.b, ?_⟩, fun hv hc => ?_⟩
 ·rw [show pVec pLim bs = _ from h.good bs hv trivial, PR.bind_ok]; rfl
 ·rw [show pVec pLim bs = _ from h.bad bs hv trivial]; rfl
theorem zh1 (m : Mod) (bs : List UInt8) : zq 6 m bs = if m.globals = [] then (pVec Zr bs).bind fun x r => .ok { m with globals := x } r else .any := rfl
theorem zjJ (m : Mod) (hf : Fresh 5 m) (bs : List UInt8) : SLaw 6 m bs := by
 unfold SLaw
 rw [ZF, zh1, if_pos (show (nM m).globals = [] from by show m.globals.map _ = []; rw [hf.globals (by omega)]; rfl)]
 have h := zcd zhn zgn
 refine ⟨fun hv hc => ⟨(zW Je ⟨bs, 0⟩).2.b, ?_⟩, fun hv hc => ?_⟩
 ·rw [show pVec Zr bs = _ from h.good bs hv hc.globals, PR.bind_ok]; rfl
 ·rw [show pVec Zr bs = _ from h.bad bs hv hc.globals]; rfl
theorem zh2 (m : Mod) (bs : List UInt8) : zq 7 m bs = if m.exports = [] then (pVec JR bs).bind fun x r => .ok { m with exports := x } r else .any := rfl
theorem zjK (m : Mod) (hf : Fresh 6 m) (bs : List UInt8) : SLaw 7 m bs := by
 unfold SLaw
 rw [ZG, zh2, if_pos (show (nM m).exports = [] from hf.exports (by omega))]
 have h := zhq.vecAll zgq
 refine ⟨fun hv hc => ⟨(zW j5 ⟨bs, 0⟩).2.b, ?_⟩, fun hv hc => ?_⟩
 ·rw [show pVec JR bs = _ from h.good bs hv trivial, PR.bind_ok]; rfl
 ·rw [show pVec JR bs = _ from h.bad bs hv trivial]; rfl
theorem zh3 (m : Mod) (bs : List UInt8) : zq 8 m bs = (pNum bs).bind fun x r => .ok { m with hasStart := true, start := x } r := rfl
theorem zjL (m : Mod) (_ : Fresh 7 m) (bs : List UInt8) : SLaw 8 m bs := by
 unfold SLaw
 rw [ZH, zh3]
 have h := JL
 refine ⟨fun hv hc => ⟨(rNum ⟨bs, 0⟩).2.b, ?_⟩, fun hv hc => ?_⟩
 ·rw [show pNum bs = _ from h.good bs hv trivial, PR.bind_ok]; rfl
 ·rw [show pNum bs = _ from h.bad bs hv trivial]; rfl
theorem zh4 (m : Mod) (bs : List UInt8) : zq 9 m bs = if m.elements = [] then (pVec ZZ bs).bind fun x r => .ok { m with elements := x } r else .any := rfl
theorem zjM (m : Mod) (hf : Fresh 8 m) (bs : List UInt8) : SLaw 9 m bs := by
 unfold SLaw
 rw [ZI, zh4, if_pos (show (nM m).elements = [] from by show m.elements.map _ = []; rw [hf.elements (by omega)]; rfl)]
 have h := zcd zho zgo
 refine ⟨fun hv hc => ⟨(zW Jf ⟨bs, 0⟩).2.b, ?_⟩, fun hv hc => ?_⟩
 ·rw [show pVec ZZ bs = _ from h.good bs hv hc.elements, PR.bind_ok]; rfl
 ·rw [show pVec ZZ bs = _ from h.bad bs hv hc.elements]; rfl
theorem zgw (m : Mod) (bs : List UInt8) : zq 10 m bs = if m.codes = [] then (pVec zR bs).bind fun x r => .ok { m with codes := x } r else .any := rfl
theorem ziN (m : Mod) (hf : Fresh 9 m) (bs : List UInt8) : SLaw 10 m bs := by
 unfold SLaw
 rw [JZ, zgw, if_pos (show (nM m).codes = [] from hf.codes (by omega))]
 have h := zaU.vecAll jI
 refine ⟨fun hv hc => ⟨(zW zY ⟨bs, 0⟩).2.b, ?_⟩, fun hv hc => ?_⟩
 ·rw [show pVec zR bs = _ from h.good bs hv trivial, PR.bind_ok]; rfl
 ·rw [show pVec zR bs = _ from h.bad bs hv trivial]; rfl
theorem zgx (m : Mod) (bs : List UInt8) : zq 11 m bs = if m.datas = [] then (pVec pDat bs).bind fun x r => .ok { m with datas := x } r else .any := rfl
theorem ziO (m : Mod) (hf : Fresh 10 m) (bs : List UInt8) : SLaw 11 m bs := by
 unfold SLaw
 rw [J0, zgx, if_pos (show (nM m).datas = [] from by show m.datas.map _ = []; rw [hf.datas (by omega)]; rfl)]
 have h := zcd ziL zhp
 refine ⟨fun hv hc => ⟨(zW rDat ⟨bs, 0⟩).2.b, ?_⟩, fun hv hc => ?_⟩
 ·rw [show pVec pDat bs = _ from h.good bs hv hc.datas, PR.bind_ok]; rfl
 ·rw [show pVec pDat bs = _ from h.bad bs hv hc.datas]; rfl
variable {id : Nat}
theorem za3 (h1 : 1 ≤ id) (h2 : id ≤ 11) (m : Mod) (hf : Fresh (id - 1) m) (bs : List UInt8) : SLaw id m bs := by
 have : id = 1 ∨ id = 2 ∨ id = 3 ∨ id = 4 ∨ id = 5 ∨ id = 6 ∨ id = 7 ∨ id = 8 ∨ id = 9 ∨ id = 10 ∨ id = 11 := by omega
 rcases this with rfl | rfl | rfl | rfl | rfl | rfl | rfl | rfl | rfl | rfl | rfl
 ·exact zjE m hf bs
 ·exact zjF m hf bs
 ·exact zjG m hf bs
 ·exact zjH m hf bs
 ·exact zjI m hf bs
 ·exact zjJ m hf bs
 ·exact zjK m hf bs
 ·exact zjL m hf bs
 ·exact zjM m hf bs
 ·exact ziN m hf bs
 ·exact ziO m hf bs
theorem YA (h1 : 1 ≤ id) (h2 : id ≤ 11) (m : Mod) (s : St) {last : Nat} (hl : last < id) (hf : Fresh last m) : Fresh id (zE id m s).1 ∧ (zE id m s).1.locals = m.locals ∧ (Clean (zE id m s).1 → Clean m) := by
 have f : Fresh id m := hf.mono (by omega)
 have : id = 1 ∨ id = 2 ∨ id = 3 ∨ id = 4 ∨ id = 5 ∨ id = 6 ∨ id = 7 ∨ id = 8 ∨ id = 9 ∨ id = 10 ∨ id = 11 := by omega
 rcases this with rfl | rfl | rfl | rfl | rfl | rfl | rfl | rfl | rfl | rfl | rfl
 ·rw [ZA]; exact ⟨⟨fun k => absurd k (by decide), f.2, f.3, f.4, f.5, f.6, f.7, f.8, f.9⟩, rfl, fun hc => ⟨hc.imports, hc.globals, hc.elements, hc.datas⟩⟩
 ·rw [ZB]; exact ⟨⟨f.1, fun k => absurd k (by decide), f.3, f.4, f.5, f.6, f.7, f.8, f.9⟩, rfl, fun hc => ⟨by rw [hf.imports (by omega)]; exact fun _ h => absurd h (List.not_mem_nil), hc.globals, hc.elements, hc.datas⟩⟩
 ·rw [ZC]; exact ⟨⟨f.1, f.2, f.3, f.4, f.5, f.6, f.7, f.8, f.9⟩, rfl, fun hc => ⟨hc.imports, hc.globals, hc.elements, hc.datas⟩⟩
 ·rw [ZD]; exact ⟨⟨f.1, f.2, fun k => absurd k (by decide), f.4, f.5, f.6, f.7, f.8, f.9⟩, rfl, fun hc => ⟨hc.imports, hc.globals, hc.elements, hc.datas⟩⟩
 ·rw [ZE]; exact ⟨⟨f.1, f.2, f.3, fun k => absurd k (by decide), f.5, f.6, f.7, f.8, f.9⟩, rfl, fun hc => ⟨hc.imports, hc.globals, hc.elements, hc.datas⟩⟩
 ·rw [ZF]; exact ⟨⟨f.1, f.2, f.3, f.4, fun k => absurd k (by decide), f.6, f.7, f.8, f.9⟩, rfl, fun hc => ⟨hc.imports, by rw [hf.globals (by omega)]; exact fun _ h => absurd h (List.not_mem_nil), hc.elements, hc.datas⟩⟩
 ·rw [ZG]; exact ⟨⟨f.1, f.2, f.3, f.4, f.5, fun k => absurd k (by decide), f.7, f.8, f.9⟩, rfl, fun hc => ⟨hc.imports, hc.globals, hc.elements, hc.datas⟩⟩
 ·rw [ZH]; exact ⟨⟨f.1, f.2, f.3, f.4, f.5, f.6, f.7, f.8, f.9⟩, rfl, fun hc => ⟨hc.imports, hc.globals, hc.elements, hc.datas⟩⟩
 ·rw [ZI]; exact ⟨⟨f.1, f.2, f.3, f.4, f.5, f.6, fun k => absurd k (by decide), f.8, f.9⟩, rfl, fun hc => ⟨hc.imports, hc.globals, by rw [hf.elements (by omega)]; exact fun _ h => absurd h (List.not_mem_nil), hc.datas⟩⟩
 ·rw [JZ]; exact ⟨⟨f.1, f.2, f.3, f.4, f.5, f.6, f.7, fun k => absurd k (by decide), f.9⟩, rfl, fun hc => ⟨hc.imports, hc.globals, hc.elements, hc.datas⟩⟩
 ·rw [J0]; exact ⟨⟨f.1, f.2, f.3, f.4, f.5, f.6, f.7, f.8, fun k => absurd k (by decide)⟩, rfl, fun hc => ⟨hc.imports, hc.globals, hc.elements, by rw [hf.datas (by omega)]; exact fun _ h => absurd h (List.not_mem_nil)⟩⟩
theorem za4 : ∀ (s a : Nat) (bs : List UInt8) {n : Nat} {r : List UInt8}, jq s a bs = some (n, r) → r.length < bs.length
 | _, _, [], _, _, h => by cases h
 | s, a, b :: bs, n, r, h => by
  unfold jq at h
  split at h
  ·simp only [Option.some.injEq, Prod.mk.injEq] at h; rw [← h.2]; exact Nat.lt_succ_self _
  ·have := za4 _ _ _ h
   exact Nat.lt_succ_of_lt this
structure ModInv (p : ModSt) : Prop where
 fresh : Fresh p.last p.m
 names : p.names = false → p.m.locals = []
theorem zgy (s : St) : (ye s).v = if s.v = 3 then 2 else s.v := by unfold ye; split <;> rfl
theorem zhs {s : St} (h : s.v = 0) : ye s = s := by unfold ye; rw [if_neg (by rw [h]; decide)]
def secQ (lo : Bool) (id : Nat) (p : ModSt) (t : List UInt8) : ModSt :=
 if id = 0 then ⟨(zs lo p.m p.names ⟨t, 0⟩).1, p.last, (zs lo p.m p.names ⟨t, 0⟩).2.1, (zs lo p.m p.names ⟨t, 0⟩).2.2⟩
 else if 11 < id ∨ id ≤ p.last ∨ p.names then ⟨p.m, p.last, p.names, St.fail ⟨t, 0⟩ 2⟩
 else ⟨(zE id p.m ⟨t, 0⟩).1, id, p.names, if (zE id p.m ⟨t, 0⟩).2.v = 0 ∧ (zE id p.m ⟨t, 0⟩).2.b ≠ [] then (zE id p.m ⟨t, 0⟩).2.fail 2 else (zE id p.m ⟨t, 0⟩).2⟩
theorem zdW (lo : Bool) (p : ModSt) (c : UInt8) (r : List UInt8) (hs : p.s = ⟨c :: r, 0⟩) :
 (∃ v, j6 lo p = ({ p with s := ⟨[], v⟩ }, false) ∧ (v = 2 ∨ (v = 3 ∧ ∃ n r1, pNum r = .ok n r1 ∧ r1.length < n.toNat ∧ r1 ≠ []))) ∨
 (∃ n r1, pNum r = .ok n r1 ∧ n.toNat ≤ r1.length ∧ r1.length < r.length ∧ j6 lo p = ({ secQ lo c.toNat p (r1.take n.toNat) with s := if (ye (secQ lo c.toNat p (r1.take n.toNat)).s).v ≠ 0 then St.fail ⟨r1.drop n.toNat, 0⟩ (ye (secQ lo c.toNat p (r1.take n.toNat)).s).v else ⟨r1.drop n.toNat, 0⟩ }, true)) := by
 obtain ⟨id, eX⟩ := exQ (zi p.s)
 have vu : id = (c.toNat, ⟨r, 0⟩) := by rw [← eX, hs]; rfl
 obtain ⟨s1, ed⟩ : ∃ s1, (if (⟨r, 0⟩ : St).b = [] then (⟨r, 0⟩ : St).fail 2 else ⟨r, 0⟩) = s1 := ⟨_, rfl⟩
 obtain ⟨n, hn⟩ := exQ (zc s1)
 obtain ⟨s3, i5⟩ : ∃ s3, (if (ye n.2).v = 0 ∧ (n.1 = 0 ∨ (ye n.2).b = [] ∨ (c.toNat = 0 ∧ (ye n.2).b.length < n.1)) then (ye n.2).fail 2 else ye n.2) = s3 := ⟨_, rfl⟩
 have hR : j6 lo p = if (zy n.1 s3).2.v ≠ 0 then ({ p with s := (zy n.1 s3).2 }, false) else ({ secQ lo c.toNat p (zy n.1 s3).1 with s := if (ye (secQ lo c.toNat p (zy n.1 s3).1).s).v ≠ 0 then (zy n.1 s3).2.fail (ye (secQ lo c.toNat p (zy n.1 s3).1).s).v else (zy n.1 s3).2 }, true) := by
  unfold j6
  rw [eX, vu]
  dsimp only
  dsimp only at ed
  rw [ed, hn, i5]
  rfl
 clear eX
 rw [hR]
 clear hR
 have sI : ∀ k : Nat, s3 = ⟨[], 2⟩ → (zy k s3).2 = ⟨[], 2⟩ := fun k e => by
  rw [e]
  unfold zy
  split
  ·split <;> rfl
  ·simp
 have lU : s3 = ⟨[], 2⟩ → ∃ v, (if (zy n.1 s3).2.v ≠ 0 then ({ p with s := (zy n.1 s3).2 }, false) else ({ secQ lo c.toNat p (zy n.1 s3).1 with s := if (ye (secQ lo c.toNat p (zy n.1 s3).1).s).v ≠ 0 then (zy n.1 s3).2.fail (ye (secQ lo c.toNat p (zy n.1 s3).1).s).v else (zy n.1 s3).2 }, true) : ModSt × Bool) = ({ p with s := ⟨[], v⟩ }, false) ∧ (v = 2 ∨ (v = 3 ∧ ∃ n r1, pNum r = .ok n r1 ∧ r1.length < n.toNat ∧ r1 ≠ [])) := fun e => ⟨2, by
  have := sI n.1 e
  rw [if_pos (by rw [this]; decide), this], .inl rfl⟩
 by_cases hr : r = []
 ·left
  apply lU
  subst hr
  rw [if_pos rfl] at ed
  have : s1 = ⟨[], 2⟩ := ed.symm
  rw [this] at hn
  have : n = (0, ⟨[], 2⟩) := hn.symm
  rw [← i5, this]
  rfl
 ·rw [if_neg hr] at ed
  subst ed
  subst hn
  by_cases hv : (zc ⟨r, 0⟩).2.v = 0
  ·have g1 := Jl hv
   have aj := zL ⟨r, 0⟩
   have ag : (zc ⟨r, 0⟩).2.b.length < r.length := by
    obtain ⟨m, h1, h2⟩ := (Zd (s := ⟨r, 0⟩) rfl).1 hv
    exact za4 _ _ _ h1
   rw [zhs hv] at i5
   have e1 := St.eta hv
   rw [e1] at i5
   generalize (zc ⟨r, 0⟩).1 = n at *
   generalize (zc ⟨r, 0⟩).2.b = r1 at *
   by_cases hq : (⟨r1, 0⟩ : St).v = 0 ∧ (n = 0 ∨ (⟨r1, 0⟩ : St).b = [] ∨ (c.toNat = 0 ∧ (⟨r1, 0⟩ : St).b.length < n))
   ·left
    apply lU
    rw [← i5, if_pos hq]; rfl
   ·rw [if_neg hq] at i5
    subst i5
    have qO : r1 ≠ [] := fun e => hq ⟨rfl, .inr (.inl e)⟩
    by_cases hl : n ≤ r1.length
    ·right
     have ht : zy n ⟨r1, 0⟩ = (r1.take n, ⟨r1.drop n, 0⟩) := by
      unfold zy
      rw [if_neg (show ¬ r1.length < n by omega)]
     refine ⟨UInt32.ofNat n, r1, g1, by rw [yT aj]; exact hl, ag, ?_⟩
     rw [yT aj, ht, if_neg (fun h => h rfl)]
    ·left
     by_cases hb : 1048576 < n
     ·have ht : zy n ⟨r1, 0⟩ = ([], ⟨[], 2⟩) := by unfold zy; rw [if_pos (show r1.length < n by omega), if_pos hb]
      exact ⟨2, by rw [ht, if_pos (by decide)], .inl rfl⟩
     ·have ht : zy n ⟨r1, 0⟩ = ([], ⟨[], 3⟩) := by unfold zy; rw [if_pos (show r1.length < n by omega), if_neg hb]; rfl
      exact ⟨3, by rw [ht, if_pos (by decide)], .inr ⟨rfl, _, r1, g1, by rw [yT aj]; omega, qO⟩⟩
  ·left
   apply lU
   have hb := ((Zd (s := ⟨r, 0⟩) rfl).2 hv).1
   have he : ye (zc ⟨r, 0⟩).2 = ⟨[], 2⟩ := by
    rcases zcb r with h | h | h
    ·exact absurd h hv
    ·unfold ye; rw [if_neg (by rw [h]; decide)]
     rw [show (zc ⟨r, 0⟩).2 = ⟨(zc ⟨r, 0⟩).2.b, (zc ⟨r, 0⟩).2.v⟩ from rfl, hb, h]
    ·unfold ye; rw [if_pos h, hb]
   rw [← i5, he, if_neg (fun h => nomatch h.1)]
theorem zht (lo : Bool) (id : Nat) (p : ModSt) (t : List UInt8) (h : ModInv p) : ModInv (secQ lo id p t) ∨ (secQ lo id p t).s.v ≠ 0 := by
 unfold secQ
 by_cases h0 : id = 0
 ·simp only [if_pos h0]
  by_cases hv : (zs lo p.m p.names ⟨t, 0⟩).2.2.v = 0
  ·obtain ⟨_, _, hl⟩ := za1 lo p.m p.names h.names t hv
   exact .inl ⟨h.fresh.same (Zg lo _ _ _), hl⟩
  ·exact .inr hv
 ·simp only [if_neg h0]
  by_cases h1 : 11 < id ∨ id ≤ p.last ∨ p.names
  ·simp only [if_pos h1]
   exact .inr (by simp [St.fail])
  ·simp only [if_neg h1]
   have hq := YA (id := id) (by omega) (by omega) p.m ⟨t, 0⟩ (last := p.last) (by omega) h.fresh
   exact .inl ⟨hq.1, fun hn => hq.2.1.trans (h.names hn)⟩
theorem ze0 (lo : Bool) (id : Nat) (p : ModSt) (t : List UInt8) (h : ModInv p) (hc : Clean (secQ lo id p t).m) : Clean p.m := by
 unfold secQ at hc
 by_cases h0 : id = 0
 ·simp only [if_pos h0] at hc
  exact hc.same (Zg lo _ _ _)
 ·simp only [if_neg h0] at hc
  by_cases h1 : 11 < id ∨ id ≤ p.last ∨ p.names
  ·simp only [if_pos h1] at hc
   exact hc
  ·simp only [if_neg h1] at hc
   exact (YA (id := id) (by omega) (by omega) p.m ⟨t, 0⟩ (last := p.last) (by omega) h.fresh).2.2 hc
theorem zhu (lo : Bool) (id : Nat) (p : ModSt) (t : List UInt8) (h : ModInv p) (hc : Clean (secQ lo id p t).m) :
 ((ye (secQ lo id p t).s).v = 0 → ∃ r, zq id (nM p.m) t = .ok (nM (secQ lo id p t).m) r) ∧ ((ye (secQ lo id p t).s).v = 1 → zq id (nM p.m) t = .bad) ∧ (ye (secQ lo id p t).s).v ≠ 3 := by
 rw [zgy]
 have h3 : (if (secQ lo id p t).s.v = 3 then 2 else (secQ lo id p t).s.v) ≠ 3 := by split; decide; assumption
 have e0 : (if (secQ lo id p t).s.v = 3 then 2 else (secQ lo id p t).s.v) = 0 → (secQ lo id p t).s.v = 0 := by split; intro h; cases h; exact fun h => h
 have e1 : (if (secQ lo id p t).s.v = 3 then 2 else (secQ lo id p t).s.v) = 1 → (secQ lo id p t).s.v = 1 := by split; intro h; cases h; exact fun h => h
 refine ⟨fun hv => ?_, fun hv => ?_, h3⟩
 ·have hv := e0 hv
  clear h3 e0 e1
  unfold secQ at hv hc ⊢
  by_cases h0 : id = 0
  ·simp only [if_pos h0] at hv ⊢
   obtain ⟨r, hr, _⟩ := za1 lo p.m p.names h.names t hv
   exact ⟨r, by unfold zq; rw [if_pos h0]; exact hr⟩
  ·simp only [if_neg h0] at hv hc ⊢
   by_cases h1 : 11 < id ∨ id ≤ p.last ∨ p.names
   ·simp only [if_pos h1] at hv
    simp [St.fail] at hv
   ·simp only [if_neg h1] at hv hc ⊢
    have qm : (zE id p.m ⟨t, 0⟩).2.v = 0 := by
     split at hv
     ·rename_i q; exact q.1
     ·exact hv
    exact (za3 (by omega) (by omega) p.m (h.fresh.mono (by omega)) t).1 qm hc
 ·have hv := e1 hv
  clear h3 e0 e1
  unfold secQ at hv hc
  by_cases h0 : id = 0
  ·simp only [if_pos h0] at hv
   exact absurd hv (zhr lo _ _ _)
  ·simp only [if_neg h0] at hv hc
   by_cases h1 : 11 < id ∨ id ≤ p.last ∨ p.names
   ·simp only [if_pos h1] at hv
    simp [St.fail] at hv
   ·simp only [if_neg h1] at hv hc
    have qm : (zE id p.m ⟨t, 0⟩).2.v = 1 := by
     split at hv
     ·rename_i q
      unfold St.fail at hv
      rw [if_pos q.1] at hv
      cases hv
     ·exact hv
    exact (za3 (by omega) (by omega) p.m (h.fresh.mono (by omega)) t).2 qm hc
theorem ZU (lo : Bool) (f : Nat) {p : ModSt} (h : p.s.v ≠ 0 ∨ p.s.b = []) : jR lo f p = p := by
 cases f with
 | zero => rfl
 | succ f => unfold jR; rw [if_neg (fun q => h.elim (fun h => h q.1) (fun h => q.2 h))]
theorem zc6 (lo : Bool) : ∀ (f : Nat) (p : ModSt) (bs : List UInt8), p.s = ⟨bs, 0⟩ → bs.length ≤ f → ModInv p → Clean (jR lo f p).m →
 Clean p.m ∧ ∀ f', bs.length < f' → ((jR lo f p).s.v = 0 → yf f' (nM p.m) bs = .ok (nM (jR lo f p).m) []) ∧ ((jR lo f p).s.v = 1 ∨ (jR lo f p).s.v = 3 → yf f' (nM p.m) bs = .bad)
 | f, p, [], hs, _, hi, hc => by
  have e := ZU lo f (p := p) (.inr (by rw [hs]))
  rw [e] at hc ⊢
  refine ⟨hc, fun f' gC => ⟨fun _ => ?_, fun h => ?_⟩⟩
  ·obtain ⟨g, rfl⟩ : ∃ g, f' = g + 1 := ⟨f' - 1, by simp at gC; omega⟩
   rfl
  ·rw [hs] at h; exact absurd h (by decide)
 | 0, p, c :: r, _, hl, _, _ => by simp at hl
 | f + 1, p, c :: r, hs, hl, hi, hc => by
  have e : jR lo (f + 1) p = if (j6 lo p).2 then jR lo f (j6 lo p).1 else (j6 lo p).1 := by
   rw [jR, if_pos ⟨by rw [hs], by rw [hs]; exact List.cons_ne_nil _ _⟩]
  rw [e] at hc ⊢
  have xO : ∀ g, yf (g + 1) (nM p.m) (c :: r) = (pNum r).bind fun n r1 => if n.toNat ≤ r1.length then (zq c.toNat (nM p.m) (r1.take n.toNat)).bind fun m1 _ => yf g m1 (r1.drop n.toNat) else if r1 = [] then .any else .bad := fun _ => rfl
  rcases zdW lo p c r hs with ⟨v, hR, hv⟩ | ⟨n, r1, hn, lj, aj, hR⟩
  ·rw [hR] at hc ⊢
   simp only [Bool.false_eq_true, if_false] at hc ⊢
   refine ⟨hc, fun f' gC => ?_⟩
   obtain ⟨g, rfl⟩ : ∃ g, f' = g + 1 := ⟨f' - 1, by simp at gC; omega⟩
   refine ⟨fun h => ?_, fun h => ?_⟩
   ·have h : v = 0 := h
    rcases hv with rfl | ⟨rfl, _⟩ <;> cases h
   ·rcases hv with rfl | ⟨rfl, n, r1, hn, iX, qO⟩
    ·exact absurd h (by simp)
    ·rw [xO, hn, PR.bind_ok, if_neg (by omega), if_neg qO]
  ·rw [hR] at hc ⊢
   simp only [if_true] at hc ⊢
   have uF := zht lo c.toNat p (r1.take n.toNat) hi
   have c6 := ze0 lo c.toNat p (r1.take n.toNat) hi
   have it := zhu lo c.toNat p (r1.take n.toNat) hi
   have ob := zgy (secQ lo c.toNat p (r1.take n.toNat)).s
   generalize secQ lo c.toNat p (r1.take n.toNat) = q at *
   by_cases h4 : (ye q.s).v = 0
   ·have ag : ¬ (ye q.s).v ≠ 0 := fun h => h h4
    rw [if_neg ag] at hc ⊢
    have fq : q.s.v = 0 := by
     rw [h4] at ob
     split at ob
     ·cases ob
     ·exact ob.symm
    have rG : ModInv { q with s := ⟨r1.drop n.toNat, 0⟩ } := by
     have := uF.resolve_right (fun h => h fq)
     exact ⟨this.1, this.2⟩
    have ih := zc6 lo f { q with s := ⟨r1.drop n.toNat, 0⟩ } (r1.drop n.toNat) rfl (by simp at hl ⊢; omega) rG hc
    have nK : Clean q.m := ih.1
    refine ⟨c6 nK, fun f' gC => ?_⟩
    obtain ⟨g, rfl⟩ : ∃ g, f' = g + 1 := ⟨f' - 1, by simp at gC; omega⟩
    obtain ⟨rr, vg⟩ := (it nK).1 h4
    have BX := ih.2 g (by simp at gC ⊢; omega)
    rw [xO, hn, PR.bind_ok, if_pos lj, vg, PR.bind_ok]
    exact BX
   ·have ag : (ye q.s).v ≠ 0 := h4
    rw [if_pos ag] at hc ⊢
    have Ca := ZU lo f (p := { q with s := St.fail ⟨r1.drop n.toNat, 0⟩ (ye q.s).v }) (.inr rfl)
    rw [Ca] at hc ⊢
    have nK : Clean q.m := hc
    refine ⟨c6 nK, fun f' gC => ?_⟩
    obtain ⟨g, rfl⟩ : ∃ g, f' = g + 1 := ⟨f' - 1, by simp at gC; omega⟩
    refine ⟨fun h => ?_, fun h => ?_⟩
    ·exact absurd h ag
    ·have h : (ye q.s).v = 1 ∨ (ye q.s).v = 3 := h
     have h1 := h.resolve_right (it nK).2.2
     rw [xO, hn, PR.bind_ok, if_pos lj, (it nK).2.1 h1]; rfl
theorem ze1 (lo : Bool) (b : List UInt8) (hc : Clean (zV lo b).1) : ((zV lo b).2 = 0 → yA b = .ok (nM (zV lo b).1) []) ∧ ((zV lo b).2 = 1 → yA b = .bad) := by
 unfold zV at hc ⊢
 unfold yA
 by_cases hm : b.take 8 = Z2
 ·have ag : ¬ b.take 8 ≠ Z2 := fun h => h hm
  rw [if_neg ag] at hc ⊢
  rw [if_pos hm]
  dsimp only at hc ⊢
  have hi : ModInv ⟨{ Mod.none with version := 1 }, 0, false, ⟨b.drop 8, 0⟩⟩ := ⟨⟨fun _ => rfl, fun _ => rfl, fun _ => rfl, fun _ => rfl, fun _ => rfl, fun _ => rfl, fun _ => rfl, fun _ => rfl, fun _ => rfl⟩, fun _ => rfl⟩
  have h := (zc6 lo b.length _ (b.drop 8) rfl (by rw [ldQ]; omega) hi hc).2 (b.length + 1) (by rw [ldQ]; omega)
  have hz : nM ({ Mod.none with version := 1 } : Mod) = Mod.none := rfl
  rw [hz] at h
  generalize jR lo b.length ⟨{ Mod.none with version := 1 }, 0, false, ⟨b.drop 8, 0⟩⟩ = q at *
  refine ⟨fun hv => h.1 ?_, fun hv => h.2 ?_⟩
  ·by_cases h3 : q.s.v = 3
   ·simp [h3] at hv
   ·rw [if_neg h3] at hv
    split at hv
    ·rename_i hx; exact hx.1
    ·exact hv
  ·by_cases h3 : q.s.v = 3
   ·exact .inr h3
   ·rw [if_neg h3] at hv
    split at hv
    ·rename_i hx; simp [St.fail, hx.1] at hv
    ·exact .inl hv
 ·have ag : b.take 8 ≠ Z2 := hm
  rw [if_pos ag, if_neg hm]
  exact ⟨fun h => (by cases h), fun _ => rfl⟩
theorem zgz : ∀ x : Ins, za2 (cst1 x) = za2 x
 | .mk op a st ty b => by
  unfold cst1
  rw [za2, za2]
  cases st <;> rfl
theorem zc7 : ∀ l : List Ins, jJ (l.map cst1) = jJ l
 | [] => rfl
 | x :: xs => by rw [List.map_cons, jJ, jJ, zgz, zc7 xs]
theorem za5 (l : List Ins) : Yy (l.map cst1) = Yy l := by unfold Yy; rw [List.length_map, zc7]
theorem zjN (m : Mod) : yI (nM m) = yI m := by
 have hg : (m.globals.map zgl).flatMap yH = m.globals.flatMap yH := by
  rw [List.flatMap_map]; congr 1; funext g; unfold yH zgl; dsimp only; rw [za5]
 have he : (m.elements.map zgm).flatMap yG = m.elements.flatMap yG := by
  rw [List.flatMap_map]; congr 1; funext g; unfold yG zgm; dsimp only; rw [za5]
 have hd : (m.datas.map nDat).flatMap jp = m.datas.flatMap jp := by
  rw [List.flatMap_map]; congr 1; funext g; unfold jp nDat; dsimp only; rw [za5]
 unfold yI nM jP
 dsimp only
 rw [hg, he, hd, List.length_map, List.length_map, List.length_map]
mutual
def fit1 : Ins → Prop
 | .mk _ args _ _ body => args.length ≤ 1048576 ∧ body.length ≤ 1048576 ∧ fitA body
def fitA : List Ins → Prop
 | [] => True
 | x :: xs => fit1 x ∧ fitA xs
end
theorem zgA : ∀ {l : List Ins}, fitA l → ∀ (i : Nat) (h : i < l.length), fit1 l[i]
 | _ :: _, h, 0, _ => h.1
 | _ :: _, h, i + 1, hi => zgA h.2 i (by simpa using hi)
structure ModFit (m : Mod) : Prop where
 elements : ∀ x ∈ m.elements, x.off.length ≤ 1048576 ∧ fitA x.off
 globals : ∀ x ∈ m.globals, x.init.length ≤ 1048576 ∧ fitA x.init
 datas : ∀ x ∈ m.datas, x.off.length ≤ 1048576 ∧ fitA x.off
 len_types : m.types.length ≤ 4294967296
 len_imports : m.imports.length ≤ 4294967296
 len_tables : m.tables.length ≤ 4294967296
 len_memories : m.memories.length ≤ 4294967296
 len_elements : m.elements.length ≤ 4294967296
 len_globals : m.globals.length ≤ 4294967296
 len_exports : m.exports.length ≤ 4294967296
 len_datas : m.datas.length ≤ 4294967296
 len_customs : m.customs.length ≤ 4294967296
 len_funcs : m.funcs.length ≤ 4294967296
 len_locals : m.locals.length ≤ 4294967296
theorem yb (n : Nat) (h : n < 18446744073709551616) : IntKind.u64.wrap (n : Int) = (n : Int) := by rw [IntKind.wrap_u64]; omega
theorem zjO {a : Option Addr} {n cap : Nat} {xs : List UInt32} (h : Lay.u32.slice.rd A w [.slice a n cap] xs) (i : Nat) (hi : i < xs.length) :
 ∃ (b o : Nat), a = some ⟨b, o, none⟩ ∧ w.cell? ⟨b, o + i, none⟩ = some (.int .u32 (xs[i].toNat : Int)) := by
 have hn : xs.length = n := by obtain ⟨_, _, e, _⟩ := h; simp only [List.cons.injEq, Value.slice.injEq, and_true] at e; exact e.2.1.symm
 obtain ⟨b, o, es, eY, e, hA, _, hr, hc⟩ := Lay.slice_at h i (by omega)
 have := hc 0 (by decide)
 rw [show es = _ from hr, show o + i * Lay.u32.size + 0 = o + i from by show o + i * 1 + 0 = o + i; omega] at this
 exact ⟨b, o, e, this⟩
theorem J1 (lo g : Nat) (l : List UInt32) (aa : Option Addr) (m c : Nat) (A : Nat → Prop) (bs : List UInt8) (w : World) (hS : ym.is lo g bs w) (hR : Lay.u32.slice.rd A w [.slice aa m c] l) (hA : Away ym g w A) (bj : lo ≤ w.heap.size) (hl : bs.length + (Zy l).length + 40 ≤ zG) :
 Calls Tryz.prog 26 #[.pointer (some ⟨g, 0, none⟩), .slice aa m c] w fun e w' => e = .returned (.tuple #[]) ∧ Wrote ym lo g w (bs ++ Zy l) w' := by
 obtain ⟨a', c', e, dw, cn⟩ := Lay.slice_form hR
 obtain ⟨rfl, rfl, rfl⟩ : aa = a' ∧ m = l.length ∧ c = c' := by simpa using e
 have aT : (l.length : Int) ≤ 9223372036854775807 := by simp only [maxLen] at cn; omega
 have lR := yb l.length (by omega)
 have bd := qh (show bs.length + (uleb l.length).length + (l.flatMap Jz).length + 40 ≤ zG from by have := hl; simp only [Zy, laQ] at this; omega)
 have H := qh (anQ hS (anQ hR (anQ hA bj)))
 clear hS hR hA bj hl dw cn e
 go_enter Tryz.func26, Tryz.ntmps26
 go_wp2_with fail
 refine (zh lo g l.length (by omega) bs w H.o.1 H.o.2.2.2 (by have := bd.o; omega)).mono ?_
 rintro e w1 ⟨rfl, hW⟩
 have HW := qh (show Wrote ym lo g w (bs ++ uleb l.length ++ (l.take 0).flatMap Jz) w1 from by simpa using hW)
 clear hW
 go_wp2_with fail
 go_loopw [5, 13] (fun s5 ib w' => ∃ (i : Nat), i ≤ l.length ∧ ib = .int .i64 i ∧ Hq (Wrote ym lo g w (bs ++ uleb l.length ++ (l.take i).flatMap Jz) w')) (fun _ ib _ => l.length - (intOf ib).toNat)
 case atStart => exact ⟨0, nzQ _, rfl, HW.o⟩
 case round =>
  obtain ⟨i, hi, rfl, hV⟩ := hrel
  by_cases aj : i < l.length
  ·obtain ⟨b, o, rfl, e0⟩ := zjO (Lay.fr H.o.2.1 hV.o.fr H.o.2.2.1) i aj
   have bU := qh (Jn (f := Jz) aj)
   obtain ⟨rest, em⟩ := jB (f := Jz) aj
   generalize l[i] = x at *
   have d4 := qh (show bs.length + (uleb l.length).length + ((l.take i).flatMap Jz).length + (Jz x).length + 40 ≤ zG from by have := bd.o; rw [em] at this; simp only [laQ] at this; omega)
   clear em
   have dH := x.toNat_lt
   have iW := yb x.toNat (by omega)
   have mf := qh (show x.toNat < 18446744073709551616 by omega)
   go_wp2_with fail
   refine (zh lo g x.toNat mf.o _ wr hV.o.is (nlQ H.o.2.2.2 hV.o.fr.size) (by have := d4.o; simp only [Jz, laQ] at *; omega)).mono ?_
   rintro e w5 ⟨rfl, hR⟩
   have bO := qh (show Wrote ym lo g w (bs ++ uleb l.length ++ (l.take (i + 1)).flatMap Jz) w5 from by
    have h := hV.o.trans hR
    rw [bU.o, Jz, ← List.append_assoc]
    exact h)
   clear hR
   go_wp2
   go_roundw
   case rel => exact ⟨i + 1, by omega, by go_num, bO⟩
   case measure => simp [intOf]; omega
  ·obtain rfl : i = l.length := by omega
   go_wp2
   go_end0
   have := hV.o
   rw [tlQ] at this
   exact ⟨rfl, by rw [Zy, ← List.append_assoc]; exact this⟩
theorem jX (lo g : Nat) (l : List Lim) (aa : Option Addr) (m c : Nat) (A : Nat → Prop) (bs : List UInt8) (w : World) (hS : ym.is lo g bs w) (hR : Lay.lim.slice.rd A w [.slice aa m c] l) (hA : Away ym g w A) (bj : lo ≤ w.heap.size) (hl : bs.length + (jj l).length + 40 ≤ zG) :
 Calls Tryz.prog 25 #[.pointer (some ⟨g, 0, none⟩), .slice aa m c] w fun e w' => e = .returned (.tuple #[]) ∧ Wrote ym lo g w (bs ++ jj l) w' := by
 obtain ⟨a', c', e, dw, cn⟩ := Lay.slice_form hR
 obtain ⟨rfl, rfl, rfl⟩ : aa = a' ∧ m = l.length ∧ c = c' := by simpa using e
 have aT : (l.length : Int) ≤ 9223372036854775807 := by simp only [maxLen] at cn; omega
 have lR := yb l.length (by omega)
 have bd := qh (show bs.length + (uleb l.length).length + (l.flatMap jo).length + 40 ≤ zG from by have := hl; simp only [jj, laQ] at this; omega)
 have H := qh (anQ hS (anQ hR (anQ hA bj)))
 clear hS hR hA bj hl dw cn e
 go_enter Tryz.func25, Tryz.ntmps25
 go_wp2_with fail
 refine (zh lo g l.length (by omega) bs w H.o.1 H.o.2.2.2 (by have := bd.o; omega)).mono ?_
 rintro e w1 ⟨rfl, hW⟩
 have HW := qh (show Wrote ym lo g w (bs ++ uleb l.length ++ (l.take 0).flatMap jo) w1 from by simpa using hW)
 clear hW
 go_wp2_with fail
 go_loopw [5, 13] (fun s5 ib w' => ∃ (i : Nat), i ≤ l.length ∧ ib = .int .i64 i ∧ Hq (Wrote ym lo g w (bs ++ uleb l.length ++ (l.take i).flatMap jo) w')) (fun _ ib _ => l.length - (intOf ib).toNat)
 case atStart => exact ⟨0, nzQ _, rfl, HW.o⟩
 case round =>
  obtain ⟨i, hi, rfl, hV⟩ := hrel
  by_cases aj : i < l.length
  ·obtain ⟨b, o, rfl, e0, e1, e2⟩ := Lay.lim_at (Lay.fr H.o.2.1 hV.o.fr H.o.2.2.1) i aj
   have bU := qh (Jn (f := jo) aj)
   obtain ⟨rest, em⟩ := jB (f := jo) aj
   generalize l[i] = x at *
   have d4 := qh (show bs.length + (uleb l.length).length + ((l.take i).flatMap jo).length + (jo x).length + 40 ≤ zG from by have := bd.o; rw [em] at this; simp only [laQ] at this; omega)
   clear em
   have dH := x.min.toNat_lt
   have BO := x.max.toNat_lt
   have iW := yb x.min.toNat (by omega)
   have CH := yb x.max.toNat (by omega)
   have mf := qh (show x.min.toNat < 18446744073709551616 by omega)
   have pZ := qh (show x.max.toNat < 18446744073709551616 by omega)
   go_wp2_with fail
   have mM := qh (JY hV.o.is (.cells #[.int .u32 (x.min.toNat : Int), .bool x.bounded, .int .u32 (x.max.toNat : Int)] 63))
   have ij := qh (zl wr #[.int .u32 (x.min.toNat : Int), .bool x.bounded, .int .u32 (x.max.toNat : Int)] 63)
   have gv := qh (za wr (.cells #[.int .u32 (x.min.toNat : Int), .bool x.bounded, .int .u32 (x.max.toNat : Int)] 63))
   have iK := qh (nlQ H.o.2.2.2 hV.o.fr.size)
   generalize (wr.alloc (.cells #[.int .u32 (x.min.toNat : Int), .bool x.bounded, .int .u32 (x.max.toNat : Int)] 63)) = W2 at *
   obtain ⟨ge, cm⟩ := exQ (wr.heap.size)
   rw [cm] at mM ij ⊢
   clear cm
   have au := ij.o.cell
   have HB := qh (anQ ij.o mM.o.2)
   have HQ := qh (Wrote.refl mM.o.1)
   have i6 := qh (nlQ iK.o gv.o.size)
   refine (zh lo g x.min.toNat mf.o _ W2 HQ.o.is (nlQ i6.o HQ.o.fr.size) (by have := d4.o; simp only [jo, zz, laQ, zB] at *; omega)).mono ?_
   rintro e w5 ⟨rfl, hR⟩
   replace HQ := qh (HQ.o.trans hR)
   replace HB := qh (ZT hR HB.o.1 HB.o.2)
   clear hR au
   have au := HB.o.1.cell
   go_wp2_with fail
   refine (jc lo g x.bounded _ w5 HQ.o.is (nlQ i6.o HQ.o.fr.size) (by have := d4.o; simp only [jo, jU, zz, laQ, zB] at *; omega)).mono ?_
   rintro e w6 ⟨rfl, hR⟩
   replace HQ := qh (HQ.o.trans hR)
   replace HB := qh (ZT hR HB.o.1 HB.o.2)
   clear hR au
   have au := HB.o.1.cell
   cases hbd : x.bounded with
   | true =>
    rw [hbd] at au HQ
    have xz := qh (show bs.length + (uleb l.length).length + ((l.take i).flatMap jo).length + ((uleb x.min.toNat).length + ((uleb 1).length + (uleb x.max.toNat).length)) + 40 ≤ zG from by have := d4.o; simp only [jo, jU, hbd, if_true, laQ] at this; omega)
    go_wp2_with fail
    refine (zh lo g x.max.toNat pZ.o _ w6 HQ.o.is (nlQ i6.o HQ.o.fr.size) (by have := xz.o; simp only [laQ, if_true] at *; omega)).mono ?_
    rintro e w7 ⟨rfl, hR⟩
    have bO := qh (show Wrote ym lo g w (bs ++ uleb l.length ++ (l.take (i + 1)).flatMap jo) w7 from by
     have h := hV.o.trans (Wrote.after hV.o.is gv.o (HQ.o.trans hR))
     rw [bU.o, jo, hbd]
     simpa [jU, List.append_assoc] using h)
    clear au HQ HB hR
    go_wp2
    go_roundw
    case rel => exact ⟨i + 1, by omega, by go_num, bO⟩
    case measure => simp [intOf]; omega
   | false =>
    rw [hbd] at au HQ
    have bO := qh (show Wrote ym lo g w (bs ++ uleb l.length ++ (l.take (i + 1)).flatMap jo) w6 from by
     have h := hV.o.trans (Wrote.after hV.o.is gv.o HQ.o)
     rw [bU.o, jo, hbd]
     simpa [jU, List.append_assoc] using h)
    clear HQ HB
    go_wp2
    go_roundw
    case rel => exact ⟨i + 1, by omega, by go_num, bO⟩
    case measure => simp [intOf]; omega
  ·obtain rfl : i = l.length := by omega
   go_wp2
   go_end0
   have := hV.o
   rw [tlQ] at this
   exact ⟨rfl, by rw [jj, ← List.append_assoc]; exact this⟩
theorem ZJ (lo g : Nat) (l : List Nam) (aa : Option Addr) (m c : Nat) (A : Nat → Prop) (bs : List UInt8) (w : World) (hS : ym.is lo g bs w) (hR : Lay.nam.slice.rd A w [.slice aa m c] l) (hA : Away ym g w A) (bj : lo ≤ w.heap.size) (hl : bs.length + (jK l).length + 40 ≤ zG) :
 Calls Tryz.prog 28 #[.pointer (some ⟨g, 0, none⟩), .slice aa m c] w fun e w' => e = .returned (.tuple #[]) ∧ Wrote ym lo g w (bs ++ jK l) w' := by
 obtain ⟨a', c', e, dw, cn⟩ := Lay.slice_form hR
 obtain ⟨rfl, rfl, rfl⟩ : aa = a' ∧ m = l.length ∧ c = c' := by simpa using e
 have aT : (l.length : Int) ≤ 9223372036854775807 := by simp only [maxLen] at cn; omega
 have lR := yb l.length (by omega)
 have bd := qh (show bs.length + (uleb l.length).length + (l.flatMap jA).length + 40 ≤ zG from by have := hl; simp only [jK, laQ] at this; omega)
 have H := qh (anQ hS (anQ hR (anQ hA bj)))
 clear hS hR hA bj hl dw cn e
 go_enter Tryz.func28, Tryz.ntmps28
 go_wp2_with fail
 refine (zh lo g l.length (by omega) bs w H.o.1 H.o.2.2.2 (by have := bd.o; omega)).mono ?_
 rintro e w1 ⟨rfl, hW⟩
 have HW := qh (show Wrote ym lo g w (bs ++ uleb l.length ++ (l.take 0).flatMap jA) w1 from by simpa using hW)
 clear hW
 go_wp2_with fail
 go_loopw [5, 13] (fun s5 ib w' => ∃ (i : Nat), i ≤ l.length ∧ ib = .int .i64 i ∧ Hq (Wrote ym lo g w (bs ++ uleb l.length ++ (l.take i).flatMap jA) w')) (fun _ ib _ => l.length - (intOf ib).toNat)
 case atStart => exact ⟨0, nzQ _, rfl, HW.o⟩
 case round =>
  obtain ⟨i, hi, rfl, hV⟩ := hrel
  by_cases aj : i < l.length
  ·obtain ⟨b, o, rfl, e0, e1, e2, -⟩ := Lay.nam_at (Lay.fr H.o.2.1 hV.o.fr H.o.2.2.1) i aj
   have bU := qh (Jn (f := jA) aj)
   obtain ⟨rest, em⟩ := jB (f := jA) aj
   generalize l[i] = x at *
   have d4 := qh (show bs.length + (uleb l.length).length + ((l.take i).flatMap jA).length + (jA x).length + 40 ≤ zG from by have := bd.o; rw [em] at this; simp only [laQ] at this; omega)
   clear em
   have dH := x.fn.toNat_lt
   have BO := x.idx.toNat_lt
   have iW := yb x.fn.toNat (by omega)
   have CH := yb x.idx.toNat (by omega)
   have mf := qh (show x.fn.toNat < 18446744073709551616 by omega)
   have pZ := qh (show x.idx.toNat < 18446744073709551616 by omega)
   go_wp2_with fail
   have mM := qh (JY hV.o.is (.cells #[.int .u32 (x.fn.toNat : Int), .int .u32 (x.idx.toNat : Int), .string (zd x.name)] 120))
   have ij := qh (zl wr #[.int .u32 (x.fn.toNat : Int), .int .u32 (x.idx.toNat : Int), .string (zd x.name)] 120)
   have gv := qh (za wr (.cells #[.int .u32 (x.fn.toNat : Int), .int .u32 (x.idx.toNat : Int), .string (zd x.name)] 120))
   have iK := qh (nlQ H.o.2.2.2 hV.o.fr.size)
   generalize (wr.alloc (.cells #[.int .u32 (x.fn.toNat : Int), .int .u32 (x.idx.toNat : Int), .string (zd x.name)] 120)) = W2 at *
   obtain ⟨ge, cm⟩ := exQ (wr.heap.size)
   rw [cm] at mM ij ⊢
   clear cm
   have au := ij.o.cell
   have HB := qh (anQ ij.o mM.o.2)
   have HQ := qh (Wrote.refl mM.o.1)
   have i6 := qh (nlQ iK.o gv.o.size)
   refine (zh lo g x.fn.toNat mf.o _ W2 HQ.o.is (nlQ i6.o HQ.o.fr.size) (by have := d4.o; simp only [jA, zz, laQ, zB] at *; omega)).mono ?_
   rintro e w5 ⟨rfl, hR⟩
   replace HQ := qh (HQ.o.trans hR)
   replace HB := qh (ZT hR HB.o.1 HB.o.2)
   clear hR au
   have au := HB.o.1.cell
   go_wp2_with fail
   refine (zh lo g x.idx.toNat pZ.o _ w5 HQ.o.is (nlQ i6.o HQ.o.fr.size) (by have := d4.o; simp only [jA, zz, laQ, zB] at *; omega)).mono ?_
   rintro e w6 ⟨rfl, hR⟩
   replace HQ := qh (HQ.o.trans hR)
   replace HB := qh (ZT hR HB.o.1 HB.o.2)
   clear hR au
   have au := HB.o.1.cell
   go_wp2_with fail
   refine (z4 lo g (zd x.name) _ w6 HQ.o.is (nlQ i6.o HQ.o.fr.size) (by have := d4.o; simp only [jA, zz, laQ, zB] at *; omega)).mono ?_
   rintro e w7 ⟨rfl, hR⟩
   replace HQ := qh (HQ.o.trans hR)
   replace HB := qh (ZT hR HB.o.1 HB.o.2)
   clear hR au
   have au := HB.o.1.cell
   have bO := qh (show Wrote ym lo g w (bs ++ uleb l.length ++ (l.take (i + 1)).flatMap jA) w7 from by
    have h := hV.o.trans (Wrote.after hV.o.is gv.o HQ.o)
    rw [bU.o, jA]
    simpa [zA, List.append_assoc] using h)
   clear au HQ HB
   go_wp2
   go_roundw
   case rel => exact ⟨i + 1, by omega, by go_num, bO⟩
   case measure => simp [intOf]; omega
  ·obtain rfl : i = l.length := by omega
   go_wp2
   go_end0
   have := hV.o
   rw [tlQ] at this
   exact ⟨rfl, by rw [jK, ← List.append_assoc]; exact this⟩
end Go.Proofs.YtejgninpjhcgnaaGreatDoor
