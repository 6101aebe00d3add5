/- encoding.writeInstructions. -/
import Derived.Test.YtkbadfljmbeciaaGreatDoorEncPlain
namespace Go.Proofs.YtkbadfljmbeciaaGreatDoor
open Go.RowKit
set_option maxRecDepth 100000 in
set_option maxHeartbeats 8000000 in
theorem writeInstructions_calls (S : Sink) (n : Nat) : ∀ (l : List Ins) (lo g : Nat) (aa : Option Addr) (m c : Nat) (A : Nat → Prop) (bs : List UInt8) (w : World), S.is lo g bs w → (Lay.own n).slice.rd A w [.slice aa m c] l → Away S.toHold g w A → lo ≤ w.heap.size → tyOkA l → bs.length + (encBL l).length + 20 ≤ 70368744177664 →
    Calls Tryz.prog 63 #[.iface S.T (.pointer (some ⟨g, 0, none⟩)), .slice aa m c] w fun e w' => e = .returned .nilIface ∧ Wrote S.toHold lo g w (bs ++ (encBL l ++ [11])) w' := by
  induction n using Nat.strongRecOn with
  | ind n ih =>
    intro l lo g aa m c A bs w hS hR hA hlo hto hl
    have hna := S.nil g
    have hme := S.meth g
    have hcf := S.call
    obtain ⟨a', c', e, hlc, hcm⟩ := Lay.slice_form hR
    obtain ⟨rfl, rfl, rfl⟩ : aa = a' ∧ m = l.length ∧ c = c' := by simpa using e
    have hlen : (l.length : Int) ≤ 9223372036854775807 := by simp only [maxLen] at hcm; omega
    have hlo := Lib.hid hlo
    have hl := Lib.hid hl
    have hS := Lib.hid hS
    have H := Lib.hid (And.intro hR (And.intro hA (And.intro hto ih)))
    clear hR hA ih hto hlc hcm e
    go_enter Tryz.func63, Tryz.ntmps63
    go_wp2_with fail
    go_loopw [30] (fun s30 w' => ∃ (i : Nat), i ≤ l.length ∧ s30 = .int .i64 i ∧ Hid (Wrote S.toHold lo g w (bs ++ encBL (l.take i)) w')) (fun s30 _ => l.length - (intOf s30).toNat)
    case atStart => exact ⟨0, Nat.zero_le _, rfl, by show Wrote _ _ _ _ _ _; simpa [encBL] using Wrote.refl hS.out⟩
    case round =>
      obtain ⟨i, hi, rfl, hW⟩ := hrel
      by_cases hlt : i < l.length
      · obtain ⟨hR, hA, hto, ih⟩ := H.out
        have hRr := Lay.fr hR hW.out.fr hA
        have hAw := Lib.hid (hA.step hW.out)
        have het := Lib.hid (encBL_take hlt)
        obtain ⟨erest, hsp⟩ := encBL_split hlt
        have htyo := tyOkA_at hto i hlt
        obtain ⟨pre0, hpre0⟩ : ∃ pre0, bs ++ encBL (l.take i) = pre0 := ⟨_, rfl⟩
        obtain ⟨k, b, o, a1, n1, c1, rfl, rfl, hAb, hargs, hcase⟩ := own_at hRr i hlt
        generalize l[i] = x at *
        obtain ⟨op, args, st, ty, body⟩ := x
        simp only [Ins.op, Ins.args, Ins.st, Ins.ty, Ins.body] at hargs hcase
        obtain ⟨a1', c1', e1', hlc1, hcm1⟩ := Lay.slice_form hargs
        obtain ⟨rfl, rfl, rfl⟩ : a1 = a1' ∧ n1 = args.length ∧ c1 = c1' := by simpa using e1'
        have hal : (args.length : Int) ≤ 9223372036854775807 := by simp only [maxLen] at hcm1; omega
        obtain ⟨mo, hmo1, hmo, hmo2⟩ : ∃ mo : Nat, op % 256 = (mo : Int) ∧ mo < 256 ∧ (op % 256).toNat = mo := ⟨(op % 256).toNat, by omega, by omega, rfl⟩
        rw [hmo1] at hcase
        have hmo := Lib.hid hmo
        have hmo2 := Lib.hid hmo2
        have hcap := Lib.hid (show pre0.length + (1 + ((args.flatMap argBytes).length + (if st then typeByte ty :: (encBL body ++ [11]) else []).length)) + 20 ≤ 70368744177664 from by
          have := hl.out
          rw [hsp] at this
          rw [← hpre0]
          simp only [encB1, List.length_append, List.length_cons] at this ⊢
          omega)
        rw [hpre0] at hW
        have hpre0 := Lib.hid hpre0
        rcases hcase with ⟨rfl, e0⟩ | ⟨rfl, kp, ba, bn, bc, e0, hkind, hbody⟩
        · have HB := Lib.hid (And.intro hargs True.intro)
          clear hR hA hto ih hRr hAb hargs e1' hlc1 hcm1 hsp htyo hmo1
          have hn1 := own_op_nil
          have hm1 := own_op_meth
          go_wp2_with fail
          refine region_items (frFrm (S.foot wr g)) [(0, .take), (1, .take), (4, .take), (5, .take), (6, .take), (2, .run), (3, .run), (7, .run), (8, .take), (9, .take), (10, .take), (11, .take), (12, .take)] (by kernel_rfl) (by kernel_rfl) ?_
          simp only [itemsOf, List.getD_cons_zero, List.getD_cons_succ]
          repeat (apply item_take; rfl; rfl; rfl; rfl; exact fun _ _ _ _ h => h; (intro W hE K hK; go_simp; exact hK))
          apply item_run; rfl; intro K hK; go_simp
          refine (own_Op_calls _ _ _).mono ?_
          rintro e w2 ⟨rfl, hx2⟩
          refine hK _ _ hx2.to ?_
          have hx2 := Lib.hid (Ext.trans (ext_drew wr) hx2)
          clear hK K hn1 hm1
          apply item_run; rfl; intro K hK; go_simp
          refine hK _ _ (ext_alloc _ _).to ?_
          have hB3 := blk_new w2 #[.int .u8 (mo : Int)] 5
          have hx3 := Ext.trans hx2.out (ext_alloc w2 (.cells #[.int .u8 (mo : Int)] 5))
          clear hK K
          generalize (w2.alloc (.cells #[.int .u8 (mo : Int)] 5)) = W3 at *
          have H3 := Lib.hid (And.intro hB3 hx3)
          clear hB3 hx3
          repeat (apply item_take; rfl; rfl; rfl; rfl; exact fun _ _ _ _ h => h; (intro W hE K hK; go_simp; exact hK))
          apply item_run; rfl; intro K hK; go_simp
          have hS3 := S.frame hW.out.is H3.out.2 (fun _ _ h => h)
          refine (S.write lo g pre0 [UInt8.ofNat mo] W3 _ _ _ 1 hS3.1 (u8_rd_blk H3.out.1 (congrArg (fun v => [v]) (ofNat_cell mo hmo.out).symm) (by simp) (by decide)) (Nat.le_trans hlo.out (Nat.le_trans hW.out.fr.size H3.out.2.size)) (by have := hcap.out; simp; omega)).mono ?_
          rintro e w4 ⟨rfl, k1, k2, k3⟩
          have hR4 := Lib.hid (Wrote.after hW.out.is H3.out.2 ⟨k1, k2, k3⟩)
          refine hK _ _ (k2.mono fun k _ hk => (hS3.2 k).1 hk) ?_
          clear hK K k1 k2 k3 hS3
          repeat (apply item_take; rfl; rfl; rfl; rfl; exact fun _ _ _ _ h => h; (intro W hE K hK; go_simp; exact hK))
          apply items_done
          have hn2 := own_ia_nil
          have hm2 := own_ia_meth
          go_wp2_with fail
          refine (own_ImmediateArgs_calls _ _ _).mono ?_
          rintro e w5 ⟨rfl, hx5⟩
          have hR5 := Lib.hid (hR4.out.ext hx5)
          clear hn2 hm2 hx5 hR4 H3 hx2
          go_wp2_with fail
          obtain ⟨wo, rfl⟩ : ∃ wo : World, wo = wr := ⟨_, rfl⟩
          obtain ⟨pre, hpre⟩ : ∃ pre, pre0 ++ [UInt8.ofNat mo] = pre := ⟨_, rfl⟩
          rw [hpre] at hR5
          have hpre := Lib.hid hpre
          go_loopw [51] (fun s51 w' => ∃ (j : Nat), j ≤ args.length ∧ s51 = .int .i64 j ∧ Hid (Wrote S.toHold lo g wo (pre ++ (args.take j).flatMap argBytes) w')) (fun s51 _ => args.length - (intOf s51).toNat)
          case atStart => exact ⟨0, Nat.zero_le _, rfl, by show Wrote _ _ _ _ _ _; simpa using hR5.out⟩
          case round =>
            obtain ⟨j, hj, rfl, hV⟩ := hrel
            by_cases hjl : j < args.length
            · obtain ⟨b3, o3, rfl, hA3, g0⟩ := any_at (Lay.fr HB.out.1 hV.out.fr (fun k hk => hAw.out k hk)) j hjl
              have htk := Lib.hid (argB_take hjl)
              obtain ⟨arest, hasp⟩ := argB_split hjl
              have hbd := Lib.hid (show (pre ++ (args.take j).flatMap argBytes).length + 10 ≤ 70368744177664 from by
                have := hcap.out
                rw [hasp] at this
                rw [← hpre.out]
                simp only [List.length_append, List.length_cons, List.length_nil] at this ⊢
                omega)
              clear hasp hA3
              generalize args[j] = aq at *
              obtain ⟨ak, ab⟩ := aq
              have hmb := Lib.hid ab.toNat_lt
              by_cases hak : ak = 0 ∨ ak = 1 ∨ ak = 2 ∨ ak = 3 ∨ ak = 4 ∨ ak = 5
              · rcases hak with rfl | rfl | rfl | rfl | rfl | rfl
                ·
                  have hae := Lib.hid (show argBytes (0, ab) = bytesOfKind 0 ab.toNat from argBytes_kind 0 (by decide) ab)
                  rw [show argVal (0, ab) = .iface 21 (.int .i32 (wrap32 (ab.toNat : Int))) from by simp [argVal]] at g0
                  generalize ab.toNat = mb at *
                  have ta0 := ta_int32_0
                  go_wp2_with fail
                  refine (WriteVarInt32_calls S lo g (wrap32 (mb : Int)) (by unfold wrap32; omega) _ wr hV.out.is (Nat.le_trans hlo.out (Nat.le_trans hW.out.fr.size hV.out.fr.size)) (by have := hbd.out; omega)).mono ?_
                  rintro e w5 ⟨rfl, hR5⟩
                  have heq := Lib.hid (show bytesOfKind 0 mb = sleb (wrap32 (mb : Int)) from by simp [bytesOfKind])
                  have hV2 := Lib.hid (show Wrote S.toHold lo g wo (pre ++ (args.take (j + 1)).flatMap argBytes) w5 from by
                    rw [htk.out, hae.out, heq.out, ← List.append_assoc]
                    exact hV.out.trans hR5)
                  clear hR5 ta0
                  go_wp2
                  go_roundw
                  case rel => exact ⟨j + 1, by omega, by go_num, hV2⟩
                  case measure => simp [intOf]; omega
                ·
                  have hae := Lib.hid (show argBytes (1, ab) = bytesOfKind 1 ab.toNat from argBytes_kind 1 (by decide) ab)
                  rw [show argVal (1, ab) = .iface 2 (.int .i64 (wrap64 (ab.toNat : Int))) from by simp [argVal]] at g0
                  generalize ab.toNat = mb at *
                  have ta0 := ta_int64_0
                  have ta1 := ta_int64_1
                  go_wp2_with fail
                  refine (WriteVarInt64_calls S lo g (wrap64 (mb : Int)) (by unfold wrap64; omega) _ wr hV.out.is (Nat.le_trans hlo.out (Nat.le_trans hW.out.fr.size hV.out.fr.size)) (by have := hbd.out; omega)).mono ?_
                  rintro e w5 ⟨rfl, hR5⟩
                  have heq := Lib.hid (show bytesOfKind 1 mb = sleb (wrap64 (mb : Int)) from by simp [bytesOfKind])
                  have hV2 := Lib.hid (show Wrote S.toHold lo g wo (pre ++ (args.take (j + 1)).flatMap argBytes) w5 from by
                    rw [htk.out, hae.out, heq.out, ← List.append_assoc]
                    exact hV.out.trans hR5)
                  clear hR5 ta0 ta1
                  go_wp2
                  go_roundw
                  case rel => exact ⟨j + 1, by omega, by go_num, hV2⟩
                  case measure => simp [intOf]; omega
                ·
                  have hae := Lib.hid (show argBytes (2, ab) = bytesOfKind 2 ab.toNat from argBytes_kind 2 (by decide) ab)
                  rw [show argVal (2, ab) = .iface 23 (.int .u32 ((ab.toNat : Int) % 4294967296)) from by simp [argVal]] at g0
                  generalize ab.toNat = mb at *
                  have ta0 := ta_uint32_0
                  have ta1 := ta_uint32_1
                  have ta2 := ta_uint32_2
                  obtain ⟨m32, hm32, hm32'⟩ : ∃ m32 : Nat, (mb : Int) % 4294967296 = (m32 : Int) ∧ mb % 4294967296 = m32 := ⟨mb % 4294967296, by omega, rfl⟩
                  have hm32' := Lib.hid hm32'
                  rw [hm32] at g0
                  clear hm32
                  go_wp2_with fail
                  refine (WriteVarUint32_calls S lo g m32 (by have := hm32'.out; omega) _ wr hV.out.is (Nat.le_trans hlo.out (Nat.le_trans hW.out.fr.size hV.out.fr.size)) (by have := hbd.out; omega)).mono ?_
                  rintro e w5 ⟨rfl, hR5⟩
                  have heq := Lib.hid (show bytesOfKind 2 mb = uleb m32 from by rw [← hm32'.out]; simp [bytesOfKind])
                  have hV2 := Lib.hid (show Wrote S.toHold lo g wo (pre ++ (args.take (j + 1)).flatMap argBytes) w5 from by
                    rw [htk.out, hae.out, heq.out, ← List.append_assoc]
                    exact hV.out.trans hR5)
                  clear hR5 ta0 ta1 ta2
                  go_wp2
                  go_roundw
                  case rel => exact ⟨j + 1, by omega, by go_num, hV2⟩
                  case measure => simp [intOf]; omega
                ·
                  have hae := Lib.hid (show argBytes (3, ab) = bytesOfKind 3 ab.toNat from argBytes_kind 3 (by decide) ab)
                  rw [show argVal (3, ab) = .iface 316 (.float .f32 (ab.toNat % 4294967296)) from by simp [argVal]] at g0
                  generalize ab.toNat = mb at *
                  have ta0 := ta_float32_0
                  have ta1 := ta_float32_1
                  have ta2 := ta_float32_2
                  have ta3 := ta_float32_3
                  have ta4 := ta_float32_4
                  have hb32 := run_bits32
                  obtain ⟨m32, hm32'⟩ : ∃ m32 : Nat, mb % 4294967296 = m32 := ⟨_, rfl⟩
                  rw [hm32'] at g0
                  have hm32' := Lib.hid hm32'
                  go_wp2_with fail
                  refine (zzWrite32_calls S lo g m32 (by have := hm32'.out; omega) _ wr hV.out.is (Nat.le_trans hlo.out (Nat.le_trans hW.out.fr.size hV.out.fr.size)) (by have := hbd.out; omega)).mono ?_
                  rintro e w5 ⟨rfl, hR5⟩
                  have heq := Lib.hid (show bytesOfKind 3 mb = lowBytes 4 m32 from by rw [← hm32'.out, lowBytes4_mod]; simp [bytesOfKind])
                  have hV2 := Lib.hid (show Wrote S.toHold lo g wo (pre ++ (args.take (j + 1)).flatMap argBytes) w5 from by
                    rw [htk.out, hae.out, heq.out, ← List.append_assoc]
                    exact hV.out.trans hR5)
                  clear hR5 ta0 ta1 ta2 ta3 ta4 hb32
                  go_wp2
                  go_roundw
                  case rel => exact ⟨j + 1, by omega, by go_num, hV2⟩
                  case measure => simp [intOf]; omega
                ·
                  have hae := Lib.hid (show argBytes (4, ab) = bytesOfKind 4 ab.toNat from argBytes_kind 4 (by decide) ab)
                  rw [show argVal (4, ab) = .iface 318 (.float .f64 ab.toNat) from by simp [argVal]] at g0
                  generalize ab.toNat = mb at *
                  have ta0 := ta_float64_0
                  have ta1 := ta_float64_1
                  have ta2 := ta_float64_2
                  have ta3 := ta_float64_3
                  have ta4 := ta_float64_4
                  have ta5 := ta_float64_5
                  have hb64 := run_bits64
                  go_wp2_with fail
                  refine (zzWrite64_calls S lo g mb hmb.out _ wr hV.out.is (Nat.le_trans hlo.out (Nat.le_trans hW.out.fr.size hV.out.fr.size)) (by have := hbd.out; omega)).mono ?_
                  rintro e w5 ⟨rfl, hR5⟩
                  have heq := Lib.hid (show bytesOfKind 4 mb = lowBytes 8 mb from by simp [bytesOfKind])
                  have hV2 := Lib.hid (show Wrote S.toHold lo g wo (pre ++ (args.take (j + 1)).flatMap argBytes) w5 from by
                    rw [htk.out, hae.out, heq.out, ← List.append_assoc]
                    exact hV.out.trans hR5)
                  clear hR5 ta0 ta1 ta2 ta3 ta4 ta5 hb64
                  go_wp2
                  go_roundw
                  case rel => exact ⟨j + 1, by omega, by go_num, hV2⟩
                  case measure => simp [intOf]; omega
                ·
                  have hae := Lib.hid (show argBytes (5, ab) = bytesOfKind 5 ab.toNat from argBytes_kind 5 (by decide) ab)
                  rw [show argVal (5, ab) = .iface 5 (.int .u8 ((ab.toNat : Int) % 256)) from by simp [argVal]] at g0
                  generalize ab.toNat = mb at *
                  have ta0 := ta_uint8_0
                  have ta1 := ta_uint8_1
                  have ta2 := ta_uint8_2
                  have ta3 := ta_uint8_3
                  have ta4 := ta_uint8_4
                  have ta5 := ta_uint8_5
                  have ta6 := ta_uint8_6
                  obtain ⟨m8, hm8, hm8'⟩ : ∃ m8 : Nat, (mb : Int) % 256 = (m8 : Int) ∧ mb % 256 = m8 := ⟨mb % 256, by omega, rfl⟩
                  have hm8' := Lib.hid hm8'
                  rw [hm8] at g0
                  clear hm8
                  go_wp2_with fail
                  refine (Sink.put (m := 1) (ys := [UInt8.ofNat m8]) hV.out.is (ext_alloc wr _) (Nat.le_trans hlo.out (Nat.le_trans hW.out.fr.size hV.out.fr.size)) rfl (blk_new wr _ _) (congrArg (fun v => [v]) (ofNat_cell m8 (by have := hm8'.out; omega)).symm) (by decide) (by decide) (by have := hbd.out; omega)).mono ?_
                  rintro e w5 ⟨rfl, hR5⟩
                  have heq := Lib.hid (show bytesOfKind 5 mb = [UInt8.ofNat m8] from by rw [← hm8'.out]; simp [bytesOfKind])
                  have hV2 := Lib.hid (show Wrote S.toHold lo g wo (pre ++ (args.take (j + 1)).flatMap argBytes) w5 from by
                    rw [htk.out, hae.out, heq.out, ← List.append_assoc]
                    exact hV.out.trans hR5)
                  clear hR5 ta0 ta1 ta2 ta3 ta4 ta5 ta6
                  go_wp2
                  go_roundw
                  case rel => exact ⟨j + 1, by omega, by go_num, hV2⟩
                  case measure => simp [intOf]; omega
              ·
                have hae := Lib.hid (argBytes_rest ak hak ab)
                rw [argVal_rest ak hak ab] at g0
                clear hak
                generalize ab.toNat = mb at *
                have ta0 := ta_uint64_0
                have ta1 := ta_uint64_1
                have ta2 := ta_uint64_2
                have ta3 := ta_uint64_3
                go_wp2_with fail
                refine (WriteVarUint64_calls S lo g mb hmb.out _ wr hV.out.is (Nat.le_trans hlo.out (Nat.le_trans hW.out.fr.size hV.out.fr.size)) (by have := hbd.out; omega)).mono ?_
                rintro e w5 ⟨rfl, hR5⟩
                have heq := Lib.hid (show bytesOfKind 6 mb = uleb mb from by simp [bytesOfKind])
                have hV2 := Lib.hid (show Wrote S.toHold lo g wo (pre ++ (args.take (j + 1)).flatMap argBytes) w5 from by
                  rw [htk.out, hae.out, heq.out, ← List.append_assoc]
                  exact hV.out.trans hR5)
                clear hR5 ta0 ta1 ta2 ta3
                go_wp2
                go_roundw
                case rel => exact ⟨j + 1, by omega, by go_num, hV2⟩
                case measure => simp [intOf]; omega
            · obtain rfl : j = args.length := by omega
              have hV2 := Lib.hid (show Wrote S.toHold lo g wo (pre ++ args.flatMap argBytes) wr from by have := hV.out; rw [List.take_length] at this; exact this)
              clear hV
              have hsi := si_own
              have hfin := Lib.hid (show Wrote S.toHold lo g w (bs ++ encBL (l.take (i + 1))) wr from by
                rw [het.out]
                have := hW.out.trans hV2.out
                rw [← hpre.out] at this
                simpa [encB1, hpre0.out.symm, hmo2.out] using this)
              go_wp2
              go_roundw
              case rel => exact ⟨i + 1, by omega, by go_num, hfin⟩
              case measure => simp [intOf]; omega
        · have HB := Lib.hid (And.intro hargs (And.intro hkind hbody))
          have hty := Lib.hid (htyo rfl).1
          have hbo := Lib.hid (htyo rfl).2
          clear hR hA hto ih hRr hAb hargs e1' hlc1 hcm1 hsp htyo hmo1 hkind hbody
          have hn1 := block_op_nil
          have hm1 := block_op_meth
          go_wp2_with fail
          refine region_items (frFrm (S.foot wr g)) [(0, .take), (1, .take), (4, .take), (5, .take), (6, .take), (2, .run), (3, .run), (7, .run), (8, .take), (9, .take), (10, .take), (11, .take), (12, .take)] (by kernel_rfl) (by kernel_rfl) ?_
          simp only [itemsOf, List.getD_cons_zero, List.getD_cons_succ]
          repeat (apply item_take; rfl; rfl; rfl; rfl; exact fun _ _ _ _ h => h; (intro W hE K hK; go_simp; exact hK))
          apply item_run; rfl; intro K hK; go_simp
          refine (own_Op_calls _ _ _).mono ?_
          rintro e w2 ⟨rfl, hx2⟩
          refine hK _ _ hx2.to ?_
          have hx2 := Lib.hid (Ext.trans (ext_drew wr) hx2)
          clear hK K hn1 hm1
          apply item_run; rfl; intro K hK; go_simp
          refine hK _ _ (ext_alloc _ _).to ?_
          have hB3 := blk_new w2 #[.int .u8 (mo : Int)] 5
          have hx3 := Ext.trans hx2.out (ext_alloc w2 (.cells #[.int .u8 (mo : Int)] 5))
          clear hK K
          generalize (w2.alloc (.cells #[.int .u8 (mo : Int)] 5)) = W3 at *
          have H3 := Lib.hid (And.intro hB3 hx3)
          clear hB3 hx3
          repeat (apply item_take; rfl; rfl; rfl; rfl; exact fun _ _ _ _ h => h; (intro W hE K hK; go_simp; exact hK))
          apply item_run; rfl; intro K hK; go_simp
          have hS3 := S.frame hW.out.is H3.out.2 (fun _ _ h => h)
          refine (S.write lo g pre0 [UInt8.ofNat mo] W3 _ _ _ 1 hS3.1 (u8_rd_blk H3.out.1 (congrArg (fun v => [v]) (ofNat_cell mo hmo.out).symm) (by simp) (by decide)) (Nat.le_trans hlo.out (Nat.le_trans hW.out.fr.size H3.out.2.size)) (by have := hcap.out; simp; omega)).mono ?_
          rintro e w4 ⟨rfl, k1, k2, k3⟩
          have hR4 := Lib.hid (Wrote.after hW.out.is H3.out.2 ⟨k1, k2, k3⟩)
          refine hK _ _ (k2.mono fun k _ hk => (hS3.2 k).1 hk) ?_
          clear hK K k1 k2 k3 hS3
          repeat (apply item_take; rfl; rfl; rfl; rfl; exact fun _ _ _ _ h => h; (intro W hE K hK; go_simp; exact hK))
          apply items_done
          have hn2 := block_ia_nil
          have hm2 := block_ia_meth
          go_wp2_with fail
          refine (own_ImmediateArgs_calls _ _ _).mono ?_
          rintro e w5 ⟨rfl, hx5⟩
          have hR5 := Lib.hid (hR4.out.ext hx5)
          clear hn2 hm2 hx5 hR4 H3 hx2
          go_wp2_with fail
          obtain ⟨wo, rfl⟩ : ∃ wo : World, wo = wr := ⟨_, rfl⟩
          obtain ⟨pre, hpre⟩ : ∃ pre, pre0 ++ [UInt8.ofNat mo] = pre := ⟨_, rfl⟩
          rw [hpre] at hR5
          have hpre := Lib.hid hpre
          go_loopw [51] (fun s51 w' => ∃ (j : Nat), j ≤ args.length ∧ s51 = .int .i64 j ∧ Hid (Wrote S.toHold lo g wo (pre ++ (args.take j).flatMap argBytes) w')) (fun s51 _ => args.length - (intOf s51).toNat)
          case atStart => exact ⟨0, Nat.zero_le _, rfl, by show Wrote _ _ _ _ _ _; simpa using hR5.out⟩
          case round =>
            obtain ⟨j, hj, rfl, hV⟩ := hrel
            by_cases hjl : j < args.length
            · obtain ⟨b3, o3, rfl, hA3, g0⟩ := any_at (Lay.fr HB.out.1 hV.out.fr (fun k hk => hAw.out k hk)) j hjl
              have htk := Lib.hid (argB_take hjl)
              obtain ⟨arest, hasp⟩ := argB_split hjl
              have hbd := Lib.hid (show (pre ++ (args.take j).flatMap argBytes).length + 10 ≤ 70368744177664 from by
                have := hcap.out
                rw [hasp] at this
                rw [← hpre.out]
                simp only [List.length_append, List.length_cons, List.length_nil] at this ⊢
                omega)
              clear hasp hA3
              generalize args[j] = aq at *
              obtain ⟨ak, ab⟩ := aq
              have hmb := Lib.hid ab.toNat_lt
              by_cases hak : ak = 0 ∨ ak = 1 ∨ ak = 2 ∨ ak = 3 ∨ ak = 4 ∨ ak = 5
              · rcases hak with rfl | rfl | rfl | rfl | rfl | rfl
                ·
                  have hae := Lib.hid (show argBytes (0, ab) = bytesOfKind 0 ab.toNat from argBytes_kind 0 (by decide) ab)
                  rw [show argVal (0, ab) = .iface 21 (.int .i32 (wrap32 (ab.toNat : Int))) from by simp [argVal]] at g0
                  generalize ab.toNat = mb at *
                  have ta0 := ta_int32_0
                  go_wp2_with fail
                  refine (WriteVarInt32_calls S lo g (wrap32 (mb : Int)) (by unfold wrap32; omega) _ wr hV.out.is (Nat.le_trans hlo.out (Nat.le_trans hW.out.fr.size hV.out.fr.size)) (by have := hbd.out; omega)).mono ?_
                  rintro e w5 ⟨rfl, hR5⟩
                  have heq := Lib.hid (show bytesOfKind 0 mb = sleb (wrap32 (mb : Int)) from by simp [bytesOfKind])
                  have hV2 := Lib.hid (show Wrote S.toHold lo g wo (pre ++ (args.take (j + 1)).flatMap argBytes) w5 from by
                    rw [htk.out, hae.out, heq.out, ← List.append_assoc]
                    exact hV.out.trans hR5)
                  clear hR5 ta0
                  go_wp2
                  go_roundw
                  case rel => exact ⟨j + 1, by omega, by go_num, hV2⟩
                  case measure => simp [intOf]; omega
                ·
                  have hae := Lib.hid (show argBytes (1, ab) = bytesOfKind 1 ab.toNat from argBytes_kind 1 (by decide) ab)
                  rw [show argVal (1, ab) = .iface 2 (.int .i64 (wrap64 (ab.toNat : Int))) from by simp [argVal]] at g0
                  generalize ab.toNat = mb at *
                  have ta0 := ta_int64_0
                  have ta1 := ta_int64_1
                  go_wp2_with fail
                  refine (WriteVarInt64_calls S lo g (wrap64 (mb : Int)) (by unfold wrap64; omega) _ wr hV.out.is (Nat.le_trans hlo.out (Nat.le_trans hW.out.fr.size hV.out.fr.size)) (by have := hbd.out; omega)).mono ?_
                  rintro e w5 ⟨rfl, hR5⟩
                  have heq := Lib.hid (show bytesOfKind 1 mb = sleb (wrap64 (mb : Int)) from by simp [bytesOfKind])
                  have hV2 := Lib.hid (show Wrote S.toHold lo g wo (pre ++ (args.take (j + 1)).flatMap argBytes) w5 from by
                    rw [htk.out, hae.out, heq.out, ← List.append_assoc]
                    exact hV.out.trans hR5)
                  clear hR5 ta0 ta1
                  go_wp2
                  go_roundw
                  case rel => exact ⟨j + 1, by omega, by go_num, hV2⟩
                  case measure => simp [intOf]; omega
                ·
                  have hae := Lib.hid (show argBytes (2, ab) = bytesOfKind 2 ab.toNat from argBytes_kind 2 (by decide) ab)
                  rw [show argVal (2, ab) = .iface 23 (.int .u32 ((ab.toNat : Int) % 4294967296)) from by simp [argVal]] at g0
                  generalize ab.toNat = mb at *
                  have ta0 := ta_uint32_0
                  have ta1 := ta_uint32_1
                  have ta2 := ta_uint32_2
                  obtain ⟨m32, hm32, hm32'⟩ : ∃ m32 : Nat, (mb : Int) % 4294967296 = (m32 : Int) ∧ mb % 4294967296 = m32 := ⟨mb % 4294967296, by omega, rfl⟩
                  have hm32' := Lib.hid hm32'
                  rw [hm32] at g0
                  clear hm32
                  go_wp2_with fail
                  refine (WriteVarUint32_calls S lo g m32 (by have := hm32'.out; omega) _ wr hV.out.is (Nat.le_trans hlo.out (Nat.le_trans hW.out.fr.size hV.out.fr.size)) (by have := hbd.out; omega)).mono ?_
                  rintro e w5 ⟨rfl, hR5⟩
                  have heq := Lib.hid (show bytesOfKind 2 mb = uleb m32 from by rw [← hm32'.out]; simp [bytesOfKind])
                  have hV2 := Lib.hid (show Wrote S.toHold lo g wo (pre ++ (args.take (j + 1)).flatMap argBytes) w5 from by
                    rw [htk.out, hae.out, heq.out, ← List.append_assoc]
                    exact hV.out.trans hR5)
                  clear hR5 ta0 ta1 ta2
                  go_wp2
                  go_roundw
                  case rel => exact ⟨j + 1, by omega, by go_num, hV2⟩
                  case measure => simp [intOf]; omega
                ·
                  have hae := Lib.hid (show argBytes (3, ab) = bytesOfKind 3 ab.toNat from argBytes_kind 3 (by decide) ab)
                  rw [show argVal (3, ab) = .iface 316 (.float .f32 (ab.toNat % 4294967296)) from by simp [argVal]] at g0
                  generalize ab.toNat = mb at *
                  have ta0 := ta_float32_0
                  have ta1 := ta_float32_1
                  have ta2 := ta_float32_2
                  have ta3 := ta_float32_3
                  have ta4 := ta_float32_4
                  have hb32 := run_bits32
                  obtain ⟨m32, hm32'⟩ : ∃ m32 : Nat, mb % 4294967296 = m32 := ⟨_, rfl⟩
                  rw [hm32'] at g0
                  have hm32' := Lib.hid hm32'
                  go_wp2_with fail
                  refine (zzWrite32_calls S lo g m32 (by have := hm32'.out; omega) _ wr hV.out.is (Nat.le_trans hlo.out (Nat.le_trans hW.out.fr.size hV.out.fr.size)) (by have := hbd.out; omega)).mono ?_
                  rintro e w5 ⟨rfl, hR5⟩
                  have heq := Lib.hid (show bytesOfKind 3 mb = lowBytes 4 m32 from by rw [← hm32'.out, lowBytes4_mod]; simp [bytesOfKind])
                  have hV2 := Lib.hid (show Wrote S.toHold lo g wo (pre ++ (args.take (j + 1)).flatMap argBytes) w5 from by
                    rw [htk.out, hae.out, heq.out, ← List.append_assoc]
                    exact hV.out.trans hR5)
                  clear hR5 ta0 ta1 ta2 ta3 ta4 hb32
                  go_wp2
                  go_roundw
                  case rel => exact ⟨j + 1, by omega, by go_num, hV2⟩
                  case measure => simp [intOf]; omega
                ·
                  have hae := Lib.hid (show argBytes (4, ab) = bytesOfKind 4 ab.toNat from argBytes_kind 4 (by decide) ab)
                  rw [show argVal (4, ab) = .iface 318 (.float .f64 ab.toNat) from by simp [argVal]] at g0
                  generalize ab.toNat = mb at *
                  have ta0 := ta_float64_0
                  have ta1 := ta_float64_1
                  have ta2 := ta_float64_2
                  have ta3 := ta_float64_3
                  have ta4 := ta_float64_4
                  have ta5 := ta_float64_5
                  have hb64 := run_bits64
                  go_wp2_with fail
                  refine (zzWrite64_calls S lo g mb hmb.out _ wr hV.out.is (Nat.le_trans hlo.out (Nat.le_trans hW.out.fr.size hV.out.fr.size)) (by have := hbd.out; omega)).mono ?_
                  rintro e w5 ⟨rfl, hR5⟩
                  have heq := Lib.hid (show bytesOfKind 4 mb = lowBytes 8 mb from by simp [bytesOfKind])
                  have hV2 := Lib.hid (show Wrote S.toHold lo g wo (pre ++ (args.take (j + 1)).flatMap argBytes) w5 from by
                    rw [htk.out, hae.out, heq.out, ← List.append_assoc]
                    exact hV.out.trans hR5)
                  clear hR5 ta0 ta1 ta2 ta3 ta4 ta5 hb64
                  go_wp2
                  go_roundw
                  case rel => exact ⟨j + 1, by omega, by go_num, hV2⟩
                  case measure => simp [intOf]; omega
                ·
                  have hae := Lib.hid (show argBytes (5, ab) = bytesOfKind 5 ab.toNat from argBytes_kind 5 (by decide) ab)
                  rw [show argVal (5, ab) = .iface 5 (.int .u8 ((ab.toNat : Int) % 256)) from by simp [argVal]] at g0
                  generalize ab.toNat = mb at *
                  have ta0 := ta_uint8_0
                  have ta1 := ta_uint8_1
                  have ta2 := ta_uint8_2
                  have ta3 := ta_uint8_3
                  have ta4 := ta_uint8_4
                  have ta5 := ta_uint8_5
                  have ta6 := ta_uint8_6
                  obtain ⟨m8, hm8, hm8'⟩ : ∃ m8 : Nat, (mb : Int) % 256 = (m8 : Int) ∧ mb % 256 = m8 := ⟨mb % 256, by omega, rfl⟩
                  have hm8' := Lib.hid hm8'
                  rw [hm8] at g0
                  clear hm8
                  go_wp2_with fail
                  refine (Sink.put (m := 1) (ys := [UInt8.ofNat m8]) hV.out.is (ext_alloc wr _) (Nat.le_trans hlo.out (Nat.le_trans hW.out.fr.size hV.out.fr.size)) rfl (blk_new wr _ _) (congrArg (fun v => [v]) (ofNat_cell m8 (by have := hm8'.out; omega)).symm) (by decide) (by decide) (by have := hbd.out; omega)).mono ?_
                  rintro e w5 ⟨rfl, hR5⟩
                  have heq := Lib.hid (show bytesOfKind 5 mb = [UInt8.ofNat m8] from by rw [← hm8'.out]; simp [bytesOfKind])
                  have hV2 := Lib.hid (show Wrote S.toHold lo g wo (pre ++ (args.take (j + 1)).flatMap argBytes) w5 from by
                    rw [htk.out, hae.out, heq.out, ← List.append_assoc]
                    exact hV.out.trans hR5)
                  clear hR5 ta0 ta1 ta2 ta3 ta4 ta5 ta6
                  go_wp2
                  go_roundw
                  case rel => exact ⟨j + 1, by omega, by go_num, hV2⟩
                  case measure => simp [intOf]; omega
              ·
                have hae := Lib.hid (argBytes_rest ak hak ab)
                rw [argVal_rest ak hak ab] at g0
                clear hak
                generalize ab.toNat = mb at *
                have ta0 := ta_uint64_0
                have ta1 := ta_uint64_1
                have ta2 := ta_uint64_2
                have ta3 := ta_uint64_3
                go_wp2_with fail
                refine (WriteVarUint64_calls S lo g mb hmb.out _ wr hV.out.is (Nat.le_trans hlo.out (Nat.le_trans hW.out.fr.size hV.out.fr.size)) (by have := hbd.out; omega)).mono ?_
                rintro e w5 ⟨rfl, hR5⟩
                have heq := Lib.hid (show bytesOfKind 6 mb = uleb mb from by simp [bytesOfKind])
                have hV2 := Lib.hid (show Wrote S.toHold lo g wo (pre ++ (args.take (j + 1)).flatMap argBytes) w5 from by
                  rw [htk.out, hae.out, heq.out, ← List.append_assoc]
                  exact hV.out.trans hR5)
                clear hR5 ta0 ta1 ta2 ta3
                go_wp2
                go_roundw
                case rel => exact ⟨j + 1, by omega, by go_num, hV2⟩
                case measure => simp [intOf]; omega
            · obtain rfl : j = args.length := by omega
              have hV2 := Lib.hid (show Wrote S.toHold lo g wo (pre ++ args.flatMap argBytes) wr from by have := hV.out; rw [List.take_length] at this; exact this)
              clear hV
              have hsi := si_block
              have hn3 := block_bt_nil
              have hm3 := block_bt_meth
              go_wp2_with fail
              refine (block_BlockType_calls _ _ _ _ _).mono ?_
              rintro e w6 ⟨rfl, hx6⟩
              have hR6 := Lib.hid (hV2.out.ext hx6)
              clear hsi hn3 hm3 hx6
              go_wp2_with fail
              refine (writeBlockValueType_calls S lo g ty hty.out kp _ w6 (KindAt.cell (KindAt.fr HB.out.2.1 hR6.out.fr (fun k hk => hAw.out k hk))) hR6.out.is (Nat.le_trans hlo.out (Nat.le_trans hW.out.fr.size hR6.out.fr.size)) (by have := hcap.out; rw [← hpre.out]; simp only [List.length_append, List.length_cons, List.length_nil, if_true] at this ⊢; omega)).mono ?_
              rintro e w7 ⟨rfl, hR7⟩
              have hR7 := Lib.hid (hR6.out.trans hR7)
              have hn4 := block_in_nil
              have hm4 := block_in_meth
              go_wp2_with fail
              refine (block_Instructions_calls _ _ _ _ _).mono ?_
              rintro e w8 ⟨rfl, hx8⟩
              have hR8 := Lib.hid (hR7.out.ext hx8)
              clear hn4 hm4 hx8
              go_wp2_with fail
              refine (H.out.2.2.2 k (by omega) body lo g ba bn bc A _ w8 hR8.out.is (Lay.fr HB.out.2.2 hR8.out.fr (fun k hk => hAw.out k hk)) (hAw.out.step hR8.out) (Nat.le_trans hlo.out (Nat.le_trans hW.out.fr.size hR8.out.fr.size)) hbo.out (by have := hcap.out; rw [← hpre.out]; simp only [List.length_append, List.length_cons, List.length_nil, if_true] at this ⊢; omega)).mono ?_
              rintro e w9 ⟨rfl, hR9⟩
              have hfin := Lib.hid (show Wrote S.toHold lo g w (bs ++ encBL (l.take (i + 1))) w9 from by
                rw [het.out]
                have := hW.out.trans (hR8.out.trans hR9)
                rw [← hpre.out] at this
                simpa [encB1, hpre0.out.symm, hmo2.out] using this)
              clear hR9
              go_wp2
              go_roundw
              case rel => exact ⟨i + 1, by omega, by go_num, hfin⟩
              case measure => simp [intOf]; omega
      · obtain rfl : i = l.length := by omega
        go_wp2_with fail
        refine (Sink.put (m := 1) (ys := [11]) hW.out.is (ext_alloc wr _) (Nat.le_trans hlo.out hW.out.fr.size) rfl (blk_new wr _ _) rfl (by decide) (by decide) (by have := hl.out; rw [List.take_length, List.length_append]; omega)).mono ?_
        rintro e w2 ⟨rfl, hR2⟩
        have hfin := Lib.hid (hW.out.trans hR2)
        clear hR2
        go_wp2
        go_ret
        refine ⟨rfl, ?_⟩
        have := hfin.out
        rw [List.take_length, List.append_assoc] at this
        exact this
end Go.Proofs.YtkbadfljmbeciaaGreatDoor
