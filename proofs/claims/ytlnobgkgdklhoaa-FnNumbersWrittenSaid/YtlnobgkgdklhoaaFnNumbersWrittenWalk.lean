/- The walk of FnNumbersWritten: every number is written in its shortest form by both. -/
import Derived.Test.YtlnobgkgdklhoaaWriteNum
import Derived.Outline
namespace Go.Proofs.Ytlnobgkgdklhoaa
open Go.RowKit
theorem convB {lo : Nat} {w : World} {v : Value} {l : List UInt8} (h : OwnB lo w v l) : ∀ W, Ext w W → (convert 31 9 v).run Try.prog W = .ok (.string (strOf l)) W :=
  conv_str h.slice (fun _ hk => hk.2) _ _ 5 Try.underlying31 Try.underlying5 Try.underlying9
set_option maxRecDepth 100000 in
set_option maxHeartbeats 1000000 in
theorem FnNumbersWritten_calls (u : Nat) (hu : u < 18446744073709551616) (i : Int) (hi : -9223372036854775808 ≤ i ∧ i ≤ 9223372036854775807) (w : World) :
    Calls Try.prog 4 #[.int .u64 u, .int .i64 i] w fun e w' => e = .returned (.bool true) ∧ Ext w w' := by
  obtain ⟨u32, hu32, hu32'⟩ : ∃ u32 : Nat, u32 < 4294967296 ∧ IntKind.u32.wrap (u : Int) = (u32 : Int) := ⟨u % 4294967296, by omega, by rw [IntKind.wrap_u32]; omega⟩
  have hw1 : IntKind.u64.wrap (u32 : Int) = (u32 : Int) := by rw [IntKind.wrap_u64]; omega
  obtain ⟨i32, hi32, hi32'⟩ : ∃ i32 : Int, (-2147483648 ≤ i32 ∧ i32 ≤ 2147483647) ∧ IntKind.i32.wrap i = i32 := ⟨IntKind.i32.wrap i, by rw [IntKind.wrap_i32]; omega, rfl⟩
  have hw2 : IntKind.i64.wrap i32 = i32 := by rw [IntKind.wrap_i64]; omega
  go_enter Try.func4, Try.ntmps4
  go_wp2_with fail
  refine region_items extFrm [(0, .take), (1, .take), (4, .take), (5, .take), (6, .take), (2, .run), (3, .take), (7, .run), (8, .take), (9, .take), (10, .take), (11, .take), (14, .take), (12, .run), (13, .take), (15, .run), (16, .take), (17, .take), (18, .take), (19, .take), (20, .take), (21, .take), (24, .take), (25, .take), (26, .take), (22, .run), (23, .take), (27, .run), (28, .take), (29, .take), (30, .take), (31, .take), (32, .take), (35, .take), (33, .run), (34, .take), (36, .run), (37, .take), (38, .take), (39, .take), (40, .take)] (by kernel_rfl) (by kernel_rfl) ?_
  simp only [itemsOf, List.getD_cons_zero, List.getD_cons_succ]
  repeat (apply item_take; rfl; rfl; rfl; rfl; exact fun _ _ _ _ h => h; (intro W hE K hK; go_simp; exact hK))
  apply item_run; rfl; intro K hK; go_simp
  refine (WriteUint32_calls u32 hu32 _).mono ?_
  rintro e w1 ⟨v1, rfl, o1, x1⟩
  refine hK _ _ x1 ?_
  have C1 := Lib.hid (convB o1)
  have X1 := Lib.hid ((ext_drew w).trans x1)
  clear hK K o1 x1
  apply item_take; rfl; rfl; rfl; rfl; exact fun _ _ _ _ h => h; (intro W hE K hK; have hc := C1.out W hE; go_simp; exact hK)
  clear C1
  repeat (apply item_take; rfl; rfl; rfl; rfl; exact fun _ _ _ _ h => h; (intro W hE K hK; go_simp; exact hK))
  apply item_run; rfl; intro K hK; go_simp
  refine (specAppendUnsigned_calls u32 (by omega) _ (.slice none 0 0) [] _ (own_nil _ _ _ _) (Nat.le_refl _) (by simp)).mono ?_
  rintro e w2 ⟨v2, rfl, o2, y2, -⟩
  have x2 : Ext _ w2 := y2.mono (fun _ _ h => by simp [Value.ownBlock] at h)
  rw [List.nil_append] at o2
  refine hK _ _ x2 ?_
  have C2 := Lib.hid (convB o2)
  have X2 := Lib.hid (X1.out.trans x2)
  clear hK K o2 x2 y2
  apply item_take; rfl; rfl; rfl; rfl; exact fun _ _ _ _ h => h; (intro W hE K hK; have hc := C2.out W hE; go_simp; exact hK)
  clear C2
  repeat (apply item_take; rfl; rfl; rfl; rfl; exact fun _ _ _ _ h => h; (intro W hE K hK; go_simp; exact hK))
  apply item_run; rfl; intro K hK; go_simp
  refine (WriteUint64_calls u hu _).mono ?_
  rintro e w3 ⟨v3, rfl, o3, x3⟩
  refine hK _ _ x3 ?_
  have C3 := Lib.hid (convB o3)
  have X3 := Lib.hid (X2.out.trans x3)
  clear hK K o3 x3
  apply item_take; rfl; rfl; rfl; rfl; exact fun _ _ _ _ h => h; (intro W hE K hK; have hc := C3.out W hE; go_simp; exact hK)
  clear C3
  repeat (apply item_take; rfl; rfl; rfl; rfl; exact fun _ _ _ _ h => h; (intro W hE K hK; go_simp; exact hK))
  apply item_run; rfl; intro K hK; go_simp
  refine (specAppendUnsigned_calls u hu _ (.slice none 0 0) [] _ (own_nil _ _ _ _) (Nat.le_refl _) (by simp)).mono ?_
  rintro e w4 ⟨v4, rfl, o4, y4, -⟩
  have x4 : Ext _ w4 := y4.mono (fun _ _ h => by simp [Value.ownBlock] at h)
  rw [List.nil_append] at o4
  refine hK _ _ x4 ?_
  have C4 := Lib.hid (convB o4)
  have X4 := Lib.hid (X3.out.trans x4)
  clear hK K o4 x4 y4
  apply item_take; rfl; rfl; rfl; rfl; exact fun _ _ _ _ h => h; (intro W hE K hK; have hc := C4.out W hE; go_simp; exact hK)
  clear C4
  repeat (apply item_take; rfl; rfl; rfl; rfl; exact fun _ _ _ _ h => h; (intro W hE K hK; go_simp; exact hK))
  apply item_run; rfl; intro K hK; go_simp
  refine (WriteInt32_calls i32 hi32 _).mono ?_
  rintro e w5 ⟨v5, rfl, o5, x5⟩
  refine hK _ _ x5 ?_
  have C5 := Lib.hid (convB o5)
  have X5 := Lib.hid (X4.out.trans x5)
  clear hK K o5 x5
  apply item_take; rfl; rfl; rfl; rfl; exact fun _ _ _ _ h => h; (intro W hE K hK; have hc := C5.out W hE; go_simp; exact hK)
  clear C5
  repeat (apply item_take; rfl; rfl; rfl; rfl; exact fun _ _ _ _ h => h; (intro W hE K hK; go_simp; exact hK))
  apply item_run; rfl; intro K hK; go_simp
  refine (specAppendSigned_calls i32 (by omega) _ (.slice none 0 0) [] _ (own_nil _ _ _ _) (Nat.le_refl _) (by simp)).mono ?_
  rintro e w6 ⟨v6, rfl, o6, y6, -⟩
  have x6 : Ext _ w6 := y6.mono (fun _ _ h => by simp [Value.ownBlock] at h)
  rw [List.nil_append] at o6
  refine hK _ _ x6 ?_
  have C6 := Lib.hid (convB o6)
  have X6 := Lib.hid (X5.out.trans x6)
  clear hK K o6 x6 y6
  apply item_take; rfl; rfl; rfl; rfl; exact fun _ _ _ _ h => h; (intro W hE K hK; have hc := C6.out W hE; go_simp; exact hK)
  clear C6
  repeat (apply item_take; rfl; rfl; rfl; rfl; exact fun _ _ _ _ h => h; (intro W hE K hK; go_simp; exact hK))
  apply item_run; rfl; intro K hK; go_simp
  refine (WriteInt64_calls i hi _).mono ?_
  rintro e w7 ⟨v7, rfl, o7, x7⟩
  refine hK _ _ x7 ?_
  have C7 := Lib.hid (convB o7)
  have X7 := Lib.hid (X6.out.trans x7)
  clear hK K o7 x7
  apply item_take; rfl; rfl; rfl; rfl; exact fun _ _ _ _ h => h; (intro W hE K hK; have hc := C7.out W hE; go_simp; exact hK)
  clear C7
  repeat (apply item_take; rfl; rfl; rfl; rfl; exact fun _ _ _ _ h => h; (intro W hE K hK; go_simp; exact hK))
  apply item_run; rfl; intro K hK; go_simp
  refine (specAppendSigned_calls i hi _ (.slice none 0 0) [] _ (own_nil _ _ _ _) (Nat.le_refl _) (by simp)).mono ?_
  rintro e w8 ⟨v8, rfl, o8, y8, -⟩
  have x8 : Ext _ w8 := y8.mono (fun _ _ h => by simp [Value.ownBlock] at h)
  rw [List.nil_append] at o8
  refine hK _ _ x8 ?_
  have C8 := Lib.hid (convB o8)
  have X8 := Lib.hid (X7.out.trans x8)
  clear hK K o8 x8 y8
  apply item_take; rfl; rfl; rfl; rfl; exact fun _ _ _ _ h => h; (intro W hE K hK; have hc := C8.out W hE; go_simp; exact hK)
  clear C8
  repeat (apply item_take; rfl; rfl; rfl; rfl; exact fun _ _ _ _ h => h; (intro W hE K hK; go_simp; exact hK))
  apply items_done
  go_wp2
  go_ret
  exact ⟨rfl, X8.out⟩
end Go.Proofs.Ytlnobgkgdklhoaa
