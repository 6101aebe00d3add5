/- The walk of FnNumbersBack. -/
import Derived.Test.YtlnobgkgdklhoaaImplRead
import Derived.Test.YtlnobgkgdklhoaaWriteNum
import Derived.Test.YtlnobgkgdklhoaaNumBack
namespace Go.Proofs.Ytlnobgkgdklhoaa
open Go.RowKit
set_option maxRecDepth 100000 in
set_option maxHeartbeats 1000000 in
theorem FnNumbersBack_calls (u : Nat) (hu : u < 18446744073709551616) (i : Int) (hi0 : -9223372036854775808 ≤ i ∧ i ≤ 9223372036854775807) (w : World) :
    Calls Try.prog 9 #[.int .u64 u, .int .i64 i] w fun e w' => e = .returned (.bool true) ∧ Ext w w' := by
  obtain ⟨u32, hu32, hu32'⟩ : ∃ u32 : Nat, u32 < 4294967296 ∧ IntKind.u32.wrap (u : Int) = (u32 : Int) := ⟨u % 4294967296, by omega, by rw [IntKind.wrap_u32]; omega⟩
  by_cases hneg : i < -134217728
  · obtain ⟨j, hj⟩ : ∃ j, j = -1 - i := ⟨_, rfl⟩
    have hjw : wrap64 (-1 - i) = j := by unfold wrap64; omega
    have hjw2 : -1 - i = j := hj.symm
    have hi : -9223372036854775808 ≤ j ∧ j ≤ 9223372036854775807 := by omega
    have hlo : -134217728 ≤ j := by omega
    obtain ⟨i32, hi32, hi32'⟩ : ∃ i32 : Int, (-2147483648 ≤ i32 ∧ i32 ≤ 2147483647) ∧ IntKind.i32.wrap j = i32 := ⟨IntKind.i32.wrap j, by rw [IntKind.wrap_i32]; omega, rfl⟩
    have hi32'' : wrap32 j = i32 := by rw [← hi32', IntKind.wrap_i32]; unfold wrap32; omega
    have d0 : decide (i < -134217728) = true := decide_eq_true hneg
    clear hneg hj
    go_enter Try.func9, Try.ntmps9
    go_wp2_with (go_at_call 13; refine Hid.out ?_)
    refine (WriteUint32_calls u32 hu32 _).mono ?_
    rintro e w1 ⟨v1, rfl, o1, x1⟩
    obtain ⟨a1, n1, c1, rfl⟩ := o1.shape
    have O1 := Lib.hid o1
    have X1 := Lib.hid x1
    clear o1 x1
    go_wp2_with (go_at_call 25; refine Hid.out ?_)
    refine (ReadUint32_calls _ a1 n1 c1 (uleb u32) _ O1.out.slice (fun _ hk => hk.2) (by have := uleb_len64 u32 (by omega); omega) u32 [] (readU_back u32 (by omega))).mono ?_
    rintro e w2 ⟨rfl, x2⟩
    rw [Nat.mod_eq_of_lt hu32]
    have X2 := Lib.hid (X1.out.trans x2)
    clear x2 O1 X1
    go_wp2_with (go_at_call 15; refine Hid.out ?_)
    refine (WriteUint64_calls u hu _).mono ?_
    rintro e w3 ⟨v3, rfl, o3, x3⟩
    obtain ⟨a3, n3, c3, rfl⟩ := o3.shape
    have O3 := Lib.hid o3
    have X3 := Lib.hid (X2.out.trans x3)
    clear o3 x3 X2
    go_wp2_with (go_at_call 26; refine Hid.out ?_)
    refine (ReadUint64_calls _ a3 n3 c3 (uleb u) _ O3.out.slice (fun _ hk => hk.2) (by have := uleb_len64 u hu; omega) u [] (readU_back u hu)).mono ?_
    rintro e w4 ⟨rfl, x4⟩
    have X4 := Lib.hid (X3.out.trans x4)
    clear x4 O3 X3
    go_wp2_with (go_at_call 16; refine Hid.out ?_)
    refine (WriteInt32_calls i32 hi32 _).mono ?_
    rintro e w5 ⟨v5, rfl, o5, x5⟩
    obtain ⟨a5, n5, c5, rfl⟩ := o5.shape
    have O5 := Lib.hid o5
    have X5 := Lib.hid (X4.out.trans x5)
    clear o5 x5 X4
    obtain ⟨m, hm1, hm2⟩ := readS_back32 i32 hi32.1 hi32.2
    have hm3 : wrap32 m = i32 := by unfold wrap32; omega
    go_wp2_with (go_at_call 20; refine Hid.out ?_)
    refine (ReadInt32_calls _ a5 n5 c5 (sleb i32) _ O5.out.slice (fun _ hk => hk.2) (by have := sleb_len64 i32 (by omega) (by omega); omega) m [] hm1).mono ?_
    rintro e w6 ⟨rfl, x6⟩
    rw [hm3]
    have X6 := Lib.hid (X5.out.trans x6)
    clear x6 O5 X5 hm1 hm2 hm3
    go_wp2_with (go_at_call 18; refine Hid.out ?_)
    refine (WriteInt64_calls j hi _).mono ?_
    rintro e w7 ⟨v7, rfl, o7, x7⟩
    obtain ⟨a7, n7, c7, rfl⟩ := o7.shape
    have O7 := Lib.hid o7
    have X7 := Lib.hid (X6.out.trans x7)
    clear o7 x7 X6
    go_wp2_with (go_at_call 23; refine Hid.out ?_)
    refine (ReadInt64_calls _ a7 n7 c7 (sleb j) _ O7.out.slice (fun _ hk => hk.2) (by have := sleb_len64 j hi.1 hi.2; omega) j [] (readS_back64 j hlo hi.2)).mono ?_
    rintro e w8 ⟨rfl, x8⟩
    have X8 := Lib.hid (X7.out.trans x8)
    clear x8 O7 X7
    simp only [List.length_nil, Int.ofNat_zero]
    go_wp2
    go_ret
    exact ⟨rfl, X8.out⟩
  · have hi := hi0
    have hlo : -134217728 ≤ i := by omega
    obtain ⟨i32, hi32, hi32'⟩ : ∃ i32 : Int, (-2147483648 ≤ i32 ∧ i32 ≤ 2147483647) ∧ IntKind.i32.wrap i = i32 := ⟨IntKind.i32.wrap i, by rw [IntKind.wrap_i32]; omega, rfl⟩
    have hi32'' : wrap32 i = i32 := by rw [← hi32', IntKind.wrap_i32]; unfold wrap32; omega
    have d0 : decide (i < -134217728) = false := decide_eq_false hneg
    clear hneg hi0
    go_enter Try.func9, Try.ntmps9
    go_wp2_with (go_at_call 13; refine Hid.out ?_)
    refine (WriteUint32_calls u32 hu32 _).mono ?_
    rintro e w1 ⟨v1, rfl, o1, x1⟩
    obtain ⟨a1, n1, c1, rfl⟩ := o1.shape
    have O1 := Lib.hid o1
    have X1 := Lib.hid x1
    clear o1 x1
    go_wp2_with (go_at_call 25; refine Hid.out ?_)
    refine (ReadUint32_calls _ a1 n1 c1 (uleb u32) _ O1.out.slice (fun _ hk => hk.2) (by have := uleb_len64 u32 (by omega); omega) u32 [] (readU_back u32 (by omega))).mono ?_
    rintro e w2 ⟨rfl, x2⟩
    rw [Nat.mod_eq_of_lt hu32]
    have X2 := Lib.hid (X1.out.trans x2)
    clear x2 O1 X1
    go_wp2_with (go_at_call 15; refine Hid.out ?_)
    refine (WriteUint64_calls u hu _).mono ?_
    rintro e w3 ⟨v3, rfl, o3, x3⟩
    obtain ⟨a3, n3, c3, rfl⟩ := o3.shape
    have O3 := Lib.hid o3
    have X3 := Lib.hid (X2.out.trans x3)
    clear o3 x3 X2
    go_wp2_with (go_at_call 26; refine Hid.out ?_)
    refine (ReadUint64_calls _ a3 n3 c3 (uleb u) _ O3.out.slice (fun _ hk => hk.2) (by have := uleb_len64 u hu; omega) u [] (readU_back u hu)).mono ?_
    rintro e w4 ⟨rfl, x4⟩
    have X4 := Lib.hid (X3.out.trans x4)
    clear x4 O3 X3
    go_wp2_with (go_at_call 16; refine Hid.out ?_)
    refine (WriteInt32_calls i32 hi32 _).mono ?_
    rintro e w5 ⟨v5, rfl, o5, x5⟩
    obtain ⟨a5, n5, c5, rfl⟩ := o5.shape
    have O5 := Lib.hid o5
    have X5 := Lib.hid (X4.out.trans x5)
    clear o5 x5 X4
    obtain ⟨m, hm1, hm2⟩ := readS_back32 i32 hi32.1 hi32.2
    have hm3 : wrap32 m = i32 := by unfold wrap32; omega
    go_wp2_with (go_at_call 20; refine Hid.out ?_)
    refine (ReadInt32_calls _ a5 n5 c5 (sleb i32) _ O5.out.slice (fun _ hk => hk.2) (by have := sleb_len64 i32 (by omega) (by omega); omega) m [] hm1).mono ?_
    rintro e w6 ⟨rfl, x6⟩
    rw [hm3]
    have X6 := Lib.hid (X5.out.trans x6)
    clear x6 O5 X5 hm1 hm2 hm3
    go_wp2_with (go_at_call 18; refine Hid.out ?_)
    refine (WriteInt64_calls i hi _).mono ?_
    rintro e w7 ⟨v7, rfl, o7, x7⟩
    obtain ⟨a7, n7, c7, rfl⟩ := o7.shape
    have O7 := Lib.hid o7
    have X7 := Lib.hid (X6.out.trans x7)
    clear o7 x7 X6
    go_wp2_with (go_at_call 23; refine Hid.out ?_)
    refine (ReadInt64_calls _ a7 n7 c7 (sleb i) _ O7.out.slice (fun _ hk => hk.2) (by have := sleb_len64 i hi.1 hi.2; omega) i [] (readS_back64 i hlo hi.2)).mono ?_
    rintro e w8 ⟨rfl, x8⟩
    have X8 := Lib.hid (X7.out.trans x8)
    clear x8 O7 X7
    simp only [List.length_nil, Int.ofNat_zero]
    go_wp2
    go_ret
    exact ⟨rfl, X8.out⟩
end Go.Proofs.Ytlnobgkgdklhoaa
