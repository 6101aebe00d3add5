/- The thin package's four functions that write a number: the bytes are the shortest form. -/
import Derived.Test.YtlnobgkgdklhoaaSink
namespace Go.Proofs.Ytlnobgkgdklhoaa
open Go.RowKit

set_option maxRecDepth 100000 in
set_option maxHeartbeats 400000 in
theorem WriteUint32_calls (n : Nat) (hn : n < 4294967296) (w : World) :
    Calls Try.prog 13 #[.int .u32 n] w fun e w' => ∃ v, e = .returned v ∧ OwnB w.heap.size w' v (uleb n) ∧ Ext w w' := by
  have hn := Lib.hid hn
  go_enter Try.func13, Try.ntmps13
  go_wp2_with (go_at_call 30; refine Hid.out ?_)
  refine (WriteVarUint32_calls sinkW w.heap.size w.heap.size n hn.out [] _ (isB_new _ w) (by simp) (by simp)).mono ?_
  rintro e w1 ⟨rfl, hW⟩
  rw [List.nil_append] at hW
  obtain ⟨v, hc, ho, hx⟩ := wrote_new hW
  obtain ⟨aa, m, c, e1⟩ := ho.shape
  subst e1
  have H := Lib.hid (And.intro ho hx)
  clear hW ho hx
  go_wp2
  go_ret
  exact ⟨_, rfl, H.out.1, H.out.2⟩

set_option maxRecDepth 100000 in
set_option maxHeartbeats 400000 in
theorem WriteUint64_calls (n : Nat) (hn : n < 18446744073709551616) (w : World) :
    Calls Try.prog 15 #[.int .u64 n] w fun e w' => ∃ v, e = .returned v ∧ OwnB w.heap.size w' v (uleb n) ∧ Ext w w' := by
  have hn := Lib.hid hn
  go_enter Try.func15, Try.ntmps15
  go_wp2_with (go_at_call 31; refine Hid.out ?_)
  refine (WriteVarUint64_calls sinkW w.heap.size w.heap.size n hn.out [] _ (isB_new _ w) (by simp) (by simp)).mono ?_
  rintro e w1 ⟨rfl, hW⟩
  rw [List.nil_append] at hW
  obtain ⟨v, hc, ho, hx⟩ := wrote_new hW
  obtain ⟨aa, m, c, e1⟩ := ho.shape
  subst e1
  have H := Lib.hid (And.intro ho hx)
  clear hW ho hx
  go_wp2
  go_ret
  exact ⟨_, rfl, H.out.1, H.out.2⟩

set_option maxRecDepth 100000 in
set_option maxHeartbeats 400000 in
theorem WriteInt32_calls (n : Int) (hn : -2147483648 ≤ n ∧ n ≤ 2147483647) (w : World) :
    Calls Try.prog 16 #[.int .i32 n] w fun e w' => ∃ v, e = .returned v ∧ OwnB w.heap.size w' v (sleb n) ∧ Ext w w' := by
  have hn := Lib.hid hn
  go_enter Try.func16, Try.ntmps16
  go_wp2_with (go_at_call 32; refine Hid.out ?_)
  refine (WriteVarInt32_calls sinkW w.heap.size w.heap.size n hn.out [] _ (isB_new _ w) (by simp) (by simp)).mono ?_
  rintro e w1 ⟨rfl, hW⟩
  rw [List.nil_append] at hW
  obtain ⟨v, hc, ho, hx⟩ := wrote_new hW
  obtain ⟨aa, m, c, e1⟩ := ho.shape
  subst e1
  have H := Lib.hid (And.intro ho hx)
  clear hW ho hx
  go_wp2
  go_ret
  exact ⟨_, rfl, H.out.1, H.out.2⟩

set_option maxRecDepth 100000 in
set_option maxHeartbeats 400000 in
theorem WriteInt64_calls (n : Int) (hn : -9223372036854775808 ≤ n ∧ n ≤ 9223372036854775807) (w : World) :
    Calls Try.prog 18 #[.int .i64 n] w fun e w' => ∃ v, e = .returned v ∧ OwnB w.heap.size w' v (sleb n) ∧ Ext w w' := by
  have hn := Lib.hid hn
  go_enter Try.func18, Try.ntmps18
  go_wp2_with (go_at_call 33; refine Hid.out ?_)
  refine (WriteVarInt64_calls sinkW w.heap.size w.heap.size n hn.out [] _ (isB_new _ w) (by simp) (by simp)).mono ?_
  rintro e w1 ⟨rfl, hW⟩
  rw [List.nil_append] at hW
  obtain ⟨v, hc, ho, hx⟩ := wrote_new hW
  obtain ⟨aa, m, c, e1⟩ := ho.shape
  subst e1
  have H := Lib.hid (And.intro ho hx)
  clear hW ho hx
  go_wp2
  go_ret
  exact ⟨_, rfl, H.out.1, H.out.2⟩
end Go.Proofs.Ytlnobgkgdklhoaa
