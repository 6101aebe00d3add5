/- spec.bitsBytes, argBytes, instrsBytes, CodeBytes. -/
import Derived.Test.YtbdahjpdjamgiaaGreatDoorPart26
import Derived.Test.YtbdahjpdjamgiaaGreatDoorPart4
import Derived.Test.YtbdahjpdjamgiaaGreatDoorPart5
namespace Go.Proofs.YtbdahjpdjamgiaaGreatDoor
open Go.RowKit
theorem lowBytes_step {i v : Nat} {x : Int} (hi : i < 8) (hx : x = (((v / 256 ^ i) % 256 : Nat) : Int)) : lowBytes (i + 1) v = lowBytes i v ++ [UInt8.ofNat x.toNat] ∧ x = ((UInt8.ofNat x.toNat).toNat : Int) := by
  have h8 : i = 0 ∨ i = 1 ∨ i = 2 ∨ i = 3 ∨ i = 4 ∨ i = 5 ∨ i = 6 ∨ i = 7 := by omega
  refine ⟨?_, by rw [UInt8.toNat_ofNat']; omega⟩
  subst hx
  rw [Int.toNat_natCast]
  rcases h8 with rfl | rfl | rfl | rfl | rfl | rfl | rfl | rfl <;> simp [lowBytes, Nat.div_div_eq_div_mul]
set_option maxRecDepth 100000 in
set_option maxHeartbeats 2000000 in
theorem bitsBytes_calls (v n : Nat) (hv : v < 18446744073709551616) (hn : n ≤ 8) (w : World) :
    Calls Tryz.prog 55 #[.int .u64 v, .int .i64 n] w fun e w' => ∃ r, e = .returned r ∧ OwnB w.heap.size w' r (lowBytes n v) ∧ Ext w w' := by
  have hn' : (n : Int) ≤ 8 := by omega
  have hn := Lib.hid hn
  go_enter Tryz.func55, Tryz.ntmps55
  go_wp2_with fail
  go_loopw [5, 8] (fun s5 s8 w' => ∃ (i : Nat), i ≤ n ∧ s8 = .int .i64 i ∧ Hid (OwnB w.heap.size w' s5 (lowBytes i v)) ∧ Hid (Ext w w')) (fun _ s8 _ => n - (intOf s8).toNat)
  case atStart => exact ⟨0, Nat.zero_le _, rfl, own_nil _ _ _ _, Fr.refl _ _⟩
  case round =>
    obtain ⟨i, hi, rfl, hO, hX⟩ := hrel
    by_cases hlt : i < n
    · have h8 : i = 0 ∨ i = 1 ∨ i = 2 ∨ i = 3 ∨ i = 4 ∨ i = 5 ∨ i = 6 ∨ i = 7 := by have := hn.out; omega
      rcases h8 with rfl | rfl | rfl | rfl | rfl | rfl | rfl | rfl
      · obtain ⟨x, hx⟩ : ∃ x : Int, (v : Int) % 256 = x := ⟨_, rfl⟩
        obtain ⟨hs1, hs2⟩ := lowBytes_step (i := 0) (v := v) (x := x) (by decide) (by rw [← hx]; omega)
        have HS := Lib.hid (And.intro hs1 hs2)
        clear hs1 hs2
        go_wp2_with (at_builtin; refine Hid.out ?_)
        try rw [hx]
        refine own_append1 Lay.u8 w.heap.size rfl (.tmp 11) (.tmp 17) _ _ (.int .u8 0) 1 rfl Tryz.underlying43 infoB rfl (by omega) (by decide) u5 (lowBytes 0 v) (UInt8.ofNat x.toNat) _ rfl rfl hO.out (congrArg (fun t => [Value.int .u8 t]) HS.out.2) hX.out.size (by simp [lowBytes]) ?_
        intro v1 w1 h1 h2 h3
        have hO1 : Hid (OwnB w.heap.size w1 v1 (lowBytes 1 v)) := by show Own _ _ _ _ _ _; rw [HS.out.1]; exact h1
        have hX1 : Hid (Ext w w1) := Fr.new (Ext.fr hX.out h2) (fun k e => (hO.out.lt k e.symm).1)
        clear h1 h2 h3 hx
        go_wp2
        go_roundw
        case rel => exact ⟨1, by omega, rfl, hO1, hX1⟩
        case measure => simp [intOf]; omega
      · obtain ⟨x, hx⟩ : ∃ x : Int, (v : Int) / 256 % 256 = x := ⟨_, rfl⟩
        obtain ⟨hs1, hs2⟩ := lowBytes_step (i := 1) (v := v) (x := x) (by decide) (by rw [← hx]; omega)
        have HS := Lib.hid (And.intro hs1 hs2)
        clear hs1 hs2
        go_wp2_with (at_builtin; refine Hid.out ?_)
        try rw [hx]
        refine own_append1 Lay.u8 w.heap.size rfl (.tmp 11) (.tmp 17) _ _ (.int .u8 0) 1 rfl Tryz.underlying43 infoB rfl (by omega) (by decide) u5 (lowBytes 1 v) (UInt8.ofNat x.toNat) _ rfl rfl hO.out (congrArg (fun t => [Value.int .u8 t]) HS.out.2) hX.out.size (by simp [lowBytes]) ?_
        intro v1 w1 h1 h2 h3
        have hO1 : Hid (OwnB w.heap.size w1 v1 (lowBytes 2 v)) := by show Own _ _ _ _ _ _; rw [HS.out.1]; exact h1
        have hX1 : Hid (Ext w w1) := Fr.new (Ext.fr hX.out h2) (fun k e => (hO.out.lt k e.symm).1)
        clear h1 h2 h3 hx
        go_wp2
        go_roundw
        case rel => exact ⟨2, by omega, rfl, hO1, hX1⟩
        case measure => simp [intOf]; omega
      · obtain ⟨x, hx⟩ : ∃ x : Int, (v : Int) / 65536 % 256 = x := ⟨_, rfl⟩
        obtain ⟨hs1, hs2⟩ := lowBytes_step (i := 2) (v := v) (x := x) (by decide) (by rw [← hx]; omega)
        have HS := Lib.hid (And.intro hs1 hs2)
        clear hs1 hs2
        go_wp2_with (at_builtin; refine Hid.out ?_)
        try rw [hx]
        refine own_append1 Lay.u8 w.heap.size rfl (.tmp 11) (.tmp 17) _ _ (.int .u8 0) 1 rfl Tryz.underlying43 infoB rfl (by omega) (by decide) u5 (lowBytes 2 v) (UInt8.ofNat x.toNat) _ rfl rfl hO.out (congrArg (fun t => [Value.int .u8 t]) HS.out.2) hX.out.size (by simp [lowBytes]) ?_
        intro v1 w1 h1 h2 h3
        have hO1 : Hid (OwnB w.heap.size w1 v1 (lowBytes 3 v)) := by show Own _ _ _ _ _ _; rw [HS.out.1]; exact h1
        have hX1 : Hid (Ext w w1) := Fr.new (Ext.fr hX.out h2) (fun k e => (hO.out.lt k e.symm).1)
        clear h1 h2 h3 hx
        go_wp2
        go_roundw
        case rel => exact ⟨3, by omega, rfl, hO1, hX1⟩
        case measure => simp [intOf]; omega
      · obtain ⟨x, hx⟩ : ∃ x : Int, (v : Int) / 16777216 % 256 = x := ⟨_, rfl⟩
        obtain ⟨hs1, hs2⟩ := lowBytes_step (i := 3) (v := v) (x := x) (by decide) (by rw [← hx]; omega)
        have HS := Lib.hid (And.intro hs1 hs2)
        clear hs1 hs2
        go_wp2_with (at_builtin; refine Hid.out ?_)
        try rw [hx]
        refine own_append1 Lay.u8 w.heap.size rfl (.tmp 11) (.tmp 17) _ _ (.int .u8 0) 1 rfl Tryz.underlying43 infoB rfl (by omega) (by decide) u5 (lowBytes 3 v) (UInt8.ofNat x.toNat) _ rfl rfl hO.out (congrArg (fun t => [Value.int .u8 t]) HS.out.2) hX.out.size (by simp [lowBytes]) ?_
        intro v1 w1 h1 h2 h3
        have hO1 : Hid (OwnB w.heap.size w1 v1 (lowBytes 4 v)) := by show Own _ _ _ _ _ _; rw [HS.out.1]; exact h1
        have hX1 : Hid (Ext w w1) := Fr.new (Ext.fr hX.out h2) (fun k e => (hO.out.lt k e.symm).1)
        clear h1 h2 h3 hx
        go_wp2
        go_roundw
        case rel => exact ⟨4, by omega, rfl, hO1, hX1⟩
        case measure => simp [intOf]; omega
      · obtain ⟨x, hx⟩ : ∃ x : Int, (v : Int) / 4294967296 % 256 = x := ⟨_, rfl⟩
        obtain ⟨hs1, hs2⟩ := lowBytes_step (i := 4) (v := v) (x := x) (by decide) (by rw [← hx]; omega)
        have HS := Lib.hid (And.intro hs1 hs2)
        clear hs1 hs2
        go_wp2_with (at_builtin; refine Hid.out ?_)
        try rw [hx]
        refine own_append1 Lay.u8 w.heap.size rfl (.tmp 11) (.tmp 17) _ _ (.int .u8 0) 1 rfl Tryz.underlying43 infoB rfl (by omega) (by decide) u5 (lowBytes 4 v) (UInt8.ofNat x.toNat) _ rfl rfl hO.out (congrArg (fun t => [Value.int .u8 t]) HS.out.2) hX.out.size (by simp [lowBytes]) ?_
        intro v1 w1 h1 h2 h3
        have hO1 : Hid (OwnB w.heap.size w1 v1 (lowBytes 5 v)) := by show Own _ _ _ _ _ _; rw [HS.out.1]; exact h1
        have hX1 : Hid (Ext w w1) := Fr.new (Ext.fr hX.out h2) (fun k e => (hO.out.lt k e.symm).1)
        clear h1 h2 h3 hx
        go_wp2
        go_roundw
        case rel => exact ⟨5, by omega, rfl, hO1, hX1⟩
        case measure => simp [intOf]; omega
      · obtain ⟨x, hx⟩ : ∃ x : Int, (v : Int) / 1099511627776 % 256 = x := ⟨_, rfl⟩
        obtain ⟨hs1, hs2⟩ := lowBytes_step (i := 5) (v := v) (x := x) (by decide) (by rw [← hx]; omega)
        have HS := Lib.hid (And.intro hs1 hs2)
        clear hs1 hs2
        go_wp2_with (at_builtin; refine Hid.out ?_)
        try rw [hx]
        refine own_append1 Lay.u8 w.heap.size rfl (.tmp 11) (.tmp 17) _ _ (.int .u8 0) 1 rfl Tryz.underlying43 infoB rfl (by omega) (by decide) u5 (lowBytes 5 v) (UInt8.ofNat x.toNat) _ rfl rfl hO.out (congrArg (fun t => [Value.int .u8 t]) HS.out.2) hX.out.size (by simp [lowBytes]) ?_
        intro v1 w1 h1 h2 h3
        have hO1 : Hid (OwnB w.heap.size w1 v1 (lowBytes 6 v)) := by show Own _ _ _ _ _ _; rw [HS.out.1]; exact h1
        have hX1 : Hid (Ext w w1) := Fr.new (Ext.fr hX.out h2) (fun k e => (hO.out.lt k e.symm).1)
        clear h1 h2 h3 hx
        go_wp2
        go_roundw
        case rel => exact ⟨6, by omega, rfl, hO1, hX1⟩
        case measure => simp [intOf]; omega
      · obtain ⟨x, hx⟩ : ∃ x : Int, (v : Int) / 281474976710656 % 256 = x := ⟨_, rfl⟩
        obtain ⟨hs1, hs2⟩ := lowBytes_step (i := 6) (v := v) (x := x) (by decide) (by rw [← hx]; omega)
        have HS := Lib.hid (And.intro hs1 hs2)
        clear hs1 hs2
        go_wp2_with (at_builtin; refine Hid.out ?_)
        try rw [hx]
        refine own_append1 Lay.u8 w.heap.size rfl (.tmp 11) (.tmp 17) _ _ (.int .u8 0) 1 rfl Tryz.underlying43 infoB rfl (by omega) (by decide) u5 (lowBytes 6 v) (UInt8.ofNat x.toNat) _ rfl rfl hO.out (congrArg (fun t => [Value.int .u8 t]) HS.out.2) hX.out.size (by simp [lowBytes]) ?_
        intro v1 w1 h1 h2 h3
        have hO1 : Hid (OwnB w.heap.size w1 v1 (lowBytes 7 v)) := by show Own _ _ _ _ _ _; rw [HS.out.1]; exact h1
        have hX1 : Hid (Ext w w1) := Fr.new (Ext.fr hX.out h2) (fun k e => (hO.out.lt k e.symm).1)
        clear h1 h2 h3 hx
        go_wp2
        go_roundw
        case rel => exact ⟨7, by omega, rfl, hO1, hX1⟩
        case measure => simp [intOf]; omega
      · obtain ⟨x, hx⟩ : ∃ x : Int, (v : Int) / 72057594037927936 = x := ⟨_, rfl⟩
        obtain ⟨hs1, hs2⟩ := lowBytes_step (i := 7) (v := v) (x := x) (by decide) (by rw [← hx]; omega)
        have HS := Lib.hid (And.intro hs1 hs2)
        clear hs1 hs2
        go_wp2_with (at_builtin; refine Hid.out ?_)
        try rw [hx]
        refine own_append1 Lay.u8 w.heap.size rfl (.tmp 11) (.tmp 17) _ _ (.int .u8 0) 1 rfl Tryz.underlying43 infoB rfl (by omega) (by decide) u5 (lowBytes 7 v) (UInt8.ofNat x.toNat) _ rfl rfl hO.out (congrArg (fun t => [Value.int .u8 t]) HS.out.2) hX.out.size (by simp [lowBytes]) ?_
        intro v1 w1 h1 h2 h3
        have hO1 : Hid (OwnB w.heap.size w1 v1 (lowBytes 8 v)) := by show Own _ _ _ _ _ _; rw [HS.out.1]; exact h1
        have hX1 : Hid (Ext w w1) := Fr.new (Ext.fr hX.out h2) (fun k e => (hO.out.lt k e.symm).1)
        clear h1 h2 h3 hx
        go_wp2
        go_roundw
        case rel => exact ⟨8, by omega, rfl, hO1, hX1⟩
        case measure => simp [intOf]; omega
    · obtain rfl : i = n := by omega
      go_wp2
      go_ret
      exact ⟨_, rfl, hO.out, hX.out⟩
/-- A literal of one element. -/
theorem own_blk1 {α : Type} (l : Lay α) {e : TypeId} {lo h : Nat} {w : World} {u : Value} {x : α} (hs : l.size = 1) (hb : Blk w h #[u] e) (hx : l.rd (fun _ => False) w [u] x) (hl : lo ≤ h) : Own l e lo w (.slice (some ⟨h, 0, none⟩) 1 1) [x] := by
  refine ⟨[u], ⟨by simp [hs], .inr ⟨h, 1, #[u], rfl, hl, hb, Nat.le_refl _, by decide, by simp [hs], by simp [hs]⟩⟩, Lay.all_single (l.mono hx (fun _ h => h.elim))⟩
set_option maxRecDepth 100000 in
set_option maxHeartbeats 1000000 in
theorem argBytes_calls (k : Int) (b : UInt64) (w : World) : Calls Tryz.prog 34 #[.agg #[.int .i64 k, .int .u64 (b.toNat : Int)]] w fun e w' => ∃ r, e = .returned r ∧ OwnB w.heap.size w' r (argBytes (k, b)) ∧ Ext w w' := by
  have hb := b.toNat_lt
  by_cases h : k = 0 ∨ k = 1 ∨ k = 2 ∨ k = 3 ∨ k = 4 ∨ k = 5
  · rcases h with rfl | rfl | rfl | rfl | rfl | rfl
    · have hae := Lib.hid (show argBytes (0, b) = sleb (wrap32 (b.toNat : Int)) from by rw [show argBytes (0, b) = _ from argBytes_kind 0 (by decide) b]; simp [bytesOfKind])
      generalize argBytes (0, b) = r at *
      generalize b.toNat = mb at *
      obtain ⟨q, hq, hq2⟩ : ∃ q : Int, wrap32 (mb : Int) = q ∧ (-2147483648 ≤ q ∧ q ≤ 2147483647) := ⟨_, rfl, by unfold wrap32; omega⟩
      rw [hq] at hae
      go_enter Tryz.func34, Tryz.ntmps34
      go_wp2_with fail
      refine (specAppendSigned_calls q (by omega) w.heap.size (.slice none 0 0) [] _ (own_nil _ _ _ _) (by simp) (by simp)).mono ?_
      rintro e w1 ⟨v1, rfl, h1, h2, -⟩
      rw [List.nil_append] at h1
      obtain ⟨d1, d2, d3, rfl⟩ := h1.shape
      have HR := Lib.hid (And.intro h1 (Ext.trans (ext_alloc _ _) (h2.mono (fun _ _ h => by simp [Value.ownBlock] at h))))
      clear h1 h2
      go_wp2
      go_ret
      exact ⟨_, rfl, by rw [hae.out]; exact HR.out.1, HR.out.2⟩
    · have hae := Lib.hid (show argBytes (1, b) = sleb (wrap64 (b.toNat : Int)) from by rw [show argBytes (1, b) = _ from argBytes_kind 1 (by decide) b]; simp [bytesOfKind])
      generalize argBytes (1, b) = r at *
      generalize b.toNat = mb at *
      go_enter Tryz.func34, Tryz.ntmps34
      go_wp2_with fail
      refine (specAppendSigned_calls (wrap64 (mb : Int)) (by unfold wrap64; omega) w.heap.size (.slice none 0 0) [] _ (own_nil _ _ _ _) (by simp) (by simp)).mono ?_
      rintro e w1 ⟨v1, rfl, h1, h2, -⟩
      rw [List.nil_append] at h1
      obtain ⟨d1, d2, d3, rfl⟩ := h1.shape
      have HR := Lib.hid (And.intro h1 (Ext.trans (ext_alloc _ _) (h2.mono (fun _ _ h => by simp [Value.ownBlock] at h))))
      clear h1 h2
      go_wp2
      go_ret
      exact ⟨_, rfl, by rw [hae.out]; exact HR.out.1, HR.out.2⟩
    · have hae := Lib.hid (show argBytes (2, b) = uleb (b.toNat % 4294967296) from by rw [show argBytes (2, b) = _ from argBytes_kind 2 (by decide) b]; simp [bytesOfKind])
      generalize argBytes (2, b) = r at *
      generalize b.toNat = mb at *
      obtain ⟨m32, hm32, hm32'⟩ : ∃ m32 : Nat, (mb : Int) % 4294967296 = (m32 : Int) ∧ mb % 4294967296 = m32 := ⟨mb % 4294967296, by omega, rfl⟩
      have hm := Lib.hid (show m32 < 18446744073709551616 by omega)
      have hm32' := Lib.hid hm32'
      go_enter Tryz.func34, Tryz.ntmps34
      go_wp2_with fail
      refine (specAppendUnsigned_calls m32 hm.out w.heap.size (.slice none 0 0) [] _ (own_nil _ _ _ _) (by simp) (by simp)).mono ?_
      rintro e w1 ⟨v1, rfl, h1, h2, -⟩
      rw [List.nil_append] at h1
      obtain ⟨d1, d2, d3, rfl⟩ := h1.shape
      have HR := Lib.hid (And.intro h1 (Ext.trans (ext_alloc _ _) (h2.mono (fun _ _ h => by simp [Value.ownBlock] at h))))
      clear h1 h2
      go_wp2
      go_ret
      exact ⟨_, rfl, by rw [hae.out, hm32'.out]; exact HR.out.1, HR.out.2⟩
    · have hae := Lib.hid (show argBytes (3, b) = lowBytes 4 b.toNat from by rw [show argBytes (3, b) = _ from argBytes_kind 3 (by decide) b]; simp [bytesOfKind])
      have hb := Lib.hid hb
      generalize argBytes (3, b) = r at *
      generalize b.toNat = mb at *
      go_enter Tryz.func34, Tryz.ntmps34
      go_wp2_with fail
      refine (bitsBytes_calls mb 4 hb.out (by decide) _).mono ?_
      rintro e w1 ⟨v1, rfl, h1, h2⟩
      obtain ⟨d1, d2, d3, rfl⟩ := h1.shape
      have HR := Lib.hid (And.intro (h1.lower (lo' := w.heap.size) (by simp)) (Ext.trans (ext_alloc _ _) h2))
      clear h1 h2
      go_wp2
      go_ret
      exact ⟨_, rfl, by rw [hae.out]; exact HR.out.1, HR.out.2⟩
    · have hae := Lib.hid (show argBytes (4, b) = lowBytes 8 b.toNat from by rw [show argBytes (4, b) = _ from argBytes_kind 4 (by decide) b]; simp [bytesOfKind])
      have hb := Lib.hid hb
      generalize argBytes (4, b) = r at *
      generalize b.toNat = mb at *
      go_enter Tryz.func34, Tryz.ntmps34
      go_wp2_with fail
      refine (bitsBytes_calls mb 8 hb.out (by decide) _).mono ?_
      rintro e w1 ⟨v1, rfl, h1, h2⟩
      obtain ⟨d1, d2, d3, rfl⟩ := h1.shape
      have HR := Lib.hid (And.intro (h1.lower (lo' := w.heap.size) (by simp)) (Ext.trans (ext_alloc _ _) h2))
      clear h1 h2
      go_wp2
      go_ret
      exact ⟨_, rfl, by rw [hae.out]; exact HR.out.1, HR.out.2⟩
    · have hae := Lib.hid (show argBytes (5, b) = [UInt8.ofNat (b.toNat % 256)] from by rw [show argBytes (5, b) = _ from argBytes_kind 5 (by decide) b]; simp [bytesOfKind])
      generalize argBytes (5, b) = r at *
      generalize b.toNat = mb at *
      obtain ⟨m8, hm8, hm8'⟩ : ∃ m8 : Nat, (mb : Int) % 256 = (m8 : Int) ∧ mb % 256 = m8 := ⟨mb % 256, by omega, rfl⟩
      have hm8' := Lib.hid hm8'
      go_enter Tryz.func34, Tryz.ntmps34
      go_wp2
      go_ret
      refine ⟨_, rfl, ?_, Ext.trans (ext_alloc _ _) (ext_alloc _ _)⟩
      rw [hae.out, hm8'.out]
      exact own_blk1 Lay.u8 rfl (by have := blk_new (w.alloc (.cells #[.int .i64 5, .int .u64 mb] 142)) #[.int .u8 m8] 5; simpa using this) (congrArg (fun v => [v]) (ofNat_cell m8 (by have := hm8'.out; omega)).symm) (by omega)
  · have hae := Lib.hid (show argBytes (k, b) = uleb b.toNat from by rw [argBytes_rest k h b]; simp [bytesOfKind])
    have hb := Lib.hid hb
    simp only [not_or] at h
    obtain ⟨h0, h1, h2, h3, h4, h5⟩ := h
    simp only [← beq_eq_false_iff_ne] at h0 h1 h2 h3 h4 h5
    generalize argBytes (k, b) = r at *
    generalize b.toNat = mb at *
    go_enter Tryz.func34, Tryz.ntmps34
    go_wp2_with fail
    refine (specAppendUnsigned_calls mb hb.out w.heap.size (.slice none 0 0) [] _ (own_nil _ _ _ _) (by simp) (by simp)).mono ?_
    rintro e w1 ⟨v1, rfl, h1, h2, -⟩
    rw [List.nil_append] at h1
    obtain ⟨d1, d2, d3, rfl⟩ := h1.shape
    have HR := Lib.hid (And.intro h1 (Ext.trans (ext_alloc _ _) (h2.mono (fun _ _ h => by simp [Value.ownBlock] at h))))
    clear h1 h2
    go_wp2
    go_ret
    exact ⟨_, rfl, by rw [hae.out]; exact HR.out.1, HR.out.2⟩
end Go.Proofs.YtbdahjpdjamgiaaGreatDoor
