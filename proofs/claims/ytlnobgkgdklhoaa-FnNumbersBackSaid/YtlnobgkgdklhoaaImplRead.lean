/- Numbers read: 32 bits; the thin package's readers. -/
import Derived.Test.YtlnobgkgdklhoaaReadNum
namespace Go.Proofs.Ytlnobgkgdklhoaa
open Go.RowKit
set_option maxRecDepth 100000 in
set_option maxHeartbeats 400000 in
theorem ReadVarUint32_calls (S : Src) (D : Nat → Prop) (g : Nat) (bs : List UInt8) (w : World) (hS : S.is D g bs w) (hl : bs.length ≤ 140737488355328) (n : Nat) (rest : List UInt8) (hr : readU 0 0 bs = some (n, rest)) :
    Calls Try.prog 37 #[.iface S.T (.pointer (some ⟨g, 0, none⟩))] w fun e w' => e = .returned (.tuple #[.int .u32 (((n % 4294967296 : Nat) : Int)), .nilIface]) ∧ S.is D g rest w' ∧ Fr (fun k => k = g) w w' := by
  have H := Lib.hid (And.intro hS (And.intro hl hr))
  have hw := (show IntKind.u32.wrap (n : Int) = ((n % 4294967296 : Nat) : Int) from by rw [IntKind.wrap_u32]; omega)
  clear hS hl hr
  go_enter Try.func37, Try.ntmps37
  go_wp2_with (go_at_call 38; refine Hid.out ?_)
  refine (ReadVarUint64_calls S D g bs w H.out.1 H.out.2.1 n rest H.out.2.2).mono ?_
  rintro e w1 ⟨rfl, h1, h2⟩
  have H1 := Lib.hid (And.intro h1 h2)
  clear h1 h2
  go_wp2
  go_ret2
  exact ⟨rfl, H1.out.1, H1.out.2⟩
set_option maxRecDepth 100000 in
set_option maxHeartbeats 400000 in
theorem ReadVarInt32_calls (S : Src) (D : Nat → Prop) (g : Nat) (bs : List UInt8) (w : World) (hS : S.is D g bs w) (hl : bs.length ≤ 140737488355328) (n : Int) (rest : List UInt8) (hr : readS 0 0 bs = some (n, rest)) :
    Calls Try.prog 34 #[.iface S.T (.pointer (some ⟨g, 0, none⟩))] w fun e w' => e = .returned (.tuple #[.int .i32 (wrap32 n), .nilIface]) ∧ S.is D g rest w' ∧ Fr (fun k => k = g) w w' := by
  have H := Lib.hid (And.intro hS (And.intro hl hr))
  clear hS hl hr
  go_enter Try.func34, Try.ntmps34
  go_wp2_with (go_at_call 36; refine Hid.out ?_)
  refine (ReadVarInt64_calls S D g bs w H.out.1 H.out.2.1 n rest H.out.2.2).mono ?_
  rintro e w1 ⟨rfl, h1, h2⟩
  have H1 := Lib.hid (And.intro h1 h2)
  clear h1 h2
  go_wp2
  go_ret2
  exact ⟨rfl, H1.out.1, H1.out.2⟩
theorem isR_new {A : Nat → Prop} {w : World} {bs : List UInt8} {aa : Option Addr} {cap : Nat} (hR : Lay.u8.slice.rd A w [.slice aa bs.length cap] bs) (hA : ∀ k, A k → k < w.heap.size) (hl : bs.length ≤ 140737488355328) :
    IsR A w.heap.size bs (w.alloc (.cells #[.slice aa bs.length cap, .slice none 0 0, .int .i64 0] 75)) :=
  ⟨aa, cap, none, 0, 0, 0, [], blk_new w _ _, Lay.fr hR (ext_alloc w _) (fun k hk => ⟨hA k hk, fun h => h⟩), ⟨none, 0, rfl, Nat.le_refl _, by decide, fun h => absurd h (by simp)⟩, by omega, fun k hk => ⟨by have := hA k hk; simp; omega, by have := hA k hk; omega⟩⟩
set_option maxRecDepth 100000 in
set_option maxHeartbeats 400000 in
theorem ReadUint32_calls (A : Nat → Prop) (aa : Option Addr) (m cap : Nat) (bs : List UInt8) (w : World) (hR : Lay.u8.slice.rd A w [.slice aa m cap] bs) (hA : ∀ k, A k → k < w.heap.size) (hl : bs.length ≤ 140737488355328) (n : Nat) (rest : List UInt8) (hr : readU 0 0 bs = some (n, rest)) :
    Calls Try.prog 25 #[.slice aa m cap] w fun e w' => e = .returned (.tuple #[.int .u32 (((n % 4294967296 : Nat) : Int)), .int .i64 rest.length, .bool true]) ∧ Ext w w' := by
  obtain rfl : m = bs.length := by obtain ⟨_, _, e, _⟩ := hR; simp only [List.cons.injEq, Value.slice.injEq, and_true] at e; exact e.2.1
  have H := Lib.hid (And.intro (isR_new hR hA hl) (And.intro hl hr))
  clear hR hA hl hr
  go_enter Try.func25, Try.ntmps25
  go_wp2_with (go_at_call 37; refine Hid.out ?_)
  refine (ReadVarUint32_calls srcR A w.heap.size bs _ H.out.1 H.out.2.1 n rest H.out.2.2).mono ?_
  rintro e w1 ⟨rfl, h1, h2⟩
  have hX : Hid (Ext w w1) := ((ext_alloc w _).fr h2).mono (fun k hk (e : k = w.heap.size) => absurd hk (by omega))
  obtain ⟨ra, rc, pp, pn, pc, at', ps, hb, -, -, -, -⟩ := h1
  have hc := hb.cell
  clear h2 hb
  go_wp2_with fail
  go_quiet (fail)
  go_wp2
  go_ret3
  exact ⟨rfl, hX.out.drewN _⟩
set_option maxRecDepth 100000 in
set_option maxHeartbeats 400000 in
theorem ReadUint64_calls (A : Nat → Prop) (aa : Option Addr) (m cap : Nat) (bs : List UInt8) (w : World) (hR : Lay.u8.slice.rd A w [.slice aa m cap] bs) (hA : ∀ k, A k → k < w.heap.size) (hl : bs.length ≤ 140737488355328) (n : Nat) (rest : List UInt8) (hr : readU 0 0 bs = some (n, rest)) :
    Calls Try.prog 26 #[.slice aa m cap] w fun e w' => e = .returned (.tuple #[.int .u64 ((n : Int)), .int .i64 rest.length, .bool true]) ∧ Ext w w' := by
  obtain rfl : m = bs.length := by obtain ⟨_, _, e, _⟩ := hR; simp only [List.cons.injEq, Value.slice.injEq, and_true] at e; exact e.2.1
  have H := Lib.hid (And.intro (isR_new hR hA hl) (And.intro hl hr))
  clear hR hA hl hr
  go_enter Try.func26, Try.ntmps26
  go_wp2_with (go_at_call 38; refine Hid.out ?_)
  refine (ReadVarUint64_calls srcR A w.heap.size bs _ H.out.1 H.out.2.1 n rest H.out.2.2).mono ?_
  rintro e w1 ⟨rfl, h1, h2⟩
  have hX : Hid (Ext w w1) := ((ext_alloc w _).fr h2).mono (fun k hk (e : k = w.heap.size) => absurd hk (by omega))
  obtain ⟨ra, rc, pp, pn, pc, at', ps, hb, -, -, -, -⟩ := h1
  have hc := hb.cell
  clear h2 hb
  go_wp2_with fail
  go_quiet (fail)
  go_wp2
  go_ret3
  exact ⟨rfl, hX.out.drewN _⟩
set_option maxRecDepth 100000 in
set_option maxHeartbeats 400000 in
theorem ReadInt32_calls (A : Nat → Prop) (aa : Option Addr) (m cap : Nat) (bs : List UInt8) (w : World) (hR : Lay.u8.slice.rd A w [.slice aa m cap] bs) (hA : ∀ k, A k → k < w.heap.size) (hl : bs.length ≤ 140737488355328) (n : Int) (rest : List UInt8) (hr : readS 0 0 bs = some (n, rest)) :
    Calls Try.prog 20 #[.slice aa m cap] w fun e w' => e = .returned (.tuple #[.int .i32 (wrap32 n), .int .i64 rest.length, .bool true]) ∧ Ext w w' := by
  obtain rfl : m = bs.length := by obtain ⟨_, _, e, _⟩ := hR; simp only [List.cons.injEq, Value.slice.injEq, and_true] at e; exact e.2.1
  have H := Lib.hid (And.intro (isR_new hR hA hl) (And.intro hl hr))
  clear hR hA hl hr
  go_enter Try.func20, Try.ntmps20
  go_wp2_with (go_at_call 34; refine Hid.out ?_)
  refine (ReadVarInt32_calls srcR A w.heap.size bs _ H.out.1 H.out.2.1 n rest H.out.2.2).mono ?_
  rintro e w1 ⟨rfl, h1, h2⟩
  have hX : Hid (Ext w w1) := ((ext_alloc w _).fr h2).mono (fun k hk (e : k = w.heap.size) => absurd hk (by omega))
  obtain ⟨ra, rc, pp, pn, pc, at', ps, hb, -, -, -, -⟩ := h1
  have hc := hb.cell
  clear h2 hb
  go_wp2_with fail
  go_quiet (fail)
  go_wp2
  go_ret3
  exact ⟨rfl, hX.out.drewN _⟩
set_option maxRecDepth 100000 in
set_option maxHeartbeats 400000 in
theorem ReadInt64_calls (A : Nat → Prop) (aa : Option Addr) (m cap : Nat) (bs : List UInt8) (w : World) (hR : Lay.u8.slice.rd A w [.slice aa m cap] bs) (hA : ∀ k, A k → k < w.heap.size) (hl : bs.length ≤ 140737488355328) (n : Int) (rest : List UInt8) (hr : readS 0 0 bs = some (n, rest)) :
    Calls Try.prog 23 #[.slice aa m cap] w fun e w' => e = .returned (.tuple #[.int .i64 (n), .int .i64 rest.length, .bool true]) ∧ Ext w w' := by
  obtain rfl : m = bs.length := by obtain ⟨_, _, e, _⟩ := hR; simp only [List.cons.injEq, Value.slice.injEq, and_true] at e; exact e.2.1
  have H := Lib.hid (And.intro (isR_new hR hA hl) (And.intro hl hr))
  clear hR hA hl hr
  go_enter Try.func23, Try.ntmps23
  go_wp2_with (go_at_call 36; refine Hid.out ?_)
  refine (ReadVarInt64_calls srcR A w.heap.size bs _ H.out.1 H.out.2.1 n rest H.out.2.2).mono ?_
  rintro e w1 ⟨rfl, h1, h2⟩
  have hX : Hid (Ext w w1) := ((ext_alloc w _).fr h2).mono (fun k hk (e : k = w.heap.size) => absurd hk (by omega))
  obtain ⟨ra, rc, pp, pn, pc, at', ps, hb, -, -, -, -⟩ := h1
  have hc := hb.cell
  clear h2 hb
  go_wp2_with fail
  go_quiet (fail)
  go_wp2
  go_ret3
  exact ⟨rfl, hX.out.drewN _⟩
end Go.Proofs.Ytlnobgkgdklhoaa
