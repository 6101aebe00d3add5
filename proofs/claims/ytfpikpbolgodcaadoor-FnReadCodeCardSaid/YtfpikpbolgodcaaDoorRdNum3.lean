/- Numbers of 32 bits, and those that panic. -/
import Derived.Test.YtfpikpbolgodcaaDoorReadNum2
import Derived.WalkSmall
namespace Go.Proofs.YtfpikpbolgodcaaDoor
open Go.RowKit
/-- The panic of an error. -/
abbrev eofP (pe : Addr) : List PanicEntry := [{ v := eofV pe, recovered := false }]
def MustPost {α : Type} (S : Rdr) (D F : Nat → Prop) (g : Nat) (pe : Addr) (w : World) (r : Option (α × List UInt8)) (f : α → Value) (e : Ending) (w' : World) : Prop :=
  (∃ n rest, r = some (n, rest) ∧ e = .returned (f n) ∧ RdS S D F g pe rest w' ∧ Fr F w w') ∨
    (r = none ∧ e = .panicked (eofP pe) ∧ RdS S D F g pe [] w' ∧ Fr F w w')
set_option maxRecDepth 100000 in
set_option maxHeartbeats 400000 in
theorem ReadVarUint32_rd (S : Rdr) (D F : Nat → Prop) (g : Nat) (pe : Addr) (bs : List UInt8) (w : World) (hS : RdS S D F g pe bs w) :
    Calls Tryd.prog 35 #[.iface S.T (.pointer (some ⟨g, 0, none⟩))] w fun e w' => NumPost S D F g pe w (readU 0 0 bs) (fun n => .int .u32 ((n % 4294967296 : Nat) : Int)) e w' := by
  have HC := Lib.hid (ReadVarUint64_rd S D F g pe bs w hS)
  clear hS
  go_enter Tryd.func35, Tryd.ntmps35
  go_wp2_with fail
  refine HC.out.mono ?_
  rintro e w1 (⟨n, rest, hr, rfl, h1, h2⟩ | ⟨hr, ⟨n, rfl⟩, h1, h2⟩)
  · have hw := (show IntKind.u32.wrap (n : Int) = ((n % 4294967296 : Nat) : Int) from by rw [IntKind.wrap_u32]; omega)
    have H1 := Lib.hid (And.intro hr (And.intro h1 h2))
    clear h1 h2 hr HC
    go_wp2
    go_ret2
    exact .inl ⟨_, _, H1.out.1, rfl, H1.out.2.1, H1.out.2.2⟩
  · have hw := (show IntKind.u32.wrap (n : Int) = ((n % 4294967296 : Nat) : Int) from by rw [IntKind.wrap_u32]; omega)
    have H1 := Lib.hid (And.intro hr (And.intro h1 h2))
    clear h1 h2 hr HC
    go_wp2
    go_ret2
    exact .inr ⟨H1.out.1, ⟨n, rfl⟩, H1.out.2.1, H1.out.2.2⟩
set_option maxRecDepth 100000 in
set_option maxHeartbeats 400000 in
theorem ReadVarInt32_rd (S : Rdr) (D F : Nat → Prop) (g : Nat) (pe : Addr) (bs : List UInt8) (w : World) (hS : RdS S D F g pe bs w) :
    Calls Tryd.prog 52 #[.iface S.T (.pointer (some ⟨g, 0, none⟩))] w fun e w' => NumPost S D F g pe w (readS 0 0 bs) (fun n => .int .i32 (wrap32 n)) e w' := by
  have HC := Lib.hid (ReadVarInt64_rd S D F g pe bs w hS)
  clear hS
  go_enter Tryd.func52, Tryd.ntmps52
  go_wp2_with fail
  refine HC.out.mono ?_
  rintro e w1 (⟨n, rest, hr, rfl, h1, h2⟩ | ⟨hr, ⟨n, rfl⟩, h1, h2⟩)
  · have H1 := Lib.hid (And.intro hr (And.intro h1 h2))
    clear h1 h2 hr HC
    go_wp2
    go_ret2
    exact .inl ⟨_, _, H1.out.1, rfl, H1.out.2.1, H1.out.2.2⟩
  · have H1 := Lib.hid (And.intro hr (And.intro h1 h2))
    clear h1 h2 hr HC
    go_wp2
    go_ret2
    exact .inr ⟨H1.out.1, ⟨n, rfl⟩, H1.out.2.1, H1.out.2.2⟩
set_option maxRecDepth 100000 in
set_option maxHeartbeats 400000 in
theorem MustReadVarUint32_rd (S : Rdr) (D F : Nat → Prop) (g : Nat) (pe : Addr) (bs : List UInt8) (w : World) (hS : RdS S D F g pe bs w) :
    Calls Tryd.prog 48 #[.iface S.T (.pointer (some ⟨g, 0, none⟩))] w fun e w' => MustPost S D F g pe w (readU 0 0 bs) (fun n => .int .u32 ((n % 4294967296 : Nat) : Int)) e w' := by
  have HC := Lib.hid (ReadVarUint32_rd S D F g pe bs w hS)
  clear hS
  go_enter Tryd.func48, Tryd.ntmps48
  go_wp2_with fail
  refine HC.out.mono ?_
  rintro e w1 (⟨n, rest, hr, rfl, h1, h2⟩ | ⟨hr, ⟨n, rfl⟩, h1, h2⟩)
  · have H1 := Lib.hid (And.intro hr (And.intro h1 h2))
    clear h1 h2 hr HC
    go_wp2
    go_ret
    exact .inl ⟨_, _, H1.out.1, rfl, H1.out.2.1, H1.out.2.2⟩
  · have H1 := Lib.hid (And.intro hr (And.intro h1 h2))
    clear h1 h2 hr HC
    go_wp2
    exact ⟨rfl, .inr ⟨H1.out.1, rfl, H1.out.2.1, H1.out.2.2⟩⟩
set_option maxRecDepth 100000 in
set_option maxHeartbeats 400000 in
theorem MustReadVarInt32_rd (S : Rdr) (D F : Nat → Prop) (g : Nat) (pe : Addr) (bs : List UInt8) (w : World) (hS : RdS S D F g pe bs w) :
    Calls Tryd.prog 46 #[.iface S.T (.pointer (some ⟨g, 0, none⟩))] w fun e w' => MustPost S D F g pe w (readS 0 0 bs) (fun n => .int .i32 (wrap32 n)) e w' := by
  have HC := Lib.hid (ReadVarInt32_rd S D F g pe bs w hS)
  clear hS
  go_enter Tryd.func46, Tryd.ntmps46
  go_wp2_with fail
  refine HC.out.mono ?_
  rintro e w1 (⟨n, rest, hr, rfl, h1, h2⟩ | ⟨hr, ⟨n, rfl⟩, h1, h2⟩)
  · have H1 := Lib.hid (And.intro hr (And.intro h1 h2))
    clear h1 h2 hr HC
    go_wp2
    go_ret
    exact .inl ⟨_, _, H1.out.1, rfl, H1.out.2.1, H1.out.2.2⟩
  · have H1 := Lib.hid (And.intro hr (And.intro h1 h2))
    clear h1 h2 hr HC
    go_wp2
    exact ⟨rfl, .inr ⟨H1.out.1, rfl, H1.out.2.1, H1.out.2.2⟩⟩
set_option maxRecDepth 100000 in
set_option maxHeartbeats 400000 in
theorem MustReadVarInt64_rd (S : Rdr) (D F : Nat → Prop) (g : Nat) (pe : Addr) (bs : List UInt8) (w : World) (hS : RdS S D F g pe bs w) :
    Calls Tryd.prog 47 #[.iface S.T (.pointer (some ⟨g, 0, none⟩))] w fun e w' => MustPost S D F g pe w (readS 0 0 bs) (fun n => .int .i64 n) e w' := by
  have HC := Lib.hid (ReadVarInt64_rd S D F g pe bs w hS)
  clear hS
  go_enter Tryd.func47, Tryd.ntmps47
  go_wp2_with fail
  refine HC.out.mono ?_
  rintro e w1 (⟨n, rest, hr, rfl, h1, h2⟩ | ⟨hr, ⟨n, rfl⟩, h1, h2⟩)
  · have H1 := Lib.hid (And.intro hr (And.intro h1 h2))
    clear h1 h2 hr HC
    go_wp2
    go_ret
    exact .inl ⟨_, _, H1.out.1, rfl, H1.out.2.1, H1.out.2.2⟩
  · have H1 := Lib.hid (And.intro hr (And.intro h1 h2))
    clear h1 h2 hr HC
    go_wp2
    exact ⟨rfl, .inr ⟨H1.out.1, rfl, H1.out.2.1, H1.out.2.2⟩⟩
end Go.Proofs.YtfpikpbolgodcaaDoor
