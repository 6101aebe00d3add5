/- Texts of this proof, one behind the other. -/
import Derived.Test.YtbdahjpdjamgiaaGreatDoorPart9
import Derived.WalkSmall
/- Numbers of 32 bits, and those that panic. -/
namespace Go.Proofs.YtbdahjpdjamgiaaGreatDoor
open Go.RowKit
/-- The panic of an error. -/
abbrev eofP (pe : Addr) : List PanicEntry := [{ v := eofV pe, recovered := false }]
def MustPost {α : Type} (S : Rdr) (D F : Nat → Prop) (g : Nat) (pe : Addr) (w : World) (r : Option (α × List UInt8)) (f : α → Value) (e : Ending) (w' : World) : Prop :=
  (∃ n rest, r = some (n, rest) ∧ e = .returned (f n) ∧ RdS S D F g pe rest w' ∧ Fr F w w') ∨
    (r = none ∧ e = .panicked (eofP pe) ∧ RdS S D F g pe [] w' ∧ Fr F w w')
set_option maxRecDepth 100000 in
set_option maxHeartbeats 400000 in
theorem ReadVarUint32_rd (S : Rdr) (D F : Nat → Prop) (g : Nat) (pe : Addr) (bs : List UInt8) (w : World) (hS : RdS S D F g pe bs w) :
    Calls Tryz.prog 70 #[.iface S.T (.pointer (some ⟨g, 0, none⟩))] w fun e w' => NumPost S D F g pe w (readU 0 0 bs) (fun n => .int .u32 ((n % 4294967296 : Nat) : Int)) e w' := by
  have HC := Lib.hid (ReadVarUint64_rd S D F g pe bs w hS)
  clear hS
  go_enter Tryz.func70, Tryz.ntmps70
  go_wp2_with fail
  refine HC.out.mono ?_
  rintro e w1 (⟨n, rest, hr, rfl, h1, h2⟩ | ⟨hr, ⟨n, rfl⟩, h1, h2⟩)
  · have hw := (show IntKind.u32.wrap (n : Int) = ((n % 4294967296 : Nat) : Int) from by rw [IntKind.wrap_u32]; omega)
    have H1 := Lib.hid (And.intro hr (And.intro h1 h2))
    clear h1 h2 hr HC
    go_wp2
    go_ret2
    exact .inl ⟨_, _, H1.out.1, rfl, H1.out.2.1, H1.out.2.2⟩
  · have hw := (show IntKind.u32.wrap (n : Int) = ((n % 4294967296 : Nat) : Int) from by rw [IntKind.wrap_u32]; omega)
    have H1 := Lib.hid (And.intro hr (And.intro h1 h2))
    clear h1 h2 hr HC
    go_wp2
    go_ret2
    exact .inr ⟨H1.out.1, ⟨n, rfl⟩, H1.out.2.1, H1.out.2.2⟩
set_option maxRecDepth 100000 in
set_option maxHeartbeats 400000 in
theorem ReadVarInt32_rd (S : Rdr) (D F : Nat → Prop) (g : Nat) (pe : Addr) (bs : List UInt8) (w : World) (hS : RdS S D F g pe bs w) :
    Calls Tryz.prog 84 #[.iface S.T (.pointer (some ⟨g, 0, none⟩))] w fun e w' => NumPost S D F g pe w (readS 0 0 bs) (fun n => .int .i32 (wrap32 n)) e w' := by
  have HC := Lib.hid (ReadVarInt64_rd S D F g pe bs w hS)
  clear hS
  go_enter Tryz.func84, Tryz.ntmps84
  go_wp2_with fail
  refine HC.out.mono ?_
  rintro e w1 (⟨n, rest, hr, rfl, h1, h2⟩ | ⟨hr, ⟨n, rfl⟩, h1, h2⟩)
  · have H1 := Lib.hid (And.intro hr (And.intro h1 h2))
    clear h1 h2 hr HC
    go_wp2
    go_ret2
    exact .inl ⟨_, _, H1.out.1, rfl, H1.out.2.1, H1.out.2.2⟩
  · have H1 := Lib.hid (And.intro hr (And.intro h1 h2))
    clear h1 h2 hr HC
    go_wp2
    go_ret2
    exact .inr ⟨H1.out.1, ⟨n, rfl⟩, H1.out.2.1, H1.out.2.2⟩
set_option maxRecDepth 100000 in
set_option maxHeartbeats 400000 in
theorem MustReadVarUint32_rd (S : Rdr) (D F : Nat → Prop) (g : Nat) (pe : Addr) (bs : List UInt8) (w : World) (hS : RdS S D F g pe bs w) :
    Calls Tryz.prog 80 #[.iface S.T (.pointer (some ⟨g, 0, none⟩))] w fun e w' => MustPost S D F g pe w (readU 0 0 bs) (fun n => .int .u32 ((n % 4294967296 : Nat) : Int)) e w' := by
  have HC := Lib.hid (ReadVarUint32_rd S D F g pe bs w hS)
  clear hS
  go_enter Tryz.func80, Tryz.ntmps80
  go_wp2_with fail
  refine HC.out.mono ?_
  rintro e w1 (⟨n, rest, hr, rfl, h1, h2⟩ | ⟨hr, ⟨n, rfl⟩, h1, h2⟩)
  · have H1 := Lib.hid (And.intro hr (And.intro h1 h2))
    clear h1 h2 hr HC
    go_wp2
    go_ret
    exact .inl ⟨_, _, H1.out.1, rfl, H1.out.2.1, H1.out.2.2⟩
  · have H1 := Lib.hid (And.intro hr (And.intro h1 h2))
    clear h1 h2 hr HC
    go_wp2
    exact ⟨rfl, .inr ⟨H1.out.1, rfl, H1.out.2.1, H1.out.2.2⟩⟩
set_option maxRecDepth 100000 in
set_option maxHeartbeats 400000 in
theorem MustReadVarInt32_rd (S : Rdr) (D F : Nat → Prop) (g : Nat) (pe : Addr) (bs : List UInt8) (w : World) (hS : RdS S D F g pe bs w) :
    Calls Tryz.prog 78 #[.iface S.T (.pointer (some ⟨g, 0, none⟩))] w fun e w' => MustPost S D F g pe w (readS 0 0 bs) (fun n => .int .i32 (wrap32 n)) e w' := by
  have HC := Lib.hid (ReadVarInt32_rd S D F g pe bs w hS)
  clear hS
  go_enter Tryz.func78, Tryz.ntmps78
  go_wp2_with fail
  refine HC.out.mono ?_
  rintro e w1 (⟨n, rest, hr, rfl, h1, h2⟩ | ⟨hr, ⟨n, rfl⟩, h1, h2⟩)
  · have H1 := Lib.hid (And.intro hr (And.intro h1 h2))
    clear h1 h2 hr HC
    go_wp2
    go_ret
    exact .inl ⟨_, _, H1.out.1, rfl, H1.out.2.1, H1.out.2.2⟩
  · have H1 := Lib.hid (And.intro hr (And.intro h1 h2))
    clear h1 h2 hr HC
    go_wp2
    exact ⟨rfl, .inr ⟨H1.out.1, rfl, H1.out.2.1, H1.out.2.2⟩⟩
set_option maxRecDepth 100000 in
set_option maxHeartbeats 400000 in
theorem MustReadVarInt64_rd (S : Rdr) (D F : Nat → Prop) (g : Nat) (pe : Addr) (bs : List UInt8) (w : World) (hS : RdS S D F g pe bs w) :
    Calls Tryz.prog 79 #[.iface S.T (.pointer (some ⟨g, 0, none⟩))] w fun e w' => MustPost S D F g pe w (readS 0 0 bs) (fun n => .int .i64 n) e w' := by
  have HC := Lib.hid (ReadVarInt64_rd S D F g pe bs w hS)
  clear hS
  go_enter Tryz.func79, Tryz.ntmps79
  go_wp2_with fail
  refine HC.out.mono ?_
  rintro e w1 (⟨n, rest, hr, rfl, h1, h2⟩ | ⟨hr, ⟨n, rfl⟩, h1, h2⟩)
  · have H1 := Lib.hid (And.intro hr (And.intro h1 h2))
    clear h1 h2 hr HC
    go_wp2
    go_ret
    exact .inl ⟨_, _, H1.out.1, rfl, H1.out.2.1, H1.out.2.2⟩
  · have H1 := Lib.hid (And.intro hr (And.intro h1 h2))
    clear h1 h2 hr HC
    go_wp2
    exact ⟨rfl, .inr ⟨H1.out.1, rfl, H1.out.2.1, H1.out.2.2⟩⟩
end Go.Proofs.YtbdahjpdjamgiaaGreatDoor
/- One byte, read through io.ReadFull. -/
namespace Go.Proofs.YtbdahjpdjamgiaaGreatDoor
open Go.RowKit
def rdB : List UInt8 → Option (UInt8 × List UInt8)
  | [] => none
  | c :: r => some (c, r)
set_option maxRecDepth 100000 in
set_option maxHeartbeats 1000000 in
theorem ReadAtLeast_rd (S : Rdr) (D F : Nat → Prop) (g b : Nat) (pe : Addr) (bs : List UInt8) (x : Value) (w : World) (hS : RdS S D F g pe bs w) (hB : Blk w b #[x] 5) (hF : ¬ F b) (hD : ¬ D b) (hb : b ≠ eofAt.block) :
    Calls Tryz.prog 86 #[.iface S.T (.pointer (some ⟨g, 0, none⟩)), .slice (some ⟨b, 0, none⟩) 1 1, .int .i64 1] w fun e w' =>
      (∃ c r, bs = c :: r ∧ e = .returned (.tuple #[.int .i64 1, .nilIface]) ∧ RdS S D F g pe r w' ∧ Blk w' b #[.int .u8 (c.toNat : Int)] 5 ∧ Fr (fun k => F k ∨ k = b) w w') ∨
      (bs = [] ∧ e = .returned (.tuple #[.int .i64 0, eofV pe]) ∧ RdS S D F g pe [] w' ∧ Blk w' b #[x] 5 ∧ Fr (fun k => F k ∨ k = b) w w') := by
  have hna := S.nil g
  have hme := S.meth g
  have hcf := S.call
  have hmf : ∀ (fn : Fn) (first cap : Array Value) (w : World), (Instr.makeFunc fn first cap).run Tryz.prog w = .ok (.func fn first cap) w := fun _ _ _ _ => rfl
  have H := Lib.hid (And.intro hS (And.intro hB (And.intro hF (And.intro hD hb))))
  clear hS hB hF hD hb
  go_enter Tryz.func86, Tryz.ntmps86
  go_wp2_with fail
  go_loopw [6, 7, 8] (fun s6 s7 s8 w' => (s6 = .int .i64 0 ∧ s7 = .nilIface ∧ w' = w) ∨ (s6 = .int .i64 1 ∧ s7 = .nilIface ∧ Hid (∃ c r, bs = c :: r ∧ RdS S D F g pe r w' ∧ Blk w' b #[.int .u8 (c.toNat : Int)] 5 ∧ Fr (fun k => F k ∨ k = b) w w')) ∨ (s6 = .int .i64 0 ∧ s7 = eofV pe ∧ Hid (bs = [] ∧ RdS S D F g pe [] w' ∧ Blk w' b #[x] 5 ∧ Fr (fun k => F k ∨ k = b) w w'))) (fun s6 s7 _ _ => match s7 with | .nilIface => 1 - (intOf s6).toNat | _ => 0)
  case atStart => exact .inl ⟨rfl, rfl, rfl⟩
  case round =>
    rcases hrel with ⟨rfl, rfl, rfl⟩ | ⟨rfl, rfl, hr⟩ | ⟨rfl, rfl, hr⟩
    · go_wp2_with fail
      refine region_items (frFrm (fun k => F k ∨ k = b)) [(0, .take), (1, .take), (2, .take), (3, .take), (4, .take), (5, .take), (6, .take), (7, .run), (8, .take), (9, .take), (10, .take), (11, .take), (12, .take)] (by kernel_rfl) (by kernel_rfl) ?_
      simp only [itemsOf, List.getD_cons_zero, List.getD_cons_succ]
      have hx := ext_drew wr
      have hSd := H.out.1.ext hx
      have hBd := H.out.2.1.ext hx
      have Hd := Lib.hid (And.intro hSd (And.intro hBd hx))
      clear hSd hBd hx
      generalize wr.drew = W1 at *
      repeat (apply item_take; rfl; rfl; rfl; rfl; exact fun _ _ _ _ h => h; (intro W hE K hK; go_simp; exact hK))
      apply item_run; rfl; intro K hK; go_simp
      cases bs with
      | nil =>
        refine (S.eof D F g _ _ _ _ (eofV pe) W1 Hd.out.1.is Hd.out.1.cell (by omega) Hd.out.1.nf).mono ?_
        rintro e w2 ⟨rfl, hI2, hF2⟩
        refine hK _ _ (hF2.mono (fun _ _ h => .inl h)) ?_
        have hfin : Hid (([] : List UInt8) = [] ∧ RdS S D F g pe [] w2 ∧ Blk w2 b #[x] 5 ∧ Fr (fun k => F k ∨ k = b) wr w2) := ⟨rfl, Hd.out.1.step hI2 hF2 Hd.out.1.nf (Nat.le_refl _), Hd.out.2.1.fr hF2 H.out.2.2.1, (Ext.fr Hd.out.2.2 hF2).mono (fun _ _ h => .inl h)⟩
        clear hK K hI2 hF2
        repeat (apply item_take; rfl; rfl; rfl; rfl; exact fun _ _ _ _ h => h; (intro W hE K hK; go_simp; exact hK))
        apply items_done
        go_wp2
        go_roundw
        case rel => exact .inr (.inr ⟨rfl, rfl, trivial, hfin.out.2⟩)
        case measure => show (0 : Nat) < 1; omega
      | cons c r =>
        refine (S.read D F g b 0 1 1 (c :: r) #[x] 5 _ Hd.out.1.is Hd.out.2.1 (by simp) (by omega) (by decide) H.out.2.2.1 H.out.2.2.2.1 (by omega) (by simp)).mono ?_
        rintro e w2 ⟨q, hq0, hq1, -, rfl, hI2, hF2, hB2⟩
        obtain rfl : q = 1 := by omega
        refine hK _ _ hF2 ?_
        have hfin : Hid (∃ c' r', c :: r = c' :: r' ∧ RdS S D F g pe r' w2 ∧ Blk w2 b #[.int .u8 (c'.toNat : Int)] 5 ∧ Fr (fun k => F k ∨ k = b) wr w2) := ⟨c, r, rfl, Hd.out.1.step hI2 hF2 (fun e => e.elim Hd.out.1.nf (fun e => H.out.2.2.2.2 e.symm)) (by simp), hB2, Ext.fr Hd.out.2.2 hF2⟩
        clear hK K hI2 hF2 hB2 hq0 hq1
        repeat (apply item_take; rfl; rfl; rfl; rfl; exact fun _ _ _ _ h => h; (intro W hE K hK; go_simp; exact hK))
        apply items_done
        go_wp2
        go_roundw
        case rel => exact .inr (.inl ⟨rfl, rfl, hfin⟩)
        case measure => decide
    · go_wp2
      go_ret2
      obtain ⟨c, r, h1, h2⟩ := hr.out
      exact .inl ⟨c, r, h1, rfl, h2⟩
    · go_wp2
      go_ret2
      exact .inr ⟨hr.out.1, rfl, hr.out.2⟩
set_option maxRecDepth 100000 in
set_option maxHeartbeats 1000000 in
theorem ReadFull_rd (S : Rdr) (D F : Nat → Prop) (g b : Nat) (pe : Addr) (bs : List UInt8) (x : Value) (w : World) (hS : RdS S D F g pe bs w) (hB : Blk w b #[x] 5) (hF : ¬ F b) (hD : ¬ D b) (hb : b ≠ eofAt.block) :
    Calls Tryz.prog 83 #[.iface S.T (.pointer (some ⟨g, 0, none⟩)), .slice (some ⟨b, 0, none⟩) 1 1] w fun e w' =>
      (∃ c r, bs = c :: r ∧ e = .returned (.tuple #[.int .i64 1, .nilIface]) ∧ RdS S D F g pe r w' ∧ Blk w' b #[.int .u8 (c.toNat : Int)] 5 ∧ Fr (fun k => F k ∨ k = b) w w') ∨
      (bs = [] ∧ e = .returned (.tuple #[.int .i64 0, eofV pe]) ∧ RdS S D F g pe [] w' ∧ Blk w' b #[x] 5 ∧ Fr (fun k => F k ∨ k = b) w w') := by
  have HC := Lib.hid (ReadAtLeast_rd S D F g b pe bs x w hS hB hF hD hb)
  clear hS hB hF hD hb
  go_enter Tryz.func83, Tryz.ntmps83
  go_wp2_with fail
  refine HC.out.mono ?_
  rintro e w1 (⟨c, r, h1, rfl, h2⟩ | ⟨h1, rfl, h2⟩)
  · have H2 := Lib.hid h2
    have h1 := Lib.hid h1
    clear h2 HC
    go_wp2
    go_ret2
    exact .inl ⟨c, r, h1.out, rfl, H2.out⟩
  · have H2 := Lib.hid h2
    have h1 := Lib.hid h1
    clear h2 HC
    go_wp2
    go_ret2
    exact .inr ⟨h1.out, rfl, H2.out⟩
set_option maxRecDepth 100000 in
set_option maxHeartbeats 1000000 in
theorem readByte_rd (S : Rdr) (D F : Nat → Prop) (g : Nat) (pe : Addr) (bs : List UInt8) (w : World) (hS : RdS S D F g pe bs w) :
    Calls Tryz.prog 77 #[.iface S.T (.pointer (some ⟨g, 0, none⟩))] w fun e w' => NumPost S D F g pe w (rdB bs) (fun c => .int .u8 (c.toNat : Int)) e w' := by
  have hmk := make1
  have hlt := S.lt hS.is
  have hel := cell_lt hS.cell
  have HC := Lib.hid (ReadFull_rd S D F g w.heap.size pe bs (.int .u8 0) (w.alloc (.cells #[.int .u8 0] 5)) (hS.ext (ext_alloc w _)) (blk_new w _ _) (fun h => by have := hlt.2.1 _ h; omega) (fun h => by have := (hlt.2.2 _ h).1; omega) (by omega))
  clear hS hlt hel
  go_enter Tryz.func77, Tryz.ntmps77
  go_wp2_with fail
  refine HC.out.mono ?_
  rintro e w1 (⟨c, r, rfl, rfl, h2, h3, h4⟩ | ⟨rfl, rfl, h2, h3, h4⟩)
  · have hc := h3.cell
    have H2 := Lib.hid (And.intro h2 (show Fr F w w1 from (Ext.fr (ext_alloc w _) h4).mono (fun k hk h => h.elim id (fun h => by omega))))
    have ht := c.toNat_lt
    clear h2 h3 h4 HC
    go_wp2
    go_ret2
    exact .inl ⟨c, r, rfl, rfl, H2.out.1, H2.out.2⟩
  · have hc := h3.cell
    have H2 := Lib.hid (And.intro h2 (show Fr F w w1 from (Ext.fr (ext_alloc w _) h4).mono (fun k hk h => h.elim id (fun h => by omega))))
    clear h2 h3 h4 HC
    go_wp2
    go_ret2
    exact .inr ⟨rfl, ⟨0, rfl⟩, H2.out.1, H2.out.2⟩
set_option maxRecDepth 100000 in
set_option maxHeartbeats 400000 in
theorem mustReadByte_rd (S : Rdr) (D F : Nat → Prop) (g : Nat) (pe : Addr) (bs : List UInt8) (w : World) (hS : RdS S D F g pe bs w) :
    Calls Tryz.prog 81 #[.iface S.T (.pointer (some ⟨g, 0, none⟩))] w fun e w' => MustPost S D F g pe w (rdB bs) (fun c => .int .u8 (c.toNat : Int)) e w' := by
  have HC := Lib.hid (readByte_rd S D F g pe bs w hS)
  clear hS
  go_enter Tryz.func81, Tryz.ntmps81
  go_wp2_with fail
  refine HC.out.mono ?_
  rintro e w1 (⟨n, rest, hr, rfl, h1, h2⟩ | ⟨hr, ⟨n, rfl⟩, h1, h2⟩)
  · have H1 := Lib.hid (And.intro hr (And.intro h1 h2))
    clear h1 h2 hr HC
    go_wp2
    go_ret
    exact .inl ⟨_, _, H1.out.1, rfl, H1.out.2.1, H1.out.2.2⟩
  · have H1 := Lib.hid (And.intro hr (And.intro h1 h2))
    clear h1 h2 hr HC
    go_wp2
    exact ⟨rfl, .inr ⟨H1.out.1, rfl, H1.out.2.1, H1.out.2.2⟩⟩
end Go.Proofs.YtbdahjpdjamgiaaGreatDoor
