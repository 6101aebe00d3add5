/- encoding.readExpr: what it defers recovers a panic. -/
import Derived.Test.YtkbadfljmbeciaaGreatDoorRdInstrs
import Derived.Defers
import Derived.Recover
namespace Go.Proofs.YtkbadfljmbeciaaGreatDoor
open Go.RowKit
set_option maxRecDepth 100000 in
set_option maxHeartbeats 400000 in
theorem catch_panicking (p : Addr) (x : Value) (pe : Addr) (w : World) (hc : w.cell? p = some x) (hz : w.frozen? p = false) :
    CallsD Tryz.prog 92 #[.pointer (some p)] (.panicking [{ v := eofV pe, recovered := false }]) w fun e u' w' =>
      e = .returned (.tuple #[]) ∧ u' = .panicking [{ v := eofV pe, recovered := true }] ∧ w' = w.setCell p (eofV pe) := by
  refine callsD_of_wpS Tryz.func92 rfl fun c₀ cs hu => ?_
  apply wpS_seq
  apply wpS_region
  simp [wpOpsS, go_sem, recoverD, hu, Tryz.ntmps92, Exit.thenS]
  have hta : ∀ W : World, (Instr.typeAssert (eofV pe) 20 95 true).run Tryz.prog W = .ok (.tuple #[eofV pe, .bool true]) W := fun W => by kernel_rfl
  rw [show (#[Value.pointer (some p)] ++ ((Array.replicate 12 undef).setIfInBounds 3 (eofV pe)).setIfInBounds 0 (eofV pe)) = #[.pointer (some p), eofV pe, undef, undef, eofV pe, undef, undef, undef, undef, undef, undef, undef, undef] from rfl]
  refine wpS_of_wp ?_
  go_wp2
  simp [bodyPostS, results, Tryz.results92]
set_option maxRecDepth 100000 in
set_option maxHeartbeats 400000 in
theorem catch_idle (p : Addr) (w : World) :
    CallsD Tryz.prog 92 #[.pointer (some p)] .returning w fun e u' w' => e = .returned (.tuple #[]) ∧ u' = .returning ∧ w' = w := by
  refine callsD_of_wpS Tryz.func92 rfl fun c₀ cs hu => ?_
  apply wpS_seq
  apply wpS_region
  simp [wpOpsS, go_sem, recoverD, hu, Tryz.ntmps92, Exit.thenS]
  rw [show (#[Value.pointer (some p)] ++ ((Array.replicate 12 undef).setIfInBounds 3 .nilIface).setIfInBounds 0 .nilIface) = #[.pointer (some p), .nilIface, undef, undef, .nilIface, undef, undef, undef, undef, undef, undef, undef, undef] from rfl]
  refine wpS_of_wp ?_
  go_wp2
  cases c₀
  simp_all [bodyPostS, results, Tryz.results92]
set_option maxRecDepth 100000 in
set_option maxHeartbeats 1000000 in
theorem readExpr_rd (S : Rdr) (D F : Nat → Prop) (g : Nat) (pe : Addr) (f : Nat) (bs : List UInt8) (gt o : Nat) (cs : Array Value) (T : TypeId) (w : World) (hS : RdS S D F g pe bs w) (hB : Blk w gt cs T) (ho : o < cs.size) (hF : ¬ F gt) (hD : ¬ D gt) (hb : gt ≠ eofAt.block) (hl : bs.length ≤ 1048576) (hno : pIns f bs ≠ .odd) :
    Calls Tryz.prog 85 #[.iface S.T (.pointer (some ⟨g, 0, none⟩)), .pointer (some ⟨gt, o, none⟩)] w fun e w' =>
      (∃ l rest sl, pIns f bs = .ok l rest ∧ e = .returned .nilIface ∧ RdS S D F g pe rest w' ∧ Blk w' gt (cs.setIfInBounds o sl) T ∧ (Lay.ri f).slice.rd (fun k => w.heap.size ≤ k ∧ k < w'.heap.size) w' [sl] l ∧ Fr (fun k => F k ∨ k = gt) w w') ∨
      (pIns f bs = .bad ∧ (∃ te ve, e = .returned (.iface te ve)) ∧ Fr (fun k => F k ∨ k = gt) w w') := by
  have hmf : ∀ (fn : Fn) (first cap : Array Value) (w : World), (Instr.makeFunc fn first cap).run Tryz.prog w = .ok (.func fn first cap) w := fun _ _ _ _ => rfl
  have hx := ext_alloc w (.cells #[.nilIface] 95)
  have hlt := S.lt hS.is
  have hel := cell_lt hS.cell
  have hgw := hB.lt
  have HC := Lib.hid (readInstructions_rd S D F g pe f bs gt o cs T (w.alloc (.cells #[.nilIface] 95)) (hS.ext hx) (hB.ext hx) ho hF hD hb hl hno)
  have H := Lib.hid (And.intro hlt (And.intro hel (And.intro hgw hx)))
  have hB0 := Lib.hid (blk_new w #[.nilIface] 95)
  clear hS hB ho hF hD hb hl hno hx hlt hel hgw
  go_enter_defers Tryz.func85, Tryz.ntmps85
  go_wp2_with fail
  refine HC.out.mono ?_
  rintro e w2 (⟨l, rest, sl, hp, rfl, k1, k2, k3, k4⟩ | ⟨hp, ⟨te, ve, rfl⟩ | rfl, k4⟩)
  · have hne : ¬ (F w.heap.size ∨ w.heap.size = gt) := fun e => e.elim (fun e => by have := H.out.1.2.1 _ e; omega) (fun e => by have := H.out.2.2.1; omega)
    have hB2 := hB0.out.fr k4 hne
    have hc := hB2.cell
    have hf := hB2.frz
    have HB2 := Lib.hid hB2
    have hne := Lib.hid hne
    have HK := Lib.hid (And.intro hp (And.intro k1 (And.intro k2 (And.intro k3 k4))))
    clear hp k1 k2 k3 k4 hB2 HC
    go_wp2
    have hbl := (HB2.out.set 0 (.nilIface)).cell 0
    have hs := fr_setCell w2 ⟨w.heap.size, 0, none⟩ (.nilIface)
    refine leaves_cons (f := 92) (args := #[.pointer (some ⟨w.heap.size, 0, none⟩)]) (by simp) (by simp [go_sem]) ?_
    refine (catch_idle _ _).mono ?_
    rintro e u' w'' ⟨rfl, rfl, rfl⟩
    obtain ⟨hp, k1, k2, k3, k4⟩ := HK.out
    obtain ⟨hlt, hel, hgw, hx⟩ := H.out
    have hsz := hx.size
    refine ⟨.nilIface, by simp [results, Tryz.results85, go_sem, hbl], .inl ⟨l, rest, sl, hp, rfl, k1.fr hs (fun e => by have e' : 2 = w.heap.size := e; have : 2 < w.heap.size := hel; omega) (fun k hk e => by have e' : k = w.heap.size := e; have := hlt.2.1 k hk; omega) (fun k hk e => by have e' : k = w.heap.size := e; have := (hlt.2.2 k hk).1; omega), k2.fr hs (fun e => by have e' : gt = w.heap.size := e; omega), ?_, ?_⟩⟩
    · have hn1 : (w.alloc (.cells #[.nilIface] 95)).heap.size = w.heap.size + 1 := by simp
      exact Lay.mono _ (Lay.fr k3 hs (fun k hk => ⟨hk.2, fun e => by have e' : k = w.heap.size := e; omega⟩)) (fun k hk => ⟨by omega, Nat.lt_of_lt_of_le hk.2 hs.size⟩)
    · exact (Ext.fr hx (Fr.trans (U := fun k => (F k ∨ k = gt) ∨ k = w.heap.size) k4 hs (fun _ _ h => .inl h) (fun _ _ h => .inr h))).mono (fun k hk h => h.elim id (fun h => by omega))
  · have hne : ¬ (F w.heap.size ∨ w.heap.size = gt) := fun e => e.elim (fun e => by have := H.out.1.2.1 _ e; omega) (fun e => by have := H.out.2.2.1; omega)
    have hB2 := hB0.out.fr k4 hne
    have hc := hB2.cell
    have hf := hB2.frz
    have HB2 := Lib.hid hB2
    have hne := Lib.hid hne
    have HK := Lib.hid (And.intro hp k4)
    clear hp k4 hB2 HC
    go_wp2
    have hbl := (HB2.out.set 0 (.iface te ve)).cell 0
    have hs := fr_setCell w2 ⟨w.heap.size, 0, none⟩ (.iface te ve)
    refine leaves_cons (f := 92) (args := #[.pointer (some ⟨w.heap.size, 0, none⟩)]) (by simp) (by simp [go_sem]) ?_
    refine (catch_idle _ _).mono ?_
    rintro e u' w'' ⟨rfl, rfl, rfl⟩
    obtain ⟨hp, k4⟩ := HK.out
    obtain ⟨hlt, hel, hgw, hx⟩ := H.out
    refine ⟨.iface te ve, by simp [results, Tryz.results85, go_sem, hbl], .inr ⟨hp, ⟨_, _, rfl⟩, ?_⟩⟩
    exact (Ext.fr hx (Fr.trans (U := fun k => (F k ∨ k = gt) ∨ k = w.heap.size) k4 hs (fun _ _ h => .inl h) (fun _ _ h => .inr h))).mono (fun k hk h => h.elim id (fun h => by omega))
  · have hne : ¬ (F w.heap.size ∨ w.heap.size = gt) := fun e => e.elim (fun e => by have := H.out.1.2.1 _ e; omega) (fun e => by have := H.out.2.2.1; omega)
    have hB2 := hB0.out.fr k4 hne
    have hc := hB2.cell
    have hf := hB2.frz
    have HB2 := Lib.hid hB2
    have hne := Lib.hid hne
    have HK := Lib.hid (And.intro hp k4)
    clear hp k4 hB2 HC
    go_wp2
    have hbl := (HB2.out.set 0 (eofV pe)).cell 0
    have hs := fr_setCell w2 ⟨w.heap.size, 0, none⟩ (eofV pe)
    refine leaves_cons (f := 92) (args := #[.pointer (some ⟨w.heap.size, 0, none⟩)]) (by simp) (by simp [go_sem]) ?_
    refine (catch_panicking ⟨w.heap.size, 0, none⟩ .nilIface pe _ (by simpa using hc 0) (hf 0)).mono ?_
    rintro e u' w'' ⟨rfl, rfl, rfl⟩
    obtain ⟨hp, k4⟩ := HK.out
    obtain ⟨hlt, hel, hgw, hx⟩ := H.out
    refine ⟨eofV pe, by simp [results, Tryz.results85, go_sem, hbl], .inr ⟨hp, ⟨_, _, rfl⟩, ?_⟩⟩
    exact (Ext.fr hx (Fr.trans (U := fun k => (F k ∨ k = gt) ∨ k = w.heap.size) k4 hs (fun _ _ h => .inl h) (fun _ _ h => .inr h))).mono (fun k hk h => h.elim id (fun h => by omega))
end Go.Proofs.YtkbadfljmbeciaaGreatDoor
