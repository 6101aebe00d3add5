/- spec.reader: its state, fail, ok, byte. -/
import Derived.Test.YtkbadfljmbeciaaGreatDoorLibA
import Derived.Test.YtkbadfljmbeciaaGreatDoorLibC
import Derived.Test.YtkbadfljmbeciaaGreatDoorSource
import Derived.Deep.QuietTactic
import Derived.BigQuiet
namespace Go.Proofs.YtkbadfljmbeciaaGreatDoor
open Go.RowKit
/-- The reference's reader at g: what is left lies in blocks of D. -/
def SpR (D : Nat → Prop) (g : Nat) (lo : Bool) (s : St) (w : World) : Prop :=
  ∃ aa cap, Blk w g #[.slice aa s.b.length cap, .int .i64 (s.v : Int), .bool lo] 85 ∧ Lay.u8.slice.rd D w [.slice aa s.b.length cap] s.b ∧ (∀ k, D k → k < w.heap.size ∧ k ≠ g)
theorem SpR.lt {D : Nat → Prop} {g : Nat} {lo : Bool} {s : St} {w : World} (h : SpR D g lo s w) : g < w.heap.size ∧ ∀ k, D k → k < w.heap.size ∧ k ≠ g := by
  obtain ⟨aa, cap, hb, h1, h2⟩ := h
  exact ⟨hb.lt, h2⟩
theorem SpR.fr {D : Nat → Prop} {g : Nat} {lo : Bool} {s : St} {w w' : World} {S : Nat → Prop} (h : SpR D g lo s w) (hf : Fr S w w') (hg : ¬ S g) (hD : ∀ k, D k → ¬ S k) : SpR D g lo s w' := by
  obtain ⟨aa, cap, hb, h1, h2⟩ := h
  exact ⟨aa, cap, hb.fr hf hg, Lay.fr h1 hf (fun k hk => ⟨(h2 k hk).1, hD k hk⟩), fun k hk => ⟨Nat.lt_of_lt_of_le (h2 k hk).1 hf.size, (h2 k hk).2⟩⟩
theorem SpR.ext {D : Nat → Prop} {g : Nat} {lo : Bool} {s : St} {w w' : World} (h : SpR D g lo s w) (hf : Ext w w') : SpR D g lo s w' := h.fr hf (fun h => h) (fun _ _ h => h)
theorem rd_nil {D : Nat → Prop} {w : World} {a : Option Addr} {c : Nat} (hc : c ≤ maxLen) : Lay.u8.slice.rd D w [.slice a 0 c] [] := ⟨a, c, rfl, Nat.zero_le _, hc, fun h => absurd h (by simp)⟩
/-- What the reader's block holds is stored anew. -/
theorem SpR.mk {D : Nat → Prop} {g : Nat} {lo : Bool} {s : St} {w w' : World} {aa : Option Addr} {cap : Nat} (hb : Blk w' g #[.slice aa s.b.length cap, .int .i64 (s.v : Int), .bool lo] 85) (hr : Lay.u8.slice.rd D w [.slice aa s.b.length cap] s.b)
    (hD : ∀ k, D k → k < w.heap.size ∧ k ≠ g) (hf : Fr (fun k => k = g) w w') : SpR D g lo s w' :=
  ⟨aa, cap, hb, Lay.fr hr hf (fun k hk => hD k hk), fun k hk => ⟨Nat.lt_of_lt_of_le (hD k hk).1 hf.size, (hD k hk).2⟩⟩
set_option maxRecDepth 100000 in
set_option maxHeartbeats 400000 in
theorem fail_calls (D : Nat → Prop) (g : Nat) (lo : Bool) (s : St) (n : Nat) (w : World) (h : SpR D g lo s w) :
    Calls Tryz.prog 27 #[.pointer (some ⟨g, 0, none⟩), .int .i64 (n : Int)] w fun e w' => e = .returned (.tuple #[]) ∧ SpR D g lo (s.fail n) w' ∧ Fr (fun k => k = g) w w' := by
  obtain ⟨aa, cap, hb, h1, h2⟩ := h
  have hc := hb.cell
  have hf := hb.frz
  have H := Lib.hid (And.intro hb (And.intro h1 h2))
  by_cases hv : s.v = 0
  · have hs := Lib.hid (show s.fail n = ⟨[], n⟩ from by simp [St.fail, hv])
    rw [hv] at hc
    clear hb h1 h2 hv
    go_enter Tryz.func27, Tryz.ntmps27
    go_wp2
    go_end0
    have hF : Fr (fun k => k = g) w ((w.setCell ⟨g, 1, none⟩ (.int .i64 (n : Int))).setCell ⟨g, 0, none⟩ (.slice none 0 0)) := Fr.setCell (Fr.setCell (Fr.refl (fun k => k = g) w) (p := ⟨g, 1, none⟩) (.inl rfl) _) (p := ⟨g, 0, none⟩) (.inl rfl) _
    refine ⟨rfl, ?_, hF⟩
    rw [hs.out]
    refine SpR.mk (aa := none) (cap := 0) ?_ (rd_nil (by decide)) H.out.2.2 hF
    have := (H.out.1.set 1 (.int .i64 (n : Int))).set 0 (.slice none 0 0)
    simpa using this
  · have hs := Lib.hid (show s.fail n = ⟨[], s.v⟩ from by simp [St.fail, hv])
    have hv' : ((s.v : Int) == 0) = false := by rw [beq_eq_false_iff_ne]; omega
    clear hb h1 h2 hv
    go_enter Tryz.func27, Tryz.ntmps27
    go_wp2
    go_end0
    have hF : Fr (fun k => k = g) w (w.setCell ⟨g, 0, none⟩ (.slice none 0 0)) := Fr.setCell (Fr.refl (fun k => k = g) w) (p := ⟨g, 0, none⟩) (.inl rfl) _
    refine ⟨rfl, ?_, hF⟩
    rw [hs.out]
    refine SpR.mk (aa := none) (cap := 0) ?_ (rd_nil (by decide)) H.out.2.2 hF
    have := H.out.1.set 0 (.slice none 0 0)
    simpa using this
set_option maxRecDepth 100000 in
set_option maxHeartbeats 400000 in
theorem ok_calls (D : Nat → Prop) (g : Nat) (lo : Bool) (s : St) (w : World) (h : SpR D g lo s w) :
    Calls Tryz.prog 26 #[.pointer (some ⟨g, 0, none⟩)] w fun e w' => e = .returned (.bool (decide (s.v = 0))) ∧ w' = w := by
  obtain ⟨aa, cap, hb, h1, h2⟩ := h
  have hc := hb.cell
  clear hb h1 h2
  by_cases hv : s.v = 0
  · have hs := Lib.hid (show decide (s.v = 0) = true from decide_eq_true hv)
    rw [hv] at hc
    clear hv
    go_enter Tryz.func26, Tryz.ntmps26
    go_wp2
    go_ret
    exact ⟨by rw [hs.out]; rfl, rfl⟩
  · have hs := Lib.hid (show decide (s.v = 0) = false from decide_eq_false hv)
    have hv' : ((s.v : Int) == 0) = false := by rw [beq_eq_false_iff_ne]; omega
    clear hv
    go_enter Tryz.func26, Tryz.ntmps26
    go_wp2
    go_ret
    exact ⟨by rw [hs.out]; rfl, rfl⟩
/-- One byte of a row. -/
theorem u8_at {A : Nat → Prop} {w : World} {a : Option Addr} {n cap : Nat} {xs : List UInt8} (h : Lay.u8.slice.rd A w [.slice a n cap] xs) (i : Nat) (hi : i < xs.length) :
    ∃ (b o : Nat), a = some ⟨b, o, none⟩ ∧ A b ∧ w.cell? ⟨b, o + i, none⟩ = some (.int .u8 (xs[i].toNat : Int)) := by
  have hn : xs.length = n := by
    obtain ⟨_, _, e, _⟩ := h
    simp only [List.cons.injEq, Value.slice.injEq, and_true] at e
    exact e.2.1.symm
  obtain ⟨b, o, es, hi', e, hA, _, hr, hc⟩ := Lay.slice_at h i (by omega)
  obtain rfl : es = _ := hr
  have := hc 0 (by decide)
  rw [show o + i * Lay.u8.size + 0 = o + i from by show o + i * 1 + 0 = o + i; omega] at this
  exact ⟨b, o, e, hA, this⟩
/-- Some bytes are dropped. -/
theorem SpR.drop {D : Nat → Prop} {g : Nat} {lo : Bool} {b : List UInt8} {v : Nat} {w : World} {aa : Option Addr} {cap : Nat} (hb : Blk w g #[.slice aa b.length cap, .int .i64 (v : Int), .bool lo] 85) (h1 : Lay.u8.slice.rd D w [.slice aa b.length cap] b)
    (h2 : ∀ k, D k → k < w.heap.size ∧ k ≠ g) (n : Nat) (hn : n ≤ b.length) :
    SpR D g lo ⟨b.drop n, v⟩ (w.setCell ⟨g, 0, none⟩ (.slice (aa.map (·.add n)) (b.length - n) (cap - n))) ∧ (cap = n → SpR D g lo ⟨b.drop n, v⟩ (w.setCell ⟨g, 0, none⟩ (.slice aa (b.length - n) 0))) := by
  have hF : ∀ u, Fr (fun k => k = g) w (w.setCell ⟨g, 0, none⟩ u) := fun u => fr_setCell w ⟨g, 0, none⟩ u
  have hl := List.length_drop (l := b) (i := n)
  refine ⟨SpR.mk (aa := aa.map (·.add n)) (cap := cap - n) ?_ (rd_drop h1 hn) h2 (hF _), fun hc => SpR.mk (aa := aa) (cap := 0) ?_ ?_ h2 (hF _)⟩
  · have := hb.set 0 (.slice (aa.map (·.add n)) (b.length - n) (cap - n))
    rw [hl]; simpa using this
  · have := hb.set 0 (.slice aa (b.length - n) 0)
    rw [hl]; simpa using this
  · obtain ⟨_, _, e, h5, _⟩ := h1
    simp only [List.cons.injEq, Value.slice.injEq, and_true] at e
    obtain ⟨-, -, rfl⟩ := e
    have h0 : (b.drop n).length = 0 := by omega
    rw [h0, List.eq_nil_of_length_eq_zero h0]
    exact rd_nil (by decide)
set_option maxRecDepth 100000 in
set_option maxHeartbeats 400000 in
theorem byte_calls (D : Nat → Prop) (g : Nat) (lo : Bool) (s : St) (w : World) (h : SpR D g lo s w) :
    Calls Tryz.prog 46 #[.pointer (some ⟨g, 0, none⟩)] w fun e w' => e = .returned (.int .i64 ((rByte s).1 : Int)) ∧ SpR D g lo (rByte s).2 w' ∧ Fr (fun k => k = g) w w' := by
  have hS := Lib.hid h
  obtain ⟨aa, cap, hb, h1, h2⟩ := h
  have hc := hb.cell
  have hf := hb.frz
  obtain ⟨b, v⟩ := s
  cases b with
  | nil =>
    clear hb h1 h2 hf
    go_enter Tryz.func46, Tryz.ntmps46
    go_wp2_with fail
    refine (fail_calls D g lo _ 3 w hS.out).mono ?_
    rintro e w1 ⟨rfl, k1, k2⟩
    have HK := Lib.hid (And.intro k1 k2)
    clear k1 k2 hc
    go_wp2
    go_ret
    exact ⟨rfl, HK.out.1, HK.out.2⟩
  | cons c r =>
    obtain ⟨bb, o, rfl, hA, e0⟩ := u8_at h1 0 (by simp)
    simp only [Nat.add_zero, List.getElem_cons_zero] at e0
    obtain ⟨a', c', ee, hcl, hcm⟩ := Lay.slice_form h1
    simp only [Value.slice.injEq] at ee
    obtain ⟨-, -, rfl⟩ := ee
    simp only [List.length_cons] at hcl
    have hcm' : (cap : Int) ≤ 9223372036854775807 := by simp only [maxLen] at hcm; omega
    have ht := c.toNat_lt
    have H := Lib.hid (SpR.drop hb h1 h2 1 (by simp))
    rw [show rByte ⟨c :: r, v⟩ = (c.toNat, ⟨r, v⟩) from rfl]
    simp only [List.length_cons, List.drop_succ_cons, List.drop_zero, Nat.add_sub_cancel, Option.map_some, addr_add] at H
    generalize c.toNat = t at *
    clear hb h1 h2 hA hS hcm
    go_enter Tryz.func46, Tryz.ntmps46
    go_wp2
    · go_ret
      exact ⟨by simp only [Ending.returned.injEq]; go_num, H.out.2 (by omega), fr_setCell w ⟨g, 0, none⟩ _⟩
    · go_ret
      exact ⟨by simp only [Ending.returned.injEq]; go_num, H.out.1, fr_setCell w ⟨g, 0, none⟩ _⟩
end Go.Proofs.YtkbadfljmbeciaaGreatDoor
