/- Small writers: a byte, value types, numbers of 32 and 64 bits. -/
import Derived.Test.YtkbadfljmbeciaaGreatDoorSink
import Derived.Test.YtkbadfljmbeciaaGreatDoorLibA
namespace Go.Proofs.YtkbadfljmbeciaaGreatDoor
open Go.RowKit
theorem u8_rd_blk {W : World} {h : Nat} {cs : Array Value} {T : TypeId} {l : List UInt8} {c : Nat} (hb : Blk W h cs T) (hc : cs.toList = l.map fun b => Value.int .u8 (b.toNat : Int)) (h1 : l.length ≤ c) (h2 : c ≤ maxLen) :
    Lay.u8.slice.rd (fun k => k = h) W [.slice (some ⟨h, 0, none⟩) l.length c] l :=
  ⟨_, c, rfl, h1, h2, fun _ => ⟨h, 0, cs, T, (0, 0), _, rfl, rfl, hb, u8_all l, fun j _ => by rw [← hc]; simp⟩⟩
theorem mk1 : ∀ w : World, (Instr.makeSlice 43 (.int .i64 1) (.int .i64 1)).run Tryz.prog w = .ok (.slice (some ⟨w.heap.size, 0, none⟩) 1 1) (w.alloc (.cells #[.int .u8 0] 5)) := fun w => by kernel_rfl
theorem mk8 : ∀ w : World, (Instr.makeSlice 43 (.int .i64 8) (.int .i64 8)).run Tryz.prog w = .ok (.slice (some ⟨w.heap.size, 0, none⟩) 8 8) (w.alloc (.cells #[.int .u8 0, .int .u8 0, .int .u8 0, .int .u8 0, .int .u8 0, .int .u8 0, .int .u8 0, .int .u8 0] 5)) := fun w => by kernel_rfl
theorem Sink.put {S : Sink} {lo g : Nat} {bs : List UInt8} {w W : World} (hS : S.is lo g bs w) (hx : Ext w W) (hlo : lo ≤ w.heap.size) {h m : Nat} {cs : Array Value} {T : TypeId} (ys : List UInt8) {c : Nat} (hm : ys.length = m) (hb : Blk W h cs T) (hc : cs.toList = ys.map fun b => Value.int .u8 (b.toNat : Int)) (h1 : m ≤ c) (h2 : c ≤ maxLen) (hl : bs.length + m ≤ 70368744177664) :
    Calls Tryz.prog S.f #[.pointer (some ⟨g, 0, none⟩), .slice (some ⟨h, 0, none⟩) m c] W fun e w' => e = .returned (.tuple #[.int .i64 (m : Nat), .nilIface]) ∧ Wrote S.toHold lo g w (bs ++ ys) w' := by
  subst hm
  exact (S.write lo g bs ys W _ _ _ c (S.frame hS hx (fun _ _ h => h)).1 (u8_rd_blk hb hc h1 h2) (Nat.le_trans hlo hx.size) hl).mono fun _ _ ⟨he, k1, k2, k3⟩ => ⟨he, Wrote.after hS hx ⟨k1, k2, k3⟩⟩
theorem ofNat_cell (b : Nat) (hb : b < 256) : Value.int .u8 ((UInt8.ofNat b).toNat : Int) = Value.int .u8 (b : Int) := by rw [UInt8.toNat_ofNat', Nat.mod_eq_of_lt (by omega)]
set_option maxRecDepth 100000 in
set_option maxHeartbeats 400000 in
theorem writeByte_calls (S : Sink) (lo g b : Nat) (hb : b < 256) (bs : List UInt8) (w : World) (hS : S.is lo g bs w) (hlo : lo ≤ w.heap.size) (hl : bs.length + 10 ≤ 70368744177664) :
    Calls Tryz.prog 72 #[.iface S.T (.pointer (some ⟨g, 0, none⟩)), .int .u8 b] w fun e w' => e = .returned .nilIface ∧ Wrote S.toHold lo g w (bs ++ [UInt8.ofNat b]) w' := by
  have hna := S.nil g
  have hme := S.meth g
  have hcf := S.call
  have hmk := mk1
  have hS := Lib.hid hS
  have hlo := Lib.hid hlo
  have hl := Lib.hid hl
  have hb := Lib.hid hb
  go_enter Tryz.func72, Tryz.ntmps72
  go_wp2_with fail
  refine (Sink.put (m := 1) (ys := [UInt8.ofNat b]) hS.out (ext_alloc w _) hlo.out rfl (blk_new w _ _) (congrArg (fun v => [v]) (ofNat_cell b hb.out).symm) (by decide) (by decide) (by have := hl.out; omega)).mono ?_
  rintro e w2 ⟨rfl, hW⟩
  have hW := Lib.hid hW
  go_wp2
  go_ret
  exact ⟨rfl, hW.out⟩
def vtByte (t : Int) : Nat := if t = 0 then 127 else if t = 1 then 126 else if t = 2 then 125 else if t = 3 then 124 else 0
set_option maxRecDepth 100000 in
set_option maxHeartbeats 1000000 in
theorem writeValueType_calls (S : Sink) (lo g : Nat) (t : Int) (ht : 0 ≤ t ∧ t ≤ 3) (bs : List UInt8) (w : World) (hS : S.is lo g bs w) (hlo : lo ≤ w.heap.size) (hl : bs.length + 10 ≤ 70368744177664) :
    Calls Tryz.prog 62 #[.iface S.T (.pointer (some ⟨g, 0, none⟩)), .int .i64 t] w fun e w' => e = .returned .nilIface ∧ Wrote S.toHold lo g w (bs ++ [UInt8.ofNat (127 - t).toNat]) w' := by
  have hS := Lib.hid hS
  have hlo := Lib.hid hlo
  have hl := Lib.hid hl
  have h : t = 0 ∨ t = 1 ∨ t = 2 ∨ t = 3 := by omega
  clear ht
  rcases h with rfl | rfl | rfl | rfl
  · go_enter Tryz.func62, Tryz.ntmps62
    go_wp2_with fail
    refine (writeByte_calls S lo g 127 (by decide) bs w hS.out hlo.out hl.out).mono ?_
    rintro e w2 ⟨rfl, hW⟩
    have hW := Lib.hid hW
    go_wp2
    go_ret
    exact ⟨rfl, hW.out⟩
  · go_enter Tryz.func62, Tryz.ntmps62
    go_wp2_with fail
    refine (writeByte_calls S lo g 126 (by decide) bs w hS.out hlo.out hl.out).mono ?_
    rintro e w2 ⟨rfl, hW⟩
    have hW := Lib.hid hW
    go_wp2
    go_ret
    exact ⟨rfl, hW.out⟩
  · go_enter Tryz.func62, Tryz.ntmps62
    go_wp2_with fail
    refine (writeByte_calls S lo g 125 (by decide) bs w hS.out hlo.out hl.out).mono ?_
    rintro e w2 ⟨rfl, hW⟩
    have hW := Lib.hid hW
    go_wp2
    go_ret
    exact ⟨rfl, hW.out⟩
  · go_enter Tryz.func62, Tryz.ntmps62
    go_wp2_with fail
    refine (writeByte_calls S lo g 124 (by decide) bs w hS.out hlo.out hl.out).mono ?_
    rintro e w2 ⟨rfl, hW⟩
    have hW := Lib.hid hW
    go_wp2
    go_ret
    exact ⟨rfl, hW.out⟩
set_option maxRecDepth 100000 in
set_option maxHeartbeats 1000000 in
theorem writeBlockValueType_calls (S : Sink) (lo g : Nat) (t : Int) (ht : t ≤ 3) (kp : Option Addr) (bs : List UInt8) (w : World) (hk : if 0 ≤ t then ∃ kb ko, kp = some ⟨kb, ko, none⟩ ∧ w.cell? ⟨kb, ko, none⟩ = some (.int .i64 t) else kp = none) (hS : S.is lo g bs w) (hlo : lo ≤ w.heap.size) (hl : bs.length + 10 ≤ 70368744177664) :
    Calls Tryz.prog 81 #[.iface S.T (.pointer (some ⟨g, 0, none⟩)), .pointer kp] w fun e w' => e = .returned .nilIface ∧ Wrote S.toHold lo g w (bs ++ [typeByte t]) w' := by
  have hS := Lib.hid hS
  have hlo := Lib.hid hlo
  have hl := Lib.hid hl
  by_cases h0 : 0 ≤ t
  · rw [if_pos h0] at hk
    obtain ⟨kb, ko, rfl, hc⟩ := hk
    have h : t = 0 ∨ t = 1 ∨ t = 2 ∨ t = 3 := by omega
    clear ht h0
    rcases h with rfl | rfl | rfl | rfl
    · go_enter Tryz.func81, Tryz.ntmps81
      go_wp2_with fail
      refine (writeByte_calls S lo g 127 (by decide) bs w hS.out hlo.out hl.out).mono ?_
      rintro e w2 ⟨rfl, hW⟩
      have hW := Lib.hid hW
      clear hc
      go_wp2
      go_ret
      exact ⟨rfl, hW.out⟩
    · go_enter Tryz.func81, Tryz.ntmps81
      go_wp2_with fail
      refine (writeByte_calls S lo g 126 (by decide) bs w hS.out hlo.out hl.out).mono ?_
      rintro e w2 ⟨rfl, hW⟩
      have hW := Lib.hid hW
      clear hc
      go_wp2
      go_ret
      exact ⟨rfl, hW.out⟩
    · go_enter Tryz.func81, Tryz.ntmps81
      go_wp2_with fail
      refine (writeByte_calls S lo g 125 (by decide) bs w hS.out hlo.out hl.out).mono ?_
      rintro e w2 ⟨rfl, hW⟩
      have hW := Lib.hid hW
      clear hc
      go_wp2
      go_ret
      exact ⟨rfl, hW.out⟩
    · go_enter Tryz.func81, Tryz.ntmps81
      go_wp2_with fail
      refine (writeByte_calls S lo g 124 (by decide) bs w hS.out hlo.out hl.out).mono ?_
      rintro e w2 ⟨rfl, hW⟩
      have hW := Lib.hid hW
      clear hc
      go_wp2
      go_ret
      exact ⟨rfl, hW.out⟩
  · rw [if_neg h0] at hk
    subst hk
    have htb := Lib.hid (show typeByte t = 64 from by unfold typeByte; rw [if_neg h0])
    clear h0 ht
    go_enter Tryz.func81, Tryz.ntmps81
    go_wp2_with fail
    refine (writeByte_calls S lo g 64 (by decide) bs w hS.out hlo.out hl.out).mono ?_
    rintro e w2 ⟨rfl, hW⟩
    have hW := Lib.hid hW
    go_wp2
    go_ret
    exact ⟨rfl, by rw [htb.out]; exact hW.out⟩
theorem low4 (n : Nat) (hn : n < 4294967296) : (#[Value.int .u8 ((n : Int) % 256), .int .u8 ((n : Int) / 256 % 256), .int .u8 ((n : Int) / 65536 % 256), .int .u8 ((n : Int) / 16777216)] : Array Value).toList = (lowBytes 4 n).map fun b => Value.int .u8 (b.toNat : Int) := by
  simp only [lowBytes, List.map_cons, List.map_nil, UInt8.toNat_ofNat']
  congr 1
  · congr 1; omega
  congr 1
  · congr 1; omega
  congr 1
  · congr 1; omega
  congr 1
  · congr 1; omega
def low8 (n : Nat) : List Value := (lowBytes 8 n).map fun b => Value.int .u8 (b.toNat : Int)
theorem step8 {n i : Nat} {cs : Array Value} {v : Value} (hs : cs.size = 8) (h : ∀ j, j < i → cs[j]? = (low8 n)[j]?) (hi : i < 8) (hv : some v = (low8 n)[i]?) : ∀ j, j < i + 1 → (cs.setIfInBounds i v)[j]? = (low8 n)[j]? := by
  intro j hj
  rw [Array.getElem?_setIfInBounds]
  by_cases e : i = j
  · subst e
    rw [if_pos rfl, if_pos (by omega)]
    exact hv
  · rw [if_neg e]
    exact h j (by omega)
theorem all8 {n : Nat} {cs : Array Value} (hs : cs.size = 8) (h : ∀ j, j < 8 → cs[j]? = (low8 n)[j]?) : cs.toList = (lowBytes 8 n).map fun b => Value.int .u8 (b.toNat : Int) := by
  apply List.ext_getElem?
  intro j
  rw [Array.getElem?_toList]
  rcases Nat.lt_or_ge j 8 with hj | hj
  · exact h j hj
  · rw [Array.getElem?_eq_none (by omega), List.getElem?_eq_none (by simpa [lowBytes] using hj)]
set_option maxRecDepth 100000 in
set_option maxHeartbeats 1000000 in
theorem zzWrite32_calls (S : Sink) (lo g n : Nat) (hn : n < 4294967296) (bs : List UInt8) (w : World) (hS : S.is lo g bs w) (hlo : lo ≤ w.heap.size) (hl : bs.length + 10 ≤ 70368744177664) :
    Calls Tryz.prog 77 #[.iface S.T (.pointer (some ⟨g, 0, none⟩)), .int .u32 n] w fun e w' => e = .returned .nilIface ∧ Wrote S.toHold lo g w (bs ++ lowBytes 4 n) w' := by
  have hna := S.nil g
  have hme := S.meth g
  have hcf := S.call
  have hS := Lib.hid hS
  have hlo := Lib.hid hlo
  have hl := Lib.hid hl
  have hn' := Lib.hid hn
  go_enter Tryz.func77, Tryz.ntmps77
  go_wp2_with fail
  refine (Sink.put (m := 4) (ys := lowBytes 4 n) hS.out (ext_alloc w _) hlo.out rfl (blk_new w _ _) (low4 n hn'.out) (by decide) (by decide) (by have := hl.out; omega)).mono ?_
  rintro e w2 ⟨rfl, hW⟩
  have hW := Lib.hid hW
  go_wp2
  go_ret
  exact ⟨rfl, hW.out⟩
set_option maxRecDepth 100000 in
set_option maxHeartbeats 2000000 in
theorem zzWrite64_calls (S : Sink) (lo g n : Nat) (hn : n < 18446744073709551616) (bs : List UInt8) (w : World) (hS : S.is lo g bs w) (hlo : lo ≤ w.heap.size) (hl : bs.length + 10 ≤ 70368744177664) :
    Calls Tryz.prog 79 #[.iface S.T (.pointer (some ⟨g, 0, none⟩)), .int .u64 n] w fun e w' => e = .returned .nilIface ∧ Wrote S.toHold lo g w (bs ++ lowBytes 8 n) w' := by
  have hna := S.nil g
  have hme := S.meth g
  have hcf := S.call
  have hmk := mk8
  have hS := Lib.hid hS
  have hlo := Lib.hid hlo
  have hl := Lib.hid hl
  have hn' := Lib.hid hn
  go_enter Tryz.func79, Tryz.ntmps79
  go_wp2_with fail
  go_loopw [12] (fun s12 w' => ∃ (i : Nat) (cs : Array Value), i ≤ 8 ∧ s12 = .int .i64 i ∧ Hid (Blk w' w.heap.size cs 5 ∧ cs.size = 8 ∧ Ext w w' ∧ ∀ j, j < i → cs[j]? = (low8 n)[j]?)) (fun s12 _ => 8 - (intOf s12).toNat)
  case atStart => exact ⟨0, _, by omega, rfl, blk_new _ _ _, rfl, ext_alloc _ _, fun j h => absurd h (Nat.not_lt_zero _)⟩
  case round =>
    obtain ⟨i, cs, hi, rfl, hV⟩ := hrel
    by_cases hlt : i < 8
    · have hfz := hV.out.1.frz
      have hcx : ∃ v, wr.cell? ⟨w.heap.size, i, none⟩ = some v := ⟨_, by rw [hV.out.1.cell]; exact Array.getElem?_eq_getElem (by rw [hV.out.2.1]; omega)⟩
      obtain ⟨cv, hcv⟩ := hcx
      have h8 : i = 0 ∨ i = 1 ∨ i = 2 ∨ i = 3 ∨ i = 4 ∨ i = 5 ∨ i = 6 ∨ i = 7 := by omega
      rcases h8 with rfl | rfl | rfl | rfl | rfl | rfl | rfl | rfl
      · go_wp2
        refine ⟨⟨1, cs.setIfInBounds 0 (.int .u8 ((n : Int) % 256)), by decide, rfl, hV.out.1.set _ _, by simp [hV.out.2.1], Fr.setCell hV.out.2.2.1 (.inr (Nat.le_refl _)) _, step8 hV.out.2.1 hV.out.2.2.2 (by decide) ?_⟩, by simp [intOf]⟩
        show some (Value.int .u8 (_ : Int)) = _
        congr 2
        simp only [UInt8.toNat_ofNat']
        omega
      · go_wp2
        refine ⟨⟨2, cs.setIfInBounds 1 (.int .u8 ((n : Int) / 256 % 256)), by decide, rfl, hV.out.1.set _ _, by simp [hV.out.2.1], Fr.setCell hV.out.2.2.1 (.inr (Nat.le_refl _)) _, step8 hV.out.2.1 hV.out.2.2.2 (by decide) ?_⟩, by simp [intOf]⟩
        show some (Value.int .u8 (_ : Int)) = _
        congr 2
        simp only [UInt8.toNat_ofNat']
        omega
      · go_wp2
        refine ⟨⟨3, cs.setIfInBounds 2 (.int .u8 ((n : Int) / 65536 % 256)), by decide, rfl, hV.out.1.set _ _, by simp [hV.out.2.1], Fr.setCell hV.out.2.2.1 (.inr (Nat.le_refl _)) _, step8 hV.out.2.1 hV.out.2.2.2 (by decide) ?_⟩, by simp [intOf]⟩
        show some (Value.int .u8 (_ : Int)) = _
        congr 2
        simp only [UInt8.toNat_ofNat']
        omega
      · go_wp2
        refine ⟨⟨4, cs.setIfInBounds 3 (.int .u8 ((n : Int) / 16777216 % 256)), by decide, rfl, hV.out.1.set _ _, by simp [hV.out.2.1], Fr.setCell hV.out.2.2.1 (.inr (Nat.le_refl _)) _, step8 hV.out.2.1 hV.out.2.2.2 (by decide) ?_⟩, by simp [intOf]⟩
        show some (Value.int .u8 (_ : Int)) = _
        congr 2
        simp only [UInt8.toNat_ofNat']
        omega
      · go_wp2
        refine ⟨⟨5, cs.setIfInBounds 4 (.int .u8 ((n : Int) / 4294967296 % 256)), by decide, rfl, hV.out.1.set _ _, by simp [hV.out.2.1], Fr.setCell hV.out.2.2.1 (.inr (Nat.le_refl _)) _, step8 hV.out.2.1 hV.out.2.2.2 (by decide) ?_⟩, by simp [intOf]⟩
        show some (Value.int .u8 (_ : Int)) = _
        congr 2
        simp only [UInt8.toNat_ofNat']
        omega
      · go_wp2
        refine ⟨⟨6, cs.setIfInBounds 5 (.int .u8 ((n : Int) / 1099511627776 % 256)), by decide, rfl, hV.out.1.set _ _, by simp [hV.out.2.1], Fr.setCell hV.out.2.2.1 (.inr (Nat.le_refl _)) _, step8 hV.out.2.1 hV.out.2.2.2 (by decide) ?_⟩, by simp [intOf]⟩
        show some (Value.int .u8 (_ : Int)) = _
        congr 2
        simp only [UInt8.toNat_ofNat']
        omega
      · go_wp2
        refine ⟨⟨7, cs.setIfInBounds 6 (.int .u8 ((n : Int) / 281474976710656 % 256)), by decide, rfl, hV.out.1.set _ _, by simp [hV.out.2.1], Fr.setCell hV.out.2.2.1 (.inr (Nat.le_refl _)) _, step8 hV.out.2.1 hV.out.2.2.2 (by decide) ?_⟩, by simp [intOf]⟩
        show some (Value.int .u8 (_ : Int)) = _
        congr 2
        simp only [UInt8.toNat_ofNat']
        omega
      · go_wp2
        refine ⟨⟨8, cs.setIfInBounds 7 (.int .u8 ((n : Int) / 72057594037927936)), by decide, rfl, hV.out.1.set _ _, by simp [hV.out.2.1], Fr.setCell hV.out.2.2.1 (.inr (Nat.le_refl _)) _, step8 hV.out.2.1 hV.out.2.2.2 (by decide) ?_⟩, by simp [intOf]⟩
        show some (Value.int .u8 (_ : Int)) = _
        congr 2
        simp only [UInt8.toNat_ofNat']
        omega
    · obtain rfl : i = 8 := by omega
      go_wp2_with fail
      refine (Sink.put (m := 8) (ys := lowBytes 8 n) hS.out hV.out.2.2.1 hlo.out rfl hV.out.1 (all8 hV.out.2.1 hV.out.2.2.2) (by decide) (by decide) (by have := hl.out; omega)).mono ?_
      rintro e w2 ⟨rfl, hW⟩
      have hW := Lib.hid hW
      go_wp2
      go_ret
      exact ⟨rfl, hW.out⟩
end Go.Proofs.YtkbadfljmbeciaaGreatDoor
