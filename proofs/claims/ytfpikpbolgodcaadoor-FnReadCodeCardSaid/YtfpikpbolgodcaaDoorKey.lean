/- The reference's keys: numbers, lists of numbers, function types. -/
import Derived.Test.YtfpikpbolgodcaaDoorHold
namespace Go.Proofs.YtfpikpbolgodcaaDoor
open Go.RowKit
abbrev holdK : Hold := holdB 59
/-- uint64(n) of an int, written. -/
def ulebI (n : Int) : List UInt8 := uleb (n % 18446744073709551616).toNat
theorem ulebI_len (n : Int) : (ulebI n).length ≤ 10 := uleb_len64 _ (by omega)
def keyNums (l : List Int) : List UInt8 := uleb l.length ++ l.flatMap ulebI
theorem flat_len (l : List Int) : (l.flatMap ulebI).length ≤ 10 * l.length := by
  induction l with
  | nil => simp
  | cons a l ih =>
    have := ulebI_len a
    simp only [List.flatMap_cons, List.length_append, List.length_cons]
    omega
/-- A contract's bounds: bytes there, and to come. -/
abbrev KeyCap : Nat := 70368744177664

set_option maxRecDepth 100000 in
set_option maxHeartbeats 400000 in
theorem key_number_calls (lo g n : Nat) (hn : n < 18446744073709551616) (bs : List UInt8) (w : World) (hS : holdK.is lo g bs w) (hlo : lo ≤ w.heap.size) (hl : bs.length + 10 ≤ KeyCap) :
    Calls Tryd.prog 16 #[.pointer (some ⟨g, 0, none⟩), .int .u64 n] w fun e w' => e = .returned (.tuple #[]) ∧ Wrote holdK lo g w (bs ++ uleb n) w' := by
  obtain ⟨hg, v, hb, ho, hne⟩ := hS
  have hc := hb.cell 0
  simp only [List.getElem?_toArray, List.getElem?_cons_zero] at hc
  have H := Lib.hid (And.intro hg (And.intro hb (And.intro ho (And.intro hne (And.intro hlo (And.intro hn hl))))))
  clear hg hb ho hne hlo hl hn
  go_enter Tryd.func16, Tryd.ntmps16
  go_wp2_with (go_at_call 26; refine Hid.out ?_)
  obtain ⟨hg, hb, ho, hne, hlo, hn, hl⟩ := H.out
  refine (specAppendUnsigned_calls n hn lo v bs w ho hlo (by simp only [KeyCap] at hl; omega)).mono ?_
  rintro e w1 ⟨v1, rfl, h1, h2, h3⟩
  clear hc
  have hb1 := hb.fr h2 (fun e => hne e.symm)
  have hc1 := hb1.cell 0
  have hf1 := hb1.frz 0
  simp only [List.getElem?_toArray, List.getElem?_cons_zero] at hc1
  obtain ⟨aa1, n1, cap1, e1⟩ := h1.shape
  subst e1
  have H1 := Lib.hid (And.intro h1 (And.intro h2 h3))
  clear hg hb ho hne hlo hn hl h1 h2 h3 hb1
  go_wp2
  go_end0
  obtain ⟨hg, hb, ho, hne, hlo, hn, hl⟩ := H.out
  obtain ⟨h1, h2, h3⟩ := H1.out
  exact ⟨rfl, isB_step hg hb hne h1 h2 h3⟩

end Go.Proofs.YtfpikpbolgodcaaDoor
