/- Texts of this proof, one behind the other. -/
import Derived.Test.YtejgninpjhcgnaaGreatDoorPart8
import Derived.Lib.AppendStr
namespace Go.Proofs.YtejgninpjhcgnaaGreatDoor
open Go.RowKit
set_option linter.unusedSimpArgs false
set_option linter.unusedVariables false
set_option maxRecDepth 100000
set_option maxHeartbeats 8000000
theorem zbx (k : Int) (hk : ¬ (k = 0 ∨ k = 1 ∨ k = 2 ∨ k = 3 ∨ k = 4 ∨ k = 5)) (b : UInt64) : yf (k, b) = .iface 89 (.int .u64 (b.toNat : Int)) := by
 simp only [not_or] at hk
 simp [yf, hk.1, hk.2.1, hk.2.2.1, hk.2.2.2.1, hk.2.2.2.2.1, hk.2.2.2.2.2]
variable {A : Nat → Prop} {w : World} {n : Nat}
theorem ziO {a : Option Addr} {cap : Nat} {xs : List (Int × UInt64)} (h : Lay.anyv.slice.rd A w [.slice a n cap] xs) (i : Nat) (hi : i < xs.length) :
 ∃ (b o : Nat), a = some ⟨b, o, none⟩ ∧ A b ∧ w.cell? ⟨b, o + i, none⟩ = some (yf xs[i]) := by
 have hn : xs.length = n := by
  obtain ⟨_, _, e, _⟩ := h
  simp only [List.cons.injEq, Value.slice.injEq, and_true] at e
  exact e.2.1.symm
 obtain ⟨b, o, es, er, e, hA, _, hr, hc⟩ := Lay.slice_at h i (by omega)
 obtain rfl : es = _ := hr
 have := hc 0 (by decide)
 rw [show o + i * Lay.anyv.size + 0 = o + i from by show o + i * 1 + 0 = o + i; omega] at this
 exact ⟨b, o, e, hA, this⟩
variable {l : List Ins}
theorem zj4 {aa : Option Addr} {m c : Nat} (h : (Lay.own n).slice.rd A w [.slice aa m c] l) (i : Nat) (hi : i < l.length) :
 ∃ k b o a m' c', n = k + 1 ∧ aa = some ⟨b, o, none⟩ ∧ A b ∧ Lay.anyv.slice.rd A w [.slice a m' c'] l[i].args ∧
  ((l[i].st = false ∧ w.cell? ⟨b, o + i, none⟩ = some (.iface 330 (.agg #[.int .u8 (l[i].op % 256), .slice a m' c']))) ∨
   (l[i].st = true ∧ ∃ kp ba bn bc, w.cell? ⟨b, o + i, none⟩ = some (.iface 333 (.agg #[.int .u8 (l[i].op % 256), .slice a m' c', .pointer kp, .slice ba bn bc])) ∧ Lay.KindAt A w kp l[i].ty ∧ (Lay.own k).slice.rd A w [.slice ba bn bc] l[i].body)) := by
 have hm : m = l.length := by obtain ⟨_, _, e, _⟩ := h; simp only [List.cons.injEq, Value.slice.injEq, and_true] at e; exact e.2.1
 obtain ⟨b, o, es, er, e, hA, _, hr, hc⟩ := Lay.slice_at h i (by omega)
 cases n with
 | zero => exact hr.elim
 | succ k =>
  obtain ⟨a, m', c', h1, h2⟩ := hr
  have h0 := hc 0 (by rw [Lay.own_size]; decide)
  rw [show o + i * (Lay.own (k + 1)).size + 0 = o + i from by rw [Lay.own_size]; omega] at h0
  refine ⟨k, b, o, a, m', c', rfl, e, hA, h1, ?_⟩
  split at h2
  ·rename_i hs
   obtain ⟨kp, ba, bn, bc, rfl, h3, h4⟩ := h2
   exact .inr ⟨hs, kp, ba, bn, bc, h0, h3, h4⟩
  ·rename_i hs
   subst h2
   exact .inl ⟨by simpa using hs, h0⟩
variable {kp : Option Addr} {ty : Int}
theorem KindAt.fr {S : Nat → Prop} {w' : World} (h : Lay.KindAt A w kp ty) (hf : Fr S w w') (ha : ∀ k, A k → k < w.heap.size ∧ ¬ S k) : Lay.KindAt A w' kp ty := by
 unfold Lay.KindAt at *
 split at h
 ·rename_i ht
  rw [if_pos ht]
  obtain ⟨kb, ko, bO, T, fz, e1, e2, e3, e4⟩ := h
  exact ⟨kb, ko, bO, T, fz, e1, e2, (hf.block kb (ha kb e2).1 (ha kb e2).2).trans e3, e4⟩
 ·rename_i ht
  rw [if_neg ht]; exact h
theorem KindAt.cell (h : Lay.KindAt A w kp ty) : if 0 ≤ ty then ∃ kb ko, kp = some ⟨kb, ko, none⟩ ∧ w.cell? ⟨kb, ko, none⟩ = some (.int .i64 ty) else kp = none := by
 unfold Lay.KindAt at h
 split at h
 ·rename_i ht
  rw [if_pos ht]
  obtain ⟨kb, ko, bO, T, fz, e1, e2, e3, e4⟩ := h
  exact ⟨kb, ko, e1, by rw [Lib.cell_of_heap e3]; exact e4⟩
 ·rename_i ht
  rw [if_neg ht]; exact h
namespace Lay
def wlim : Lay Lim where
 size := 2
 rd A w cs x := ∃ q, cs = [.int .u32 (x.min.toNat : Int), .pointer q] ∧ ((x.bounded = false ∧ q = none) ∨ (x.bounded = true ∧ ∃ b o bO T fz, q = some ⟨b, o, none⟩ ∧ A b ∧ w.heap[b]? = some (.cells bO T fz) ∧ bO[o]? = some (.int .u32 (x.max.toNat : Int))))
 len := by rintro A w cs x ⟨q, rfl, _⟩; rfl
 one := by
  rintro A w cs x ⟨q, rfl, _⟩ u hu
  simp only [List.mem_cons, List.not_mem_nil, or_false] at hu
  rcases hu with rfl | rfl <;> rfl
 frame := by
  rintro A w w' cs x ⟨q, rfl, h | ⟨h, b, o, bO, T, fz, rfl, hA, hb, hc⟩⟩ hf
  ·exact ⟨q, rfl, .inl h⟩
  ·exact ⟨_, rfl, .inr ⟨h, b, o, bO, T, fz, rfl, hA, (hf b hA).trans hb, hc⟩⟩
 mono := by
  rintro A A' w cs x ⟨q, rfl, h | ⟨h, b, o, bO, T, fz, rfl, hA, hb, hc⟩⟩ hf
  ·exact ⟨q, rfl, .inl h⟩
  ·exact ⟨_, rfl, .inr ⟨h, b, o, bO, T, fz, rfl, hf b hA, hb, hc⟩⟩
def wtab : Lay Lim := ((cell1 (fun _ : Unit => .int .i64 0) (fun _ => rfl)).pair wlim).via (fun x => ((), x))
def wdesc : Lay Imp where
 size := 1
 rd A w cs x := if x.kind = 0 then cs = [.iface 286 (.agg #[.int .u32 (x.index.toNat : Int)])]
  else if x.kind = 1 then ∃ u v, cs = [.iface 287 (.agg #[.int .i64 0, u, v])] ∧ wlim.rd A w [u, v] x.lim
  else if x.kind = 2 then ∃ u v, cs = [.iface 290 (.agg #[u, v])] ∧ wlim.rd A w [u, v] x.lim
  else cs = [.iface 292 (.agg #[.int .i64 x.ty, .bool x.mtb])]
 len := by
  intro A w cs x h
  split at h
  ·rw [h]; rfl
  split at h
  ·obtain ⟨u, v, h, _⟩ := h; rw [h]; rfl
  split at h
  ·obtain ⟨u, v, h, _⟩ := h; rw [h]; rfl
  ·rw [h]; rfl
 one := by
  intro A w cs x h z hz
  split at h
  ·rw [h] at hz; obtain rfl := List.mem_singleton.1 hz; rfl
  split at h
  ·obtain ⟨u, v, h, _⟩ := h; rw [h] at hz; obtain rfl := List.mem_singleton.1 hz; rfl
  split at h
  ·obtain ⟨u, v, h, _⟩ := h; rw [h] at hz; obtain rfl := List.mem_singleton.1 hz; rfl
  ·rw [h] at hz; obtain rfl := List.mem_singleton.1 hz; rfl
 frame := by
  intro A w w' cs x h hf
  split at h
  ·rename_i h0; rw [if_pos h0]; exact h
  rename_i h0
  split at h
  ·rename_i h1; rw [if_neg h0, if_pos h1]; obtain ⟨u, v, h, k⟩ := h; exact ⟨u, v, h, wlim.frame k hf⟩
  rename_i h1
  split at h
  ·rename_i h2; rw [if_neg h0, if_neg h1, if_pos h2]; obtain ⟨u, v, h, k⟩ := h; exact ⟨u, v, h, wlim.frame k hf⟩
  ·rename_i h2; rw [if_neg h0, if_neg h1, if_neg h2]; exact h
 mono := by
  intro A A' w cs x h hf
  split at h
  ·rename_i h0; rw [if_pos h0]; exact h
  rename_i h0
  split at h
  ·rename_i h1; rw [if_neg h0, if_pos h1]; obtain ⟨u, v, h, k⟩ := h; exact ⟨u, v, h, wlim.mono k hf⟩
  rename_i h1
  split at h
  ·rename_i h2; rw [if_neg h0, if_neg h1, if_pos h2]; obtain ⟨u, v, h, k⟩ := h; exact ⟨u, v, h, wlim.mono k hf⟩
  ·rename_i h2; rw [if_neg h0, if_neg h1, if_neg h2]; exact h
def wimp : Lay Imp := (strB.pair (strB.pair wdesc)).via (fun x => (x.mdl, x.name, x))
def wglob (n : Nat) : Lay Glob := (int.pair (bool.pair (own n).slice)).via (fun x => (x.ty, x.mtb, x.init))
def welem (n : Nat) : Lay Elem := (u32.pair ((own n).slice.pair u32.slice)).via (fun x => (x.index, x.off, x.ids))
def wdat (n : Nat) : Lay Dat := (u32.pair ((own n).slice.pair u8.slice)).via (fun x => (x.index, x.off, x.init))
def wnam : Lay Nam := (u32.pair strB).via (fun x => (x.idx, x.name))
theorem wdesc_iface {A : Nat → Prop} {w : World} {cs : List Value} {x : Imp} (h : wdesc.rd A w cs x) : ∃ T p, cs = [.iface T p] := by
 have h' : if x.kind = 0 then _ else _ := h
 split at h'
 ·exact ⟨_, _, h'⟩
 split at h'
 ·obtain ⟨_, _, h', _⟩ := h'; exact ⟨_, _, h'⟩
 split at h'
 ·obtain ⟨_, _, h', _⟩ := h'; exact ⟨_, _, h'⟩
 ·exact ⟨_, _, h'⟩
abbrev wraw : Lay (List UInt8) := u8.slice
theorem wlim_at {A : Nat → Prop} {w : World} {a : Option Addr} {m cap : Nat} {xs : List Lim} (h : wlim.slice.rd A w [.slice a m cap] xs) (i : Nat) (hi : i < xs.length) : ∃ b o q, a = some ⟨b, o, none⟩ ∧ w.cell? ⟨b, o + i * 2, none⟩ = some (.int .u32 (xs[i].min.toNat : Int)) ∧ w.cell? ⟨b, o + i * 2 + 1, none⟩ = some (.pointer q) ∧ wlim.rd A w [.int .u32 (xs[i].min.toNat : Int), .pointer q] xs[i] := by
 have hm : xs.length = m := by obtain ⟨_, _, e, _⟩ := h; simp only [List.cons.injEq, Value.slice.injEq, and_true] at e; exact e.2.1.symm
 obtain ⟨b, o, es, er, e, hA, _, hr, hc⟩ := slice_at h i (by omega)
 obtain ⟨q, rfl, _⟩ := id hr
 exact ⟨b, o, q, e, hc 0 (by show 0 < 2; omega), hc 1 (by show 1 < 2; omega), hr⟩
theorem wtab_at {A : Nat → Prop} {w : World} {a : Option Addr} {m cap : Nat} {xs : List Lim} (h : wtab.slice.rd A w [.slice a m cap] xs) (i : Nat) (hi : i < xs.length) : ∃ b o q, a = some ⟨b, o, none⟩ ∧ w.cell? ⟨b, o + i * 3, none⟩ = some (.int .i64 0) ∧ w.cell? ⟨b, o + i * 3 + 1, none⟩ = some (.int .u32 (xs[i].min.toNat : Int)) ∧ w.cell? ⟨b, o + i * 3 + 2, none⟩ = some (.pointer q) ∧ wlim.rd A w [.int .u32 (xs[i].min.toNat : Int), .pointer q] xs[i] := by
 have hm : xs.length = m := by obtain ⟨_, _, e, _⟩ := h; simp only [List.cons.injEq, Value.slice.injEq, and_true] at e; exact e.2.1.symm
 obtain ⟨b, o, es, er, e, hA, _, hr, hc⟩ := slice_at h i (by omega)
 obtain ⟨_, _, rfl, rfl, hr⟩ := hr
 obtain ⟨q, rfl, _⟩ := id hr
 exact ⟨b, o, q, e, hc 0 (by show 0 < 3; omega), hc 1 (by show 1 < 3; omega), hc 2 (by show 2 < 3; omega), hr⟩
theorem wimp_at {A : Nat → Prop} {w : World} {a : Option Addr} {m cap : Nat} {xs : List Imp} (h : wimp.slice.rd A w [.slice a m cap] xs) (i : Nat) (hi : i < xs.length) : ∃ b o T p, a = some ⟨b, o, none⟩ ∧ w.cell? ⟨b, o + i * 3, none⟩ = some (.string (zc xs[i].mdl)) ∧ w.cell? ⟨b, o + i * 3 + 1, none⟩ = some (.string (zc xs[i].name)) ∧ w.cell? ⟨b, o + i * 3 + 2, none⟩ = some (.iface T p) ∧ wdesc.rd A w [.iface T p] xs[i] := by
 have hm : xs.length = m := by obtain ⟨_, _, e, _⟩ := h; simp only [List.cons.injEq, Value.slice.injEq, and_true] at e; exact e.2.1.symm
 obtain ⟨b, o, es, er, e, hA, _, hr, hc⟩ := slice_at h i (by omega)
 obtain ⟨_, _, rfl, ⟨rfl, q0⟩, ⟨_, cd, rfl, ⟨rfl, q1⟩, q2⟩⟩ := hr
 obtain ⟨T, p, rfl⟩ := wdesc_iface q2
 exact ⟨b, o, T, p, e, hc 0 (by show 0 < 3; omega), hc 1 (by show 1 < 3; omega), hc 2 (by show 2 < 3; omega), q2⟩
theorem wglob_at {n : Nat} {A : Nat → Prop} {w : World} {a : Option Addr} {m cap : Nat} {xs : List Glob} (h : (wglob n).slice.rd A w [.slice a m cap] xs) (i : Nat) (hi : i < xs.length) : ∃ b o a1 c1, a = some ⟨b, o, none⟩ ∧ w.cell? ⟨b, o + i * 3, none⟩ = some (.int .i64 xs[i].ty) ∧ w.cell? ⟨b, o + i * 3 + 1, none⟩ = some (.bool xs[i].mtb) ∧ w.cell? ⟨b, o + i * 3 + 2, none⟩ = some (.slice a1 xs[i].init.length c1) ∧ (own n).slice.rd A w [.slice a1 xs[i].init.length c1] xs[i].init := by
 have hm : xs.length = m := by obtain ⟨_, _, e, _⟩ := h; simp only [List.cons.injEq, Value.slice.injEq, and_true] at e; exact e.2.1.symm
 obtain ⟨b, o, es, er, e, hA, _, hr, hc⟩ := slice_at h i (by omega)
 obtain ⟨_, _, rfl, ⟨rfl, q0⟩, ⟨_, _, rfl, rfl, h2⟩⟩ := hr
 obtain ⟨a1, c1, rfl, -, -⟩ := slice_form2 h2
 exact ⟨b, o, a1, c1, e, hc 0 (by show 0 < 3; omega), hc 1 (by show 1 < 3; omega), hc 2 (by show 2 < 3; omega), h2⟩
theorem welem_at {n : Nat} {A : Nat → Prop} {w : World} {a : Option Addr} {m cap : Nat} {xs : List Elem} (h : (welem n).slice.rd A w [.slice a m cap] xs) (i : Nat) (hi : i < xs.length) : ∃ b o a1 c1 a2 c2, a = some ⟨b, o, none⟩ ∧ w.cell? ⟨b, o + i * 3, none⟩ = some (.int .u32 (xs[i].index.toNat : Int)) ∧ w.cell? ⟨b, o + i * 3 + 1, none⟩ = some (.slice a1 xs[i].off.length c1) ∧ w.cell? ⟨b, o + i * 3 + 2, none⟩ = some (.slice a2 xs[i].ids.length c2) ∧ (own n).slice.rd A w [.slice a1 xs[i].off.length c1] xs[i].off ∧ u32.slice.rd A w [.slice a2 xs[i].ids.length c2] xs[i].ids := by
 have hm : xs.length = m := by obtain ⟨_, _, e, _⟩ := h; simp only [List.cons.injEq, Value.slice.injEq, and_true] at e; exact e.2.1.symm
 obtain ⟨b, o, es, er, e, hA, _, hr, hc⟩ := slice_at h i (by omega)
 obtain ⟨_, _, rfl, rfl, ⟨_, _, rfl, h1, h2⟩⟩ := hr
 obtain ⟨a1, c1, rfl, -, -⟩ := slice_form2 h1
 obtain ⟨a2, c2, rfl, -, -⟩ := slice_form2 h2
 exact ⟨b, o, a1, c1, a2, c2, e, hc 0 (by show 0 < 3; omega), hc 1 (by show 1 < 3; omega), hc 2 (by show 2 < 3; omega), h1, h2⟩
theorem wdat_at {n : Nat} {A : Nat → Prop} {w : World} {a : Option Addr} {m cap : Nat} {xs : List Dat} (h : (wdat n).slice.rd A w [.slice a m cap] xs) (i : Nat) (hi : i < xs.length) : ∃ b o a1 c1 a2 c2, a = some ⟨b, o, none⟩ ∧ w.cell? ⟨b, o + i * 3, none⟩ = some (.int .u32 (xs[i].index.toNat : Int)) ∧ w.cell? ⟨b, o + i * 3 + 1, none⟩ = some (.slice a1 xs[i].off.length c1) ∧ w.cell? ⟨b, o + i * 3 + 2, none⟩ = some (.slice a2 xs[i].init.length c2) ∧ (own n).slice.rd A w [.slice a1 xs[i].off.length c1] xs[i].off ∧ u8.slice.rd A w [.slice a2 xs[i].init.length c2] xs[i].init := by
 have hm : xs.length = m := by obtain ⟨_, _, e, _⟩ := h; simp only [List.cons.injEq, Value.slice.injEq, and_true] at e; exact e.2.1.symm
 obtain ⟨b, o, es, er, e, hA, _, hr, hc⟩ := slice_at h i (by omega)
 obtain ⟨_, _, rfl, rfl, ⟨_, _, rfl, h1, h2⟩⟩ := hr
 obtain ⟨a1, c1, rfl, -, -⟩ := slice_form2 h1
 obtain ⟨a2, c2, rfl, -, -⟩ := slice_form2 h2
 exact ⟨b, o, a1, c1, a2, c2, e, hc 0 (by show 0 < 3; omega), hc 1 (by show 1 < 3; omega), hc 2 (by show 2 < 3; omega), h1, h2⟩
theorem wnam_at {A : Nat → Prop} {w : World} {a : Option Addr} {m cap : Nat} {xs : List Nam} (h : wnam.slice.rd A w [.slice a m cap] xs) (i : Nat) (hi : i < xs.length) : ∃ b o , a = some ⟨b, o, none⟩ ∧ w.cell? ⟨b, o + i * 2, none⟩ = some (.int .u32 (xs[i].idx.toNat : Int)) ∧ w.cell? ⟨b, o + i * 2 + 1, none⟩ = some (.string (zc xs[i].name)) := by
 have hm : xs.length = m := by obtain ⟨_, _, e, _⟩ := h; simp only [List.cons.injEq, Value.slice.injEq, and_true] at e; exact e.2.1.symm
 obtain ⟨b, o, es, er, e, hA, _, hr, hc⟩ := slice_at h i (by omega)
 obtain ⟨_, _, rfl, rfl, ⟨rfl, q⟩⟩ := hr
 exact ⟨b, o, e, hc 0 (by show 0 < 2; omega), hc 1 (by show 1 < 2; omega)⟩
theorem wraw_at {A : Nat → Prop} {w : World} {a : Option Addr} {m cap : Nat} {xs : List (List UInt8)} (h : wraw.slice.rd A w [.slice a m cap] xs) (i : Nat) (hi : i < xs.length) : ∃ b o a1 c1, a = some ⟨b, o, none⟩ ∧ w.cell? ⟨b, o + i, none⟩ = some (.slice a1 xs[i].length c1) ∧ u8.slice.rd A w [.slice a1 xs[i].length c1] xs[i] := by
 have hm : xs.length = m := by obtain ⟨_, _, e, _⟩ := h; simp only [List.cons.injEq, Value.slice.injEq, and_true] at e; exact e.2.1.symm
 obtain ⟨b, o, es, er, e, hA, _, hr, hc⟩ := slice_at h i (by omega)
 obtain ⟨a1, c1, rfl, -, -⟩ := slice_form2 hr
 exact ⟨b, o, a1, c1, e, by rw [show o + i = o + i * 1 from by omega]; exact hc 0 (by show 0 < 1; omega), hr⟩
end Lay
theorem yX (S : Sink) (n : Nat) : ∀ (l : List Ins) (lo g : Nat) (aa : Option Addr) (m c : Nat) (A : Nat → Prop) (bs : List UInt8) (w : World), S.is lo g bs w → (Lay.own n).slice.rd A w [.slice aa m c] l → Away S.toHold g w A → lo ≤ w.heap.size → zaV l → bs.length + (jJ l).length + 20 ≤ 70368744177664 →
 Calls Tryz.prog 117 #[.iface S.T (.pointer (some ⟨g, 0, none⟩)), .slice aa m c] w fun e w' => e = .returned .nilIface ∧ Wrote S.toHold lo g w (bs ++ (jJ l ++ [11])) w' := by
 induction n using Nat.strongRecOn with
 | ind n ih =>
  intro l lo g aa m c A bs w hS hR hA ap sr hl
  have oc := S.nil g
  have nK := S.meth g
  have oe := S.call
  obtain ⟨a', c', e, ce, bh⟩ := Lay.slice_form hR
  obtain ⟨rfl, rfl, rfl⟩ : aa = a' ∧ m = l.length ∧ c = c' := by simpa using e
  have ao : (l.length : Int) ≤ 9223372036854775807 := by simp only [maxLen] at bh; omega
  have ap := qh ap
  have hl := qh hl
  have hS := qh hS
  have H := qh (anQ hR (anQ hA (anQ sr ih)))
  clear hR hA ih sr ce bh e
  go_enter Tryz.func117, Tryz.ntmps117
  go_wp2_with fail
  go_loopw [30] (fun xD w' => ∃ (i : Nat), i ≤ l.length ∧ xD = .int .i64 i ∧ Hd (Wrote S.toHold lo g w (bs ++ jJ (l.take i)) w')) (fun xD _ => l.length - (intOf xD).toNat)
  case atStart => exact ⟨0, nzQ _, rfl, by show Wrote _ _ _ _ _ _; simpa [jJ] using Wrote.refl hS.o⟩
  case round =>
   obtain ⟨i, hi, rfl, hW⟩ := hrel
   by_cases ah : i < l.length
   ·obtain ⟨hR, hA, sr, ih⟩ := H.o
    have eM := Lay.fr hR hW.o.fr hA
    have oy := qh (hA.step hW.o)
    have BL := qh (zfx ah)
    obtain ⟨Bt, dL⟩ := zer ah
    have nB := ze8 sr i ah
    obtain ⟨ka, gY⟩ := exQ (bs ++ jJ (l.take i))
    obtain ⟨k, b, o, a1, n1, c1, rfl, rfl, eH, aY, iK⟩ := zj4 eM i ah
    generalize l[i] = x at *
    obtain ⟨op, args, st, ty, body⟩ := x
    simp only [Ins.op, Ins.args, Ins.st, Ins.ty, Ins.body] at aY iK
    obtain ⟨nF, og, iQ, gI, eI⟩ := Lay.slice_form aY
    obtain ⟨rfl, rfl, rfl⟩ : a1 = nF ∧ n1 = args.length ∧ c1 = og := by simpa using iQ
    have qS : (args.length : Int) ≤ 9223372036854775807 := by simp only [maxLen] at eI; omega
    obtain ⟨mo, lx, kS, i3⟩ : ∃ mo : Nat, op % 256 = (mo : Int) ∧ mo < 256 ∧ (op % 256).toNat = mo := ⟨(op % 256).toNat, by omega, by omega, rfl⟩
    rw [lx] at iK
    have kS := qh kS
    have i3 := qh i3
    have aj := qh (show ka.length + (1 + ((args.flatMap zt).length + (if st then YF ty :: (jJ body ++ [11]) else []).length)) + 20 ≤ 70368744177664 from by
     have := hl.o
     rw [dL] at this
     rw [← gY]
     simp only [zdz, laQ, List.length_cons] at this ⊢
     omega)
    rw [gY] at hW
    have gY := qh gY
    rcases iK with ⟨rfl, e0⟩ | ⟨rfl, kp, ba, bn, bc, e0, pp, bi⟩
    ·have HB := qh (anQ aY True.intro)
     clear hR hA sr ih eM eH aY iQ gI eI dL nB lx
     have dJ := zfE
     have eu := zev
     go_wp2_with fail
     refine zi (y4 (S.foot wr g)) [kT 0, kT 1, kT 4, kT 5, kT 6, kR 2, kR 3, kR 7, kT 8, kT 9, kT 10, kT 11, kT 12] (by kernel_rfl) (by kernel_rfl) ?_
     simp only [zy, gzQ, gsQ]
     repeat (apply item_take; rfl; rfl; rfl; rfl; exact fun _ _ _ _ h => h; (intro _ _ _ k; go_simp; exact k))
     apply ze; rfl; intro K hK; go_simp
     refine (zaJ _ _ _).mono ?_
     rintro e w2 ⟨rfl, bY⟩
     refine hK _ _ bY.to ?_
     have bY := qh (Ext.trans (zb wr) bY)
     clear hK K dJ eu
     apply ze; rfl; intro K hK; go_simp
     refine hK _ _ (za _ _).to ?_
     have qU := zk w2 #[.int .u8 (mo : Int)] 5
     have eZ := Ext.trans bY.o (za w2 (.cells #[.int .u8 (mo : Int)] 5))
     clear hK K
     generalize (w2.alloc (.cells #[.int .u8 (mo : Int)] 5)) = W3 at *
     have H3 := qh (anQ qU eZ)
     clear qU eZ
     repeat (apply item_take; rfl; rfl; rfl; rfl; exact fun _ _ _ _ h => h; (intro _ _ _ k; go_simp; exact k))
     apply ze; rfl; intro K hK; go_simp
     have lP := S.frame hW.o.is H3.o.2 (fun _ _ h => h)
     refine (S.write lo g ka [UInt8.ofNat mo] W3 _ _ _ 1 lP.1 (zbc H3.o.1 (congrArg (fun v => [v]) (Zb mo kS.o).symm) (by simp) (by decide)) (nlQ ap.o (nlQ hW.o.fr.size H3.o.2.size)) (by have := aj.o; simp; omega)).mono ?_
     rintro e w4 ⟨rfl, k1, k2, k3⟩
     have sz := qh (Wrote.after hW.o.is H3.o.2 ⟨k1, k2, k3⟩)
     refine hK _ _ (k2.mono fun k _ hk => (lP.2 k).1 hk) ?_
     clear hK K k1 k2 k3 lP
     repeat (apply item_take; rfl; rfl; rfl; rfl; exact fun _ _ _ _ h => h; (intro _ _ _ k; go_simp; exact k))
     apply zl
     have eU := zfF
     have ma := zew
     go_wp2_with fail
     refine (jV _ _ _).mono ?_
     rintro e w5 ⟨rfl, nu⟩
     have cz := qh (sz.o.ext nu)
     clear eU ma nu sz H3 bY
     go_wp2_with fail
     obtain ⟨wo, rfl⟩ : ∃ wo : World, wo = wr := ⟨_, rfl⟩
     obtain ⟨pre, dP⟩ := exQ (ka ++ [UInt8.ofNat mo])
     rw [dP] at cz
     have dP := qh dP
     go_loopw [51] (fun lj w' => ∃ (j : Nat), j ≤ args.length ∧ lj = .int .i64 j ∧ Hd (Wrote S.toHold lo g wo (pre ++ (args.take j).flatMap zt) w')) (fun lj _ => args.length - (intOf lj).toNat)
     case atStart => exact ⟨0, nzQ _, rfl, by show Wrote _ _ _ _ _ _; simpa using cz.o⟩
     case round =>
      obtain ⟨j, hj, rfl, hV⟩ := hrel
      by_cases ep : j < args.length
      ·obtain ⟨b3, o3, rfl, mp, g0⟩ := ziO (Lay.fr HB.o.1 hV.o.fr (fun k hk => oy.o k hk)) j ep
       have aX := qh (zdA ep)
       obtain ⟨pG, iM⟩ := zb4 ep
       have ci := qh (show (pre ++ (args.take j).flatMap zt).length + 10 ≤ 70368744177664 from by
        have := aj.o
        rw [iM] at this
        rw [← dP.o]
        simp only [laQ, List.length_cons, List.length_nil] at this ⊢
        omega)
       clear iM mp
       generalize args[j] = aq at *
       obtain ⟨ak, ab⟩ := aq
       have nT := qh ab.toNat_lt
       by_cases hak : ak = 0 ∨ ak = 1 ∨ ak = 2 ∨ ak = 3 ∨ ak = 4 ∨ ak = 5
       ·rcases hak with rfl | rfl | rfl | rfl | rfl | rfl
        ·have fe := qh (show zt (0, ab) = zp 0 ab.toNat from zZ 0 (by decide) ab)
         rw [show yf (0, ab) = .iface 21 (.int .i32 (wrap32 (ab.toNat : Int))) from by simp [yf]] at g0
         generalize ab.toNat = mb at *
         have ex := zb6
         go_wp2_with fail
         refine (JE S lo g (wrap32 (mb : Int)) (by unfold wrap32; omega) _ wr hV.o.is (nlQ ap.o (nlQ hW.o.fr.size hV.o.fr.size)) (by have := ci.o; omega)).mono ?_
         rintro e w5 ⟨rfl, cz⟩
         have eG := qh (show zp 0 mb = sleb (wrap32 (mb : Int)) from by simp [zp])
         have bf := qh (show Wrote S.toHold lo g wo (pre ++ (args.take (j + 1)).flatMap zt) w5 from by
          rw [aX.o, fe.o, eG.o, ← List.append_assoc]
          exact hV.o.trans cz)
         clear cz ex
         go_wp2
         go_roundw
         case rel => exact ⟨j + 1, by omega, by go_num, bf⟩
         case measure => simp [intOf]; omega
        ·have fe := qh (show zt (1, ab) = zp 1 ab.toNat from zZ 1 (by decide) ab)
         rw [show yf (1, ab) = .iface 2 (.int .i64 (wrap64 (ab.toNat : Int))) from by simp [yf]] at g0
         generalize ab.toNat = mb at *
         have ex := zb7
         have fj := zb8
         go_wp2_with fail
         refine (JF S lo g (wrap64 (mb : Int)) (by unfold wrap64; omega) _ wr hV.o.is (nlQ ap.o (nlQ hW.o.fr.size hV.o.fr.size)) (by have := ci.o; omega)).mono ?_
         rintro e w5 ⟨rfl, cz⟩
         have eG := qh (show zp 1 mb = sleb (wrap64 (mb : Int)) from by simp [zp])
         have bf := qh (show Wrote S.toHold lo g wo (pre ++ (args.take (j + 1)).flatMap zt) w5 from by
          rw [aX.o, fe.o, eG.o, ← List.append_assoc]
          exact hV.o.trans cz)
         clear cz ex fj
         go_wp2
         go_roundw
         case rel => exact ⟨j + 1, by omega, by go_num, bf⟩
         case measure => simp [intOf]; omega
        ·have fe := qh (show zt (2, ab) = zp 2 ab.toNat from zZ 2 (by decide) ab)
         rw [show yf (2, ab) = .iface 24 (.int .u32 ((ab.toNat : Int) % 4294967296)) from by simp [yf]] at g0
         generalize ab.toNat = mb at *
         have ex := zbq
         have fj := zbr
         have gJ := zbs
         obtain ⟨gM, mY, cw⟩ : ∃ gM : Nat, (mb : Int) % 4294967296 = (gM : Int) ∧ mb % 4294967296 = gM := ⟨mb % 4294967296, by omega, rfl⟩
         have cw := qh cw
         rw [mY] at g0
         clear mY
         go_wp2_with fail
         refine (zf S lo g gM (by have := cw.o; omega) _ wr hV.o.is (nlQ ap.o (nlQ hW.o.fr.size hV.o.fr.size)) (by have := ci.o; omega)).mono ?_
         rintro e w5 ⟨rfl, cz⟩
         have eG := qh (show zp 2 mb = uleb gM from by rw [← cw.o]; simp [zp])
         have bf := qh (show Wrote S.toHold lo g wo (pre ++ (args.take (j + 1)).flatMap zt) w5 from by
          rw [aX.o, fe.o, eG.o, ← List.append_assoc]
          exact hV.o.trans cz)
         clear cz ex fj gJ
         go_wp2
         go_roundw
         case rel => exact ⟨j + 1, by omega, by go_num, bf⟩
         case measure => simp [intOf]; omega
        ·have fe := qh (show zt (3, ab) = zp 3 ab.toNat from zZ 3 (by decide) ab)
         rw [show yf (3, ab) = .iface 373 (.float .f32 (ab.toNat % 4294967296)) from by simp [yf]] at g0
         generalize ab.toNat = mb at *
         have ex := zay
         have fj := zaz
         have gJ := zaA
         have iR := zaB
         have mG := zaC
         have rh := zcg
         obtain ⟨gM, cw⟩ : ∃ gM : Nat, mb % 4294967296 = gM := ⟨_, rfl⟩
         rw [cw] at g0
         have cw := qh cw
         go_wp2_with fail
         refine (jN S lo g gM (by have := cw.o; omega) _ wr hV.o.is (nlQ ap.o (nlQ hW.o.fr.size hV.o.fr.size)) (by have := ci.o; omega)).mono ?_
         rintro e w5 ⟨rfl, cz⟩
         have eG := qh (show zp 3 mb = zG 4 gM from by rw [← cw.o, YL]; simp [zp])
         have bf := qh (show Wrote S.toHold lo g wo (pre ++ (args.take (j + 1)).flatMap zt) w5 from by
          rw [aX.o, fe.o, eG.o, ← List.append_assoc]
          exact hV.o.trans cz)
         clear cz ex fj gJ iR mG rh
         go_wp2
         go_roundw
         case rel => exact ⟨j + 1, by omega, by go_num, bf⟩
         case measure => simp [intOf]; omega
        ·have fe := qh (show zt (4, ab) = zp 4 ab.toNat from zZ 4 (by decide) ab)
         rw [show yf (4, ab) = .iface 375 (.float .f64 ab.toNat) from by simp [yf]] at g0
         generalize ab.toNat = mb at *
         have ex := zaD
         have fj := zaE
         have gJ := zaF
         have iR := zaG
         have mG := zaH
         have rt := zaI
         have qY := zch
         go_wp2_with fail
         refine (ZX S lo g mb nT.o _ wr hV.o.is (nlQ ap.o (nlQ hW.o.fr.size hV.o.fr.size)) (by have := ci.o; omega)).mono ?_
         rintro e w5 ⟨rfl, cz⟩
         have eG := qh (show zp 4 mb = zG 8 mb from by simp [zp])
         have bf := qh (show Wrote S.toHold lo g wo (pre ++ (args.take (j + 1)).flatMap zt) w5 from by
          rw [aX.o, fe.o, eG.o, ← List.append_assoc]
          exact hV.o.trans cz)
         clear cz ex fj gJ iR mG rt qY
         go_wp2
         go_roundw
         case rel => exact ⟨j + 1, by omega, by go_num, bf⟩
         case measure => simp [intOf]; omega
        ·have fe := qh (show zt (5, ab) = zp 5 ab.toNat from zZ 5 (by decide) ab)
         rw [show yf (5, ab) = .iface 5 (.int .u8 ((ab.toNat : Int) % 256)) from by simp [yf]] at g0
         generalize ab.toNat = mb at *
         have ex := zb9
         have fj := zca
         have gJ := zcb
         have iR := zcc
         have mG := zcd
         have rt := zce
         have xZ := zcf
         obtain ⟨m8, sY, il⟩ : ∃ m8 : Nat, (mb : Int) % 256 = (m8 : Int) ∧ mb % 256 = m8 := ⟨mb % 256, by omega, rfl⟩
         have il := qh il
         rw [sY] at g0
         clear sY
         go_wp2_with fail
         refine (Sink.put (m := 1) (ys := [UInt8.ofNat m8]) hV.o.is (za wr _) (nlQ ap.o (nlQ hW.o.fr.size hV.o.fr.size)) rfl (zk wr _ _) (congrArg (fun v => [v]) (Zb m8 (by have := il.o; omega)).symm) (by decide) (by decide) (by have := ci.o; omega)).mono ?_
         rintro e w5 ⟨rfl, cz⟩
         have eG := qh (show zp 5 mb = [UInt8.ofNat m8] from by rw [← il.o]; simp [zp])
         have bf := qh (show Wrote S.toHold lo g wo (pre ++ (args.take (j + 1)).flatMap zt) w5 from by
          rw [aX.o, fe.o, eG.o, ← List.append_assoc]
          exact hV.o.trans cz)
         clear cz ex fj gJ iR mG rt xZ
         go_wp2
         go_roundw
         case rel => exact ⟨j + 1, by omega, by go_num, bf⟩
         case measure => simp [intOf]; omega
       ·have fe := qh (ZE ak hak ab)
        rw [zbx ak hak ab] at g0
        clear hak
        generalize ab.toNat = mb at *
        have ex := zbt
        have fj := zbu
        have gJ := zbv
        have iR := zbw
        go_wp2_with fail
        refine (Jm S lo g mb nT.o _ wr hV.o.is (nlQ ap.o (nlQ hW.o.fr.size hV.o.fr.size)) (by have := ci.o; omega)).mono ?_
        rintro e w5 ⟨rfl, cz⟩
        have eG := qh (show zp 6 mb = uleb mb from by simp [zp])
        have bf := qh (show Wrote S.toHold lo g wo (pre ++ (args.take (j + 1)).flatMap zt) w5 from by
         rw [aX.o, fe.o, eG.o, ← List.append_assoc]
         exact hV.o.trans cz)
        clear cz ex fj gJ iR
        go_wp2
        go_roundw
        case rel => exact ⟨j + 1, by omega, by go_num, bf⟩
        case measure => simp [intOf]; omega
      ·obtain rfl : j = args.length := by omega
       have bf := qh (show Wrote S.toHold lo g wo (pre ++ args.flatMap zt) wr from by have := hV.o; rw [tlQ] at this; exact this)
       clear hV
       have BK := zj3
       have ai := qh (show Wrote S.toHold lo g w (bs ++ jJ (l.take (i + 1))) wr from by
        rw [BL.o]
        have := hW.o.trans bf.o
        rw [← dP.o] at this
        simpa [zdz, gY.o.symm, i3.o] using this)
       go_wp2
       go_roundw
       case rel => exact ⟨i + 1, by omega, by go_num, ai⟩
       case measure => simp [intOf]; omega
    ·have HB := qh (anQ aY (anQ pp bi))
     have fq := qh (nB rfl).1
     have C5 := qh (nB rfl).2
     clear hR hA sr ih eM eH aY iQ gI eI dL nB lx pp bi
     have dJ := zdF
     have eu := zcJ
     go_wp2_with fail
     refine zi (y4 (S.foot wr g)) [kT 0, kT 1, kT 4, kT 5, kT 6, kR 2, kR 3, kR 7, kT 8, kT 9, kT 10, kT 11, kT 12] (by kernel_rfl) (by kernel_rfl) ?_
     simp only [zy, gzQ, gsQ]
     repeat (apply item_take; rfl; rfl; rfl; rfl; exact fun _ _ _ _ h => h; (intro _ _ _ k; go_simp; exact k))
     apply ze; rfl; intro K hK; go_simp
     refine (zaJ _ _ _).mono ?_
     rintro e w2 ⟨rfl, bY⟩
     refine hK _ _ bY.to ?_
     have bY := qh (Ext.trans (zb wr) bY)
     clear hK K dJ eu
     apply ze; rfl; intro K hK; go_simp
     refine hK _ _ (za _ _).to ?_
     have qU := zk w2 #[.int .u8 (mo : Int)] 5
     have eZ := Ext.trans bY.o (za w2 (.cells #[.int .u8 (mo : Int)] 5))
     clear hK K
     generalize (w2.alloc (.cells #[.int .u8 (mo : Int)] 5)) = W3 at *
     have H3 := qh (anQ qU eZ)
     clear qU eZ
     repeat (apply item_take; rfl; rfl; rfl; rfl; exact fun _ _ _ _ h => h; (intro _ _ _ k; go_simp; exact k))
     apply ze; rfl; intro K hK; go_simp
     have lP := S.frame hW.o.is H3.o.2 (fun _ _ h => h)
     refine (S.write lo g ka [UInt8.ofNat mo] W3 _ _ _ 1 lP.1 (zbc H3.o.1 (congrArg (fun v => [v]) (Zb mo kS.o).symm) (by simp) (by decide)) (nlQ ap.o (nlQ hW.o.fr.size H3.o.2.size)) (by have := aj.o; simp; omega)).mono ?_
     rintro e w4 ⟨rfl, k1, k2, k3⟩
     have sz := qh (Wrote.after hW.o.is H3.o.2 ⟨k1, k2, k3⟩)
     refine hK _ _ (k2.mono fun k _ hk => (lP.2 k).1 hk) ?_
     clear hK K k1 k2 k3 lP
     repeat (apply item_take; rfl; rfl; rfl; rfl; exact fun _ _ _ _ h => h; (intro _ _ _ k; go_simp; exact k))
     apply zl
     have eU := zdG
     have ma := zcK
     go_wp2_with fail
     refine (jV _ _ _).mono ?_
     rintro e w5 ⟨rfl, nu⟩
     have cz := qh (sz.o.ext nu)
     clear eU ma nu sz H3 bY
     go_wp2_with fail
     obtain ⟨wo, rfl⟩ : ∃ wo : World, wo = wr := ⟨_, rfl⟩
     obtain ⟨pre, dP⟩ := exQ (ka ++ [UInt8.ofNat mo])
     rw [dP] at cz
     have dP := qh dP
     go_loopw [51] (fun lj w' => ∃ (j : Nat), j ≤ args.length ∧ lj = .int .i64 j ∧ Hd (Wrote S.toHold lo g wo (pre ++ (args.take j).flatMap zt) w')) (fun lj _ => args.length - (intOf lj).toNat)
     case atStart => exact ⟨0, nzQ _, rfl, by show Wrote _ _ _ _ _ _; simpa using cz.o⟩
     case round =>
      obtain ⟨j, hj, rfl, hV⟩ := hrel
      by_cases ep : j < args.length
      ·obtain ⟨b3, o3, rfl, mp, g0⟩ := ziO (Lay.fr HB.o.1 hV.o.fr (fun k hk => oy.o k hk)) j ep
       have aX := qh (zdA ep)
       obtain ⟨pG, iM⟩ := zb4 ep
       have ci := qh (show (pre ++ (args.take j).flatMap zt).length + 10 ≤ 70368744177664 from by
        have := aj.o
        rw [iM] at this
        rw [← dP.o]
        simp only [laQ, List.length_cons, List.length_nil] at this ⊢
        omega)
       clear iM mp
       generalize args[j] = aq at *
       obtain ⟨ak, ab⟩ := aq
       have nT := qh ab.toNat_lt
       by_cases hak : ak = 0 ∨ ak = 1 ∨ ak = 2 ∨ ak = 3 ∨ ak = 4 ∨ ak = 5
       ·rcases hak with rfl | rfl | rfl | rfl | rfl | rfl
        ·have fe := qh (show zt (0, ab) = zp 0 ab.toNat from zZ 0 (by decide) ab)
         rw [show yf (0, ab) = .iface 21 (.int .i32 (wrap32 (ab.toNat : Int))) from by simp [yf]] at g0
         generalize ab.toNat = mb at *
         have ex := zb6
         go_wp2_with fail
         refine (JE S lo g (wrap32 (mb : Int)) (by unfold wrap32; omega) _ wr hV.o.is (nlQ ap.o (nlQ hW.o.fr.size hV.o.fr.size)) (by have := ci.o; omega)).mono ?_
         rintro e w5 ⟨rfl, cz⟩
         have eG := qh (show zp 0 mb = sleb (wrap32 (mb : Int)) from by simp [zp])
         have bf := qh (show Wrote S.toHold lo g wo (pre ++ (args.take (j + 1)).flatMap zt) w5 from by
          rw [aX.o, fe.o, eG.o, ← List.append_assoc]
          exact hV.o.trans cz)
         clear cz ex
         go_wp2
         go_roundw
         case rel => exact ⟨j + 1, by omega, by go_num, bf⟩
         case measure => simp [intOf]; omega
        ·have fe := qh (show zt (1, ab) = zp 1 ab.toNat from zZ 1 (by decide) ab)
         rw [show yf (1, ab) = .iface 2 (.int .i64 (wrap64 (ab.toNat : Int))) from by simp [yf]] at g0
         generalize ab.toNat = mb at *
         have ex := zb7
         have fj := zb8
         go_wp2_with fail
         refine (JF S lo g (wrap64 (mb : Int)) (by unfold wrap64; omega) _ wr hV.o.is (nlQ ap.o (nlQ hW.o.fr.size hV.o.fr.size)) (by have := ci.o; omega)).mono ?_
         rintro e w5 ⟨rfl, cz⟩
         have eG := qh (show zp 1 mb = sleb (wrap64 (mb : Int)) from by simp [zp])
         have bf := qh (show Wrote S.toHold lo g wo (pre ++ (args.take (j + 1)).flatMap zt) w5 from by
          rw [aX.o, fe.o, eG.o, ← List.append_assoc]
          exact hV.o.trans cz)
         clear cz ex fj
         go_wp2
         go_roundw
         case rel => exact ⟨j + 1, by omega, by go_num, bf⟩
         case measure => simp [intOf]; omega
        ·have fe := qh (show zt (2, ab) = zp 2 ab.toNat from zZ 2 (by decide) ab)
         rw [show yf (2, ab) = .iface 24 (.int .u32 ((ab.toNat : Int) % 4294967296)) from by simp [yf]] at g0
         generalize ab.toNat = mb at *
         have ex := zbq
         have fj := zbr
         have gJ := zbs
         obtain ⟨gM, mY, cw⟩ : ∃ gM : Nat, (mb : Int) % 4294967296 = (gM : Int) ∧ mb % 4294967296 = gM := ⟨mb % 4294967296, by omega, rfl⟩
         have cw := qh cw
         rw [mY] at g0
         clear mY
         go_wp2_with fail
         refine (zf S lo g gM (by have := cw.o; omega) _ wr hV.o.is (nlQ ap.o (nlQ hW.o.fr.size hV.o.fr.size)) (by have := ci.o; omega)).mono ?_
         rintro e w5 ⟨rfl, cz⟩
         have eG := qh (show zp 2 mb = uleb gM from by rw [← cw.o]; simp [zp])
         have bf := qh (show Wrote S.toHold lo g wo (pre ++ (args.take (j + 1)).flatMap zt) w5 from by
          rw [aX.o, fe.o, eG.o, ← List.append_assoc]
          exact hV.o.trans cz)
         clear cz ex fj gJ
         go_wp2
         go_roundw
         case rel => exact ⟨j + 1, by omega, by go_num, bf⟩
         case measure => simp [intOf]; omega
        ·have fe := qh (show zt (3, ab) = zp 3 ab.toNat from zZ 3 (by decide) ab)
         rw [show yf (3, ab) = .iface 373 (.float .f32 (ab.toNat % 4294967296)) from by simp [yf]] at g0
         generalize ab.toNat = mb at *
         have ex := zay
         have fj := zaz
         have gJ := zaA
         have iR := zaB
         have mG := zaC
         have rh := zcg
         obtain ⟨gM, cw⟩ : ∃ gM : Nat, mb % 4294967296 = gM := ⟨_, rfl⟩
         rw [cw] at g0
         have cw := qh cw
         go_wp2_with fail
         refine (jN S lo g gM (by have := cw.o; omega) _ wr hV.o.is (nlQ ap.o (nlQ hW.o.fr.size hV.o.fr.size)) (by have := ci.o; omega)).mono ?_
         rintro e w5 ⟨rfl, cz⟩
         have eG := qh (show zp 3 mb = zG 4 gM from by rw [← cw.o, YL]; simp [zp])
         have bf := qh (show Wrote S.toHold lo g wo (pre ++ (args.take (j + 1)).flatMap zt) w5 from by
          rw [aX.o, fe.o, eG.o, ← List.append_assoc]
          exact hV.o.trans cz)
         clear cz ex fj gJ iR mG rh
         go_wp2
         go_roundw
         case rel => exact ⟨j + 1, by omega, by go_num, bf⟩
         case measure => simp [intOf]; omega
        ·have fe := qh (show zt (4, ab) = zp 4 ab.toNat from zZ 4 (by decide) ab)
         rw [show yf (4, ab) = .iface 375 (.float .f64 ab.toNat) from by simp [yf]] at g0
         generalize ab.toNat = mb at *
         have ex := zaD
         have fj := zaE
         have gJ := zaF
         have iR := zaG
         have mG := zaH
         have rt := zaI
         have qY := zch
         go_wp2_with fail
         refine (ZX S lo g mb nT.o _ wr hV.o.is (nlQ ap.o (nlQ hW.o.fr.size hV.o.fr.size)) (by have := ci.o; omega)).mono ?_
         rintro e w5 ⟨rfl, cz⟩
         have eG := qh (show zp 4 mb = zG 8 mb from by simp [zp])
         have bf := qh (show Wrote S.toHold lo g wo (pre ++ (args.take (j + 1)).flatMap zt) w5 from by
          rw [aX.o, fe.o, eG.o, ← List.append_assoc]
          exact hV.o.trans cz)
         clear cz ex fj gJ iR mG rt qY
         go_wp2
         go_roundw
         case rel => exact ⟨j + 1, by omega, by go_num, bf⟩
         case measure => simp [intOf]; omega
        ·have fe := qh (show zt (5, ab) = zp 5 ab.toNat from zZ 5 (by decide) ab)
         rw [show yf (5, ab) = .iface 5 (.int .u8 ((ab.toNat : Int) % 256)) from by simp [yf]] at g0
         generalize ab.toNat = mb at *
         have ex := zb9
         have fj := zca
         have gJ := zcb
         have iR := zcc
         have mG := zcd
         have rt := zce
         have xZ := zcf
         obtain ⟨m8, sY, il⟩ : ∃ m8 : Nat, (mb : Int) % 256 = (m8 : Int) ∧ mb % 256 = m8 := ⟨mb % 256, by omega, rfl⟩
         have il := qh il
         rw [sY] at g0
         clear sY
         go_wp2_with fail
         refine (Sink.put (m := 1) (ys := [UInt8.ofNat m8]) hV.o.is (za wr _) (nlQ ap.o (nlQ hW.o.fr.size hV.o.fr.size)) rfl (zk wr _ _) (congrArg (fun v => [v]) (Zb m8 (by have := il.o; omega)).symm) (by decide) (by decide) (by have := ci.o; omega)).mono ?_
         rintro e w5 ⟨rfl, cz⟩
         have eG := qh (show zp 5 mb = [UInt8.ofNat m8] from by rw [← il.o]; simp [zp])
         have bf := qh (show Wrote S.toHold lo g wo (pre ++ (args.take (j + 1)).flatMap zt) w5 from by
          rw [aX.o, fe.o, eG.o, ← List.append_assoc]
          exact hV.o.trans cz)
         clear cz ex fj gJ iR mG rt xZ
         go_wp2
         go_roundw
         case rel => exact ⟨j + 1, by omega, by go_num, bf⟩
         case measure => simp [intOf]; omega
       ·have fe := qh (ZE ak hak ab)
        rw [zbx ak hak ab] at g0
        clear hak
        generalize ab.toNat = mb at *
        have ex := zbt
        have fj := zbu
        have gJ := zbv
        have iR := zbw
        go_wp2_with fail
        refine (Jm S lo g mb nT.o _ wr hV.o.is (nlQ ap.o (nlQ hW.o.fr.size hV.o.fr.size)) (by have := ci.o; omega)).mono ?_
        rintro e w5 ⟨rfl, cz⟩
        have eG := qh (show zp 6 mb = uleb mb from by simp [zp])
        have bf := qh (show Wrote S.toHold lo g wo (pre ++ (args.take (j + 1)).flatMap zt) w5 from by
         rw [aX.o, fe.o, eG.o, ← List.append_assoc]
         exact hV.o.trans cz)
        clear cz ex fj gJ iR
        go_wp2
        go_roundw
        case rel => exact ⟨j + 1, by omega, by go_num, bf⟩
        case measure => simp [intOf]; omega
      ·obtain rfl : j = args.length := by omega
       have bf := qh (show Wrote S.toHold lo g wo (pre ++ args.flatMap zt) wr from by have := hV.o; rw [tlQ] at this; exact this)
       clear hV
       have BK := zh8
       have rO := zdH
       have uy := zcL
       go_wp2_with fail
       refine (Z2 _ _ _ _ _).mono ?_
       rintro e w6 ⟨rfl, AR⟩
       have lg := qh (bf.o.ext AR)
       clear BK rO uy AR
       go_wp2_with fail
       refine (J0 S lo g ty fq.o kp _ w6 (KindAt.cell (KindAt.fr HB.o.2.1 lg.o.fr (fun k hk => oy.o k hk))) lg.o.is (nlQ ap.o (nlQ hW.o.fr.size lg.o.fr.size)) (by have := aj.o; rw [← dP.o]; simp only [laQ, List.length_cons, List.length_nil, if_true] at this ⊢; omega)).mono ?_
       rintro e w7 ⟨rfl, pw⟩
       have pw := qh (lg.o.trans pw)
       have uO := zdI
       have Da := zcM
       go_wp2_with fail
       refine (Zh _ _ _ _ _).mono ?_
       rintro e w8 ⟨rfl, kA⟩
       have ut := qh (pw.o.ext kA)
       clear uO Da kA
       go_wp2_with fail
       refine (H.o.2.2.2 k (by omega) body lo g ba bn bc A _ w8 ut.o.is (Lay.fr HB.o.2.2 ut.o.fr (fun k hk => oy.o k hk)) (oy.o.step ut.o) (nlQ ap.o (nlQ hW.o.fr.size ut.o.fr.size)) C5.o (by have := aj.o; rw [← dP.o]; simp only [laQ, List.length_cons, List.length_nil, if_true] at this ⊢; omega)).mono ?_
       rintro e w9 ⟨rfl, Bv⟩
       have ai := qh (show Wrote S.toHold lo g w (bs ++ jJ (l.take (i + 1))) w9 from by
        rw [BL.o]
        have := hW.o.trans (ut.o.trans Bv)
        rw [← dP.o] at this
        simpa [zdz, gY.o.symm, i3.o] using this)
       clear Bv
       go_wp2
       go_roundw
       case rel => exact ⟨i + 1, by omega, by go_num, ai⟩
       case measure => simp [intOf]; omega
   ·obtain rfl : i = l.length := by omega
    go_wp2_with fail
    refine (Sink.put (m := 1) (ys := [11]) hW.o.is (za wr _) (nlQ ap.o hW.o.fr.size) rfl (zk wr _ _) rfl (by decide) (by decide) (by have := hl.o; rw [tlQ, laQ]; omega)).mono ?_
    rintro e w2 ⟨rfl, mP⟩
    have ai := qh (hW.o.trans mP)
    clear mP
    go_wp2
    go_ret
    refine ⟨rfl, ?_⟩
    have := ai.o
    rw [tlQ, List.append_assoc] at this
    exact this
abbrev yx : Hold := zfu 86
def Jc (n : Int) : List UInt8 := uleb (n % 18446744073709551616).toNat
theorem Jd (n : Int) : (Jc n).length ≤ 10 := zI _ (by omega)
def Z3 (l : List Int) : List UInt8 := uleb l.length ++ l.flatMap Jc
theorem za3 (l : List Int) : (l.flatMap Jc).length ≤ 10 * l.length := by
 induction l with
 | nil => simp
 | cons a l ih =>
  have := Jd a
  simp only [List.flatMap_cons, laQ, List.length_cons]
  omega
abbrev zH : Nat := 70368744177664
theorem zg (lo g n : Nat) (hn : n < 18446744073709551616) (bs : List UInt8) (w : World) (hS : yx.is lo g bs w) (ap : lo ≤ w.heap.size) (hl : bs.length + 10 ≤ zH) :
 Calls Tryz.prog 22 #[.pointer (some ⟨g, 0, none⟩), .int .u64 n] w fun e w' => e = .returned (.tuple #[]) ∧ Wrote yx lo g w (bs ++ uleb n) w' := by
 obtain ⟨hg, v, hb, ho, aO⟩ := hS
 have hc := hb.cell 0
 simp only [List.getElem?_toArray, List.getElem?_cons_zero] at hc
 have H := qh (anQ hg (anQ hb (anQ ho (anQ aO (anQ ap (anQ hn hl))))))
 clear hg hb ho aO ap hl hn
 go_enter Tryz.func22, Tryz.ntmps22
 go_wp2_with (go_at_call 60; refine Hd.o ?_)
 obtain ⟨hg, hb, ho, aO, ap, hn, hl⟩ := H.o
 refine (Za n hn lo v bs w ho ap (by simp only [zH] at hl; omega)).mono ?_
 rintro e w1 ⟨v1, rfl, h1, h2, h3⟩
 clear hc
 have dw := hb.fr h2 (fun e => aO e.symm)
 have ek := dw.cell 0
 have iw := dw.frz 0
 simp only [List.getElem?_toArray, List.getElem?_cons_zero] at ek
 obtain ⟨kF, n1, cR, e1⟩ := h1.shape
 subst e1
 have H1 := qh (anQ h1 (anQ h2 h3))
 clear hg hb ho aO ap hn hl h1 h2 h3 dw
 go_wp2
 go_end0
 obtain ⟨hg, hb, ho, aO, ap, hn, hl⟩ := H.o
 obtain ⟨h1, h2, h3⟩ := H1.o
 exact ⟨rfl, YC hg hb aO h1 h2 h3⟩
theorem Zi (lo g : Nat) (l : List Int) (v : Value) (A : Nat → Prop) (bs : List UInt8) (w : World) (hS : yx.is lo g bs w) (hR : Lay.int.slice.rd A w [v] l) (hA : ∀ k, A k → k < lo) (ap : lo ≤ w.heap.size) (hl : bs.length + 10 * l.length + 20 ≤ zH) :
 Calls Tryz.prog 61 #[.pointer (some ⟨g, 0, none⟩), v] w fun e w' => e = .returned (.tuple #[]) ∧ Wrote yx lo g w (bs ++ Z3 l) w' := by
 obtain ⟨aa, cap, rfl, ce, bh⟩ := Lay.slice_form hR
 have mv : l.length < 18446744073709551616 := by simp only [maxLen] at bh; omega
 have e1 : IntKind.u64.wrap (l.length : Int) = (l.length : Int) := by rw [IntKind.wrap_u64]; omega
 have ao : (l.length : Int) ≤ 9223372036854775807 := by simp only [maxLen] at bh; omega
 have H := qh (anQ hS (anQ hR (anQ hA (anQ ap (anQ hl mv)))))
 clear hS hR hA ap hl mv ce bh
 go_enter Tryz.func61, Tryz.ntmps61
 go_wp2_with (go_at_call 22; refine Hd.o ?_)
 obtain ⟨hS, hR, hA, ap, hl, mv⟩ := H.o
 refine (zg lo g l.length mv bs w hS ap (by simp only [zH] at *; omega)).mono ?_
 rintro e w1 ⟨rfl, fC⟩
 have fC := qh fC
 clear hS hR hA ap hl mv
 go_wp2_with fail
 go_loopw [13] (fun fX w' => ∃ (i : Nat), i ≤ l.length ∧ fX = .int .i64 i ∧ Hd (Wrote yx lo g w (bs ++ uleb l.length ++ (l.take i).flatMap Jc) w')) (fun fX _ => l.length - (intOf fX).toNat)
 case atStart => exact ⟨0, nzQ _, rfl, (by rw [List.take_zero, List.flatMap_nil, List.append_nil]; exact fC.o)⟩
 case round =>
  obtain ⟨i, hi, rfl, hW⟩ := hrel
  by_cases ah : i < l.length
  ·obtain ⟨hS, hR, hA, ap, hl, mv⟩ := H.o
   have eK := Wrote.below hS hW.o
   have eM := Lay.fr hR eK (fun k hk => ⟨nqQ (hA k hk) ap, by have := hA k hk; omega⟩)
   obtain ⟨b, o, rfl, eH, tG, cN, bY⟩ := zbX eM i ah
   have aX : Hd (l.take (i + 1) = l.take i ++ [l[i]]) := by rw [tsQ ah]; rfl
   generalize l[i] = x at *
   have AY : Hd (Jc x = uleb (x % 18446744073709551616).toNat) := rfl
   obtain ⟨m, hm⟩ : ∃ m : Nat, (x % 18446744073709551616).toNat = m := ⟨_, rfl⟩
   rw [hm] at AY
   have e2 : IntKind.u64.wrap x = (m : Int) := by rw [IntKind.wrap_u64]; omega
   have D0 : Hd (m < 18446744073709551616) := by show _ < _; omega
   have dT := qh (za3 (l.take i))
   clear hS hR hA ap hl mv eK eM eH cN bY hm
   go_wp2_with (go_at_call 22; refine Hd.o ?_)
   obtain ⟨hS, hR, hA, ap, hl, mv⟩ := H.o
   refine (zg lo g _ D0.o _ wr hW.o.is (nlQ ap hW.o.fr.size) ?_).mono ?_
   ·have h1 := dT.o
    have h2 := zI l.length mv
    simp only [zH, laQ] at *
    rw [ltQ] at h1
    omega
   rintro e w2 ⟨rfl, lZ⟩
   have eS : Hd (Wrote yx lo g w (bs ++ uleb l.length ++ (l.take (i + 1)).flatMap Jc) w2) := by
    show Wrote _ _ _ _ _ _
    rw [aX.o, List.flatMap_append, ← List.append_assoc]
    exact hW.o.trans (by simpa [AY.o] using lZ)
   clear hS hR hA ap hl mv lZ
   go_wp2
   go_roundw
   case rel => exact ⟨i + 1, by omega, by go_num, eS⟩
   case measure => simp [intOf]; omega
  ·obtain rfl : i = l.length := by omega
   go_wp2
   go_end0
   refine ⟨rfl, ?_⟩
   have := hW.o
   rw [tlQ, List.append_assoc] at this
   exact this
def J4 (x : List Int × List Int) : List UInt8 := Z3 x.1 ++ Z3 x.2
theorem Ys (l : List Int) (h : l.length < 18446744073709551616) : (Z3 l).length ≤ 10 * l.length + 10 := by
 have h1 := za3 l
 have h2 := zI l.length h
 simp only [Z3, laQ]
 omega
theorem zcN (x : List Int × List Int) (v1 v2 : Value) (A : Nat → Prop) (w : World) (h1 : Lay.int.slice.rd A w [v1] x.1) (h2 : Lay.int.slice.rd A w [v2] x.2) (hA : ∀ k, A k → k < w.heap.size) (hl : x.1.length + x.2.length ≤ 4294967296) :
 Calls Tryz.prog 24 #[.agg #[v1, v2]] w fun e w' => e = .returned (.string (zc (J4 x))) ∧ Ext w w' := by
 obtain ⟨a1, c1, rfl, -, -⟩ := Lay.slice_form h1
 obtain ⟨a2, c2, rfl, -, -⟩ := Lay.slice_form h2
 generalize dJ : x.1.length = n1 at *
 generalize eU : x.2.length = n2 at *
 have H := qh (anQ h1 (anQ h2 (anQ hA (anQ hl (anQ dJ eU)))))
 clear h1 h2 hA hl dJ eU
 go_enter Tryz.func24, Tryz.ntmps24
 go_wp2_with (go_at_call 61; refine Hd.o ?_)
 obtain ⟨h1, h2, hA, hl, dJ, eU⟩ := H.o
 have cU := za w (.cells #[.slice a1 n1 c1, .slice a2 n2 c2] 91)
 have cN := cU.trans (za _ (.cells #[.slice none 0 0] 86))
 have iA := Ys x.1 (by omega)
 refine (Zi (w.heap.size + 1) (w.heap.size + 1) x.1 _ A [] _ (zgl _ _ _ (by simp)) (by exact Lay.fr h1 cN (fun k hk => ⟨hA k hk, fun h => h⟩)) (fun k hk => by have := hA k hk; omega) (by simp) (by simp only [zH, List.length_nil]; omega)).mono ?_
 rintro e w1 ⟨rfl, hW⟩
 rw [List.nil_append] at hW
 obtain ⟨_, -, -, bl⟩ := zcx (by simp) hW
 have cY := (zk w _ _).ext bl
 have ek := cY.cell
 have H1 := qh (anQ hW bl)
 clear h1 h2 hA hl dJ eU cU cN iA hW cY bl
 go_wp2_with (go_at_call 61; refine Hd.o ?_)
 obtain ⟨h1, h2, hA, hl, dJ, eU⟩ := H.o
 obtain ⟨hW, bl⟩ := H1.o
 have cN := (za w (.cells #[.slice a1 n1 c1, .slice a2 n2 c2] 91)).trans bl
 have iA := Ys x.1 (by omega)
 have eE := Ys x.2 (by omega)
 refine (Zi (w.heap.size + 1) (w.heap.size + 1) x.2 _ A _ _ hW.is (by exact Lay.fr h2 cN (fun k hk => ⟨hA k hk, fun h => h⟩)) (fun k hk => by have := hA k hk; omega) (by have := bl.size; simpa using this) (by simp only [zH]; omega)).mono ?_
 rintro e w2 ⟨rfl, lZ⟩
 have eS := hW.trans lZ
 obtain ⟨v, hc, ho, uD⟩ := zcx (by simp) eS
 have eN := Zx ho.slice (fun _ hk => hk.2) 86 9 5 Tryz.underlying86 Tryz.underlying5 Tryz.underlying9 w2 (Fr.refl _ _)
 obtain ⟨aa, m, c, e1⟩ := ho.shape
 subst e1
 have HX := qh ((za w (.cells #[.slice a1 n1 c1, .slice a2 n2 c2] 91)).trans uD)
 clear h1 h2 hA hl dJ eU cN iA eE hW lZ eS ho uD bl ek
 go_wp2
 go_ret
 exact ⟨rfl, HX.o⟩
def jH (a : Int × UInt64) : List UInt8 := Jc a.1 ++ uleb a.2.toNat
mutual
def zcO : Ins → List UInt8
 | .mk op args st ty body => Jc op ++ (uleb args.length ++ (args.flatMap jH ++ (if st then uleb 1 ++ (Jc (ty + 1) ++ (uleb body.length ++ Je body)) else uleb 0)))
def Je : List Ins → List UInt8
 | [] => []
 | x :: xs => zcO x ++ Je xs
end
def zby (l : List Ins) : List UInt8 := uleb l.length ++ Je l
theorem Z4 : ∀ (l m : List Ins), Je (l ++ m) = Je l ++ Je m
 | [], m => rfl
 | x :: l, m => by simp only [List.cons_append, Je, Z4 l m, List.append_assoc]
variable {i : Nat}
theorem zfG (h : i < l.length) : Je (l.take (i + 1)) = Je (l.take i) ++ zcO l[i] := by
 rw [tsQ h, Z4]; simp [Je]
theorem zex (h : i < l.length) : ∃ m, Je l = Je (l.take i) ++ (zcO l[i] ++ m) := by
 refine ⟨Je (l.drop (i + 1)), ?_⟩
 have : l = l.take i ++ (l[i] :: l.drop (i + 1)) := by rw [← List.drop_eq_getElem_cons h, List.take_append_drop]
 conv => lhs; rw [this]
 rw [Z4, Je]
theorem zcP {l : List (Int × UInt64)} (h : i < l.length) : ∃ m, l.flatMap jH = (l.take i).flatMap jH ++ (jH l[i] ++ m) := by
 refine ⟨(l.drop (i + 1)).flatMap jH, ?_⟩
 have : l = l.take i ++ (l[i] :: l.drop (i + 1)) := by rw [← List.drop_eq_getElem_cons h, List.take_append_drop]
 conv => lhs; rw [this]
 rw [List.flatMap_append, List.flatMap_cons]
theorem zdJ {l : List (Int × UInt64)} (h : i < l.length) : (l.take (i + 1)).flatMap jH = (l.take i).flatMap jH ++ jH l[i] := by
 rw [tsQ h, List.flatMap_append]; simp
theorem jq (lo g : Nat) (b : Bool) (bs : List UInt8) (w : World) (hS : yx.is lo g bs w) (ap : lo ≤ w.heap.size) (hl : bs.length + 10 ≤ zH) :
 Calls Tryz.prog 21 #[.pointer (some ⟨g, 0, none⟩), .bool b] w fun e w' => e = .returned (.tuple #[]) ∧ Wrote yx lo g w (bs ++ uleb (if b then 1 else 0)) w' := by
 have H := qh (anQ hS (anQ ap hl))
 clear hS ap hl
 cases b with
 | true =>
  go_enter Tryz.func21, Tryz.ntmps21
  go_wp2_with fail
  refine (zg lo g 1 (by decide) bs w H.o.1 H.o.2.1 H.o.2.2).mono ?_
  rintro e w1 ⟨rfl, hW⟩
  have hW := qh hW
  go_wp2
  go_end0
  exact ⟨rfl, hW.o⟩
 | false =>
  go_enter Tryz.func21, Tryz.ntmps21
  go_wp2_with fail
  refine (zg lo g 0 (by decide) bs w H.o.1 H.o.2.1 H.o.2.2).mono ?_
  rintro e w1 ⟨rfl, hW⟩
  have hW := qh hW
  go_wp2
  go_end0
  exact ⟨rfl, hW.o⟩
theorem Zj (x : Int) : ∃ m : Nat, IntKind.u64.wrap x = (m : Int) ∧ m < 18446744073709551616 ∧ Jc x = uleb m :=
 ⟨(x % 18446744073709551616).toNat, by rw [IntKind.wrap_u64]; omega, by omega, rfl⟩
theorem zfH (x : Int) : ∃ m : Nat, (IntKind.u64.wrap (wrap64 (x + 1)) = (m : Int) ∧ IntKind.u64.wrap (IntKind.i64.wrap (x + 1)) = (m : Int)) ∧ m < 18446744073709551616 ∧ Jc (x + 1) = uleb m :=
 ⟨((x + 1) % 18446744073709551616).toNat, ⟨by rw [IntKind.wrap_u64]; unfold wrap64; omega, by rw [IntKind.wrap_u64, IntKind.wrap_i64]; omega⟩, by omega, rfl⟩
variable {S : Hold} {lo g : Nat} {bs : List UInt8}
theorem Zk (h : S.is lo g bs w) (o : Obj) : S.is lo g bs (w.alloc o) ∧ ¬ S.foot (w.alloc o) g w.heap.size := by
 obtain ⟨h1, h2⟩ := S.frame h (za w o) (fun _ _ h => h)
 exact ⟨h1, fun h3 => by have := (S.lt h _ ((h2 _).1 h3)).2; omega⟩
theorem Wrote.blk {W : World} (h : Wrote S lo g w bs W) {b : Nat} {cs : Array Value} {T : TypeId} (hb : Blk w b cs T) (hn : ¬ S.foot w g b) : Blk W b cs T := hb.fr h.fr hn
theorem Jj (n : Nat) : ∀ (l : List Ins) (lo g : Nat) (aa : Option Addr) (m c : Nat) (A : Nat → Prop) (bs : List UInt8) (w : World), yx.is lo g bs w → (Lay.ins n).slice.rd A w [.slice aa m c] l → (∀ k, A k → k < lo) → lo ≤ w.heap.size → bs.length + (zby l).length + 10 ≤ zH →
 Calls Tryz.prog 27 #[.pointer (some ⟨g, 0, none⟩), .slice aa m c] w fun e w' => e = .returned (.tuple #[]) ∧ Wrote yx lo g w (bs ++ zby l) w' := by
 induction n using Nat.strongRecOn with
 | ind n ih =>
  intro l lo g aa m c A bs w hS hR hA ap hl
  obtain ⟨a', c', e, ce, bh⟩ := Lay.slice_form hR
  obtain ⟨rfl, rfl, rfl⟩ : aa = a' ∧ m = l.length ∧ c = c' := by simpa using e
  have ao : (l.length : Int) ≤ 9223372036854775807 := by simp only [maxLen] at bh; omega
  have dN : IntKind.u64.wrap (l.length : Int) = (l.length : Int) := by rw [IntKind.wrap_u64]; omega
  have iU : l.length < 18446744073709551616 := by omega
  have dr : Hd (bs.length + ((uleb l.length).length + (Je l).length) + 10 ≤ zH) := by rw [zby, laQ] at hl; exact hl
  have H := qh (anQ hS (anQ hR (anQ hA (anQ ap (anQ iU ih)))))
  clear hS hR hA ih ap hl iU ce bh e
  go_enter Tryz.func27, Tryz.ntmps27
  go_wp2_with fail
  obtain ⟨hS, hR, hA, ap, iU, ih⟩ := H.o
  refine (zg lo g l.length iU bs w hS ap (by have := dr.o; omega)).mono ?_
  rintro e w1 ⟨rfl, fC⟩
  have fC := qh fC
  clear hS hR hA ap iU ih
  go_wp2_with fail
  go_loopw [15] (fun ra w' => ∃ (i : Nat), i ≤ l.length ∧ ra = .int .i64 i ∧ Hd (Wrote yx lo g w (bs ++ (uleb l.length ++ Je (l.take i))) w')) (fun ra _ => l.length - (intOf ra).toNat)
  case atStart => exact ⟨0, nzQ _, rfl, by show Wrote _ _ _ _ _ _; simpa [Je] using fC.o⟩
  case round =>
   obtain ⟨i, hi, rfl, hW⟩ := hrel
   by_cases ah : i < l.length
   ·obtain ⟨hS, hR, hA, ap, iU, ih⟩ := H.o
    have eM := Lay.fr hR (Wrote.below hS hW.o) (fun k hk => ⟨nqQ (hA k hk) ap, by have := hA k hk; omega⟩)
    obtain ⟨k, b, o, a1, n1, c1, a2, n2, c2, rfl, rfl, eH, e0, e1, e2, e3, e4, em, el, aY, bi⟩ := Lay.ins_at eM i ah
    have aX := qh (zfG ah)
    obtain ⟨rest, dL⟩ := zex ah
    have fp := dr.o
    rw [dL, laQ, laQ] at fp
    have eR := nlQ ap hW.o.fr.size
    generalize l[i] = x at *
    obtain ⟨op, args, st, ty, body⟩ := x
    simp only [Ins.op, Ins.args, Ins.st, Ins.ty, Ins.body] at e0 e1 e2 e3 e4 em el aY bi
    obtain ⟨nF, og, iQ, gI, eI⟩ := Lay.slice_form aY
    obtain ⟨rfl, rfl, rfl⟩ : a1 = nF ∧ n1 = args.length ∧ c1 = og := by simpa using iQ
    obtain ⟨qF, pX, mM, km, ev⟩ := Lay.slice_form bi
    obtain ⟨rfl, rfl, rfl⟩ : a2 = qF ∧ n2 = body.length ∧ c2 = pX := by simpa using mM
    have qS : (args.length : Int) ≤ 9223372036854775807 := by simp only [maxLen] at eI; omega
    have Dy : IntKind.u64.wrap (args.length : Int) = (args.length : Int) := by rw [IntKind.wrap_u64]; omega
    have dG : (body.length : Int) ≤ 9223372036854775807 := by simp only [maxLen] at ev; omega
    obtain ⟨mo, kS, lx, i3⟩ := Zj op
    obtain ⟨mt, ⟨vv, Dn⟩, tN, ti⟩ := zfH ty
    obtain ⟨pre, dP⟩ := exQ (bs ++ (uleb l.length ++ Je (l.take i)))
    have tT : pre.length = bs.length + ((uleb l.length).length + (Je (l.take i)).length) := by rw [← dP]; simp
    have ai : Hd (∀ W, Wrote yx lo g w (pre ++ zcO (.mk op args st ty body)) W → Wrote yx lo g w (bs ++ (uleb l.length ++ Je (l.take (i + 1)))) W) := fun W h => by
     rw [aX.o, ← List.append_assoc, ← List.append_assoc, List.append_assoc bs, dP]; exact h
    rw [dP] at hW
    have aj : Hd (pre.length + (zcO (.mk op args st ty body)).length + 10 ≤ zH) := by show _ ≤ _; omega
    clear dL fp tT dP aX
    have HB := qh (anQ lx (anQ i3 (anQ tN (anQ ti (anQ eR (anQ aY (anQ bi eH)))))))
    clear hS hR hA ap iU ih eM aY bi eH iQ mM gI eI km ev em el lx i3 tN ti eR
    have lf := qh (show pre.length + ((uleb mo).length + ((uleb args.length).length + ((args.flatMap jH).length + (if st then uleb 1 ++ (uleb mt ++ zby body) else uleb 0).length))) + 10 ≤ zH from by
     have := aj.o
     rw [zcO, HB.o.2.1, HB.o.2.2.2.1] at this
     simpa [zby] using this)
    have pg : Hd (∀ W, Wrote yx lo g w (pre ++ (uleb mo ++ (uleb args.length ++ (args.flatMap jH ++ (if st then uleb 1 ++ (uleb mt ++ zby body) else uleb 0))))) W → Wrote yx lo g w (bs ++ (uleb l.length ++ Je (l.take (i + 1)))) W) := fun W h => ai.o W (by
     rw [zcO, HB.o.2.1, HB.o.2.2.2.1]
     exact h)
    clear ai aj
    have x9 : args.length < 18446744073709551616 := by omega
    go_wp2_with fail
    obtain ⟨ig, dJ⟩ := Zk hW.o.is (.cells #[.int .i64 op, .slice a1 args.length c1, .bool st, .int .i64 ty, .slice a2 body.length c2] 76)
    have cY := zk wr #[.int .i64 op, .slice a1 args.length c1, .bool st, .int .i64 ty, .slice a2 body.length c2] 76
    have cN := za wr (.cells #[.int .i64 op, .slice a1 args.length c1, .bool st, .int .i64 ty, .slice a2 body.length c2] 76)
    generalize (wr.alloc (.cells #[.int .i64 op, .slice a1 args.length c1, .bool st, .int .i64 ty, .slice a2 body.length c2] 76)) = W1 at *
    have gP := nlQ HB.o.2.2.2.2.1 cN.size
    refine (zg lo g mo HB.o.1 pre W1 ig gP (by have := lf.o; omega)).mono ?_
    rintro e w2 ⟨rfl, mP⟩
    have ag := (mP.blk cY dJ).cell
    have H1 := qh (anQ ig (anQ dJ (anQ cY (anQ cN (anQ gP mP)))))
    clear ig dJ cY cN gP mP
    go_wp2_with fail
    obtain ⟨ig, dJ, cY, cN, gP, mP⟩ := H1.o
    refine (zg lo g args.length x9 _ w2 mP.is (nlQ gP mP.fr.size) (by have := lf.o; simp only [laQ]; omega)).mono ?_
    rintro e w3 ⟨rfl, tA⟩
    replace tA := mP.trans tA
    clear ag
    have ag := (tA.blk cY dJ).cell
    have H3 := qh tA
    clear ig dJ cY cN gP mP tA
    go_wp2_with fail
    obtain ⟨wo, rfl⟩ : ∃ wo : World, wo = wr := ⟨_, rfl⟩
    go_loopw [33] (fun i9 w' => ∃ (j : Nat), j ≤ args.length ∧ i9 = .int .i64 j ∧ Hd (Wrote yx lo g W1 (pre ++ uleb mo ++ uleb args.length ++ (args.take j).flatMap jH) w')) (fun i9 _ => args.length - (intOf i9).toNat)
    case atStart => exact ⟨0, nzQ _, rfl, by show Wrote _ _ _ _ _ _; simpa using H3.o⟩
    case round =>
     obtain ⟨j, hj, rfl, hV⟩ := hrel
     clear ag
     by_cases ep : j < args.length
     ·have aY := Lay.fr (Lay.fr HB.o.2.2.2.2.2.1 H1.o.2.2.2.1 (fun k hk => ⟨nqQ (H.o.2.2.1 k hk) HB.o.2.2.2.2.1, fun h => h⟩)) (Wrote.below H1.o.1 hV.o) (fun k hk => ⟨nqQ (H.o.2.2.1 k hk) H1.o.2.2.2.2.1, by have := H.o.2.2.1 k hk; omega⟩)
      obtain ⟨b3, o3, rfl, mp, g0, g1, -, -⟩ := zdn aY j ep
      have aX := qh (zdJ ep)
      obtain ⟨pG, iM⟩ := zcP ep
      generalize args[j] = aq at *
      obtain ⟨ak, ab⟩ := aq
      simp only [] at g0 g1
      obtain ⟨mk, ry, sZ, sJ⟩ := Zj ak
      have sA := ab.toNat_lt
      have Bz := qh (show jH (ak, ab) = uleb mk ++ uleb ab.toNat from by rw [jH, sJ])
      generalize jH (ak, ab) = E3 at *
      generalize ab.toNat = mb at *
      have cX := qh (show pre.length + ((uleb mo).length + ((uleb args.length).length + (((args.take j).flatMap jH).length + ((uleb mk).length + (uleb mb).length)))) + 10 ≤ zH from by
       have := lf.o
       rw [iM, Bz.o] at this
       simp only [laQ] at this
       omega)
      have HM := qh (anQ sZ sA)
      clear iM aY mp sZ sJ sA
      go_wp2_with fail
      obtain ⟨np, uO⟩ := Zk hV.o.is (.cells #[.int .i64 ak, .int .u64 mb] 239)
      have ni := zk wr #[.int .i64 ak, .int .u64 mb] 239
      have fF := za wr (.cells #[.int .i64 ak, .int .u64 mb] 239)
      generalize (wr.alloc (.cells #[.int .i64 ak, .int .u64 mb] 239)) = W4 at *
      have gZ := nlQ (nlQ H1.o.2.2.2.2.1 hV.o.fr.size) fF.size
      refine (zg lo g mk HM.o.1 _ W4 np gZ (by have := cX.o; simp only [laQ]; omega)).mono ?_
      rintro e w5 ⟨rfl, cz⟩
      have ag := (cz.blk ni uO).cell
      have H4 := qh (anQ fF (anQ gZ cz))
      clear np uO ni fF gZ cz
      go_wp2_with fail
      obtain ⟨fF, gZ, cz⟩ := H4.o
      refine (zg lo g mb HM.o.2 _ w5 cz.is (nlQ gZ cz.fr.size) (by have := cX.o; simp only [laQ]; omega)).mono ?_
      rintro e w6 ⟨rfl, lg⟩
      have bf := qh (show Wrote yx lo g W1 (pre ++ uleb mo ++ uleb args.length ++ (args.take (j + 1)).flatMap jH) w6 from by
       rw [aX.o, Bz.o, ← List.append_assoc, ← List.append_assoc]
       exact hV.o.trans (Wrote.after hV.o.is fF (cz.trans lg)))
      clear fF gZ cz lg ag
      go_wp2
      go_roundw
      case rel => exact ⟨j + 1, by omega, by go_num, bf⟩
      case measure => simp [intOf]; omega
     ·obtain rfl : j = args.length := by omega
      have ag := (hV.o.blk H1.o.2.2.1 H1.o.2.1).cell
      have bf := qh (show Wrote yx lo g W1 (pre ++ uleb mo ++ uleb args.length ++ args.flatMap jH) wr from by have := hV.o; rw [tlQ] at this; exact this)
      clear hV
      go_wp2_with fail
      refine (jq lo g st _ wr bf.o.is (nlQ H1.o.2.2.2.2.1 bf.o.fr.size) (by have := lf.o; simp only [laQ]; omega)).mono ?_
      rintro e w5 ⟨rfl, cz⟩
      replace cz := bf.o.trans cz
      clear ag
      have ag := (cz.blk H1.o.2.2.1 H1.o.2.1).cell
      have H5 := qh cz
      clear cz bf
      cases st with
      | false =>
       have ai := qh (show Wrote yx lo g w (bs ++ (uleb l.length ++ Je (l.take (i + 1)))) w5 from
        pg.o w5 (hW.o.trans (Wrote.after hW.o.is H1.o.2.2.2.1 (by simpa using H5.o))))
       go_wp2
       go_roundw
       case rel => exact ⟨i + 1, by omega, by go_num, ai⟩
       case measure => simp [intOf]; omega
      | true =>
       go_wp2_with fail
       refine (zg lo g mt HB.o.2.2.1 _ w5 H5.o.is (nlQ H1.o.2.2.2.2.1 H5.o.fr.size) (by have := lf.o; simp only [if_true, laQ] at *; omega)).mono ?_
       rintro e w6 ⟨rfl, lg⟩
       replace lg := H5.o.trans lg
       clear ag
       have ag := (lg.blk H1.o.2.2.1 H1.o.2.1).cell
       have H6 := qh lg
       clear lg H5
       go_wp2_with fail
       have bi := Lay.fr (Lay.fr HB.o.2.2.2.2.2.2.1 H1.o.2.2.2.1 (fun k hk => ⟨nqQ (H.o.2.2.1 k hk) HB.o.2.2.2.2.1, fun h => h⟩)) (Wrote.below H1.o.1 H6.o) (fun k hk => ⟨nqQ (H.o.2.2.1 k hk) H1.o.2.2.2.2.1, by have := H.o.2.2.1 k hk; omega⟩)
       refine (H.o.2.2.2.2.2 k (by omega) body lo g a2 body.length c2 A _ w6 H6.o.is bi H.o.2.2.1 (nlQ H1.o.2.2.2.2.1 H6.o.fr.size) (by have := lf.o; simp only [if_true, laQ] at *; omega)).mono ?_
       rintro e w7 ⟨rfl, pw⟩
       replace pw := H6.o.trans pw
       have ai := qh (show Wrote yx lo g w (bs ++ (uleb l.length ++ Je (l.take (i + 1)))) w7 from
        pg.o w7 (hW.o.trans (Wrote.after hW.o.is H1.o.2.2.2.1 (by simpa using pw))))
       clear ag pw bi
       go_wp2
       go_roundw
       case rel => exact ⟨i + 1, by omega, by go_num, ai⟩
       case measure => simp [intOf]; omega
   ·obtain rfl : i = l.length := by omega
    go_wp2
    go_end0
    refine ⟨rfl, ?_⟩
    have := hW.o
    rw [tlQ] at this
    exact this
theorem zbQ (s : ByteArray) : Lib.strCells s = s.data.toList.map fun b => Value.int .u8 (b.toNat : Int) := rfl
theorem zcQ {P : Program} (W : World) (base : Nat) (t u ty e : TypeId) (i : TypeInfo) (ht : P.underlying t = some (.slice e)) (hu : P.underlying u = some .string) (hi : P.info? e = some i) (hz : i.zero = some (.int .u8 0))
 (mS : i.size = 1) (xX : i.bytes = 1) (v : Value) (n : Nat) (xs : List Value) (au : W.ownsRow base e 1 v n xs) (s : ByteArray) (pQ : n + s.size ≤ 140737488355328) (tS : base ≤ W.heap.size) :
 ∃ v' w', (Builtin.append_ #[t, u] ty #[v, .string s]).run P W = .ok v' w' ∧ w'.ownsRow base e 1 v' (n + s.size) (xs ++ Lib.strCells s) ∧ W.grownBy w' v.ownBlock ∧ (v'.ownBlock = v.ownBlock ∨ v'.ownBlock = some W.heap.size) := by
 have DY : n + s.size ≤ maxLen := by simp only [maxLen]; omega
 obtain ⟨v', w', hr, h1, h2, h3⟩ := Lib.run_append_own_string (P := P) W base t u ty e i ht hu hi hz mS xX v n xs au s DY pQ tS
 refine ⟨v', w', hr, h1, h2, ?_⟩
 rcases au.2 with ⟨rfl, rfl⟩ | ⟨g, cap, bO, rfl, Ci, hg, tt, bh, oN, Bk⟩
 ·by_cases hm : s.size = 0
  ·rw [h3.2 ⟨rfl, hm⟩]; exact .inl rfl
  ·have hq := run_append_nil_string (P := P) W t u ty e i (.int .u8 0) ht hu hi hz s (by omega) (by omega) (by rw [xX]; omega)
   have := hr.symm.trans hq
   simp only [Result.ok.injEq] at this
   rw [this.1]
   exact .inr rfl
 ·by_cases fv : n + s.size ≤ cap
  ·have DQ : bO.size = cap := by simpa using oN
   have hq := Lib.run_append_room_string (P := P) W t u ty e i ht hu hi mS g n cap bO hg s fv (by omega)
   have := hr.symm.trans hq
   simp only [Result.ok.injEq] at this
   rw [this.1]
   exact .inl rfl
  ·have fd : xs.length = n := by simpa using au.1
   have hq := Lib.run_append_grow_string (P := P) W t u ty e i (.int .u8 0) ht hu hi hz ⟨g, 0, none⟩ n cap xs (by rw [mS]; simpa using fd) (au.cells (g := g) rfl) s (by omega) (by omega) (by rw [xX]; exact growslice_fits (by omega) (by omega))
   have := hr.symm.trans hq
   simp only [Result.ok.injEq] at this
   rw [this.1]
   exact .inr rfl
section
variable {P : Program} {ar : Array Oper} {rest : List Oper} {o : Oper} {a : Act} {Q : Exit → Act → World → Prop} {K : Act → World → Prop}
theorem zcR {W : World} (lo : Nat) (s x : Operand) (t u e : TypeId)
 (ho : o.op = .call { callee := .builtin .append, args := #[s, x], argTypes := #[t, u] })
 (ht : P.underlying t = some (.slice e)) (hu : P.underlying u = some .string) (bj : (P.info? e).map (fun i => (i.zero, i.size, i.bytes)) = some (some (.int .u8 0), 1, 1))
 (v : Value) (xs : List UInt8) (st : ByteArray) (hs : a.eval s = v) (hx : a.eval x = .string st)
 (HO : Own Lay.u8 e lo W v xs) (ap : lo ≤ W.heap.size) (hl : xs.length + st.size ≤ 140737488355328)
 (h : ∀ v1 w1, Own Lay.u8 e lo w1 v1 (xs ++ st.data.toList) → Fr (fun k => some k = v.ownBlock) W w1 → (∀ k, v1.ownBlock = some k → v.ownBlock = some k ∨ W.heap.size ≤ k) → K (a.put o.dst v1) w1) :
 o.wp P a W K Q := by
 obtain ⟨i0, hi, kY⟩ := Option.map_eq_some_iff.1 bj
 simp only [Prod.mk.injEq] at kY
 obtain ⟨fh, iu, nz⟩ := kY
 obtain ⟨flat, HO, HF⟩ := HO
 have Dt : W.ownsRow lo e 1 v xs.length flat := HO
 obtain ⟨v1, w1, hr, h1, h2, h3⟩ := zcQ (P := P) W lo t u o.type e i0 ht hu hi fh iu nz v xs.length flat Dt st hl ap
 unfold Oper.wp execOp
 simp only [ho, resolve, invoke, builtin, Sem.run_bind, Sem.run_pure, Result.andThen_ok, List.map_toArray, List.map_cons, List.map_nil, hs, hx, hr]
 show K _ _
 refine h v1 w1 ⟨flat ++ Lib.strCells st, ?_, ?_⟩ (Jp h2) (fun k hk => ?_)
 ·rw [laQ]; exact h1
 ·rw [zbQ]
  exact Lay.all_append (Lay.all_flat Lay.flat_u8 HF) (zar _)
 ·rcases h3 with h3 | h3
  ·exact .inl (h3 ▸ hk)
  ·rw [h3] at hk; injection hk with hk; exact .inr (Nat.le_of_eq hk)
theorem zfI {W : World} (lo : Nat) (ir : o.guard = none) (s x : Operand) (t u e : TypeId)
 (ho : o.op = .call { callee := .builtin .append, args := #[s, x], argTypes := #[t, u] })
 (ht : P.underlying t = some (.slice e)) (hu : P.underlying u = some .string) (bj : (P.info? e).map (fun i => (i.zero, i.size, i.bytes)) = some (some (.int .u8 0), 1, 1))
 (v : Value) (xs : List UInt8) (st : ByteArray) (hs : a.eval s = v) (hx : a.eval x = .string st)
 (HO : Own Lay.u8 e lo W v xs) (ap : lo ≤ W.heap.size) (hl : xs.length + st.size ≤ 140737488355328)
 (h : ∀ v1 w1, Own Lay.u8 e lo w1 v1 (xs ++ st.data.toList) → Fr (fun k => some k = v.ownBlock) W w1 → (∀ k, v1.ownBlock = some k → v.ownBlock = some k ∨ W.heap.size ≤ k) → wpList P ar Q rest (a.put o.dst v1) w1) :
 wpList P ar Q (o :: rest) a W :=
 wpList_plain ir fun _ hK => zcR lo s x t u e ho ht hu bj v xs st hs hx HO ap hl fun v1 w1 h1 h2 h3 => hK _ _ (h v1 w1 h1 h2 h3)
end
end Go.Proofs.YtejgninpjhcgnaaGreatDoor
