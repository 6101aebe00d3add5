/- Texts of this proof, one behind the other. -/
import Derived.Test.YtejgninpjhcgnaaGreatDoorPart3
import Derived.Outline
namespace Go.Proofs.YtejgninpjhcgnaaGreatDoor
open Go.RowKit
set_option linter.unusedSimpArgs false
set_option linter.unusedVariables false
set_option maxRecDepth 100000
set_option maxHeartbeats 1000000
structure Lim where
 min : UInt32
 bounded : Bool
 max : UInt32
structure FT where
 ps : List Int
 rs : List Int
structure Imp where
 mdl : List UInt8
 name : List UInt8
 kind : Int
 index : UInt32
 lim : Lim
 ty : Int
 mtb : Bool
structure Elem where
 index : UInt32
 off : List Ins
 ids : List UInt32
structure Glob where
 ty : Int
 mtb : Bool
 init : List Ins
structure Expo where
 name : List UInt8
 kind : Int
 index : UInt32
structure Dat where
 index : UInt32
 off : List Ins
 init : List UInt8
structure Cus where
 name : List UInt8
 data : List UInt8
structure Nam where
 fn : UInt32
 idx : UInt32
 name : List UInt8
structure Mod where
 version : UInt32
 hasStart : Bool
 start : UInt32
 types : List FT
 imports : List Imp
 functions : List UInt32
 tables : List Lim
 memories : List Lim
 elements : List Elem
 globals : List Glob
 exports : List Expo
 codes : List (List UInt8)
 datas : List Dat
 customs : List Cus
 named : List UInt8
 funcs : List Nam
 locals : List Nam
namespace Lay
theorem slice_form2 {α : Type} {l : Lay α} {A : Nat → Prop} {w : World} {cs : List Value} {xs : List α} (h : (slice l).rd A w cs xs) : ∃ a cap, cs = [.slice a xs.length cap] ∧ xs.length ≤ cap ∧ cap ≤ maxLen := by
 obtain ⟨a, cap, e, h1, h2, _⟩ := h
 exact ⟨a, cap, e, h1, h2⟩
def strB : Lay (List UInt8) := str.via zd
theorem flat_strB : strB.flat := flat_via flat_str _
def lim : Lay Lim := (u32.pair (bool.pair u32)).via (fun x => (x.min, x.bounded, x.max))
def ft : Lay FT := (int.slice.pair int.slice).via (fun x => (x.ps, x.rs))
def imp : Lay Imp := (strB.pair (strB.pair (int.pair (u32.pair (lim.pair (int.pair bool)))))).via (fun x => (x.mdl, x.name, x.kind, x.index, x.lim, x.ty, x.mtb))
def elem (n : Nat) : Lay Elem := (u32.pair ((ins n).slice.pair u32.slice)).via (fun x => (x.index, x.off, x.ids))
def glob (n : Nat) : Lay Glob := (int.pair (bool.pair ((ins n).slice))).via (fun x => (x.ty, x.mtb, x.init))
def expo : Lay Expo := (strB.pair (int.pair u32)).via (fun x => (x.name, x.kind, x.index))
def dat (n : Nat) : Lay Dat := (u32.pair ((ins n).slice.pair u8.slice)).via (fun x => (x.index, x.off, x.init))
def cus : Lay Cus := (strB.pair u8.slice).via (fun x => (x.name, x.data))
def nam : Lay Nam := (u32.pair (u32.pair strB)).via (fun x => (x.fn, x.idx, x.name))
theorem lim_cells {A : Nat → Prop} {w : World} {cs : List Value} {x : Lim} (h : lim.rd A w cs x) : cs = [.int .u32 (x.min.toNat : Int), .bool x.bounded, .int .u32 (x.max.toNat : Int)] := by
 obtain ⟨_, _, rfl, rfl, ⟨_, _, rfl, rfl, rfl⟩⟩ := h
 rfl
theorem lim_at2 {A : Nat → Prop} {w : World} {a : Option Addr} {m cap : Nat} {xs : List Lim} (h : lim.slice.rd A w [.slice a m cap] xs) (i : Nat) (hi : i < xs.length) : ∃ b o , a = some ⟨b, o, none⟩ ∧ w.cell? ⟨b, o + i * 3, none⟩ = some (.int .u32 (xs[i].min.toNat : Int)) ∧ w.cell? ⟨b, o + i * 3 + 1, none⟩ = some (.bool xs[i].bounded) ∧ w.cell? ⟨b, o + i * 3 + 2, none⟩ = some (.int .u32 (xs[i].max.toNat : Int)) ∧ lim.rd A w [.int .u32 (xs[i].min.toNat : Int), .bool xs[i].bounded, .int .u32 (xs[i].max.toNat : Int)] xs[i] := by
 have hm : xs.length = m := by obtain ⟨_, _, e, _⟩ := h; simp only [List.cons.injEq, Value.slice.injEq, and_true] at e; exact e.2.1.symm
 obtain ⟨b, o, es, eY, e, hA, _, hr, hc⟩ := slice_at h i (by omega)
 obtain rfl := lim_cells hr
 exact ⟨b, o, e, hc 0 (by show 0 < 3; omega), hc 1 (by show 1 < 3; omega), hc 2 (by show 2 < 3; omega), hr⟩
theorem lim_at {A : Nat → Prop} {w : World} {a : Option Addr} {m cap : Nat} {xs : List Lim} (h : lim.slice.rd A w [.slice a m cap] xs) (i : Nat) (hi : i < xs.length) : ∃ b o , a = some ⟨b, o, none⟩ ∧ w.cell? ⟨b, o + i * 3, none⟩ = some (.int .u32 (xs[i].min.toNat : Int)) ∧ w.cell? ⟨b, o + i * 3 + 1, none⟩ = some (.bool xs[i].bounded) ∧ w.cell? ⟨b, o + i * 3 + 2, none⟩ = some (.int .u32 (xs[i].max.toNat : Int)) := by
 obtain ⟨b, o, e, f0, f1, f2, -⟩ := lim_at2 h i hi
 exact ⟨b, o, e, f0, f1, f2⟩
theorem ft_cells {A : Nat → Prop} {w : World} {cs : List Value} {x : FT} (h : ft.rd A w cs x) : ∃ a0 c0 a1 c1, cs = [.slice a0 x.ps.length c0, .slice a1 x.rs.length c1] ∧ int.slice.rd A w [.slice a0 x.ps.length c0] x.ps ∧ int.slice.rd A w [.slice a1 x.rs.length c1] x.rs := by
 obtain ⟨_, _, rfl, h0, h1⟩ := h
 obtain ⟨a0, c0, rfl, -, -⟩ := slice_form2 h0
 obtain ⟨a1, c1, rfl, -, -⟩ := slice_form2 h1
 exact ⟨a0, c0, a1, c1, rfl, h0, h1⟩
theorem ft_at2 {A : Nat → Prop} {w : World} {a : Option Addr} {m cap : Nat} {xs : List FT} (h : ft.slice.rd A w [.slice a m cap] xs) (i : Nat) (hi : i < xs.length) : ∃ b o a0 c0 a1 c1, a = some ⟨b, o, none⟩ ∧ w.cell? ⟨b, o + i * 2, none⟩ = some (.slice a0 xs[i].ps.length c0) ∧ w.cell? ⟨b, o + i * 2 + 1, none⟩ = some (.slice a1 xs[i].rs.length c1) ∧ int.slice.rd A w [.slice a0 xs[i].ps.length c0] xs[i].ps ∧ int.slice.rd A w [.slice a1 xs[i].rs.length c1] xs[i].rs ∧ ft.rd A w [.slice a0 xs[i].ps.length c0, .slice a1 xs[i].rs.length c1] xs[i] := by
 have hm : xs.length = m := by obtain ⟨_, _, e, _⟩ := h; simp only [List.cons.injEq, Value.slice.injEq, and_true] at e; exact e.2.1.symm
 obtain ⟨b, o, es, eY, e, hA, _, hr, hc⟩ := slice_at h i (by omega)
 obtain ⟨a0, c0, a1, c1, rfl, eU, fK⟩ := ft_cells hr
 exact ⟨b, o, a0, c0, a1, c1, e, hc 0 (by show 0 < 2; omega), hc 1 (by show 1 < 2; omega), eU, fK, hr⟩
theorem ft_at {A : Nat → Prop} {w : World} {a : Option Addr} {m cap : Nat} {xs : List FT} (h : ft.slice.rd A w [.slice a m cap] xs) (i : Nat) (hi : i < xs.length) : ∃ b o a0 c0 a1 c1, a = some ⟨b, o, none⟩ ∧ w.cell? ⟨b, o + i * 2, none⟩ = some (.slice a0 xs[i].ps.length c0) ∧ w.cell? ⟨b, o + i * 2 + 1, none⟩ = some (.slice a1 xs[i].rs.length c1) ∧ int.slice.rd A w [.slice a0 xs[i].ps.length c0] xs[i].ps ∧ int.slice.rd A w [.slice a1 xs[i].rs.length c1] xs[i].rs := by
 obtain ⟨b, o, a0, c0, a1, c1, e, f0, f1, eU, fK, -⟩ := ft_at2 h i hi
 exact ⟨b, o, a0, c0, a1, c1, e, f0, f1, eU, fK⟩
theorem imp_cells {A : Nat → Prop} {w : World} {cs : List Value} {x : Imp} (h : imp.rd A w cs x) : cs = [.string (zd x.mdl), .string (zd x.name), .int .i64 x.kind, .int .u32 (x.index.toNat : Int), .int .u32 (x.lim.min.toNat : Int), .bool x.lim.bounded, .int .u32 (x.lim.max.toNat : Int), .int .i64 x.ty, .bool x.mtb] ∧ (zd x.mdl).size ≤ maxLen ∧ (zd x.name).size ≤ maxLen ∧ (-9223372036854775808 ≤ x.kind ∧ x.kind ≤ 9223372036854775807) ∧ (-9223372036854775808 ≤ x.ty ∧ x.ty ≤ 9223372036854775807) := by
 obtain ⟨_, _, rfl, ⟨rfl, q0⟩, ⟨_, _, rfl, ⟨rfl, q1⟩, ⟨_, _, rfl, ⟨rfl, q2⟩, ⟨_, _, rfl, rfl, ⟨_, _, rfl, ⟨_, _, rfl, rfl, ⟨_, _, rfl, rfl, rfl⟩⟩, ⟨_, _, rfl, ⟨rfl, q7⟩, rfl⟩⟩⟩⟩⟩⟩ := h
 exact ⟨rfl, q0, q1, q2, q7⟩
theorem imp_at2 {A : Nat → Prop} {w : World} {a : Option Addr} {m cap : Nat} {xs : List Imp} (h : imp.slice.rd A w [.slice a m cap] xs) (i : Nat) (hi : i < xs.length) : ∃ b o , a = some ⟨b, o, none⟩ ∧ w.cell? ⟨b, o + i * 9, none⟩ = some (.string (zd xs[i].mdl)) ∧ w.cell? ⟨b, o + i * 9 + 1, none⟩ = some (.string (zd xs[i].name)) ∧ w.cell? ⟨b, o + i * 9 + 2, none⟩ = some (.int .i64 xs[i].kind) ∧ w.cell? ⟨b, o + i * 9 + 3, none⟩ = some (.int .u32 (xs[i].index.toNat : Int)) ∧ w.cell? ⟨b, o + i * 9 + 4, none⟩ = some (.int .u32 (xs[i].lim.min.toNat : Int)) ∧ w.cell? ⟨b, o + i * 9 + 5, none⟩ = some (.bool xs[i].lim.bounded) ∧ w.cell? ⟨b, o + i * 9 + 6, none⟩ = some (.int .u32 (xs[i].lim.max.toNat : Int)) ∧ w.cell? ⟨b, o + i * 9 + 7, none⟩ = some (.int .i64 xs[i].ty) ∧ w.cell? ⟨b, o + i * 9 + 8, none⟩ = some (.bool xs[i].mtb) ∧ (zd xs[i].mdl).size ≤ maxLen ∧ (zd xs[i].name).size ≤ maxLen ∧ (-9223372036854775808 ≤ xs[i].kind ∧ xs[i].kind ≤ 9223372036854775807) ∧ (-9223372036854775808 ≤ xs[i].ty ∧ xs[i].ty ≤ 9223372036854775807) ∧ imp.rd A w [.string (zd xs[i].mdl), .string (zd xs[i].name), .int .i64 xs[i].kind, .int .u32 (xs[i].index.toNat : Int), .int .u32 (xs[i].lim.min.toNat : Int), .bool xs[i].lim.bounded, .int .u32 (xs[i].lim.max.toNat : Int), .int .i64 xs[i].ty, .bool xs[i].mtb] xs[i] := by
 have hm : xs.length = m := by obtain ⟨_, _, e, _⟩ := h; simp only [List.cons.injEq, Value.slice.injEq, and_true] at e; exact e.2.1.symm
 obtain ⟨b, o, es, eY, e, hA, _, hr, hc⟩ := slice_at h i (by omega)
 obtain ⟨rfl, eU, fK, wB, wC⟩ := imp_cells hr
 exact ⟨b, o, e, hc 0 (by show 0 < 9; omega), hc 1 (by show 1 < 9; omega), hc 2 (by show 2 < 9; omega), hc 3 (by show 3 < 9; omega), hc 4 (by show 4 < 9; omega), hc 5 (by show 5 < 9; omega), hc 6 (by show 6 < 9; omega), hc 7 (by show 7 < 9; omega), hc 8 (by show 8 < 9; omega), eU, fK, wB, wC, hr⟩
theorem imp_at {A : Nat → Prop} {w : World} {a : Option Addr} {m cap : Nat} {xs : List Imp} (h : imp.slice.rd A w [.slice a m cap] xs) (i : Nat) (hi : i < xs.length) : ∃ b o , a = some ⟨b, o, none⟩ ∧ w.cell? ⟨b, o + i * 9, none⟩ = some (.string (zd xs[i].mdl)) ∧ w.cell? ⟨b, o + i * 9 + 1, none⟩ = some (.string (zd xs[i].name)) ∧ w.cell? ⟨b, o + i * 9 + 2, none⟩ = some (.int .i64 xs[i].kind) ∧ w.cell? ⟨b, o + i * 9 + 3, none⟩ = some (.int .u32 (xs[i].index.toNat : Int)) ∧ w.cell? ⟨b, o + i * 9 + 4, none⟩ = some (.int .u32 (xs[i].lim.min.toNat : Int)) ∧ w.cell? ⟨b, o + i * 9 + 5, none⟩ = some (.bool xs[i].lim.bounded) ∧ w.cell? ⟨b, o + i * 9 + 6, none⟩ = some (.int .u32 (xs[i].lim.max.toNat : Int)) ∧ w.cell? ⟨b, o + i * 9 + 7, none⟩ = some (.int .i64 xs[i].ty) ∧ w.cell? ⟨b, o + i * 9 + 8, none⟩ = some (.bool xs[i].mtb) ∧ (zd xs[i].mdl).size ≤ maxLen ∧ (zd xs[i].name).size ≤ maxLen ∧ (-9223372036854775808 ≤ xs[i].kind ∧ xs[i].kind ≤ 9223372036854775807) ∧ (-9223372036854775808 ≤ xs[i].ty ∧ xs[i].ty ≤ 9223372036854775807) := by
 obtain ⟨b, o, e, f0, f1, f2, f3, f4, f5, f6, f7, f8, eU, fK, wB, wC, -⟩ := imp_at2 h i hi
 exact ⟨b, o, e, f0, f1, f2, f3, f4, f5, f6, f7, f8, eU, fK, wB, wC⟩
theorem elem_cells {n : Nat} {A : Nat → Prop} {w : World} {cs : List Value} {x : Elem} (h : (elem n).rd A w cs x) : ∃ a1 c1 a2 c2, cs = [.int .u32 (x.index.toNat : Int), .slice a1 x.off.length c1, .slice a2 x.ids.length c2] ∧ (ins n).slice.rd A w [.slice a1 x.off.length c1] x.off ∧ u32.slice.rd A w [.slice a2 x.ids.length c2] x.ids := by
 obtain ⟨_, _, rfl, rfl, ⟨_, _, rfl, h1, h2⟩⟩ := h
 obtain ⟨a1, c1, rfl, -, -⟩ := slice_form2 h1
 obtain ⟨a2, c2, rfl, -, -⟩ := slice_form2 h2
 exact ⟨a1, c1, a2, c2, rfl, h1, h2⟩
theorem elem_at2 {n : Nat} {A : Nat → Prop} {w : World} {a : Option Addr} {m cap : Nat} {xs : List Elem} (h : (elem n).slice.rd A w [.slice a m cap] xs) (i : Nat) (hi : i < xs.length) : ∃ b o a1 c1 a2 c2, a = some ⟨b, o, none⟩ ∧ w.cell? ⟨b, o + i * 3, none⟩ = some (.int .u32 (xs[i].index.toNat : Int)) ∧ w.cell? ⟨b, o + i * 3 + 1, none⟩ = some (.slice a1 xs[i].off.length c1) ∧ w.cell? ⟨b, o + i * 3 + 2, none⟩ = some (.slice a2 xs[i].ids.length c2) ∧ (ins n).slice.rd A w [.slice a1 xs[i].off.length c1] xs[i].off ∧ u32.slice.rd A w [.slice a2 xs[i].ids.length c2] xs[i].ids ∧ (elem n).rd A w [.int .u32 (xs[i].index.toNat : Int), .slice a1 xs[i].off.length c1, .slice a2 xs[i].ids.length c2] xs[i] := by
 have hm : xs.length = m := by obtain ⟨_, _, e, _⟩ := h; simp only [List.cons.injEq, Value.slice.injEq, and_true] at e; exact e.2.1.symm
 obtain ⟨b, o, es, eY, e, hA, _, hr, hc⟩ := slice_at h i (by omega)
 obtain ⟨a1, c1, a2, c2, rfl, eU, fK⟩ := elem_cells hr
 exact ⟨b, o, a1, c1, a2, c2, e, hc 0 (by show 0 < 3; omega), hc 1 (by show 1 < 3; omega), hc 2 (by show 2 < 3; omega), eU, fK, hr⟩
theorem elem_at {n : Nat} {A : Nat → Prop} {w : World} {a : Option Addr} {m cap : Nat} {xs : List Elem} (h : (elem n).slice.rd A w [.slice a m cap] xs) (i : Nat) (hi : i < xs.length) : ∃ b o a1 c1 a2 c2, a = some ⟨b, o, none⟩ ∧ w.cell? ⟨b, o + i * 3, none⟩ = some (.int .u32 (xs[i].index.toNat : Int)) ∧ w.cell? ⟨b, o + i * 3 + 1, none⟩ = some (.slice a1 xs[i].off.length c1) ∧ w.cell? ⟨b, o + i * 3 + 2, none⟩ = some (.slice a2 xs[i].ids.length c2) ∧ (ins n).slice.rd A w [.slice a1 xs[i].off.length c1] xs[i].off ∧ u32.slice.rd A w [.slice a2 xs[i].ids.length c2] xs[i].ids := by
 obtain ⟨b, o, a1, c1, a2, c2, e, f0, f1, f2, eU, fK, -⟩ := elem_at2 h i hi
 exact ⟨b, o, a1, c1, a2, c2, e, f0, f1, f2, eU, fK⟩
theorem glob_cells {n : Nat} {A : Nat → Prop} {w : World} {cs : List Value} {x : Glob} (h : (glob n).rd A w cs x) : ∃ a2 c2, cs = [.int .i64 x.ty, .bool x.mtb, .slice a2 x.init.length c2] ∧ (-9223372036854775808 ≤ x.ty ∧ x.ty ≤ 9223372036854775807) ∧ (ins n).slice.rd A w [.slice a2 x.init.length c2] x.init := by
 obtain ⟨_, _, rfl, ⟨rfl, q0⟩, ⟨_, _, rfl, rfl, h2⟩⟩ := h
 obtain ⟨a2, c2, rfl, -, -⟩ := slice_form2 h2
 exact ⟨a2, c2, rfl, q0, h2⟩
theorem glob_at2 {n : Nat} {A : Nat → Prop} {w : World} {a : Option Addr} {m cap : Nat} {xs : List Glob} (h : (glob n).slice.rd A w [.slice a m cap] xs) (i : Nat) (hi : i < xs.length) : ∃ b o a2 c2, a = some ⟨b, o, none⟩ ∧ w.cell? ⟨b, o + i * 3, none⟩ = some (.int .i64 xs[i].ty) ∧ w.cell? ⟨b, o + i * 3 + 1, none⟩ = some (.bool xs[i].mtb) ∧ w.cell? ⟨b, o + i * 3 + 2, none⟩ = some (.slice a2 xs[i].init.length c2) ∧ (-9223372036854775808 ≤ xs[i].ty ∧ xs[i].ty ≤ 9223372036854775807) ∧ (ins n).slice.rd A w [.slice a2 xs[i].init.length c2] xs[i].init ∧ (glob n).rd A w [.int .i64 xs[i].ty, .bool xs[i].mtb, .slice a2 xs[i].init.length c2] xs[i] := by
 have hm : xs.length = m := by obtain ⟨_, _, e, _⟩ := h; simp only [List.cons.injEq, Value.slice.injEq, and_true] at e; exact e.2.1.symm
 obtain ⟨b, o, es, eY, e, hA, _, hr, hc⟩ := slice_at h i (by omega)
 obtain ⟨a2, c2, rfl, eU, fK⟩ := glob_cells hr
 exact ⟨b, o, a2, c2, e, hc 0 (by show 0 < 3; omega), hc 1 (by show 1 < 3; omega), hc 2 (by show 2 < 3; omega), eU, fK, hr⟩
theorem glob_at {n : Nat} {A : Nat → Prop} {w : World} {a : Option Addr} {m cap : Nat} {xs : List Glob} (h : (glob n).slice.rd A w [.slice a m cap] xs) (i : Nat) (hi : i < xs.length) : ∃ b o a2 c2, a = some ⟨b, o, none⟩ ∧ w.cell? ⟨b, o + i * 3, none⟩ = some (.int .i64 xs[i].ty) ∧ w.cell? ⟨b, o + i * 3 + 1, none⟩ = some (.bool xs[i].mtb) ∧ w.cell? ⟨b, o + i * 3 + 2, none⟩ = some (.slice a2 xs[i].init.length c2) ∧ (-9223372036854775808 ≤ xs[i].ty ∧ xs[i].ty ≤ 9223372036854775807) ∧ (ins n).slice.rd A w [.slice a2 xs[i].init.length c2] xs[i].init := by
 obtain ⟨b, o, a2, c2, e, f0, f1, f2, eU, fK, -⟩ := glob_at2 h i hi
 exact ⟨b, o, a2, c2, e, f0, f1, f2, eU, fK⟩
theorem expo_cells {A : Nat → Prop} {w : World} {cs : List Value} {x : Expo} (h : expo.rd A w cs x) : cs = [.string (zd x.name), .int .i64 x.kind, .int .u32 (x.index.toNat : Int)] ∧ (zd x.name).size ≤ maxLen ∧ (-9223372036854775808 ≤ x.kind ∧ x.kind ≤ 9223372036854775807) := by
 obtain ⟨_, _, rfl, ⟨rfl, q0⟩, ⟨_, _, rfl, ⟨rfl, q1⟩, rfl⟩⟩ := h
 exact ⟨rfl, q0, q1⟩
theorem expo_at2 {A : Nat → Prop} {w : World} {a : Option Addr} {m cap : Nat} {xs : List Expo} (h : expo.slice.rd A w [.slice a m cap] xs) (i : Nat) (hi : i < xs.length) : ∃ b o , a = some ⟨b, o, none⟩ ∧ w.cell? ⟨b, o + i * 3, none⟩ = some (.string (zd xs[i].name)) ∧ w.cell? ⟨b, o + i * 3 + 1, none⟩ = some (.int .i64 xs[i].kind) ∧ w.cell? ⟨b, o + i * 3 + 2, none⟩ = some (.int .u32 (xs[i].index.toNat : Int)) ∧ (zd xs[i].name).size ≤ maxLen ∧ (-9223372036854775808 ≤ xs[i].kind ∧ xs[i].kind ≤ 9223372036854775807) ∧ expo.rd A w [.string (zd xs[i].name), .int .i64 xs[i].kind, .int .u32 (xs[i].index.toNat : Int)] xs[i] := by
 have hm : xs.length = m := by obtain ⟨_, _, e, _⟩ := h; simp only [List.cons.injEq, Value.slice.injEq, and_true] at e; exact e.2.1.symm
 obtain ⟨b, o, es, eY, e, hA, _, hr, hc⟩ := slice_at h i (by omega)
 obtain ⟨rfl, eU, fK⟩ := expo_cells hr
 exact ⟨b, o, e, hc 0 (by show 0 < 3; omega), hc 1 (by show 1 < 3; omega), hc 2 (by show 2 < 3; omega), eU, fK, hr⟩
theorem expo_at {A : Nat → Prop} {w : World} {a : Option Addr} {m cap : Nat} {xs : List Expo} (h : expo.slice.rd A w [.slice a m cap] xs) (i : Nat) (hi : i < xs.length) : ∃ b o , a = some ⟨b, o, none⟩ ∧ w.cell? ⟨b, o + i * 3, none⟩ = some (.string (zd xs[i].name)) ∧ w.cell? ⟨b, o + i * 3 + 1, none⟩ = some (.int .i64 xs[i].kind) ∧ w.cell? ⟨b, o + i * 3 + 2, none⟩ = some (.int .u32 (xs[i].index.toNat : Int)) ∧ (zd xs[i].name).size ≤ maxLen ∧ (-9223372036854775808 ≤ xs[i].kind ∧ xs[i].kind ≤ 9223372036854775807) := by
 obtain ⟨b, o, e, f0, f1, f2, eU, fK, -⟩ := expo_at2 h i hi
 exact ⟨b, o, e, f0, f1, f2, eU, fK⟩
theorem dat_cells {n : Nat} {A : Nat → Prop} {w : World} {cs : List Value} {x : Dat} (h : (dat n).rd A w cs x) : ∃ a1 c1 a2 c2, cs = [.int .u32 (x.index.toNat : Int), .slice a1 x.off.length c1, .slice a2 x.init.length c2] ∧ (ins n).slice.rd A w [.slice a1 x.off.length c1] x.off ∧ u8.slice.rd A w [.slice a2 x.init.length c2] x.init := by
 obtain ⟨_, _, rfl, rfl, ⟨_, _, rfl, h1, h2⟩⟩ := h
 obtain ⟨a1, c1, rfl, -, -⟩ := slice_form2 h1
 obtain ⟨a2, c2, rfl, -, -⟩ := slice_form2 h2
 exact ⟨a1, c1, a2, c2, rfl, h1, h2⟩
theorem dat_at2 {n : Nat} {A : Nat → Prop} {w : World} {a : Option Addr} {m cap : Nat} {xs : List Dat} (h : (dat n).slice.rd A w [.slice a m cap] xs) (i : Nat) (hi : i < xs.length) : ∃ b o a1 c1 a2 c2, a = some ⟨b, o, none⟩ ∧ w.cell? ⟨b, o + i * 3, none⟩ = some (.int .u32 (xs[i].index.toNat : Int)) ∧ w.cell? ⟨b, o + i * 3 + 1, none⟩ = some (.slice a1 xs[i].off.length c1) ∧ w.cell? ⟨b, o + i * 3 + 2, none⟩ = some (.slice a2 xs[i].init.length c2) ∧ (ins n).slice.rd A w [.slice a1 xs[i].off.length c1] xs[i].off ∧ u8.slice.rd A w [.slice a2 xs[i].init.length c2] xs[i].init ∧ (dat n).rd A w [.int .u32 (xs[i].index.toNat : Int), .slice a1 xs[i].off.length c1, .slice a2 xs[i].init.length c2] xs[i] := by
 have hm : xs.length = m := by obtain ⟨_, _, e, _⟩ := h; simp only [List.cons.injEq, Value.slice.injEq, and_true] at e; exact e.2.1.symm
 obtain ⟨b, o, es, eY, e, hA, _, hr, hc⟩ := slice_at h i (by omega)
 obtain ⟨a1, c1, a2, c2, rfl, eU, fK⟩ := dat_cells hr
 exact ⟨b, o, a1, c1, a2, c2, e, hc 0 (by show 0 < 3; omega), hc 1 (by show 1 < 3; omega), hc 2 (by show 2 < 3; omega), eU, fK, hr⟩
theorem dat_at {n : Nat} {A : Nat → Prop} {w : World} {a : Option Addr} {m cap : Nat} {xs : List Dat} (h : (dat n).slice.rd A w [.slice a m cap] xs) (i : Nat) (hi : i < xs.length) : ∃ b o a1 c1 a2 c2, a = some ⟨b, o, none⟩ ∧ w.cell? ⟨b, o + i * 3, none⟩ = some (.int .u32 (xs[i].index.toNat : Int)) ∧ w.cell? ⟨b, o + i * 3 + 1, none⟩ = some (.slice a1 xs[i].off.length c1) ∧ w.cell? ⟨b, o + i * 3 + 2, none⟩ = some (.slice a2 xs[i].init.length c2) ∧ (ins n).slice.rd A w [.slice a1 xs[i].off.length c1] xs[i].off ∧ u8.slice.rd A w [.slice a2 xs[i].init.length c2] xs[i].init := by
 obtain ⟨b, o, a1, c1, a2, c2, e, f0, f1, f2, eU, fK, -⟩ := dat_at2 h i hi
 exact ⟨b, o, a1, c1, a2, c2, e, f0, f1, f2, eU, fK⟩
theorem cus_cells {A : Nat → Prop} {w : World} {cs : List Value} {x : Cus} (h : cus.rd A w cs x) : ∃ a1 c1, cs = [.string (zd x.name), .slice a1 x.data.length c1] ∧ (zd x.name).size ≤ maxLen ∧ u8.slice.rd A w [.slice a1 x.data.length c1] x.data := by
 obtain ⟨_, _, rfl, ⟨rfl, q0⟩, h1⟩ := h
 obtain ⟨a1, c1, rfl, -, -⟩ := slice_form2 h1
 exact ⟨a1, c1, rfl, q0, h1⟩
theorem cus_at2 {A : Nat → Prop} {w : World} {a : Option Addr} {m cap : Nat} {xs : List Cus} (h : cus.slice.rd A w [.slice a m cap] xs) (i : Nat) (hi : i < xs.length) : ∃ b o a1 c1, a = some ⟨b, o, none⟩ ∧ w.cell? ⟨b, o + i * 2, none⟩ = some (.string (zd xs[i].name)) ∧ w.cell? ⟨b, o + i * 2 + 1, none⟩ = some (.slice a1 xs[i].data.length c1) ∧ (zd xs[i].name).size ≤ maxLen ∧ u8.slice.rd A w [.slice a1 xs[i].data.length c1] xs[i].data ∧ cus.rd A w [.string (zd xs[i].name), .slice a1 xs[i].data.length c1] xs[i] := by
 have hm : xs.length = m := by obtain ⟨_, _, e, _⟩ := h; simp only [List.cons.injEq, Value.slice.injEq, and_true] at e; exact e.2.1.symm
 obtain ⟨b, o, es, eY, e, hA, _, hr, hc⟩ := slice_at h i (by omega)
 obtain ⟨a1, c1, rfl, eU, fK⟩ := cus_cells hr
 exact ⟨b, o, a1, c1, e, hc 0 (by show 0 < 2; omega), hc 1 (by show 1 < 2; omega), eU, fK, hr⟩
theorem cus_at {A : Nat → Prop} {w : World} {a : Option Addr} {m cap : Nat} {xs : List Cus} (h : cus.slice.rd A w [.slice a m cap] xs) (i : Nat) (hi : i < xs.length) : ∃ b o a1 c1, a = some ⟨b, o, none⟩ ∧ w.cell? ⟨b, o + i * 2, none⟩ = some (.string (zd xs[i].name)) ∧ w.cell? ⟨b, o + i * 2 + 1, none⟩ = some (.slice a1 xs[i].data.length c1) ∧ (zd xs[i].name).size ≤ maxLen ∧ u8.slice.rd A w [.slice a1 xs[i].data.length c1] xs[i].data := by
 obtain ⟨b, o, a1, c1, e, f0, f1, eU, fK, -⟩ := cus_at2 h i hi
 exact ⟨b, o, a1, c1, e, f0, f1, eU, fK⟩
theorem nam_cells {A : Nat → Prop} {w : World} {cs : List Value} {x : Nam} (h : nam.rd A w cs x) : cs = [.int .u32 (x.fn.toNat : Int), .int .u32 (x.idx.toNat : Int), .string (zd x.name)] ∧ (zd x.name).size ≤ maxLen := by
 obtain ⟨_, _, rfl, rfl, ⟨_, _, rfl, rfl, ⟨rfl, q2⟩⟩⟩ := h
 exact ⟨rfl, q2⟩
theorem nam_at2 {A : Nat → Prop} {w : World} {a : Option Addr} {m cap : Nat} {xs : List Nam} (h : nam.slice.rd A w [.slice a m cap] xs) (i : Nat) (hi : i < xs.length) : ∃ b o , a = some ⟨b, o, none⟩ ∧ w.cell? ⟨b, o + i * 3, none⟩ = some (.int .u32 (xs[i].fn.toNat : Int)) ∧ w.cell? ⟨b, o + i * 3 + 1, none⟩ = some (.int .u32 (xs[i].idx.toNat : Int)) ∧ w.cell? ⟨b, o + i * 3 + 2, none⟩ = some (.string (zd xs[i].name)) ∧ (zd xs[i].name).size ≤ maxLen ∧ nam.rd A w [.int .u32 (xs[i].fn.toNat : Int), .int .u32 (xs[i].idx.toNat : Int), .string (zd xs[i].name)] xs[i] := by
 have hm : xs.length = m := by obtain ⟨_, _, e, _⟩ := h; simp only [List.cons.injEq, Value.slice.injEq, and_true] at e; exact e.2.1.symm
 obtain ⟨b, o, es, eY, e, hA, _, hr, hc⟩ := slice_at h i (by omega)
 obtain ⟨rfl, eU⟩ := nam_cells hr
 exact ⟨b, o, e, hc 0 (by show 0 < 3; omega), hc 1 (by show 1 < 3; omega), hc 2 (by show 2 < 3; omega), eU, hr⟩
theorem nam_at {A : Nat → Prop} {w : World} {a : Option Addr} {m cap : Nat} {xs : List Nam} (h : nam.slice.rd A w [.slice a m cap] xs) (i : Nat) (hi : i < xs.length) : ∃ b o , a = some ⟨b, o, none⟩ ∧ w.cell? ⟨b, o + i * 3, none⟩ = some (.int .u32 (xs[i].fn.toNat : Int)) ∧ w.cell? ⟨b, o + i * 3 + 1, none⟩ = some (.int .u32 (xs[i].idx.toNat : Int)) ∧ w.cell? ⟨b, o + i * 3 + 2, none⟩ = some (.string (zd xs[i].name)) ∧ (zd xs[i].name).size ≤ maxLen := by
 obtain ⟨b, o, e, f0, f1, f2, eU, -⟩ := nam_at2 h i hi
 exact ⟨b, o, e, f0, f1, f2, eU⟩
end Lay
structure ModV where
 types : Value
 imports : Value
 functions : Value
 tables : Value
 memories : Value
 elements : Value
 globals : Value
 exports : Value
 codes : Value
 datas : Value
 customs : Value
 funcs : Value
 locals : Value
def ModV.zero : ModV := ⟨.slice none 0 0, .slice none 0 0, .slice none 0 0, .slice none 0 0, .slice none 0 0, .slice none 0 0, .slice none 0 0, .slice none 0 0, .slice none 0 0, .slice none 0 0, .slice none 0 0, .slice none 0 0, .slice none 0 0⟩
abbrev zt (m : Mod) (v : ModV) : Array Value := #[.int .u32 (m.version.toNat : Int), .bool m.hasStart, .int .u32 (m.start.toNat : Int), v.types, v.imports, v.functions, v.tables, v.memories, v.elements, v.globals, v.exports, v.codes, v.datas, v.customs, .string (zd m.named), v.funcs, v.locals]
structure ModAt (n : Nat) (A : Nat → Prop) (w : World) (m : Mod) (v : ModV) : Prop where
 types : (Lay.ft).slice.rd A w [v.types] m.types
 imports : (Lay.imp).slice.rd A w [v.imports] m.imports
 functions : (Lay.u32).slice.rd A w [v.functions] m.functions
 tables : (Lay.lim).slice.rd A w [v.tables] m.tables
 memories : (Lay.lim).slice.rd A w [v.memories] m.memories
 elements : (Lay.elem n).slice.rd A w [v.elements] m.elements
 globals : (Lay.glob n).slice.rd A w [v.globals] m.globals
 exports : (Lay.expo).slice.rd A w [v.exports] m.exports
 codes : (Lay.u8.slice).slice.rd A w [v.codes] m.codes
 datas : (Lay.dat n).slice.rd A w [v.datas] m.datas
 customs : (Lay.cus).slice.rd A w [v.customs] m.customs
 funcs : (Lay.nam).slice.rd A w [v.funcs] m.funcs
 locals : (Lay.nam).slice.rd A w [v.locals] m.locals
 named : (zd m.named).size ≤ maxLen
variable {n : Nat} {A : Nat → Prop} {w w' : World} {m : Mod} {v : ModV}
theorem ModAt.frame (h : ModAt n A w m v) (hf : ∀ k, A k → w'.heap[k]? = w.heap[k]?) : ModAt n A w' m v :=
 ⟨Lay.frame _ h.types hf, Lay.frame _ h.imports hf, Lay.frame _ h.functions hf, Lay.frame _ h.tables hf, Lay.frame _ h.memories hf, Lay.frame _ h.elements hf, Lay.frame _ h.globals hf, Lay.frame _ h.exports hf, Lay.frame _ h.codes hf, Lay.frame _ h.datas hf, Lay.frame _ h.customs hf, Lay.frame _ h.funcs hf, Lay.frame _ h.locals hf, h.named⟩
theorem ModAt.mono {A' : Nat → Prop} (h : ModAt n A w m v) (hf : ∀ k, A k → A' k) : ModAt n A' w m v :=
 ⟨Lay.mono _ h.types hf, Lay.mono _ h.imports hf, Lay.mono _ h.functions hf, Lay.mono _ h.tables hf, Lay.mono _ h.memories hf, Lay.mono _ h.elements hf, Lay.mono _ h.globals hf, Lay.mono _ h.exports hf, Lay.mono _ h.codes hf, Lay.mono _ h.datas hf, Lay.mono _ h.customs hf, Lay.mono _ h.funcs hf, Lay.mono _ h.locals hf, h.named⟩
theorem ModAt.fr {S : Nat → Prop} (h : ModAt n A w m v) (hf : Fr S w w') (ha : ∀ k, A k → k < w.heap.size ∧ ¬ S k) : ModAt n A w' m v :=
 h.frame fun k hk => hf.block k (ha k hk).1 (ha k hk).2
variable {x : Value}
theorem ModAt.set_types (h : ModAt n A w m v) {xs : List FT} (hx : (Lay.ft).slice.rd A w [x] xs) : ModAt n A w { m with types := xs } { v with types := x } :=
 { h with types := hx }
theorem ModAt.set_imports (h : ModAt n A w m v) {xs : List Imp} (hx : (Lay.imp).slice.rd A w [x] xs) : ModAt n A w { m with imports := xs } { v with imports := x } :=
 { h with imports := hx }
theorem ModAt.set_functions (h : ModAt n A w m v) {xs : List UInt32} (hx : (Lay.u32).slice.rd A w [x] xs) : ModAt n A w { m with functions := xs } { v with functions := x } :=
 { h with functions := hx }
variable {xs : List Lim}
theorem ModAt.set_tables (h : ModAt n A w m v) (hx : (Lay.lim).slice.rd A w [x] xs) : ModAt n A w { m with tables := xs } { v with tables := x } :=
 { h with tables := hx }
theorem ModAt.set_memories (h : ModAt n A w m v) (hx : (Lay.lim).slice.rd A w [x] xs) : ModAt n A w { m with memories := xs } { v with memories := x } :=
 { h with memories := hx }
theorem ModAt.set_elements (h : ModAt n A w m v) {xs : List Elem} (hx : (Lay.elem n).slice.rd A w [x] xs) : ModAt n A w { m with elements := xs } { v with elements := x } :=
 { h with elements := hx }
theorem ModAt.set_globals (h : ModAt n A w m v) {xs : List Glob} (hx : (Lay.glob n).slice.rd A w [x] xs) : ModAt n A w { m with globals := xs } { v with globals := x } :=
 { h with globals := hx }
theorem ModAt.set_exports (h : ModAt n A w m v) {xs : List Expo} (hx : (Lay.expo).slice.rd A w [x] xs) : ModAt n A w { m with exports := xs } { v with exports := x } :=
 { h with exports := hx }
theorem ModAt.set_codes (h : ModAt n A w m v) {xs : List (List UInt8)} (hx : (Lay.u8.slice).slice.rd A w [x] xs) : ModAt n A w { m with codes := xs } { v with codes := x } :=
 { h with codes := hx }
theorem ModAt.set_datas (h : ModAt n A w m v) {xs : List Dat} (hx : (Lay.dat n).slice.rd A w [x] xs) : ModAt n A w { m with datas := xs } { v with datas := x } :=
 { h with datas := hx }
theorem ModAt.set_customs (h : ModAt n A w m v) {xs : List Cus} (hx : (Lay.cus).slice.rd A w [x] xs) : ModAt n A w { m with customs := xs } { v with customs := x } :=
 { h with customs := hx }
theorem ModAt.set_funcs (h : ModAt n A w m v) {xs : List Nam} (hx : (Lay.nam).slice.rd A w [x] xs) : ModAt n A w { m with funcs := xs } { v with funcs := x } :=
 { h with funcs := hx }
theorem ModAt.set_locals (h : ModAt n A w m v) {xs : List Nam} (hx : (Lay.nam).slice.rd A w [x] xs) : ModAt n A w { m with locals := xs } { v with locals := x } :=
 { h with locals := hx }
variable {α : Type}
theorem zH (l : Lay α) (A : Nat → Prop) (w : World) : l.slice.rd A w [.slice none 0 0] [] := ⟨none, 0, rfl, Nat.le_refl _, by decide, fun h => absurd h (by simp)⟩
theorem YJ (n : Nat) (A : Nat → Prop) (w : World) (m : Mod) (hn : (zd m.named).size ≤ maxLen) : ModAt n A w { m with types := [], imports := [], functions := [], tables := [], memories := [], elements := [], globals := [], exports := [], codes := [], datas := [], customs := [], funcs := [], locals := [] } .zero :=
 ⟨zH _ _ _, zH _ _ _, zH _ _ _, zH _ _ _, zH _ _ _, zH _ _ _, zH _ _ _, zH _ _ _, zH _ _ _, zH _ _ _, zH _ _ _, zH _ _ _, zH _ _ _, hn⟩
abbrev kmc (m : Mod) (aA : Option Addr) (cA : Nat) (aB : Option Addr) (cB : Nat) (aC : Option Addr) (cC : Nat) (aD : Option Addr) (cD : Nat) (aE : Option Addr) (cE : Nat) (aF : Option Addr) (cF : Nat) (aG : Option Addr) (cG : Nat) (aH : Option Addr) (cH : Nat) (aI : Option Addr) (cI : Nat) (aJ : Option Addr) (cJ : Nat) (aK : Option Addr) (cK : Nat) (aL : Option Addr) (cL : Nat) (aM : Option Addr) (cM : Nat) : Array Value := #[.int .u32 (m.version.toNat : Int), .bool m.hasStart, .int .u32 (m.start.toNat : Int), .slice aA m.types.length cA, .slice aB m.imports.length cB, .slice aC m.functions.length cC, .slice aD m.tables.length cD, .slice aE m.memories.length cE, .slice aF m.elements.length cF, .slice aG m.globals.length cG, .slice aH m.exports.length cH, .slice aI m.codes.length cI, .slice aJ m.datas.length cJ, .slice aK m.customs.length cK, .string (zd m.named), .slice aL m.funcs.length cL, .slice aM m.locals.length cM]
abbrev zM : Array Value := #[.int .u32 0, .bool false, .int .u32 0, .slice none 0 0, .slice none 0 0, .slice none 0 0, .slice none 0 0, .slice none 0 0, .slice none 0 0, .slice none 0 0, .slice none 0 0, .slice none 0 0, .slice none 0 0, .slice none 0 0, .string ⟨#[]⟩, .slice none 0 0, .slice none 0 0]
def jH (s : St) : Bool × St := (decide ((zi s).1 = 1), if 1 < (zi s).1 then (zi s).2.fail 1 else (zi s).2)
def zD (s : St) : Lim × St :=
 let c := zi s
 let s1 := if 1 < c.1 then c.2.fail 2 else c.2
 let m := zc s1
 if c.1 = 1 then (⟨UInt32.ofNat m.1, true, UInt32.ofNat (zc m.2).1⟩, (zc m.2).2) else (⟨UInt32.ofNat m.1, false, 0⟩, m.2)
def zX (s : St) : Lim × St :=
 let c := zi s
 zD (if c.2.v = 0 ∧ c.1 ≠ 112 then c.2.fail 1 else c.2)
def rVec {α : Type} (rd : St → α × St) : Nat → St → List α × St
 | 0, s => ([], s)
 | n + 1, s => ((rd s).1 :: (rVec rd n (rd s).2).1, (rVec rd n (rd s).2).2)
def zW {α : Type} (rd : St → α × St) (s : St) : List α × St := rVec rd (zo s).1 (zo s).2
def rNum (s : St) : UInt32 × St := (UInt32.ofNat (zc s).1, (zc s).2)
def zZ (s : St) : List UInt32 × St := zW rNum s
theorem yD (rd : St → α × St) : ∀ (n : Nat) (s : St), rVec rd (n + 1) s = ((rVec rd n s).1 ++ [(rd (rVec rd n s).2).1], (rd (rVec rd n s).2).2)
 | 0, s => rfl
 | n + 1, s => by
  have ih := yD rd n (rd s).2
  show ((rd s).1 :: (rVec rd (n + 1) (rd s).2).1, (rVec rd (n + 1) (rd s).2).2) = _
  rw [ih]
  rfl
theorem yP (rd : St → α × St) : ∀ (n : Nat) (s : St), (rVec rd n s).1.length = n
 | 0, _ => rfl
 | n + 1, s => by show (rVec rd n (rd s).2).1.length + 1 = n + 1; rw [yP rd n]
theorem yw (rd : St → α × St) (h : ∀ s, (rd s).2.b.length ≤ s.b.length) : ∀ (n : Nat) (s : St), (rVec rd n s).2.b.length ≤ s.b.length
 | 0, _ => Nat.le_refl _
 | n + 1, s => nlQ (yw rd h n (rd s).2) (h s)
def J5 (op : Int) (w : World) (e : Ending) (w' : World) : Prop :=
 ∃ v, e = .returned (.tuple #[v, .bool (z5 op).isSome]) ∧ Lay.int.slice.rd (fun k => w.heap.size ≤ k ∧ k < w'.heap.size) w' [v] ((z5 op).getD []) ∧ Ext w w'
variable {op : Int}
theorem Y6 (h : z5 op = some []) : J5 op w (.returned (.tuple #[.slice none 0 0, .bool true])) w :=
 ⟨_, by rw [h]; rfl, by rw [h]; exact ⟨none, 0, rfl, Nat.le_refl _, by decide, fun h => absurd h (by simp)⟩, Fr.refl _ _⟩
theorem zaz (h : z5 op = none) : J5 op w (.returned (.tuple #[.slice none 0 0, .bool false])) w :=
 ⟨_, by rw [h]; rfl, by rw [h]; exact ⟨none, 0, rfl, Nat.le_refl _, by decide, fun h => absurd h (by simp)⟩, Fr.refl _ _⟩
variable {a : Int}
theorem zcA (h : z5 op = some [a]) (ha : 0 ≤ a ∧ a ≤ 9) : J5 op w (.returned (.tuple #[.slice (some ⟨w.heap.size, 0, none⟩) 1 1, .bool true])) (w.alloc (.cells #[.int .i64 a] 3)) :=
 ⟨_, by rw [h]; rfl, by
  rw [h]
  exact ⟨_, 1, rfl, Nat.le_refl _, by decide, fun _ => ⟨w.heap.size, 0, _, _, _, [.int .i64 a], rfl, ⟨Nat.le_refl _, by simp⟩, zl w _ _, Lay.all_single ⟨rfl, by omega, by omega⟩, fun j hj => by simp⟩⟩, za _ _⟩
theorem zcB {b : Int} (h : z5 op = some [a, b]) (ha : 0 ≤ a ∧ a ≤ 9) (hb : 0 ≤ b ∧ b ≤ 9) : J5 op w (.returned (.tuple #[.slice (some ⟨w.heap.size, 0, none⟩) 2 2, .bool true])) (w.alloc (.cells #[.int .i64 a, .int .i64 b] 3)) :=
 ⟨_, by rw [h]; rfl, by
  rw [h]
  exact ⟨_, 2, rfl, Nat.le_refl _, by decide, fun _ => ⟨w.heap.size, 0, _, _, _, [.int .i64 a, .int .i64 b], rfl, ⟨Nat.le_refl _, by simp⟩, zl w _ _, ⟨[_], _, rfl, ⟨rfl, by omega, by omega⟩, Lay.all_single ⟨rfl, by omega, by omega⟩⟩, fun j hj => by simp⟩⟩, za _ _⟩
theorem zjk (h : op = 0 ∨ op = 1 ∨ op = 15 ∨ op = 26 ∨ op = 27 ∨ (69 ≤ op ∧ op ≤ 191)) : z5 op = some [] := by
 unfold z5
 by_cases h1 : op = 0 ∨ op = 1 ∨ op = 15 ∨ op = 26 ∨ op = 27
 ·rw [if_pos h1]
 ·rw [if_neg h1, if_neg (by omega), if_neg (by omega), if_neg (by omega), if_neg (by omega), if_neg (by omega), if_neg (by omega), if_neg (by omega), if_pos (by omega)]
theorem zfB (h : ¬ (op = 0 ∨ op = 1 ∨ op = 15 ∨ op = 26 ∨ op = 27 ∨ op = 12 ∨ op = 13 ∨ op = 16 ∨ op = 32 ∨ op = 33 ∨ op = 34 ∨ op = 35 ∨ op = 36 ∨ op = 17 ∨ op = 40 ∨ op = 54 ∨ op = 65 ∨ op = 66 ∨ op = 67 ∨ op = 68 ∨ (69 ≤ op ∧ op ≤ 191))) : z5 op = none := by
 unfold z5
 rw [if_neg (by omega), if_neg (by omega), if_neg (by omega), if_neg (by omega), if_neg (by omega), if_neg (by omega), if_neg (by omega), if_neg (by omega), if_neg (by omega)]
theorem zbX (op : Int) (w : World) (h : op = 0 ∨ op = 1 ∨ op = 15 ∨ op = 26 ∨ op = 27 ∨ op = 12 ∨ op = 13 ∨ op = 16 ∨ op = 32 ∨ op = 33 ∨ op = 34 ∨ op = 35 ∨ op = 36 ∨ op = 17 ∨ op = 40 ∨ op = 54 ∨ op = 65 ∨ op = 66 ∨ op = 67 ∨ op = 68) :
 Calls Tryz.prog 106 #[.int .i64 op] w (J5 op w) := by
 rcases h with rfl | rfl | rfl | rfl | rfl | rfl | rfl | rfl | rfl | rfl | rfl | rfl | rfl | rfl | rfl | rfl | rfl | rfl | rfl | rfl
 all_goals
  go_enter Tryz.func106, Tryz.ntmps106
  go_wp2
  go_ret2
  first
   | exact Y6 rfl
   | exact zcA rfl (by omega)
   | exact zcB rfl (by omega) (by omega)
theorem zbk (op : Int) (w : World) (h : ¬ (op = 0 ∨ op = 1 ∨ op = 15 ∨ op = 26 ∨ op = 27 ∨ op = 12 ∨ op = 13 ∨ op = 16 ∨ op = 32 ∨ op = 33 ∨ op = 34 ∨ op = 35 ∨ op = 36 ∨ op = 17 ∨ op = 40 ∨ op = 54 ∨ op = 65 ∨ op = 66 ∨ op = 67 ∨ op = 68)) :
 Calls Tryz.prog 106 #[.int .i64 op] w (J5 op w) := by
 simp only [not_or, ← beq_eq_false_iff_ne] at h
 obtain ⟨h0, h1, h2, h3, h4, h5, h6, h7, h8, h9, pD, mJ, Bd, B7, Cq, rZ, rv, Ct, CW, BJ⟩ := h
 have H := qh (anQ h0 (anQ h1 (anQ h2 (anQ h3 (anQ h4 (anQ h5 (anQ h6 (anQ h7 (anQ h8 (anQ h9 (anQ pD (anQ mJ (anQ Bd (anQ B7 (anQ Cq (anQ rZ (anQ rv (anQ Ct (anQ CW BJ)))))))))))))))))))
 simp only [beq_eq_false_iff_ne] at H
 by_cases a : 69 ≤ op
 ·by_cases b : op ≤ 191
  ·have hk := qh (zjk (op := op) (by omega))
   go_enter Tryz.func106, Tryz.ntmps106
   go_wp2
   go_ret2
   exact Y6 hk.o
  ·have hk : Hq (z5 op = none) := by have := H.o; exact zfB (by omega)
   go_enter Tryz.func106, Tryz.ntmps106
   go_wp2
   go_ret2
   exact zaz hk.o
 ·have hk : Hq (z5 op = none) := by have := H.o; exact zfB (by omega)
  go_enter Tryz.func106, Tryz.ntmps106
  go_wp2
  go_ret2
  exact zaz hk.o
theorem zaA (op : Int) (w : World) : Calls Tryz.prog 106 #[.int .i64 op] w (J5 op w) := by
 by_cases h : op = 0 ∨ op = 1 ∨ op = 15 ∨ op = 26 ∨ op = 27 ∨ op = 12 ∨ op = 13 ∨ op = 16 ∨ op = 32 ∨ op = 33 ∨ op = 34 ∨ op = 35 ∨ op = 36 ∨ op = 17 ∨ op = 40 ∨ op = 54 ∨ op = 65 ∨ op = 66 ∨ op = 67 ∨ op = 68
 ·exact zbX op w h
 ·exact zbk op w h
section
variable {P : Program} {aw : Array Oper} {Q : Exit → Act → World → Prop} {md : Region.Mode} {E : World → World → Prop} {ds : List Nat}
def zg0 (Q : Exit → Act → World → Prop) (K : Act → World → Prop) : Exit → Act → World → Prop
 | .normal, a, w => K a w
 | e, a, w => Q e a w
inductive Plan where
 | seq (l : List (Nat × Tag))
 | fork (pre : List (Nat × Tag)) (i j : Nat) (p q : Plan)
def zbl (md : Region.Mode) (aw : Array Oper) (ds : List Nat) : List (Nat × Tag) → Array Bool → Option (Array Bool)
 | [], l => some l
 | (i, .take) :: rest, l => if Region.free md aw l i && (Region.ready md aw l).contains i && zdq md aw l && zje md aw l ds i then zbl md aw ds rest (l.setIfInBounds i true) else none
 | (i, .run) :: rest, l => if Region.ready md aw l == [i] then zbl md aw ds rest (l.setIfInBounds i true) else none
 | _ :: _, _ => none
def YK : Plan → Nat
 | .seq l => j0 l
 | .fork pre _ _ p _ => j0 pre + (YK p + 1)
def zea : Plan → List Nat
 | .seq l => dsOf l
 | .fork pre _ _ p q => dsOf pre ++ (zea p ++ zea q)
def zcC (aw : Array Oper) (ds : List Nat) : Plan → Array Bool → Bool
 | .seq l, ao => Yg .any aw ds l ao
 | .fork pre i j p q, ao => match zbl .any aw ds pre ao with
  | some L => (Region.ready .any aw L == [i, j]) && zcC aw ds p (L.setIfInBounds i true) && zcC aw ds q (L.setIfInBounds j true) && YK p == YK q
  | none => false
def zcD (n : Nat) : Plan → Bool
 | .seq l => Jd n l
 | .fork pre i j p q => Jd n pre && decide (i < n) && decide (j < n) && zcD n p && zcD n q
def zcE (P : Program) (aw : Array Oper) (R : Frm) (Q : Exit → Act → World → Prop) : Plan → Act → World → Prop
 | .seq l, a, w => yz P aw Q R (zx aw l) a w
 | .fork pre i j p q, a, w => yz P aw (zg0 Q (fun a w => wpG P aw Q (aw.toList.getD i Zt) (fun a' w' => R.E w w' ∧ zcE P aw R Q p a' w') a w ∧
  wpG P aw Q (aw.toList.getD j Zt) (fun a' w' => R.E w w' ∧ zcE P aw R Q q a' w') a w)) R (zx aw pre) a w
theorem zeB {K X : Act → World → Prop} {i : Nat} {a : Act} {w : World} (h : wpOp P aw (zg0 Q K) i X a w) : wpOp P aw Q i X a w := h
theorem zaB (dk : ∀ w, E w w) (c5 : ∀ a b c, E a b → E b c → E a c) (hs : Region.noSelect aw = true) {K : Act → World → Prop} {n : Nat} {L : Array Bool} (hK : ∀ a w, K a w → JN P md aw Q E ds n L a w) : ∀ (l : List (Nat × Tag)) (ao : Array Bool) (a : Act) (w : World),
 zbl md aw ds l ao = some L → zbQ P aw (zg0 Q K) E l a w → JN P md aw Q E ds (j0 l + n) ao a w
 | [], ao, a, w, hc, h => by
  simp only [zbl, Option.some.injEq] at hc
  subst hc
  simp only [j0, Nat.zero_add]
  exact hK _ _ h
 | (i, .take) :: rest, ao, a, w, hc, h => by
  simp only [zbl] at hc
  split at hc
  ·rename_i hb
   simp only [Bool.and_eq_true] at hb
   obtain ⟨⟨⟨h1, h2⟩, h3⟩, h4⟩ := hb
   obtain ⟨oi, v, hi, hQ, hy, lO⟩ := h
   rw [show j0 ((i, Tag.take) :: rest) + n = (j0 rest + n) + 1 from by show j0 rest + 1 + n = _; omega]
   exact Y3 dk c5 hi (Region.noSelect_spec hs) (show ∀ c a w, Q (.panic c) (a.put oi.dst v) w → Q (.panic c) a w from hQ) aw.size (j0 rest + n) ao a w (Region.free_spec hi h1) (Y1 h3)
    (fun d hm dD => by have := List.all_eq_true.1 h4 d hm; rw [dD] at this; simpa using this) (by simpa using h2) hy (zaB dk c5 hs hK rest _ _ _ hc lO)
  ·cases hc
 | (i, .run) :: rest, ao, a, w, hc, h => by
  simp only [zbl] at hc
  split at hc
  ·rename_i hb
   rw [show j0 ((i, Tag.run) :: rest) + n = (j0 rest + n) + 1 from by show j0 rest + 1 + n = _; omega]
   exact jE (by simpa using hb) (wpOp_mono (fun a' w' h' => ⟨fun _ => h'.1, zaB dk c5 hs hK rest _ _ _ hc h'.2⟩) (zeB h))
  ·cases hc
 | (i, .last) :: rest, ao, a, w, hc, h => by simp [zbl] at hc
 | (i, .two j) :: rest, ao, a, w, hc, h => by simp [zbl] at hc
 | (i, .both j) :: rest, ao, a, w, hc, h => by simp [zbl] at hc
theorem JD (R : Frm) (hs : Region.noSelect aw = true) : ∀ (p : Plan) (ao : Array Bool) (a : Act) (w : World),
 zcC aw ds p ao = true → zcD aw.size p = true → zcE P aw R Q p a w → JN P .any aw Q R.E ds (YK p) ao a w
 | .seq l, ao, a, w, hc, la, h => yo R.refl R.trans hs l ao a w hc (yp l a w la h)
 | .fork pre i j p q, ao, a, w, hc, la, h => by
  simp only [zcC] at hc
  split at hc
  ·rename_i L hL
   simp only [Bool.and_eq_true, beq_iff_eq] at hc
   obtain ⟨⟨⟨h1, h2⟩, h3⟩, h4⟩ := hc
   simp only [zcD, Bool.and_eq_true, decide_eq_true_eq] at la
   obtain ⟨⟨⟨⟨xM, hi⟩, hj⟩, hp⟩, hq⟩ := la
   refine zaB R.refl R.trans hs (L := L) (n := YK p + 1) ?_ pre ao a w hL (yp pre a w xM h)
   rintro a w ⟨ki, kj⟩
   refine YG h1 (yL hi (Js (fun a' w' h' => ⟨fun _ => h'.1, JD R hs p _ _ _ h2 hp h'.2⟩) ki)) (yL hj (Js (fun a' w' h' => ⟨fun _ => h'.1, ?_⟩) kj))
   rw [h4]
   exact JD R hs q _ _ _ h3 hq h'.2
  ·cases hc
def zcF (aw : Array Oper) (p : Plan) : Bool := Region.noSelect aw && zcC aw (zea p) p (Array.replicate aw.size false) && YK p == aw.size && zcD aw.size p
theorem zdv (R : Frm) (p : Plan) {id : Nat} {os : List Oper} {a : Act} {w : World} (hm : P.follows .mixedOrders = true)
 (fS : zcF os.toArray p = true) (h : zcE P os.toArray R Q p a w.drew) : (Code.region id os.toArray true).wp P Q a w := by
 simp only [zcF, Bool.and_eq_true, beq_iff_eq] at fS
 obtain ⟨⟨⟨h1, h2⟩, h3⟩, h4⟩ := fS
 refine wp_region_any hm (YF (E := R.E) (ds := zea p) _ _ _ _ ?_)
 have := JD R h1 p _ a w.drew h2 h4 h
 rwa [h3] at this
variable {R : Frm}
theorem zfC {i j : Oper} {X Y : Act → World → Prop} {a : Act} {w : World} (hi : Region.wanted i (yielded aw a.tmps) = true) (hj : Region.wanted j (yielded aw a.tmps) = true)
 (h1 : ∀ K : Act → World → Prop, (∀ a' w', R.E w w' → X a' w' → K a' w') → i.wp P a w K Q)
 (h2 : ∀ K : Act → World → Prop, (∀ a' w', R.E w w' → Y a' w' → K a' w') → j.wp P a w K Q) :
 yz P aw (zg0 Q (fun a w => wpG P aw Q i (fun a' w' => R.E w w' ∧ X a' w') a w ∧ wpG P aw Q j (fun a' w' => R.E w w' ∧ Y a' w') a w)) R [] a w := by
 refine ⟨?_, ?_⟩
 ·simp only [wpG, hi, if_true]
  exact h1 _ fun a' w' hE hs => ⟨hE, hs⟩
 ·simp only [wpG, hj, if_true]
  exact h2 _ fun a' w' hE hs => ⟨hE, hs⟩
end
theorem y4 (s : St) : (zi s).1 < 256 := by
 unfold zi
 cases s.b with
 | nil => show (0 : Nat) < 256; omega
 | cons c r => exact c.toNat_lt
theorem YL (bb : Nat) (s : St) : (zJ bb s).1 < 18446744073709551616 := by
 have := zfx bb s.b
 unfold zJ
 split
 ·show (0 : Nat) < _; omega
 ·show (if _ then _ else _) < _
  split
  ·exact Nat.lt_of_le_of_lt (Nat.mod_le _ _) this
  ·exact this
theorem Z9 (bb : Nat) (s : St) : (zJ bb s).2.b.length ≤ s.b.length := by
 unfold zJ St.fail
 split
 ·exact nzQ _
 ·simp
theorem ZN (k : Int) (hk : k = 0 ∨ k = 1 ∨ k = 2 ∨ k = 5) (D : Nat → Prop) (g : Nat) (lo : Bool) (s : St) (w : World) (h : SpR D g lo s w) (hl : s.b.length ≤ 140737488355328) :
 Calls Tryz.prog 160 #[.pointer (some ⟨g, 0, none⟩), .int .i64 k] w fun e w' => e = .returned (.int .u64 ((y0 k s).1 : Int)) ∧ SpR D g lo (y0 k s).2 w' ∧ Fr (fun k => k = g) w w' := by
 have hS := qh h
 rcases hk with rfl | rfl | rfl | rfl
 ·have HC := qh (Y4 32 (.inl rfl) D g lo s w h hl)
  clear h
  go_enter Tryz.func160, Tryz.ntmps160
  go_wp2_with fail
  refine HC.o.mono ?_
  rintro e w1 ⟨rfl, k1, k2⟩
  have HK := qh (anQ k1 k2)
  clear k1 k2
  go_wp2
  go_ret
  exact ⟨rfl, HK.o.1, HK.o.2⟩
 ·have HC := qh (Y4 64 (.inr rfl) D g lo s w h hl)
  have hR := qh (show y0 1 s = ((zJ 64 s).1, if 9223372036854775808 ≤ (zJ 64 s).1 ∧ 4 + (zJ 64 s).2.b.length < s.b.length then (zJ 64 s).2.fail 2 else (zJ 64 s).2) from rfl)
  have aj := YL 64 s
  have lj := Z9 64 s
  generalize zJ 64 s = r at *
  obtain ⟨v, s1⟩ := r
  dsimp only at *
  obtain ⟨aa, cap, hb, h1, h2⟩ := h
  have hc := hb.cell
  clear hb h1 h2
  go_enter Tryz.func160, Tryz.ntmps160
  go_wp2_with fail
  refine HC.o.mono ?_
  rintro e w1 ⟨rfl, k1, k2⟩
  have HK := qh (anQ k1 k2)
  obtain ⟨AZ, ti, de, mJ, Cj⟩ := k1
  have cw := de.cell
  clear k2 de mJ Cj hc HC
  have t5 := IntKind.wrap_i64 (v : Int)
  by_cases hv : 9223372036854775808 ≤ v
  ·have ew : IntKind.i64.wrap (v : Int) = (v : Int) - 18446744073709551616 := by rw [t5]; omega
   have vl : decide ((v : Int) - 18446744073709551616 < 0) = true := decide_eq_true (by omega)
   clear t5
   by_cases h4 : 4 + s1.b.length < s.b.length
   ·have eI := qh (hR.o.trans (by rw [if_pos ⟨hv, h4⟩]))
    clear hR
    go_wp2_with fail
    refine (zp D g lo s1 2 _ HK.o.1).mono ?_
    rintro e w2 ⟨rfl, k1, k2⟩
    have ph := qh (anQ k1 (HK.o.2.trans k2 (fun _ _ h => h) (fun _ _ h => h)))
    clear k1 k2
    go_wp2
    go_ret
    rw [eI.o]
    exact ⟨rfl, ph.o.1, ph.o.2⟩
   ·have eI := qh (hR.o.trans (by rw [if_neg (fun h => h4 h.2)]))
    clear hR
    go_wp2
    go_ret
    rw [eI.o]
    exact ⟨rfl, HK.o.1, HK.o.2⟩
  ·have ew : IntKind.i64.wrap (v : Int) = (v : Int) := by rw [t5]; omega
   have vl : decide ((v : Int) < 0) = false := decide_eq_false (by omega)
   have eI := qh (hR.o.trans (by rw [if_neg (fun h => hv h.1)]))
   clear t5 hR
   go_wp2
   go_ret
   rw [eI.o]
   exact ⟨rfl, HK.o.1, HK.o.2⟩
 ·have HC := qh (zK D g lo s w h hl)
  have aj := zL s
  clear h
  go_enter Tryz.func160, Tryz.ntmps160
  go_wp2_with fail
  refine HC.o.mono ?_
  rintro e w1 ⟨rfl, k1, k2⟩
  have HK := qh (anQ k1 k2)
  clear k1 k2
  go_wp2
  go_ret
  exact ⟨rfl, HK.o.1, HK.o.2⟩
 ·have HC := qh (yh h)
  have aj := y4 s
  clear h
  go_enter Tryz.func160, Tryz.ntmps160
  go_wp2_with fail
  refine HC.o.mono ?_
  rintro e w1 ⟨rfl, k1, k2⟩
  have HK := qh (anQ k1 k2)
  clear k1 k2
  go_wp2
  go_ret
  exact ⟨rfl, HK.o.1, HK.o.2⟩
theorem zg1 : (Tryz.prog.info? 239).map (fun i => (i.zero, i.size, i.bytes)) = some (some (.agg #[.int .i64 0, .int .u64 0]), Lay.arg.size, 16) := by kernel_rfl
theorem Y7 : ∀ (k1 k2 : List Int) (s : St), y2 (k1 ++ k2) s = ((y2 k1 s).1 ++ (y2 k2 (y2 k1 s).2).1, (y2 k2 (y2 k1 s).2).2)
 | [], _, _ => rfl
 | k :: ks, k2, s => by simp only [List.cons_append, y2, Y7 ks k2]
theorem zcG : ∀ (k : List Int) (s : St), (y2 k s).1.length = k.length
 | [], _ => rfl
 | k :: ks, s => by simp only [y2, List.length_cons, zcG ks]
theorem yc (s : St) : (zi s).2.b.length ≤ s.b.length := by
 unfold zi St.fail
 cases s.b with
 | nil => exact Nat.le_refl _
 | cons c r => simp
theorem Yk (k : Int) (hk : k = 0 ∨ k = 1 ∨ k = 2 ∨ k = 5) (s : St) : (y0 k s).2.b.length ≤ s.b.length := by
 rcases hk with rfl | rfl | rfl | rfl
 ·exact Z9 32 s
 ·show (if _ then _ else _ : St).b.length ≤ _
  split
  ·exact nzQ _
  ·exact Z9 64 s
 ·exact zF s
 ·exact yc s
theorem zam (k : Int) (hk : k = 0 ∨ k = 1 ∨ k = 2 ∨ k = 5) (s : St) : (y0 k s).1 < 18446744073709551616 := by
 rcases hk with rfl | rfl | rfl | rfl
 ·exact YL 32 s
 ·exact YL 64 s
 ·exact Nat.lt_trans (zL s) (by decide)
 ·exact Nat.lt_trans (y4 s) (by decide)
theorem zby {D : Nat → Prop} {g : Nat} {lo : Bool} {s : St} (h : SpR D g lo s w) :
 Calls Tryz.prog 100 #[.pointer (some ⟨g, 0, none⟩)] w fun e w' => e = .returned (.bool (jH s).1) ∧ SpR D g lo (jH s).2 w' ∧ Fr (fun k => k = g) w w' := by
 have H := qh h
 clear h
 go_enter Tryz.func100, Tryz.ntmps100
 go_wp2_with fail
 refine (yh H.o).mono ?_
 rintro e w1 ⟨rfl, k1, k2⟩
 have HR := qh (show jH s = (decide ((zi s).1 = 1), if 1 < (zi s).1 then (zi s).2.fail 1 else (zi s).2) from rfl)
 generalize (zi s).1 = c at *
 generalize (zi s).2 = s1 at *
 have H1 := qh (anQ k1 k2)
 clear k1 k2
 by_cases h1 : 1 < c
 ·have d1 : decide ((1 : Int) < (c : Int)) = true := decide_eq_true (by omega)
  have d2 := bfQ (a := (c : Int)) (b := 1) (by omega)
  have HR := qh (show jH s = (false, s1.fail 1) from by rw [HR.o, if_pos h1, decide_eq_false (by omega)])
  go_wp2_with fail
  refine (zp D g lo s1 1 w1 H1.o.1).mono ?_
  rintro e w2 ⟨rfl, k1, k2⟩
  have H2 := qh (anQ k1 (Fr.trans H1.o.2 k2 (U := fun k => k = g) (fun _ _ h => h) (fun _ _ h => h)))
  clear k1 k2
  go_wp2
  go_ret
  exact ⟨by rw [HR.o]; rfl, by rw [HR.o]; exact H2.o.1, H2.o.2⟩
 ·have d1 : decide ((1 : Int) < (c : Int)) = false := decide_eq_false (by omega)
  have HR := qh (show jH s = (decide (c = 1), s1) from by rw [HR.o, if_neg h1])
  have d2 : Hq (((c : Int) == 1) = decide (c = 1)) := by
   show _ = _
   by_cases hc : c = 1
   ·subst hc; rfl
   ·rw [decide_eq_false hc, beq_eq_false_iff_ne]; omega
  go_wp2
  go_ret
  exact ⟨by rw [HR.o, ← d2.o]; rfl, by rw [HR.o]; exact H1.o.1, H1.o.2⟩
theorem J6 (D : Nat → Prop) (g : Nat) (lo : Bool) (s : St) (w : World) (h : SpR D g lo s w) (hl : s.b.length ≤ 140737488355328) :
 Calls Tryz.prog 98 #[.pointer (some ⟨g, 0, none⟩)] w fun e w' => e = .returned (.agg #[.int .u32 ((zD s).1.min.toNat : Int), .bool (zD s).1.bounded, .int .u32 ((zD s).1.max.toNat : Int)]) ∧ SpR D g lo (zD s).2 w' ∧ Fr (fun k => k = g) w w' := by
 have df := za w (.cells #[.int .u32 0, .bool false, .int .u32 0] 63)
 have dS := zl w #[.int .u32 0, .bool false, .int .u32 0] 63
 have H := qh (anQ h.lt.1 (anQ hl (h.ext df)))
 have xS := qh (fun k (hk : D k) => (h.lt.2 k hk).1)
 have nC := yc s
 clear h hl
 go_enter Tryz.func98, Tryz.ntmps98
 go_wp2_with fail
 have df := qh df
 have dS := qh dS
 generalize (w.alloc (.cells #[.int .u32 0, .bool false, .int .u32 0] 63)) = W0 at *
 obtain ⟨gl, bo⟩ := exQ (w.heap.size)
 have ag := qh (show ¬ gl = g from by have := H.o.1; omega)
 rw [bo] at dS ⊢
 have bo := qh bo
 refine (yh H.o.2.2).mono ?_
 rintro e w1 ⟨rfl, k1, k2⟩
 have HR := qh (show zD s = (let m := zc (if 1 < (zi s).1 then (zi s).2.fail 2 else (zi s).2); if (zi s).1 = 1 then (⟨UInt32.ofNat m.1, true, UInt32.ofNat (zc m.2).1⟩, (zc m.2).2) else (⟨UInt32.ofNat m.1, false, 0⟩, m.2)) from rfl)
 have qQ := y4 s
 generalize (zi s).1 = c at *
 generalize (zi s).2 = s1 at *
 have l8 := qh (show s1.b.length ≤ 140737488355328 from by have := H.o.2.1; omega)
 have H1 := qh (anQ k1 (anQ k2 (dS.o.fr k2 ag.o)))
 clear k1 k2 nC
 have fG := qh (show ∀ k, D k → ¬ k = gl from fun k hk e => by have := (H.o.2.2.lt.2 k hk).1; have := df.o.size; have := xS.o k hk; have := bo.o; omega)
 by_cases h1 : 1 < c
 ·have d1 : decide ((1 : Int) < (c : Int)) = true := decide_eq_true (by omega)
  have d2 := bfQ (a := (c : Int)) (b := 1) (by omega)
  have HR := qh (show zD s = (⟨UInt32.ofNat (zc (s1.fail 2)).1, false, 0⟩, (zc (s1.fail 2)).2) from by rw [HR.o]; simp only [if_pos h1]; rw [if_neg (by omega)])
  go_wp2_with fail
  refine (zp D g lo s1 2 w1 H1.o.1).mono ?_
  rintro e w2 ⟨rfl, k1, k2⟩
  have ct := H1.o.2.2.fr k2 ag.o
  have H2 := qh (anQ k1 (anQ (Fr.trans H1.o.2.1 k2 (U := fun k => k = g) (fun _ _ h => h) (fun _ _ h => h)) ct))
  clear k1 k2 ct
  have au := (H2.o.2.2).cell
  have eR := (H2.o.2.2).frz
  go_wp2_with fail
  have fE := zf w2 ⟨gl, 1, none⟩ (.bool false)
  have HS := qh (anQ ((H2.o.1).fr fE (fun e => ag.o e.symm) (fun k hk e => fG.o k hk e)) (anQ (show Blk (w2.setCell ⟨gl, 1, none⟩ (.bool false)) gl #[.int .u32 0, .bool false, .int .u32 0] 63 from by have := (H2.o.2.2).set 1 (.bool false); simpa using this) (Fr.trans (H2.o.2.1) fE (U := fun k => k = g ∨ k = gl) (fun _ _ h => .inl h) (fun _ _ h => .inr h))))
  clear au eR fE
  generalize (w2.setCell ⟨gl, 1, none⟩ (.bool false)) = W4 at *
  refine (zK D g lo (s1.fail 2) W4 HS.o.1 (nzQ _)).mono ?_
  rintro e w5 ⟨rfl, k1, k2⟩
  have iV := qh (zL (s1.fail 2))
  have wy := qh (show (zc (s1.fail 2)).2.b.length ≤ 140737488355328 from nlQ (zF (s1.fail 2)) (nzQ _))
  generalize (zc (s1.fail 2)).1 = mn at *
  generalize (zc (s1.fail 2)).2 = s5 at *
  have fv := HS.o.2.1.fr k2 ag.o
  have H5 := qh (anQ k1 (anQ (Fr.trans HS.o.2.2 k2 (U := fun k => k = g ∨ k = gl) (fun _ _ h => h) (fun _ _ h => .inl h)) fv))
  have au := fv.cell
  have eR := fv.frz
  clear k1 k2 fv
  go_wp2_with (with_reducible refine JO 63 ?_)
  refine qh ?_
  have fE := zf w5 ⟨gl, 0, none⟩ (.int .u32 mn)
  have HF := qh (anQ (H5.o.1.fr fE (fun e => ag.o e.symm) (fun k hk e => fG.o k hk e)) (anQ (show Blk (w5.setCell ⟨gl, 0, none⟩ (.int .u32 mn)) gl #[.int .u32 mn, .bool false, .int .u32 0] 63 from by have := H5.o.2.2.set 0 (.int .u32 mn); simpa using this) (Fr.trans H5.o.2.1 fE (U := fun k => k = g ∨ k = gl) (fun _ _ h => h) (fun _ _ h => .inr h))))
  generalize (w5.setCell ⟨gl, 0, none⟩ (.int .u32 mn)) = W8 at *
  clear au eR fE
  refine HF.o.2.1.wpList_load rfl 63 (.tmp 2) rfl rfl _ Tryz.underlying63 rfl (by kernel_rfl) ?_
  refine HF.o.2.1.wpList_store rfl 63 (.tmp 2) (.tmp 21) rfl rfl rfl (by kernel_rfl) rfl rfl ?_
  refine wpList_nil ?_
  go_wp2
  have hs := z9 W8 gl #[.int .u32 mn, .bool false, .int .u32 0]
  have c8 := HF.o.2.1.setRow #[.int .u32 mn, .bool false, .int .u32 0]
  have aV := qh (anQ (HF.o.1.fr hs (fun e => ag.o e.symm) (fun k hk e => fG.o k hk e)) ((Ext.fr df.o (Fr.trans HF.o.2.2 hs (U := fun k => k = g ∨ k = gl) (fun _ _ h => h) (fun _ _ h => .inr h))).mono (fun k hk e => e.elim id (fun e => by have := bo.o; omega)) : Fr (fun k => k = g) w _))
  refine bodyPost_ret (v := .agg #[.int .u32 mn, .bool false, .int .u32 0]) (yq Tryz.results98 _ rfl c8 _ Tryz.underlying63 rfl (by kernel_rfl)) rfl ?_
  rw [HR.o]
  refine ⟨?_, aV.o.1, aV.o.2⟩
  show Ending.returned (.agg #[.int .u32 mn, .bool false, .int .u32 0]) = .returned (.agg #[.int .u32 ((UInt32.ofNat mn).toNat : Int), .bool false, .int .u32 (((0 : UInt32).toNat) : Int)])
  rw [UInt32.toNat_ofNat', Nat.mod_eq_of_lt iV.o]
  rfl
 ·have d1 : decide ((1 : Int) < (c : Int)) = false := decide_eq_false (by omega)
  by_cases cw : c = 1
  ·have d2 : ((c : Int) == 1) = true := by rw [beq_iff_eq]; omega
   have HR := qh (show zD s = (⟨UInt32.ofNat (zc s1).1, true, UInt32.ofNat (zc (zc s1).2).1⟩, (zc (zc s1).2).2) from by rw [HR.o]; simp only [if_neg h1]; rw [if_pos cw])
   have au := (H1.o.2.2).cell
   have eR := (H1.o.2.2).frz
   go_wp2_with fail
   have fE := zf w1 ⟨gl, 1, none⟩ (.bool true)
   have HS := qh (anQ ((H1.o.1).fr fE (fun e => ag.o e.symm) (fun k hk e => fG.o k hk e)) (anQ (show Blk (w1.setCell ⟨gl, 1, none⟩ (.bool true)) gl #[.int .u32 0, .bool true, .int .u32 0] 63 from by have := (H1.o.2.2).set 1 (.bool true); simpa using this) (Fr.trans (H1.o.2.1) fE (U := fun k => k = g ∨ k = gl) (fun _ _ h => .inl h) (fun _ _ h => .inr h))))
   clear au eR fE
   generalize (w1.setCell ⟨gl, 1, none⟩ (.bool true)) = W4 at *
   refine (zK D g lo s1 W4 HS.o.1 l8.o).mono ?_
   rintro e w5 ⟨rfl, k1, k2⟩
   have iV := qh (zL s1)
   have wy := qh (show (zc s1).2.b.length ≤ 140737488355328 from nlQ (zF s1) l8.o)
   generalize (zc s1).1 = mn at *
   generalize (zc s1).2 = s5 at *
   have fv := HS.o.2.1.fr k2 ag.o
   have H5 := qh (anQ k1 (anQ (Fr.trans HS.o.2.2 k2 (U := fun k => k = g ∨ k = gl) (fun _ _ h => h) (fun _ _ h => .inl h)) fv))
   have au := fv.cell
   have eR := fv.frz
   clear k1 k2 fv
   go_wp2_with (with_reducible refine JO 63 ?_)
   have fE := zf w5 ⟨gl, 0, none⟩ (.int .u32 mn)
   have pz := qh (anQ (H5.o.1.fr fE (fun e => ag.o e.symm) (fun k hk e => fG.o k hk e)) (anQ (show Blk (w5.setCell ⟨gl, 0, none⟩ (.int .u32 mn)) gl #[.int .u32 mn, .bool true, .int .u32 0] 63 from by have := H5.o.2.2.set 0 (.int .u32 mn); simpa using this) (Fr.trans H5.o.2.1 fE (U := fun k => k = g ∨ k = gl) (fun _ _ h => h) (fun _ _ h => .inr h))))
   clear au eR fE
   generalize (w5.setCell ⟨gl, 0, none⟩ (.int .u32 mn)) = W6 at *
   refine (zK D g lo s5 W6 pz.o.1 wy.o).mono ?_
   rintro e w7 ⟨rfl, k1, k2⟩
   have uM := qh (zL s5)
   generalize (zc s5).1 = mx at *
   generalize (zc s5).2 = s7 at *
   have qT := pz.o.2.1.fr k2 ag.o
   have H7 := qh (anQ k1 (anQ (Fr.trans pz.o.2.2 k2 (U := fun k => k = g ∨ k = gl) (fun _ _ h => h) (fun _ _ h => .inl h)) qT))
   have au := qT.cell
   have eR := qT.frz
   clear k1 k2 qT
   go_wp2_with (with_reducible refine JO 63 ?_)
   refine qh ?_
   have fE := zf w7 ⟨gl, 2, none⟩ (.int .u32 mx)
   have HF := qh (anQ (H7.o.1.fr fE (fun e => ag.o e.symm) (fun k hk e => fG.o k hk e)) (anQ (show Blk (w7.setCell ⟨gl, 2, none⟩ (.int .u32 mx)) gl #[.int .u32 mn, .bool true, .int .u32 mx] 63 from by have := H7.o.2.2.set 2 (.int .u32 mx); simpa using this) (Fr.trans H7.o.2.1 fE (U := fun k => k = g ∨ k = gl) (fun _ _ h => h) (fun _ _ h => .inr h))))
   generalize (w7.setCell ⟨gl, 2, none⟩ (.int .u32 mx)) = W8 at *
   clear au eR fE
   refine HF.o.2.1.wpList_load rfl 63 (.tmp 2) rfl rfl _ Tryz.underlying63 rfl (by kernel_rfl) ?_
   refine HF.o.2.1.wpList_store rfl 63 (.tmp 2) (.tmp 21) rfl rfl rfl (by kernel_rfl) rfl rfl ?_
   refine wpList_nil ?_
   go_wp2
   have hs := z9 W8 gl #[.int .u32 mn, .bool true, .int .u32 mx]
   have c8 := HF.o.2.1.setRow #[.int .u32 mn, .bool true, .int .u32 mx]
   have aV := qh (anQ (HF.o.1.fr hs (fun e => ag.o e.symm) (fun k hk e => fG.o k hk e)) ((Ext.fr df.o (Fr.trans HF.o.2.2 hs (U := fun k => k = g ∨ k = gl) (fun _ _ h => h) (fun _ _ h => .inr h))).mono (fun k hk e => e.elim id (fun e => by have := bo.o; omega)) : Fr (fun k => k = g) w _))
   refine bodyPost_ret (v := .agg #[.int .u32 mn, .bool true, .int .u32 mx]) (yq Tryz.results98 _ rfl c8 _ Tryz.underlying63 rfl (by kernel_rfl)) rfl ?_
   rw [HR.o]
   refine ⟨?_, aV.o.1, aV.o.2⟩
   show Ending.returned (.agg #[.int .u32 mn, .bool true, .int .u32 mx]) = .returned (.agg #[.int .u32 ((UInt32.ofNat mn).toNat : Int), .bool true, .int .u32 (((UInt32.ofNat mx).toNat) : Int)])
   rw [UInt32.toNat_ofNat', Nat.mod_eq_of_lt iV.o, UInt32.toNat_ofNat', Nat.mod_eq_of_lt uM.o]
  ·have d2 := bfQ (a := (c : Int)) (b := 1) (by omega)
   have HR := qh (show zD s = (⟨UInt32.ofNat (zc s1).1, false, 0⟩, (zc s1).2) from by rw [HR.o]; simp only [if_neg h1]; rw [if_neg cw])
   have au := (H1.o.2.2).cell
   have eR := (H1.o.2.2).frz
   go_wp2_with fail
   have fE := zf w1 ⟨gl, 1, none⟩ (.bool false)
   have HS := qh (anQ ((H1.o.1).fr fE (fun e => ag.o e.symm) (fun k hk e => fG.o k hk e)) (anQ (show Blk (w1.setCell ⟨gl, 1, none⟩ (.bool false)) gl #[.int .u32 0, .bool false, .int .u32 0] 63 from by have := (H1.o.2.2).set 1 (.bool false); simpa using this) (Fr.trans (H1.o.2.1) fE (U := fun k => k = g ∨ k = gl) (fun _ _ h => .inl h) (fun _ _ h => .inr h))))
   clear au eR fE
   generalize (w1.setCell ⟨gl, 1, none⟩ (.bool false)) = W4 at *
   refine (zK D g lo s1 W4 HS.o.1 l8.o).mono ?_
   rintro e w5 ⟨rfl, k1, k2⟩
   have iV := qh (zL s1)
   have wy := qh (show (zc s1).2.b.length ≤ 140737488355328 from nlQ (zF s1) l8.o)
   generalize (zc s1).1 = mn at *
   generalize (zc s1).2 = s5 at *
   have fv := HS.o.2.1.fr k2 ag.o
   have H5 := qh (anQ k1 (anQ (Fr.trans HS.o.2.2 k2 (U := fun k => k = g ∨ k = gl) (fun _ _ h => h) (fun _ _ h => .inl h)) fv))
   have au := fv.cell
   have eR := fv.frz
   clear k1 k2 fv
   go_wp2_with (with_reducible refine JO 63 ?_)
   refine qh ?_
   have fE := zf w5 ⟨gl, 0, none⟩ (.int .u32 mn)
   have HF := qh (anQ (H5.o.1.fr fE (fun e => ag.o e.symm) (fun k hk e => fG.o k hk e)) (anQ (show Blk (w5.setCell ⟨gl, 0, none⟩ (.int .u32 mn)) gl #[.int .u32 mn, .bool false, .int .u32 0] 63 from by have := H5.o.2.2.set 0 (.int .u32 mn); simpa using this) (Fr.trans H5.o.2.1 fE (U := fun k => k = g ∨ k = gl) (fun _ _ h => h) (fun _ _ h => .inr h))))
   generalize (w5.setCell ⟨gl, 0, none⟩ (.int .u32 mn)) = W8 at *
   clear au eR fE
   refine HF.o.2.1.wpList_load rfl 63 (.tmp 2) rfl rfl _ Tryz.underlying63 rfl (by kernel_rfl) ?_
   refine HF.o.2.1.wpList_store rfl 63 (.tmp 2) (.tmp 21) rfl rfl rfl (by kernel_rfl) rfl rfl ?_
   refine wpList_nil ?_
   go_wp2
   have hs := z9 W8 gl #[.int .u32 mn, .bool false, .int .u32 0]
   have c8 := HF.o.2.1.setRow #[.int .u32 mn, .bool false, .int .u32 0]
   have aV := qh (anQ (HF.o.1.fr hs (fun e => ag.o e.symm) (fun k hk e => fG.o k hk e)) ((Ext.fr df.o (Fr.trans HF.o.2.2 hs (U := fun k => k = g ∨ k = gl) (fun _ _ h => h) (fun _ _ h => .inr h))).mono (fun k hk e => e.elim id (fun e => by have := bo.o; omega)) : Fr (fun k => k = g) w _))
   refine bodyPost_ret (v := .agg #[.int .u32 mn, .bool false, .int .u32 0]) (yq Tryz.results98 _ rfl c8 _ Tryz.underlying63 rfl (by kernel_rfl)) rfl ?_
   rw [HR.o]
   refine ⟨?_, aV.o.1, aV.o.2⟩
   show Ending.returned (.agg #[.int .u32 mn, .bool false, .int .u32 0]) = .returned (.agg #[.int .u32 ((UInt32.ofNat mn).toNat : Int), .bool false, .int .u32 (((0 : UInt32).toNat) : Int)])
   rw [UInt32.toNat_ofNat', Nat.mod_eq_of_lt iV.o]
   rfl
end Go.Proofs.YtejgninpjhcgnaaGreatDoor
