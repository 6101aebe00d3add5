/- Texts of this proof, one behind the other. -/
import Derived.Test.YtejgninpjhcgnaaGreatDoorPart4
import Derived.Outline
namespace Go.Proofs.YtejgninpjhcgnaaGreatDoor
open Go.RowKit
set_option linter.unusedSimpArgs false
set_option linter.unusedVariables false
set_option maxRecDepth 100000
set_option maxHeartbeats 1000000
structure Lim where
 min : UInt32
 bounded : Bool
 max : UInt32
structure FT where
 ps : List Int
 rs : List Int
structure Imp where
 mdl : List UInt8
 name : List UInt8
 kind : Int
 index : UInt32
 lim : Lim
 ty : Int
 mtb : Bool
structure Elem where
 index : UInt32
 off : List Ins
 ids : List UInt32
structure Glob where
 ty : Int
 mtb : Bool
 init : List Ins
structure Expo where
 name : List UInt8
 kind : Int
 index : UInt32
structure Dat where
 index : UInt32
 off : List Ins
 init : List UInt8
structure Cus where
 name : List UInt8
 data : List UInt8
structure Nam where
 fn : UInt32
 idx : UInt32
 name : List UInt8
structure Mod where
 version : UInt32
 hasStart : Bool
 start : UInt32
 types : List FT
 imports : List Imp
 functions : List UInt32
 tables : List Lim
 memories : List Lim
 elements : List Elem
 globals : List Glob
 exports : List Expo
 codes : List (List UInt8)
 datas : List Dat
 customs : List Cus
 named : List UInt8
 funcs : List Nam
 locals : List Nam
namespace Lay
theorem slice_form2 {α : Type} {l : Lay α} {A : Nat → Prop} {w : World} {cs : List Value} {xs : List α} (h : (slice l).rd A w cs xs) : ∃ a cap, cs = [.slice a xs.length cap] ∧ xs.length ≤ cap ∧ cap ≤ maxLen := by
 obtain ⟨a, cap, e, h1, h2, _⟩ := h
 exact ⟨a, cap, e, h1, h2⟩
def strB : Lay (List UInt8) := str.via zc
theorem flat_strB : strB.flat := flat_via flat_str _
def lim : Lay Lim := (u32.pair (bool.pair u32)).via (fun x => (x.min, x.bounded, x.max))
def ft : Lay FT := (int.slice.pair int.slice).via (fun x => (x.ps, x.rs))
def imp : Lay Imp := (strB.pair (strB.pair (int.pair (u32.pair (lim.pair (int.pair bool)))))).via (fun x => (x.mdl, x.name, x.kind, x.index, x.lim, x.ty, x.mtb))
def elem (n : Nat) : Lay Elem := (u32.pair ((ins n).slice.pair u32.slice)).via (fun x => (x.index, x.off, x.ids))
def glob (n : Nat) : Lay Glob := (int.pair (bool.pair ((ins n).slice))).via (fun x => (x.ty, x.mtb, x.init))
def expo : Lay Expo := (strB.pair (int.pair u32)).via (fun x => (x.name, x.kind, x.index))
def dat (n : Nat) : Lay Dat := (u32.pair ((ins n).slice.pair u8.slice)).via (fun x => (x.index, x.off, x.init))
def cus : Lay Cus := (strB.pair u8.slice).via (fun x => (x.name, x.data))
def nam : Lay Nam := (u32.pair (u32.pair strB)).via (fun x => (x.fn, x.idx, x.name))
theorem lim_cells {A : Nat → Prop} {w : World} {cs : List Value} {x : Lim} (h : lim.rd A w cs x) : cs = [.int .u32 (x.min.toNat : Int), .bool x.bounded, .int .u32 (x.max.toNat : Int)] := by
 obtain ⟨_, _, rfl, rfl, ⟨_, _, rfl, rfl, rfl⟩⟩ := h
 rfl
theorem lim_at2 {A : Nat → Prop} {w : World} {a : Option Addr} {m cap : Nat} {xs : List Lim} (h : lim.slice.rd A w [.slice a m cap] xs) (i : Nat) (hi : i < xs.length) : ∃ b o , a = some ⟨b, o, none⟩ ∧ w.cell? ⟨b, o + i * 3, none⟩ = some (.int .u32 (xs[i].min.toNat : Int)) ∧ w.cell? ⟨b, o + i * 3 + 1, none⟩ = some (.bool xs[i].bounded) ∧ w.cell? ⟨b, o + i * 3 + 2, none⟩ = some (.int .u32 (xs[i].max.toNat : Int)) ∧ lim.rd A w [.int .u32 (xs[i].min.toNat : Int), .bool xs[i].bounded, .int .u32 (xs[i].max.toNat : Int)] xs[i] := by
 have hm : xs.length = m := by obtain ⟨_, _, e, _⟩ := h; simp only [List.cons.injEq, Value.slice.injEq, and_true] at e; exact e.2.1.symm
 obtain ⟨b, o, es, er, e, hA, _, hr, hc⟩ := slice_at h i (by omega)
 obtain rfl := lim_cells hr
 exact ⟨b, o, e, hc 0 (by show 0 < 3; omega), hc 1 (by show 1 < 3; omega), hc 2 (by show 2 < 3; omega), hr⟩
theorem lim_at {A : Nat → Prop} {w : World} {a : Option Addr} {m cap : Nat} {xs : List Lim} (h : lim.slice.rd A w [.slice a m cap] xs) (i : Nat) (hi : i < xs.length) : ∃ b o , a = some ⟨b, o, none⟩ ∧ w.cell? ⟨b, o + i * 3, none⟩ = some (.int .u32 (xs[i].min.toNat : Int)) ∧ w.cell? ⟨b, o + i * 3 + 1, none⟩ = some (.bool xs[i].bounded) ∧ w.cell? ⟨b, o + i * 3 + 2, none⟩ = some (.int .u32 (xs[i].max.toNat : Int)) := by
 obtain ⟨b, o, e, f0, f1, f2, -⟩ := lim_at2 h i hi
 exact ⟨b, o, e, f0, f1, f2⟩
theorem ft_cells {A : Nat → Prop} {w : World} {cs : List Value} {x : FT} (h : ft.rd A w cs x) : ∃ a0 c0 a1 c1, cs = [.slice a0 x.ps.length c0, .slice a1 x.rs.length c1] ∧ int.slice.rd A w [.slice a0 x.ps.length c0] x.ps ∧ int.slice.rd A w [.slice a1 x.rs.length c1] x.rs := by
 obtain ⟨_, _, rfl, h0, h1⟩ := h
 obtain ⟨a0, c0, rfl, -, -⟩ := slice_form2 h0
 obtain ⟨a1, c1, rfl, -, -⟩ := slice_form2 h1
 exact ⟨a0, c0, a1, c1, rfl, h0, h1⟩
theorem ft_at2 {A : Nat → Prop} {w : World} {a : Option Addr} {m cap : Nat} {xs : List FT} (h : ft.slice.rd A w [.slice a m cap] xs) (i : Nat) (hi : i < xs.length) : ∃ b o a0 c0 a1 c1, a = some ⟨b, o, none⟩ ∧ w.cell? ⟨b, o + i * 2, none⟩ = some (.slice a0 xs[i].ps.length c0) ∧ w.cell? ⟨b, o + i * 2 + 1, none⟩ = some (.slice a1 xs[i].rs.length c1) ∧ int.slice.rd A w [.slice a0 xs[i].ps.length c0] xs[i].ps ∧ int.slice.rd A w [.slice a1 xs[i].rs.length c1] xs[i].rs ∧ ft.rd A w [.slice a0 xs[i].ps.length c0, .slice a1 xs[i].rs.length c1] xs[i] := by
 have hm : xs.length = m := by obtain ⟨_, _, e, _⟩ := h; simp only [List.cons.injEq, Value.slice.injEq, and_true] at e; exact e.2.1.symm
 obtain ⟨b, o, es, er, e, hA, _, hr, hc⟩ := slice_at h i (by omega)
 obtain ⟨a0, c0, a1, c1, rfl, et, eX⟩ := ft_cells hr
 exact ⟨b, o, a0, c0, a1, c1, e, hc 0 (by show 0 < 2; omega), hc 1 (by show 1 < 2; omega), et, eX, hr⟩
theorem ft_at {A : Nat → Prop} {w : World} {a : Option Addr} {m cap : Nat} {xs : List FT} (h : ft.slice.rd A w [.slice a m cap] xs) (i : Nat) (hi : i < xs.length) : ∃ b o a0 c0 a1 c1, a = some ⟨b, o, none⟩ ∧ w.cell? ⟨b, o + i * 2, none⟩ = some (.slice a0 xs[i].ps.length c0) ∧ w.cell? ⟨b, o + i * 2 + 1, none⟩ = some (.slice a1 xs[i].rs.length c1) ∧ int.slice.rd A w [.slice a0 xs[i].ps.length c0] xs[i].ps ∧ int.slice.rd A w [.slice a1 xs[i].rs.length c1] xs[i].rs := by
 obtain ⟨b, o, a0, c0, a1, c1, e, f0, f1, et, eX, -⟩ := ft_at2 h i hi
 exact ⟨b, o, a0, c0, a1, c1, e, f0, f1, et, eX⟩
theorem imp_cells {A : Nat → Prop} {w : World} {cs : List Value} {x : Imp} (h : imp.rd A w cs x) : cs = [.string (zc x.mdl), .string (zc x.name), .int .i64 x.kind, .int .u32 (x.index.toNat : Int), .int .u32 (x.lim.min.toNat : Int), .bool x.lim.bounded, .int .u32 (x.lim.max.toNat : Int), .int .i64 x.ty, .bool x.mtb] ∧ (zc x.mdl).size ≤ maxLen ∧ (zc x.name).size ≤ maxLen ∧ (-9223372036854775808 ≤ x.kind ∧ x.kind ≤ 9223372036854775807) ∧ (-9223372036854775808 ≤ x.ty ∧ x.ty ≤ 9223372036854775807) := by
 obtain ⟨_, _, rfl, ⟨rfl, q0⟩, ⟨_, _, rfl, ⟨rfl, q1⟩, ⟨_, _, rfl, ⟨rfl, q2⟩, ⟨_, _, rfl, rfl, ⟨_, _, rfl, ⟨_, _, rfl, rfl, ⟨_, _, rfl, rfl, rfl⟩⟩, ⟨_, _, rfl, ⟨rfl, q7⟩, rfl⟩⟩⟩⟩⟩⟩ := h
 exact ⟨rfl, q0, q1, q2, q7⟩
theorem imp_at2 {A : Nat → Prop} {w : World} {a : Option Addr} {m cap : Nat} {xs : List Imp} (h : imp.slice.rd A w [.slice a m cap] xs) (i : Nat) (hi : i < xs.length) : ∃ b o , a = some ⟨b, o, none⟩ ∧ w.cell? ⟨b, o + i * 9, none⟩ = some (.string (zc xs[i].mdl)) ∧ w.cell? ⟨b, o + i * 9 + 1, none⟩ = some (.string (zc xs[i].name)) ∧ w.cell? ⟨b, o + i * 9 + 2, none⟩ = some (.int .i64 xs[i].kind) ∧ w.cell? ⟨b, o + i * 9 + 3, none⟩ = some (.int .u32 (xs[i].index.toNat : Int)) ∧ w.cell? ⟨b, o + i * 9 + 4, none⟩ = some (.int .u32 (xs[i].lim.min.toNat : Int)) ∧ w.cell? ⟨b, o + i * 9 + 5, none⟩ = some (.bool xs[i].lim.bounded) ∧ w.cell? ⟨b, o + i * 9 + 6, none⟩ = some (.int .u32 (xs[i].lim.max.toNat : Int)) ∧ w.cell? ⟨b, o + i * 9 + 7, none⟩ = some (.int .i64 xs[i].ty) ∧ w.cell? ⟨b, o + i * 9 + 8, none⟩ = some (.bool xs[i].mtb) ∧ (zc xs[i].mdl).size ≤ maxLen ∧ (zc xs[i].name).size ≤ maxLen ∧ (-9223372036854775808 ≤ xs[i].kind ∧ xs[i].kind ≤ 9223372036854775807) ∧ (-9223372036854775808 ≤ xs[i].ty ∧ xs[i].ty ≤ 9223372036854775807) ∧ imp.rd A w [.string (zc xs[i].mdl), .string (zc xs[i].name), .int .i64 xs[i].kind, .int .u32 (xs[i].index.toNat : Int), .int .u32 (xs[i].lim.min.toNat : Int), .bool xs[i].lim.bounded, .int .u32 (xs[i].lim.max.toNat : Int), .int .i64 xs[i].ty, .bool xs[i].mtb] xs[i] := by
 have hm : xs.length = m := by obtain ⟨_, _, e, _⟩ := h; simp only [List.cons.injEq, Value.slice.injEq, and_true] at e; exact e.2.1.symm
 obtain ⟨b, o, es, er, e, hA, _, hr, hc⟩ := slice_at h i (by omega)
 obtain ⟨rfl, et, eX, wN, xn⟩ := imp_cells hr
 exact ⟨b, o, e, hc 0 (by show 0 < 9; omega), hc 1 (by show 1 < 9; omega), hc 2 (by show 2 < 9; omega), hc 3 (by show 3 < 9; omega), hc 4 (by show 4 < 9; omega), hc 5 (by show 5 < 9; omega), hc 6 (by show 6 < 9; omega), hc 7 (by show 7 < 9; omega), hc 8 (by show 8 < 9; omega), et, eX, wN, xn, hr⟩
theorem imp_at {A : Nat → Prop} {w : World} {a : Option Addr} {m cap : Nat} {xs : List Imp} (h : imp.slice.rd A w [.slice a m cap] xs) (i : Nat) (hi : i < xs.length) : ∃ b o , a = some ⟨b, o, none⟩ ∧ w.cell? ⟨b, o + i * 9, none⟩ = some (.string (zc xs[i].mdl)) ∧ w.cell? ⟨b, o + i * 9 + 1, none⟩ = some (.string (zc xs[i].name)) ∧ w.cell? ⟨b, o + i * 9 + 2, none⟩ = some (.int .i64 xs[i].kind) ∧ w.cell? ⟨b, o + i * 9 + 3, none⟩ = some (.int .u32 (xs[i].index.toNat : Int)) ∧ w.cell? ⟨b, o + i * 9 + 4, none⟩ = some (.int .u32 (xs[i].lim.min.toNat : Int)) ∧ w.cell? ⟨b, o + i * 9 + 5, none⟩ = some (.bool xs[i].lim.bounded) ∧ w.cell? ⟨b, o + i * 9 + 6, none⟩ = some (.int .u32 (xs[i].lim.max.toNat : Int)) ∧ w.cell? ⟨b, o + i * 9 + 7, none⟩ = some (.int .i64 xs[i].ty) ∧ w.cell? ⟨b, o + i * 9 + 8, none⟩ = some (.bool xs[i].mtb) ∧ (zc xs[i].mdl).size ≤ maxLen ∧ (zc xs[i].name).size ≤ maxLen ∧ (-9223372036854775808 ≤ xs[i].kind ∧ xs[i].kind ≤ 9223372036854775807) ∧ (-9223372036854775808 ≤ xs[i].ty ∧ xs[i].ty ≤ 9223372036854775807) := by
 obtain ⟨b, o, e, f0, f1, f2, f3, f4, f5, f6, f7, f8, et, eX, wN, xn, -⟩ := imp_at2 h i hi
 exact ⟨b, o, e, f0, f1, f2, f3, f4, f5, f6, f7, f8, et, eX, wN, xn⟩
theorem elem_cells {n : Nat} {A : Nat → Prop} {w : World} {cs : List Value} {x : Elem} (h : (elem n).rd A w cs x) : ∃ a1 c1 a2 c2, cs = [.int .u32 (x.index.toNat : Int), .slice a1 x.off.length c1, .slice a2 x.ids.length c2] ∧ (ins n).slice.rd A w [.slice a1 x.off.length c1] x.off ∧ u32.slice.rd A w [.slice a2 x.ids.length c2] x.ids := by
 obtain ⟨_, _, rfl, rfl, ⟨_, _, rfl, h1, h2⟩⟩ := h
 obtain ⟨a1, c1, rfl, -, -⟩ := slice_form2 h1
 obtain ⟨a2, c2, rfl, -, -⟩ := slice_form2 h2
 exact ⟨a1, c1, a2, c2, rfl, h1, h2⟩
theorem elem_at2 {n : Nat} {A : Nat → Prop} {w : World} {a : Option Addr} {m cap : Nat} {xs : List Elem} (h : (elem n).slice.rd A w [.slice a m cap] xs) (i : Nat) (hi : i < xs.length) : ∃ b o a1 c1 a2 c2, a = some ⟨b, o, none⟩ ∧ w.cell? ⟨b, o + i * 3, none⟩ = some (.int .u32 (xs[i].index.toNat : Int)) ∧ w.cell? ⟨b, o + i * 3 + 1, none⟩ = some (.slice a1 xs[i].off.length c1) ∧ w.cell? ⟨b, o + i * 3 + 2, none⟩ = some (.slice a2 xs[i].ids.length c2) ∧ (ins n).slice.rd A w [.slice a1 xs[i].off.length c1] xs[i].off ∧ u32.slice.rd A w [.slice a2 xs[i].ids.length c2] xs[i].ids ∧ (elem n).rd A w [.int .u32 (xs[i].index.toNat : Int), .slice a1 xs[i].off.length c1, .slice a2 xs[i].ids.length c2] xs[i] := by
 have hm : xs.length = m := by obtain ⟨_, _, e, _⟩ := h; simp only [List.cons.injEq, Value.slice.injEq, and_true] at e; exact e.2.1.symm
 obtain ⟨b, o, es, er, e, hA, _, hr, hc⟩ := slice_at h i (by omega)
 obtain ⟨a1, c1, a2, c2, rfl, et, eX⟩ := elem_cells hr
 exact ⟨b, o, a1, c1, a2, c2, e, hc 0 (by show 0 < 3; omega), hc 1 (by show 1 < 3; omega), hc 2 (by show 2 < 3; omega), et, eX, hr⟩
theorem elem_at {n : Nat} {A : Nat → Prop} {w : World} {a : Option Addr} {m cap : Nat} {xs : List Elem} (h : (elem n).slice.rd A w [.slice a m cap] xs) (i : Nat) (hi : i < xs.length) : ∃ b o a1 c1 a2 c2, a = some ⟨b, o, none⟩ ∧ w.cell? ⟨b, o + i * 3, none⟩ = some (.int .u32 (xs[i].index.toNat : Int)) ∧ w.cell? ⟨b, o + i * 3 + 1, none⟩ = some (.slice a1 xs[i].off.length c1) ∧ w.cell? ⟨b, o + i * 3 + 2, none⟩ = some (.slice a2 xs[i].ids.length c2) ∧ (ins n).slice.rd A w [.slice a1 xs[i].off.length c1] xs[i].off ∧ u32.slice.rd A w [.slice a2 xs[i].ids.length c2] xs[i].ids := by
 obtain ⟨b, o, a1, c1, a2, c2, e, f0, f1, f2, et, eX, -⟩ := elem_at2 h i hi
 exact ⟨b, o, a1, c1, a2, c2, e, f0, f1, f2, et, eX⟩
theorem glob_cells {n : Nat} {A : Nat → Prop} {w : World} {cs : List Value} {x : Glob} (h : (glob n).rd A w cs x) : ∃ a2 c2, cs = [.int .i64 x.ty, .bool x.mtb, .slice a2 x.init.length c2] ∧ (-9223372036854775808 ≤ x.ty ∧ x.ty ≤ 9223372036854775807) ∧ (ins n).slice.rd A w [.slice a2 x.init.length c2] x.init := by
 obtain ⟨_, _, rfl, ⟨rfl, q0⟩, ⟨_, _, rfl, rfl, h2⟩⟩ := h
 obtain ⟨a2, c2, rfl, -, -⟩ := slice_form2 h2
 exact ⟨a2, c2, rfl, q0, h2⟩
theorem glob_at2 {n : Nat} {A : Nat → Prop} {w : World} {a : Option Addr} {m cap : Nat} {xs : List Glob} (h : (glob n).slice.rd A w [.slice a m cap] xs) (i : Nat) (hi : i < xs.length) : ∃ b o a2 c2, a = some ⟨b, o, none⟩ ∧ w.cell? ⟨b, o + i * 3, none⟩ = some (.int .i64 xs[i].ty) ∧ w.cell? ⟨b, o + i * 3 + 1, none⟩ = some (.bool xs[i].mtb) ∧ w.cell? ⟨b, o + i * 3 + 2, none⟩ = some (.slice a2 xs[i].init.length c2) ∧ (-9223372036854775808 ≤ xs[i].ty ∧ xs[i].ty ≤ 9223372036854775807) ∧ (ins n).slice.rd A w [.slice a2 xs[i].init.length c2] xs[i].init ∧ (glob n).rd A w [.int .i64 xs[i].ty, .bool xs[i].mtb, .slice a2 xs[i].init.length c2] xs[i] := by
 have hm : xs.length = m := by obtain ⟨_, _, e, _⟩ := h; simp only [List.cons.injEq, Value.slice.injEq, and_true] at e; exact e.2.1.symm
 obtain ⟨b, o, es, er, e, hA, _, hr, hc⟩ := slice_at h i (by omega)
 obtain ⟨a2, c2, rfl, et, eX⟩ := glob_cells hr
 exact ⟨b, o, a2, c2, e, hc 0 (by show 0 < 3; omega), hc 1 (by show 1 < 3; omega), hc 2 (by show 2 < 3; omega), et, eX, hr⟩
theorem glob_at {n : Nat} {A : Nat → Prop} {w : World} {a : Option Addr} {m cap : Nat} {xs : List Glob} (h : (glob n).slice.rd A w [.slice a m cap] xs) (i : Nat) (hi : i < xs.length) : ∃ b o a2 c2, a = some ⟨b, o, none⟩ ∧ w.cell? ⟨b, o + i * 3, none⟩ = some (.int .i64 xs[i].ty) ∧ w.cell? ⟨b, o + i * 3 + 1, none⟩ = some (.bool xs[i].mtb) ∧ w.cell? ⟨b, o + i * 3 + 2, none⟩ = some (.slice a2 xs[i].init.length c2) ∧ (-9223372036854775808 ≤ xs[i].ty ∧ xs[i].ty ≤ 9223372036854775807) ∧ (ins n).slice.rd A w [.slice a2 xs[i].init.length c2] xs[i].init := by
 obtain ⟨b, o, a2, c2, e, f0, f1, f2, et, eX, -⟩ := glob_at2 h i hi
 exact ⟨b, o, a2, c2, e, f0, f1, f2, et, eX⟩
theorem expo_cells {A : Nat → Prop} {w : World} {cs : List Value} {x : Expo} (h : expo.rd A w cs x) : cs = [.string (zc x.name), .int .i64 x.kind, .int .u32 (x.index.toNat : Int)] ∧ (zc x.name).size ≤ maxLen ∧ (-9223372036854775808 ≤ x.kind ∧ x.kind ≤ 9223372036854775807) := by
 obtain ⟨_, _, rfl, ⟨rfl, q0⟩, ⟨_, _, rfl, ⟨rfl, q1⟩, rfl⟩⟩ := h
 exact ⟨rfl, q0, q1⟩
theorem expo_at2 {A : Nat → Prop} {w : World} {a : Option Addr} {m cap : Nat} {xs : List Expo} (h : expo.slice.rd A w [.slice a m cap] xs) (i : Nat) (hi : i < xs.length) : ∃ b o , a = some ⟨b, o, none⟩ ∧ w.cell? ⟨b, o + i * 3, none⟩ = some (.string (zc xs[i].name)) ∧ w.cell? ⟨b, o + i * 3 + 1, none⟩ = some (.int .i64 xs[i].kind) ∧ w.cell? ⟨b, o + i * 3 + 2, none⟩ = some (.int .u32 (xs[i].index.toNat : Int)) ∧ (zc xs[i].name).size ≤ maxLen ∧ (-9223372036854775808 ≤ xs[i].kind ∧ xs[i].kind ≤ 9223372036854775807) ∧ expo.rd A w [.string (zc xs[i].name), .int .i64 xs[i].kind, .int .u32 (xs[i].index.toNat : Int)] xs[i] := by
 have hm : xs.length = m := by obtain ⟨_, _, e, _⟩ := h; simp only [List.cons.injEq, Value.slice.injEq, and_true] at e; exact e.2.1.symm
 obtain ⟨b, o, es, er, e, hA, _, hr, hc⟩ := slice_at h i (by omega)
 obtain ⟨rfl, et, eX⟩ := expo_cells hr
 exact ⟨b, o, e, hc 0 (by show 0 < 3; omega), hc 1 (by show 1 < 3; omega), hc 2 (by show 2 < 3; omega), et, eX, hr⟩
theorem expo_at {A : Nat → Prop} {w : World} {a : Option Addr} {m cap : Nat} {xs : List Expo} (h : expo.slice.rd A w [.slice a m cap] xs) (i : Nat) (hi : i < xs.length) : ∃ b o , a = some ⟨b, o, none⟩ ∧ w.cell? ⟨b, o + i * 3, none⟩ = some (.string (zc xs[i].name)) ∧ w.cell? ⟨b, o + i * 3 + 1, none⟩ = some (.int .i64 xs[i].kind) ∧ w.cell? ⟨b, o + i * 3 + 2, none⟩ = some (.int .u32 (xs[i].index.toNat : Int)) ∧ (zc xs[i].name).size ≤ maxLen ∧ (-9223372036854775808 ≤ xs[i].kind ∧ xs[i].kind ≤ 9223372036854775807) := by
 obtain ⟨b, o, e, f0, f1, f2, et, eX, -⟩ := expo_at2 h i hi
 exact ⟨b, o, e, f0, f1, f2, et, eX⟩
theorem dat_cells {n : Nat} {A : Nat → Prop} {w : World} {cs : List Value} {x : Dat} (h : (dat n).rd A w cs x) : ∃ a1 c1 a2 c2, cs = [.int .u32 (x.index.toNat : Int), .slice a1 x.off.length c1, .slice a2 x.init.length c2] ∧ (ins n).slice.rd A w [.slice a1 x.off.length c1] x.off ∧ u8.slice.rd A w [.slice a2 x.init.length c2] x.init := by
 obtain ⟨_, _, rfl, rfl, ⟨_, _, rfl, h1, h2⟩⟩ := h
 obtain ⟨a1, c1, rfl, -, -⟩ := slice_form2 h1
 obtain ⟨a2, c2, rfl, -, -⟩ := slice_form2 h2
 exact ⟨a1, c1, a2, c2, rfl, h1, h2⟩
theorem dat_at2 {n : Nat} {A : Nat → Prop} {w : World} {a : Option Addr} {m cap : Nat} {xs : List Dat} (h : (dat n).slice.rd A w [.slice a m cap] xs) (i : Nat) (hi : i < xs.length) : ∃ b o a1 c1 a2 c2, a = some ⟨b, o, none⟩ ∧ w.cell? ⟨b, o + i * 3, none⟩ = some (.int .u32 (xs[i].index.toNat : Int)) ∧ w.cell? ⟨b, o + i * 3 + 1, none⟩ = some (.slice a1 xs[i].off.length c1) ∧ w.cell? ⟨b, o + i * 3 + 2, none⟩ = some (.slice a2 xs[i].init.length c2) ∧ (ins n).slice.rd A w [.slice a1 xs[i].off.length c1] xs[i].off ∧ u8.slice.rd A w [.slice a2 xs[i].init.length c2] xs[i].init ∧ (dat n).rd A w [.int .u32 (xs[i].index.toNat : Int), .slice a1 xs[i].off.length c1, .slice a2 xs[i].init.length c2] xs[i] := by
 have hm : xs.length = m := by obtain ⟨_, _, e, _⟩ := h; simp only [List.cons.injEq, Value.slice.injEq, and_true] at e; exact e.2.1.symm
 obtain ⟨b, o, es, er, e, hA, _, hr, hc⟩ := slice_at h i (by omega)
 obtain ⟨a1, c1, a2, c2, rfl, et, eX⟩ := dat_cells hr
 exact ⟨b, o, a1, c1, a2, c2, e, hc 0 (by show 0 < 3; omega), hc 1 (by show 1 < 3; omega), hc 2 (by show 2 < 3; omega), et, eX, hr⟩
theorem dat_at {n : Nat} {A : Nat → Prop} {w : World} {a : Option Addr} {m cap : Nat} {xs : List Dat} (h : (dat n).slice.rd A w [.slice a m cap] xs) (i : Nat) (hi : i < xs.length) : ∃ b o a1 c1 a2 c2, a = some ⟨b, o, none⟩ ∧ w.cell? ⟨b, o + i * 3, none⟩ = some (.int .u32 (xs[i].index.toNat : Int)) ∧ w.cell? ⟨b, o + i * 3 + 1, none⟩ = some (.slice a1 xs[i].off.length c1) ∧ w.cell? ⟨b, o + i * 3 + 2, none⟩ = some (.slice a2 xs[i].init.length c2) ∧ (ins n).slice.rd A w [.slice a1 xs[i].off.length c1] xs[i].off ∧ u8.slice.rd A w [.slice a2 xs[i].init.length c2] xs[i].init := by
 obtain ⟨b, o, a1, c1, a2, c2, e, f0, f1, f2, et, eX, -⟩ := dat_at2 h i hi
 exact ⟨b, o, a1, c1, a2, c2, e, f0, f1, f2, et, eX⟩
theorem cus_cells {A : Nat → Prop} {w : World} {cs : List Value} {x : Cus} (h : cus.rd A w cs x) : ∃ a1 c1, cs = [.string (zc x.name), .slice a1 x.data.length c1] ∧ (zc x.name).size ≤ maxLen ∧ u8.slice.rd A w [.slice a1 x.data.length c1] x.data := by
 obtain ⟨_, _, rfl, ⟨rfl, q0⟩, h1⟩ := h
 obtain ⟨a1, c1, rfl, -, -⟩ := slice_form2 h1
 exact ⟨a1, c1, rfl, q0, h1⟩
theorem cus_at2 {A : Nat → Prop} {w : World} {a : Option Addr} {m cap : Nat} {xs : List Cus} (h : cus.slice.rd A w [.slice a m cap] xs) (i : Nat) (hi : i < xs.length) : ∃ b o a1 c1, a = some ⟨b, o, none⟩ ∧ w.cell? ⟨b, o + i * 2, none⟩ = some (.string (zc xs[i].name)) ∧ w.cell? ⟨b, o + i * 2 + 1, none⟩ = some (.slice a1 xs[i].data.length c1) ∧ (zc xs[i].name).size ≤ maxLen ∧ u8.slice.rd A w [.slice a1 xs[i].data.length c1] xs[i].data ∧ cus.rd A w [.string (zc xs[i].name), .slice a1 xs[i].data.length c1] xs[i] := by
 have hm : xs.length = m := by obtain ⟨_, _, e, _⟩ := h; simp only [List.cons.injEq, Value.slice.injEq, and_true] at e; exact e.2.1.symm
 obtain ⟨b, o, es, er, e, hA, _, hr, hc⟩ := slice_at h i (by omega)
 obtain ⟨a1, c1, rfl, et, eX⟩ := cus_cells hr
 exact ⟨b, o, a1, c1, e, hc 0 (by show 0 < 2; omega), hc 1 (by show 1 < 2; omega), et, eX, hr⟩
theorem cus_at {A : Nat → Prop} {w : World} {a : Option Addr} {m cap : Nat} {xs : List Cus} (h : cus.slice.rd A w [.slice a m cap] xs) (i : Nat) (hi : i < xs.length) : ∃ b o a1 c1, a = some ⟨b, o, none⟩ ∧ w.cell? ⟨b, o + i * 2, none⟩ = some (.string (zc xs[i].name)) ∧ w.cell? ⟨b, o + i * 2 + 1, none⟩ = some (.slice a1 xs[i].data.length c1) ∧ (zc xs[i].name).size ≤ maxLen ∧ u8.slice.rd A w [.slice a1 xs[i].data.length c1] xs[i].data := by
 obtain ⟨b, o, a1, c1, e, f0, f1, et, eX, -⟩ := cus_at2 h i hi
 exact ⟨b, o, a1, c1, e, f0, f1, et, eX⟩
theorem nam_cells {A : Nat → Prop} {w : World} {cs : List Value} {x : Nam} (h : nam.rd A w cs x) : cs = [.int .u32 (x.fn.toNat : Int), .int .u32 (x.idx.toNat : Int), .string (zc x.name)] ∧ (zc x.name).size ≤ maxLen := by
 obtain ⟨_, _, rfl, rfl, ⟨_, _, rfl, rfl, ⟨rfl, q2⟩⟩⟩ := h
 exact ⟨rfl, q2⟩
theorem nam_at2 {A : Nat → Prop} {w : World} {a : Option Addr} {m cap : Nat} {xs : List Nam} (h : nam.slice.rd A w [.slice a m cap] xs) (i : Nat) (hi : i < xs.length) : ∃ b o , a = some ⟨b, o, none⟩ ∧ w.cell? ⟨b, o + i * 3, none⟩ = some (.int .u32 (xs[i].fn.toNat : Int)) ∧ w.cell? ⟨b, o + i * 3 + 1, none⟩ = some (.int .u32 (xs[i].idx.toNat : Int)) ∧ w.cell? ⟨b, o + i * 3 + 2, none⟩ = some (.string (zc xs[i].name)) ∧ (zc xs[i].name).size ≤ maxLen ∧ nam.rd A w [.int .u32 (xs[i].fn.toNat : Int), .int .u32 (xs[i].idx.toNat : Int), .string (zc xs[i].name)] xs[i] := by
 have hm : xs.length = m := by obtain ⟨_, _, e, _⟩ := h; simp only [List.cons.injEq, Value.slice.injEq, and_true] at e; exact e.2.1.symm
 obtain ⟨b, o, es, er, e, hA, _, hr, hc⟩ := slice_at h i (by omega)
 obtain ⟨rfl, et⟩ := nam_cells hr
 exact ⟨b, o, e, hc 0 (by show 0 < 3; omega), hc 1 (by show 1 < 3; omega), hc 2 (by show 2 < 3; omega), et, hr⟩
theorem nam_at {A : Nat → Prop} {w : World} {a : Option Addr} {m cap : Nat} {xs : List Nam} (h : nam.slice.rd A w [.slice a m cap] xs) (i : Nat) (hi : i < xs.length) : ∃ b o , a = some ⟨b, o, none⟩ ∧ w.cell? ⟨b, o + i * 3, none⟩ = some (.int .u32 (xs[i].fn.toNat : Int)) ∧ w.cell? ⟨b, o + i * 3 + 1, none⟩ = some (.int .u32 (xs[i].idx.toNat : Int)) ∧ w.cell? ⟨b, o + i * 3 + 2, none⟩ = some (.string (zc xs[i].name)) ∧ (zc xs[i].name).size ≤ maxLen := by
 obtain ⟨b, o, e, f0, f1, f2, et, -⟩ := nam_at2 h i hi
 exact ⟨b, o, e, f0, f1, f2, et⟩
end Lay
structure ModV where
 types : Value
 imports : Value
 functions : Value
 tables : Value
 memories : Value
 elements : Value
 globals : Value
 exports : Value
 codes : Value
 datas : Value
 customs : Value
 funcs : Value
 locals : Value
def ModV.zero : ModV := ⟨.slice none 0 0, .slice none 0 0, .slice none 0 0, .slice none 0 0, .slice none 0 0, .slice none 0 0, .slice none 0 0, .slice none 0 0, .slice none 0 0, .slice none 0 0, .slice none 0 0, .slice none 0 0, .slice none 0 0⟩
abbrev zs (m : Mod) (v : ModV) : Array Value := #[.int .u32 (m.version.toNat : Int), .bool m.hasStart, .int .u32 (m.start.toNat : Int), v.types, v.imports, v.functions, v.tables, v.memories, v.elements, v.globals, v.exports, v.codes, v.datas, v.customs, .string (zc m.named), v.funcs, v.locals]
structure ModAt (n : Nat) (A : Nat → Prop) (w : World) (m : Mod) (v : ModV) : Prop where
 types : (Lay.ft).slice.rd A w [v.types] m.types
 imports : (Lay.imp).slice.rd A w [v.imports] m.imports
 functions : (Lay.u32).slice.rd A w [v.functions] m.functions
 tables : (Lay.lim).slice.rd A w [v.tables] m.tables
 memories : (Lay.lim).slice.rd A w [v.memories] m.memories
 elements : (Lay.elem n).slice.rd A w [v.elements] m.elements
 globals : (Lay.glob n).slice.rd A w [v.globals] m.globals
 exports : (Lay.expo).slice.rd A w [v.exports] m.exports
 codes : (Lay.u8.slice).slice.rd A w [v.codes] m.codes
 datas : (Lay.dat n).slice.rd A w [v.datas] m.datas
 customs : (Lay.cus).slice.rd A w [v.customs] m.customs
 funcs : (Lay.nam).slice.rd A w [v.funcs] m.funcs
 locals : (Lay.nam).slice.rd A w [v.locals] m.locals
 named : (zc m.named).size ≤ maxLen
variable {n : Nat} {A : Nat → Prop} {w w' : World} {m : Mod} {v : ModV}
theorem ModAt.frame (h : ModAt n A w m v) (hf : ∀ k, A k → w'.heap[k]? = w.heap[k]?) : ModAt n A w' m v :=
 ⟨Lay.frame _ h.types hf, Lay.frame _ h.imports hf, Lay.frame _ h.functions hf, Lay.frame _ h.tables hf, Lay.frame _ h.memories hf, Lay.frame _ h.elements hf, Lay.frame _ h.globals hf, Lay.frame _ h.exports hf, Lay.frame _ h.codes hf, Lay.frame _ h.datas hf, Lay.frame _ h.customs hf, Lay.frame _ h.funcs hf, Lay.frame _ h.locals hf, h.named⟩
theorem ModAt.mono {A' : Nat → Prop} (h : ModAt n A w m v) (hf : ∀ k, A k → A' k) : ModAt n A' w m v :=
 ⟨Lay.mono _ h.types hf, Lay.mono _ h.imports hf, Lay.mono _ h.functions hf, Lay.mono _ h.tables hf, Lay.mono _ h.memories hf, Lay.mono _ h.elements hf, Lay.mono _ h.globals hf, Lay.mono _ h.exports hf, Lay.mono _ h.codes hf, Lay.mono _ h.datas hf, Lay.mono _ h.customs hf, Lay.mono _ h.funcs hf, Lay.mono _ h.locals hf, h.named⟩
theorem ModAt.fr {S : Nat → Prop} (h : ModAt n A w m v) (hf : Fr S w w') (ha : ∀ k, A k → k < w.heap.size ∧ ¬ S k) : ModAt n A w' m v :=
 h.frame fun k hk => hf.block k (ha k hk).1 (ha k hk).2
variable {x : Value}
theorem ModAt.set_types (h : ModAt n A w m v) {xs : List FT} (hx : (Lay.ft).slice.rd A w [x] xs) : ModAt n A w { m with types := xs } { v with types := x } :=
 { h with types := hx }
theorem ModAt.set_imports (h : ModAt n A w m v) {xs : List Imp} (hx : (Lay.imp).slice.rd A w [x] xs) : ModAt n A w { m with imports := xs } { v with imports := x } :=
 { h with imports := hx }
theorem ModAt.set_functions (h : ModAt n A w m v) {xs : List UInt32} (hx : (Lay.u32).slice.rd A w [x] xs) : ModAt n A w { m with functions := xs } { v with functions := x } :=
 { h with functions := hx }
variable {xs : List Lim}
theorem ModAt.set_tables (h : ModAt n A w m v) (hx : (Lay.lim).slice.rd A w [x] xs) : ModAt n A w { m with tables := xs } { v with tables := x } :=
 { h with tables := hx }
theorem ModAt.set_memories (h : ModAt n A w m v) (hx : (Lay.lim).slice.rd A w [x] xs) : ModAt n A w { m with memories := xs } { v with memories := x } :=
 { h with memories := hx }
theorem ModAt.set_elements (h : ModAt n A w m v) {xs : List Elem} (hx : (Lay.elem n).slice.rd A w [x] xs) : ModAt n A w { m with elements := xs } { v with elements := x } :=
 { h with elements := hx }
theorem ModAt.set_globals (h : ModAt n A w m v) {xs : List Glob} (hx : (Lay.glob n).slice.rd A w [x] xs) : ModAt n A w { m with globals := xs } { v with globals := x } :=
 { h with globals := hx }
theorem ModAt.set_exports (h : ModAt n A w m v) {xs : List Expo} (hx : (Lay.expo).slice.rd A w [x] xs) : ModAt n A w { m with exports := xs } { v with exports := x } :=
 { h with exports := hx }
theorem ModAt.set_codes (h : ModAt n A w m v) {xs : List (List UInt8)} (hx : (Lay.u8.slice).slice.rd A w [x] xs) : ModAt n A w { m with codes := xs } { v with codes := x } :=
 { h with codes := hx }
theorem ModAt.set_datas (h : ModAt n A w m v) {xs : List Dat} (hx : (Lay.dat n).slice.rd A w [x] xs) : ModAt n A w { m with datas := xs } { v with datas := x } :=
 { h with datas := hx }
theorem ModAt.set_customs (h : ModAt n A w m v) {xs : List Cus} (hx : (Lay.cus).slice.rd A w [x] xs) : ModAt n A w { m with customs := xs } { v with customs := x } :=
 { h with customs := hx }
theorem ModAt.set_funcs (h : ModAt n A w m v) {xs : List Nam} (hx : (Lay.nam).slice.rd A w [x] xs) : ModAt n A w { m with funcs := xs } { v with funcs := x } :=
 { h with funcs := hx }
theorem ModAt.set_locals (h : ModAt n A w m v) {xs : List Nam} (hx : (Lay.nam).slice.rd A w [x] xs) : ModAt n A w { m with locals := xs } { v with locals := x } :=
 { h with locals := hx }
variable {α : Type}
theorem zV (l : Lay α) (A : Nat → Prop) (w : World) : l.slice.rd A w [.slice none 0 0] [] := ⟨none, 0, rfl, Nat.le_refl _, by decide, fun h => absurd h (by simp)⟩
theorem Y2 (n : Nat) (A : Nat → Prop) (w : World) (m : Mod) (hn : (zc m.named).size ≤ maxLen) : ModAt n A w { m with types := [], imports := [], functions := [], tables := [], memories := [], elements := [], globals := [], exports := [], codes := [], datas := [], customs := [], funcs := [], locals := [] } .zero :=
 ⟨zV _ _ _, zV _ _ _, zV _ _ _, zV _ _ _, zV _ _ _, zV _ _ _, zV _ _ _, zV _ _ _, zV _ _ _, zV _ _ _, zV _ _ _, zV _ _ _, zV _ _ _, hn⟩
abbrev kmc (m : Mod) (aA : Option Addr) (cA : Nat) (aB : Option Addr) (cB : Nat) (aC : Option Addr) (cC : Nat) (aD : Option Addr) (cD : Nat) (aE : Option Addr) (cE : Nat) (aF : Option Addr) (cF : Nat) (aG : Option Addr) (cG : Nat) (aH : Option Addr) (cH : Nat) (aI : Option Addr) (cI : Nat) (aJ : Option Addr) (cJ : Nat) (aK : Option Addr) (cK : Nat) (aL : Option Addr) (cL : Nat) (aM : Option Addr) (cM : Nat) : Array Value := #[.int .u32 (m.version.toNat : Int), .bool m.hasStart, .int .u32 (m.start.toNat : Int), .slice aA m.types.length cA, .slice aB m.imports.length cB, .slice aC m.functions.length cC, .slice aD m.tables.length cD, .slice aE m.memories.length cE, .slice aF m.elements.length cF, .slice aG m.globals.length cG, .slice aH m.exports.length cH, .slice aI m.codes.length cI, .slice aJ m.datas.length cJ, .slice aK m.customs.length cK, .string (zc m.named), .slice aL m.funcs.length cL, .slice aM m.locals.length cM]
abbrev zM : Array Value := #[.int .u32 0, .bool false, .int .u32 0, .slice none 0 0, .slice none 0 0, .slice none 0 0, .slice none 0 0, .slice none 0 0, .slice none 0 0, .slice none 0 0, .slice none 0 0, .slice none 0 0, .slice none 0 0, .slice none 0 0, .string ⟨#[]⟩, .slice none 0 0, .slice none 0 0]
def Zf (s : St) : Bool × St := (decide ((zn s).1 = 1), if 1 < (zn s).1 then (zn s).2.fail 1 else (zn s).2)
def zE (s : St) : Lim × St :=
 let c := zn s
 let s1 := if 1 < c.1 then c.2.fail 2 else c.2
 let m := zd s1
 if c.1 = 1 then (⟨UInt32.ofNat m.1, true, UInt32.ofNat (zd m.2).1⟩, (zd m.2).2) else (⟨UInt32.ofNat m.1, false, 0⟩, m.2)
def z6 (s : St) : Lim × St :=
 let c := zn s
 zE (if c.2.v = 0 ∧ c.1 ≠ 112 then c.2.fail 1 else c.2)
def rVec {α : Type} (rd : St → α × St) : Nat → St → List α × St
 | 0, s => ([], s)
 | n + 1, s => ((rd s).1 :: (rVec rd n (rd s).2).1, (rVec rd n (rd s).2).2)
def zR {α : Type} (rd : St → α × St) (s : St) : List α × St := rVec rd (zv s).1 (zv s).2
def rNum (s : St) : UInt32 × St := (UInt32.ofNat (zd s).1, (zd s).2)
def yp (s : St) : List UInt32 × St := zR rNum s
theorem yP (rd : St → α × St) : ∀ (n : Nat) (s : St), rVec rd (n + 1) s = ((rVec rd n s).1 ++ [(rd (rVec rd n s).2).1], (rd (rVec rd n s).2).2)
 | 0, s => rfl
 | n + 1, s => by
  have ih := yP rd n (rd s).2
  show ((rd s).1 :: (rVec rd (n + 1) (rd s).2).1, (rVec rd (n + 1) (rd s).2).2) = _
  rw [ih]
  rfl
theorem jg (rd : St → α × St) : ∀ (n : Nat) (s : St), (rVec rd n s).1.length = n
 | 0, _ => rfl
 | n + 1, s => by show (rVec rd n (rd s).2).1.length + 1 = n + 1; rw [jg rd n]
theorem yK (rd : St → α × St) (h : ∀ s, (rd s).2.b.length ≤ s.b.length) : ∀ (n : Nat) (s : St), (rVec rd n s).2.b.length ≤ s.b.length
 | 0, _ => Nat.le_refl _
 | n + 1, s => nlQ (yK rd h n (rd s).2) (h s)
def Zz (op : Int) (w : World) (e : Ending) (w' : World) : Prop :=
 ∃ v, e = .returned (.tuple #[v, .bool (z4 op).isSome]) ∧ Lay.int.slice.rd (fun k => w.heap.size ≤ k ∧ k < w'.heap.size) w' [v] ((z4 op).getD []) ∧ Ext w w'
variable {op : Int}
theorem zau (h : z4 op = some []) : Zz op w (.returned (.tuple #[.slice none 0 0, .bool true])) w :=
 ⟨_, by rw [h]; rfl, by rw [h]; exact ⟨none, 0, rfl, Nat.le_refl _, by decide, fun h => absurd h (by simp)⟩, Fr.refl _ _⟩
theorem zbe (h : z4 op = none) : Zz op w (.returned (.tuple #[.slice none 0 0, .bool false])) w :=
 ⟨_, by rw [h]; rfl, by rw [h]; exact ⟨none, 0, rfl, Nat.le_refl _, by decide, fun h => absurd h (by simp)⟩, Fr.refl _ _⟩
variable {a : Int}
theorem zdk (h : z4 op = some [a]) (ha : 0 ≤ a ∧ a ≤ 9) : Zz op w (.returned (.tuple #[.slice (some ⟨w.heap.size, 0, none⟩) 1 1, .bool true])) (w.alloc (.cells #[.int .i64 a] 3)) :=
 ⟨_, by rw [h]; rfl, by
  rw [h]
  exact ⟨_, 1, rfl, Nat.le_refl _, by decide, fun _ => ⟨w.heap.size, 0, _, _, _, [.int .i64 a], rfl, ⟨Nat.le_refl _, by simp⟩, zk w _ _, Lay.all_single ⟨rfl, by omega, by omega⟩, fun j hj => by simp⟩⟩, za _ _⟩
theorem zdl {b : Int} (h : z4 op = some [a, b]) (ha : 0 ≤ a ∧ a ≤ 9) (hb : 0 ≤ b ∧ b ≤ 9) : Zz op w (.returned (.tuple #[.slice (some ⟨w.heap.size, 0, none⟩) 2 2, .bool true])) (w.alloc (.cells #[.int .i64 a, .int .i64 b] 3)) :=
 ⟨_, by rw [h]; rfl, by
  rw [h]
  exact ⟨_, 2, rfl, Nat.le_refl _, by decide, fun _ => ⟨w.heap.size, 0, _, _, _, [.int .i64 a, .int .i64 b], rfl, ⟨Nat.le_refl _, by simp⟩, zk w _ _, ⟨[_], _, rfl, ⟨rfl, by omega, by omega⟩, Lay.all_single ⟨rfl, by omega, by omega⟩⟩, fun j hj => by simp⟩⟩, za _ _⟩
theorem zjW (h : op = 0 ∨ op = 1 ∨ op = 15 ∨ op = 26 ∨ op = 27 ∨ (69 ≤ op ∧ op ≤ 191)) : z4 op = some [] := by
 unfold z4
 by_cases h1 : op = 0 ∨ op = 1 ∨ op = 15 ∨ op = 26 ∨ op = 27
 ·rw [if_pos h1]
 ·rw [if_neg h1, if_neg (by omega), if_neg (by omega), if_neg (by omega), if_neg (by omega), if_neg (by omega), if_neg (by omega), if_neg (by omega), if_pos (by omega)]
theorem zgy (h : ¬ (op = 0 ∨ op = 1 ∨ op = 15 ∨ op = 26 ∨ op = 27 ∨ op = 12 ∨ op = 13 ∨ op = 16 ∨ op = 32 ∨ op = 33 ∨ op = 34 ∨ op = 35 ∨ op = 36 ∨ op = 17 ∨ op = 40 ∨ op = 54 ∨ op = 65 ∨ op = 66 ∨ op = 67 ∨ op = 68 ∨ (69 ≤ op ∧ op ≤ 191))) : z4 op = none := by
 unfold z4
 rw [if_neg (by omega), if_neg (by omega), if_neg (by omega), if_neg (by omega), if_neg (by omega), if_neg (by omega), if_neg (by omega), if_neg (by omega), if_neg (by omega)]
theorem zcF (op : Int) (w : World) (h : op = 0 ∨ op = 1 ∨ op = 15 ∨ op = 26 ∨ op = 27 ∨ op = 12 ∨ op = 13 ∨ op = 16 ∨ op = 32 ∨ op = 33 ∨ op = 34 ∨ op = 35 ∨ op = 36 ∨ op = 17 ∨ op = 40 ∨ op = 54 ∨ op = 65 ∨ op = 66 ∨ op = 67 ∨ op = 68) :
 Calls Tryz.prog 106 #[.int .i64 op] w (Zz op w) := by
 rcases h with rfl | rfl | rfl | rfl | rfl | rfl | rfl | rfl | rfl | rfl | rfl | rfl | rfl | rfl | rfl | rfl | rfl | rfl | rfl | rfl
 all_goals
  go_enter Tryz.func106, Tryz.ntmps106
  go_wp2
  go_ret2
  first
   | exact zau rfl
   | exact zdk rfl (by omega)
   | exact zdl rfl (by omega) (by omega)
theorem zbN (op : Int) (w : World) (h : ¬ (op = 0 ∨ op = 1 ∨ op = 15 ∨ op = 26 ∨ op = 27 ∨ op = 12 ∨ op = 13 ∨ op = 16 ∨ op = 32 ∨ op = 33 ∨ op = 34 ∨ op = 35 ∨ op = 36 ∨ op = 17 ∨ op = 40 ∨ op = 54 ∨ op = 65 ∨ op = 66 ∨ op = 67 ∨ op = 68)) :
 Calls Tryz.prog 106 #[.int .i64 op] w (Zz op w) := by
 simp only [not_or, ← beq_eq_false_iff_ne] at h
 obtain ⟨h0, h1, h2, h3, h4, h5, h6, h7, h8, h9, tQ, pL, xG, Cz, DK, sR, t7, Ef, Dm, Cu⟩ := h
 have H := qh (anQ h0 (anQ h1 (anQ h2 (anQ h3 (anQ h4 (anQ h5 (anQ h6 (anQ h7 (anQ h8 (anQ h9 (anQ tQ (anQ pL (anQ xG (anQ Cz (anQ DK (anQ sR (anQ t7 (anQ Ef (anQ Dm Cu)))))))))))))))))))
 simp only [beq_eq_false_iff_ne] at H
 by_cases a : 69 ≤ op
 ·by_cases b : op ≤ 191
  ·have hk := qh (zjW (op := op) (by omega))
   go_enter Tryz.func106, Tryz.ntmps106
   go_wp2
   go_ret2
   exact zau hk.o
  ·have hk : Hd (z4 op = none) := by have := H.o; exact zgy (by omega)
   go_enter Tryz.func106, Tryz.ntmps106
   go_wp2
   go_ret2
   exact zbe hk.o
 ·have hk : Hd (z4 op = none) := by have := H.o; exact zgy (by omega)
  go_enter Tryz.func106, Tryz.ntmps106
  go_wp2
  go_ret2
  exact zbe hk.o
theorem ZY (op : Int) (w : World) : Calls Tryz.prog 106 #[.int .i64 op] w (Zz op w) := by
 by_cases h : op = 0 ∨ op = 1 ∨ op = 15 ∨ op = 26 ∨ op = 27 ∨ op = 12 ∨ op = 13 ∨ op = 16 ∨ op = 32 ∨ op = 33 ∨ op = 34 ∨ op = 35 ∨ op = 36 ∨ op = 17 ∨ op = 40 ∨ op = 54 ∨ op = 65 ∨ op = 66 ∨ op = 67 ∨ op = 68
 ·exact zcF op w h
 ·exact zbN op w h
theorem Y3 : ∀ (ks : List Int) (bs : List (Int × UInt64)), ks.length = bs.length → (Jn ks bs = true ↔ ∀ (i : Nat) (h : i < ks.length) (h' : i < bs.length), zaU ks[i] bs[i] = true)
 | [], [], _ => by simp [Jn]
 | k :: ks, a :: bs, h => by
  have ih := Y3 ks bs (by simpa using h)
  simp only [Jn, Bool.and_eq_true, ih]
  constructor
  ·rintro ⟨h1, h2⟩ i hi er
   cases i with
   | zero => exact h1
   | succ i => exact h2 i (by simpa using hi) (by simpa using er)
  ·intro h1
   exact ⟨h1 0 (by simp) (by simp), fun i hi er => h1 (i + 1) (by simpa using hi) (by simpa using er)⟩
theorem zbZ : ∀ {ks : List Int} {bs : List (Int × UInt64)}, Jn ks bs = true → ks.length = bs.length
 | [], [], _ => rfl
 | _ :: _, _ :: _, h => by
  simp only [Jn, Bool.and_eq_true] at h
  simp [zbZ h.2]
theorem ZA (d : Int) : ∀ (l m : List Ins), yi d (l ++ m) = (yi d l && yi d m)
 | [], m => by simp [yi]
 | x :: l, m => by simp only [List.cons_append, yi, ZA d l m, Bool.and_assoc]
variable {d : Int} {l : List Ins} {i : Nat}
theorem zeh (h : i < l.length) (h1 : yi d (l.take i) = true) (h2 : Jb d l[i] = true) : yi d (l.take (i + 1)) = true := by
 rw [tsQ h, ZA, h1]
 simp [yi, h2]
theorem zgz (h : i < l.length) (h2 : Jb d l[i] = false) : yi d l = false := by
 have : l = l.take i ++ (l[i] :: l.drop (i + 1)) := by rw [← List.drop_eq_getElem_cons h, List.take_append_drop]
 rw [this, ZA]
 simp [yi, h2]
theorem zei (h : op = 2 ∨ op = 3 ∨ op = 4) : yU op = true := by rcases h with rfl | rfl | rfl <;> rfl
theorem ziN (h : ¬ (op = 2 ∨ op = 3 ∨ op = 4)) : yU op = false := by
 simp only [not_or] at h
 simp [yU, h.1, h.2.1, h.2.2]
variable {ty : Int} {args : List (Int × UInt64)} {st : Bool} {body : List Ins}
theorem zdm (h : st ≠ yU op) : Jb d (.mk op args st ty body) = false := by simp [Jb, h]
theorem zbf (h : 100 < d) : Jb d (.mk op args st ty body) = false := by simp [Jb]; intros; omega
theorem zh0 (h : op = 2 ∨ op = 3 ∨ op = 4) (hd : d ≤ 100) : Jb d (.mk op args true ty body) = (decide (args.length = 0) && decide (-1 ≤ ty) && decide (ty ≤ 3) && yi (d + 1) body) := by
 rw [Jb, if_pos (zei h), zei h]
 simp [hd]
theorem ze4 (h : ¬ (op = 2 ∨ op = 3 ∨ op = 4)) (hd : d ≤ 100) : Jb d (.mk op args false ty body) = (match z4 op with | some ks => Jn ks args && decide (ty = 0) && decide (body.length = 0) | none => false) := by
 rw [Jb, ziN h]
 simp only [hd, decide_true, Bool.true_and]
 rfl
theorem zej {ks : List Int} (h : ¬ (op = 2 ∨ op = 3 ∨ op = 4)) (hd : d ≤ 100) (hk : z4 op = some ks) : Jb d (.mk op args false ty body) = (Jn ks args && decide (ty = 0) && decide (body.length = 0)) := by
 rw [ze4 h hd, hk]
theorem zek (h : ¬ (op = 2 ∨ op = 3 ∨ op = 4)) (hd : d ≤ 100) (hk : z4 op = none) : Jb d (.mk op args false ty body) = false := by
 rw [ze4 h hd, hk]
theorem zdn {a : Option Addr} {cap : Nat} {xs : List (Int × UInt64)} (h : Lay.arg.slice.rd A w [.slice a n cap] xs) (i : Nat) (hi : i < xs.length) :
 ∃ (b o : Nat), a = some ⟨b, o, none⟩ ∧ A b ∧ w.cell? ⟨b, o + i * 2, none⟩ = some (.int .i64 xs[i].1) ∧ w.cell? ⟨b, o + i * 2 + 1, none⟩ = some (.int .u64 (xs[i].2.toNat : Int)) ∧ -9223372036854775808 ≤ xs[i].1 ∧ xs[i].1 ≤ 9223372036854775807 := by
 have hn : xs.length = n := by
  obtain ⟨_, _, e, _⟩ := h
  simp only [List.cons.injEq, Value.slice.injEq, and_true] at e
  exact e.2.1.symm
 obtain ⟨b, o, es, er, e, hA, _, hr, hc⟩ := Lay.slice_at h i (by omega)
 obtain ⟨c, d, rfl, h1, h2⟩ := hr
 obtain ⟨rfl, h3, h4⟩ := h1
 obtain rfl := h2
 exact ⟨b, o, e, hA, hc 0 (by decide), hc 1 (by decide), h3, h4⟩
section
variable {P : Program} {ar : Array Oper} {Q : Exit → Act → World → Prop} {md : Region.Mode} {E : World → World → Prop} {ds : List Nat}
def zh1 (Q : Exit → Act → World → Prop) (K : Act → World → Prop) : Exit → Act → World → Prop
 | .normal, a, w => K a w
 | e, a, w => Q e a w
inductive Plan where
 | seq (l : List (Nat × Tag))
 | fork (pre : List (Nat × Tag)) (i j : Nat) (p q : Plan)
def zbO (md : Region.Mode) (ar : Array Oper) (ds : List Nat) : List (Nat × Tag) → Array Bool → Option (Array Bool)
 | [], l => some l
 | (i, .take) :: rest, l => if Region.free md ar l i && (Region.ready md ar l).contains i && zec md ar l && zjS md ar l ds i then zbO md ar ds rest (l.setIfInBounds i true) else none
 | (i, .run) :: rest, l => if Region.ready md ar l == [i] then zbO md ar ds rest (l.setIfInBounds i true) else none
 | _ :: _, _ => none
def Y4 : Plan → Nat
 | .seq l => Jl l
 | .fork pre _ _ p _ => Jl pre + (Y4 p + 1)
def ze5 : Plan → List Nat
 | .seq l => dsOf l
 | .fork pre _ _ p q => dsOf pre ++ (ze5 p ++ ze5 q)
def zdo (ar : Array Oper) (ds : List Nat) : Plan → Array Bool → Bool
 | .seq l, am => Yx .any ar ds l am
 | .fork pre i j p q, am => match zbO .any ar ds pre am with
  | some L => (Region.ready .any ar L == [i, j]) && zdo ar ds p (L.setIfInBounds i true) && zdo ar ds q (L.setIfInBounds j true) && Y4 p == Y4 q
  | none => false
def zdp (n : Nat) : Plan → Bool
 | .seq l => JC n l
 | .fork pre i j p q => JC n pre && decide (i < n) && decide (j < n) && zdp n p && zdp n q
def zb0 (P : Program) (ar : Array Oper) (R : Frm) (Q : Exit → Act → World → Prop) : Plan → Act → World → Prop
 | .seq l, a, w => yk P ar Q R (zy ar l) a w
 | .fork pre i j p q, a, w => yk P ar (zh1 Q (fun a w => wpG P ar Q (ar.toList.getD i ZV) (fun a' w' => R.E w w' ∧ zb0 P ar R Q p a' w') a w ∧
  wpG P ar Q (ar.toList.getD j ZV) (fun a' w' => R.E w w' ∧ zb0 P ar R Q q a' w') a w)) R (zy ar pre) a w
theorem zfw {K X : Act → World → Prop} {i : Nat} {a : Act} {w : World} (h : wpOp P ar (zh1 Q K) i X a w) : wpOp P ar Q i X a w := h
theorem zbg (cO : ∀ w, E w w) (cp : ∀ a b c, E a b → E b c → E a c) (hs : Region.noSelect ar = true) {K : Act → World → Prop} {n : Nat} {L : Array Bool} (hK : ∀ a w, K a w → J8 P md ar Q E ds n L a w) : ∀ (l : List (Nat × Tag)) (am : Array Bool) (a : Act) (w : World),
 zbO md ar ds l am = some L → zcs P ar (zh1 Q K) E l a w → J8 P md ar Q E ds (Jl l + n) am a w
 | [], am, a, w, hc, h => by
  simp only [zbO, Option.some.injEq] at hc
  subst hc
  simp only [Jl, Nat.zero_add]
  exact hK _ _ h
 | (i, .take) :: rest, am, a, w, hc, h => by
  simp only [zbO] at hc
  split at hc
  ·rename_i hb
   simp only [Bool.and_eq_true] at hb
   obtain ⟨⟨⟨h1, h2⟩, h3⟩, h4⟩ := hb
   obtain ⟨oi, v, hi, hQ, hy, m7⟩ := h
   rw [show Jl ((i, Tag.take) :: rest) + n = (Jl rest + n) + 1 from by show Jl rest + 1 + n = _; omega]
   exact zaq cO cp hi (Region.noSelect_spec hs) (show ∀ c a w, Q (.panic c) (a.put oi.dst v) w → Q (.panic c) a w from hQ) ar.size (Jl rest + n) am a w (Region.free_spec hi h1) (zao h3)
    (fun d hm ck => by have := List.all_eq_true.1 h4 d hm; rw [ck] at this; simpa using this) (by simpa using h2) hy (zbg cO cp hs hK rest _ _ _ hc m7)
  ·cases hc
 | (i, .run) :: rest, am, a, w, hc, h => by
  simp only [zbO] at hc
  split at hc
  ·rename_i hb
   rw [show Jl ((i, Tag.run) :: rest) + n = (Jl rest + n) + 1 from by show Jl rest + 1 + n = _; omega]
   exact j1 (by simpa using hb) (wpOp_mono (fun a' w' h' => ⟨fun _ => h'.1, zbg cO cp hs hK rest _ _ _ hc h'.2⟩) (zfw h))
  ·cases hc
 | (i, .last) :: rest, am, a, w, hc, h => by simp [zbO] at hc
 | (i, .two j) :: rest, am, a, w, hc, h => by simp [zbO] at hc
 | (i, .both j) :: rest, am, a, w, hc, h => by simp [zbO] at hc
theorem J1 (R : Frm) (hs : Region.noSelect ar = true) : ∀ (p : Plan) (am : Array Bool) (a : Act) (w : World),
 zdo ar ds p am = true → zdp ar.size p = true → zb0 P ar R Q p a w → J8 P .any ar Q R.E ds (Y4 p) am a w
 | .seq l, am, a, w, hc, hin, h => yA R.refl R.trans hs l am a w hc (yC l a w hin h)
 | .fork pre i j p q, am, a, w, hc, hin, h => by
  simp only [zdo] at hc
  split at hc
  ·rename_i L hL
   simp only [Bool.and_eq_true, beq_iff_eq] at hc
   obtain ⟨⟨⟨h1, h2⟩, h3⟩, h4⟩ := hc
   simp only [zdp, Bool.and_eq_true, decide_eq_true_eq] at hin
   obtain ⟨⟨⟨⟨vQ, hi⟩, hj⟩, hp⟩, hq⟩ := hin
   refine zbg R.refl R.trans hs (L := L) (n := Y4 p + 1) ?_ pre am a w hL (yC pre a w vQ h)
   rintro a w ⟨ki, kj⟩
   refine Y0 h1 (yY hi (JR (fun a' w' h' => ⟨fun _ => h'.1, J1 R hs p _ _ _ h2 hp h'.2⟩) ki)) (yY hj (JR (fun a' w' h' => ⟨fun _ => h'.1, ?_⟩) kj))
   rw [h4]
   exact J1 R hs q _ _ _ h3 hq h'.2
  ·cases hc
def zdq (ar : Array Oper) (p : Plan) : Bool := Region.noSelect ar && zdo ar (ze5 p) p (Array.replicate ar.size false) && Y4 p == ar.size && zdp ar.size p
theorem zbh (R : Frm) (p : Plan) {id : Nat} {os : List Oper} {a : Act} {w : World} (hm : P.follows .mixedOrders = true)
 (dK : zdq os.toArray p = true) (h : zb0 P os.toArray R Q p a w.drew) : (Code.region id os.toArray true).wp P Q a w := by
 simp only [zdq, Bool.and_eq_true, beq_iff_eq] at dK
 obtain ⟨⟨⟨h1, h2⟩, h3⟩, h4⟩ := dK
 refine wp_region_any hm (YZ (E := R.E) (ds := ze5 p) _ _ _ _ ?_)
 have := J1 R h1 p _ a w.drew h2 h4 h
 rwa [h3] at this
variable {R : Frm}
theorem zdr {i j : Oper} {X Y : Act → World → Prop} {a : Act} {w : World} (hi : Region.wanted i (yielded ar a.tmps) = true) (hj : Region.wanted j (yielded ar a.tmps) = true)
 (h1 : ∀ K : Act → World → Prop, (∀ a' w', R.E w w' → X a' w' → K a' w') → i.wp P a w K Q)
 (h2 : ∀ K : Act → World → Prop, (∀ a' w', R.E w w' → Y a' w' → K a' w') → j.wp P a w K Q) :
 yk P ar (zh1 Q (fun a w => wpG P ar Q i (fun a' w' => R.E w w' ∧ X a' w') a w ∧ wpG P ar Q j (fun a' w' => R.E w w' ∧ Y a' w') a w)) R [] a w := by
 refine ⟨?_, ?_⟩
 ·simp only [wpG, hi, if_true]
  exact h1 _ fun a' w' hE hs => ⟨hE, hs⟩
 ·simp only [wpG, hj, if_true]
  exact h2 _ fun a' w' hE hs => ⟨hE, hs⟩
end
theorem jr (s : St) : (zn s).1 < 256 := by
 unfold zn
 cases s.b with
 | nil => show (0 : Nat) < 256; omega
 | cons c r => exact c.toNat_lt
theorem Y5 (bb : Nat) (s : St) : (zC bb s).1 < 18446744073709551616 := by
 have := zgu bb s.b
 unfold zC
 split
 ·show (0 : Nat) < _; omega
 ·show (if _ then _ else _) < _
  split
  ·exact Nat.lt_of_le_of_lt (Nat.mod_le _ _) this
  ·exact this
theorem Yr (bb : Nat) (s : St) : (zC bb s).2.b.length ≤ s.b.length := by
 unfold zC St.fail
 split
 ·exact nzQ _
 ·simp
theorem Ya (k : Int) (hk : k = 0 ∨ k = 1 ∨ k = 2 ∨ k = 5) (D : Nat → Prop) (g : Nat) (lo : Bool) (s : St) (w : World) (h : SpR D g lo s w) (hl : s.b.length ≤ 140737488355328) :
 Calls Tryz.prog 160 #[.pointer (some ⟨g, 0, none⟩), .int .i64 k] w fun e w' => e = .returned (.int .u64 ((yV k s).1 : Int)) ∧ SpR D g lo (yV k s).2 w' ∧ Fr (fun k => k = g) w w' := by
 have hS := qh h
 rcases hk with rfl | rfl | rfl | rfl
 ·have HC := qh (zas 32 (.inl rfl) D g lo s w h hl)
  clear h
  go_enter Tryz.func160, Tryz.ntmps160
  go_wp2_with fail
  refine HC.o.mono ?_
  rintro e w1 ⟨rfl, k1, k2⟩
  have HK := qh (anQ k1 k2)
  clear k1 k2
  go_wp2
  go_ret
  exact ⟨rfl, HK.o.1, HK.o.2⟩
 ·have HC := qh (zas 64 (.inr rfl) D g lo s w h hl)
  have hR := qh (show yV 1 s = ((zC 64 s).1, if 9223372036854775808 ≤ (zC 64 s).1 ∧ 4 + (zC 64 s).2.b.length < s.b.length then (zC 64 s).2.fail 2 else (zC 64 s).2) from rfl)
  have ah := Y5 64 s
  have kg := Yr 64 s
  generalize zC 64 s = r at *
  obtain ⟨v, s1⟩ := r
  dsimp only at *
  obtain ⟨aa, cap, hb, h1, h2⟩ := h
  have hc := hb.cell
  clear hb h1 h2
  go_enter Tryz.func160, Tryz.ntmps160
  go_wp2_with fail
  refine HC.o.mono ?_
  rintro e w1 ⟨rfl, k1, k2⟩
  have HK := qh (anQ k1 k2)
  obtain ⟨kF, cR, dw, pL, Es⟩ := k1
  have ek := dw.cell
  clear k2 dw pL Es hc HC
  have uZ := IntKind.wrap_i64 (v : Int)
  by_cases hv : 9223372036854775808 ≤ v
  ·have ew : IntKind.i64.wrap (v : Int) = (v : Int) - 18446744073709551616 := by rw [uZ]; omega
   have m5 : decide ((v : Int) - 18446744073709551616 < 0) = true := decide_eq_true (by omega)
   clear uZ
   by_cases h4 : 4 + s1.b.length < s.b.length
   ·have dZ := qh (hR.o.trans (by rw [if_pos ⟨hv, h4⟩]))
    clear hR
    go_wp2_with fail
    refine (zr D g lo s1 2 _ HK.o.1).mono ?_
    rintro e w2 ⟨rfl, k1, k2⟩
    have pj := qh (anQ k1 (HK.o.2.trans k2 (fun _ _ h => h) (fun _ _ h => h)))
    clear k1 k2
    go_wp2
    go_ret
    rw [dZ.o]
    exact ⟨rfl, pj.o.1, pj.o.2⟩
   ·have dZ := qh (hR.o.trans (by rw [if_neg (fun h => h4 h.2)]))
    clear hR
    go_wp2
    go_ret
    rw [dZ.o]
    exact ⟨rfl, HK.o.1, HK.o.2⟩
  ·have ew : IntKind.i64.wrap (v : Int) = (v : Int) := by rw [uZ]; omega
   have m5 : decide ((v : Int) < 0) = false := decide_eq_false (by omega)
   have dZ := qh (hR.o.trans (by rw [if_neg (fun h => hv h.1)]))
   clear uZ hR
   go_wp2
   go_ret
   rw [dZ.o]
   exact ⟨rfl, HK.o.1, HK.o.2⟩
 ·have HC := qh (zN D g lo s w h hl)
  have ah := zX s
  clear h
  go_enter Tryz.func160, Tryz.ntmps160
  go_wp2_with fail
  refine HC.o.mono ?_
  rintro e w1 ⟨rfl, k1, k2⟩
  have HK := qh (anQ k1 k2)
  clear k1 k2
  go_wp2
  go_ret
  exact ⟨rfl, HK.o.1, HK.o.2⟩
 ·have HC := qh (yo h)
  have ah := jr s
  clear h
  go_enter Tryz.func160, Tryz.ntmps160
  go_wp2_with fail
  refine HC.o.mono ?_
  rintro e w1 ⟨rfl, k1, k2⟩
  have HK := qh (anQ k1 k2)
  clear k1 k2
  go_wp2
  go_ret
  exact ⟨rfl, HK.o.1, HK.o.2⟩
theorem zh2 : (Tryz.prog.info? 239).map (fun i => (i.zero, i.size, i.bytes)) = some (some (.agg #[.int .i64 0, .int .u64 0]), Lay.arg.size, 16) := by kernel_rfl
theorem zav : ∀ (k1 k2 : List Int) (s : St), jB (k1 ++ k2) s = ((jB k1 s).1 ++ (jB k2 (jB k1 s).2).1, (jB k2 (jB k1 s).2).2)
 | [], _, _ => rfl
 | k :: ks, k2, s => by simp only [List.cons_append, jB, zav ks k2]
theorem zds : ∀ (k : List Int) (s : St), (jB k s).1.length = k.length
 | [], _ => rfl
 | k :: ks, s => by simp only [jB, List.length_cons, zds ks]
theorem yu (s : St) : (zn s).2.b.length ≤ s.b.length := by
 unfold zn St.fail
 cases s.b with
 | nil => exact Nat.le_refl _
 | cons c r => simp
theorem YH (k : Int) (hk : k = 0 ∨ k = 1 ∨ k = 2 ∨ k = 5) (s : St) : (yV k s).2.b.length ≤ s.b.length := by
 rcases hk with rfl | rfl | rfl | rfl
 ·exact Yr 32 s
 ·show (if _ then _ else _ : St).b.length ≤ _
  split
  ·exact nzQ _
  ·exact Yr 64 s
 ·exact zJ s
 ·exact yu s
theorem za1 (k : Int) (hk : k = 0 ∨ k = 1 ∨ k = 2 ∨ k = 5) (s : St) : (yV k s).1 < 18446744073709551616 := by
 rcases hk with rfl | rfl | rfl | rfl
 ·exact Y5 32 s
 ·exact Y5 64 s
 ·exact Nat.lt_trans (zX s) (by decide)
 ·exact Nat.lt_trans (jr s) (by decide)
theorem zb1 {D : Nat → Prop} {g : Nat} {lo : Bool} {s : St} (h : SpR D g lo s w) :
 Calls Tryz.prog 100 #[.pointer (some ⟨g, 0, none⟩)] w fun e w' => e = .returned (.bool (Zf s).1) ∧ SpR D g lo (Zf s).2 w' ∧ Fr (fun k => k = g) w w' := by
 have H := qh h
 clear h
 go_enter Tryz.func100, Tryz.ntmps100
 go_wp2_with fail
 refine (yo H.o).mono ?_
 rintro e w1 ⟨rfl, k1, k2⟩
 have HR := qh (show Zf s = (decide ((zn s).1 = 1), if 1 < (zn s).1 then (zn s).2.fail 1 else (zn s).2) from rfl)
 generalize (zn s).1 = c at *
 generalize (zn s).2 = s1 at *
 have H1 := qh (anQ k1 k2)
 clear k1 k2
 by_cases h1 : 1 < c
 ·have d1 : decide ((1 : Int) < (c : Int)) = true := decide_eq_true (by omega)
  have d2 := bfQ (a := (c : Int)) (b := 1) (by omega)
  have HR := qh (show Zf s = (false, s1.fail 1) from by rw [HR.o, if_pos h1, decide_eq_false (by omega)])
  go_wp2_with fail
  refine (zr D g lo s1 1 w1 H1.o.1).mono ?_
  rintro e w2 ⟨rfl, k1, k2⟩
  have H2 := qh (anQ k1 (Fr.trans H1.o.2 k2 (U := fun k => k = g) (fun _ _ h => h) (fun _ _ h => h)))
  clear k1 k2
  go_wp2
  go_ret
  exact ⟨by rw [HR.o]; rfl, by rw [HR.o]; exact H2.o.1, H2.o.2⟩
 ·have d1 : decide ((1 : Int) < (c : Int)) = false := decide_eq_false (by omega)
  have HR := qh (show Zf s = (decide (c = 1), s1) from by rw [HR.o, if_neg h1])
  have d2 : Hd (((c : Int) == 1) = decide (c = 1)) := by
   show _ = _
   by_cases hc : c = 1
   ·subst hc; rfl
   ·rw [decide_eq_false hc, beq_eq_false_iff_ne]; omega
  go_wp2
  go_ret
  exact ⟨by rw [HR.o, ← d2.o]; rfl, by rw [HR.o]; exact H1.o.1, H1.o.2⟩
theorem ZB (D : Nat → Prop) (g : Nat) (lo : Bool) (s : St) (w : World) (h : SpR D g lo s w) (hl : s.b.length ≤ 140737488355328) :
 Calls Tryz.prog 98 #[.pointer (some ⟨g, 0, none⟩)] w fun e w' => e = .returned (.agg #[.int .u32 ((zE s).1.min.toNat : Int), .bool (zE s).1.bounded, .int .u32 ((zE s).1.max.toNat : Int)]) ∧ SpR D g lo (zE s).2 w' ∧ Fr (fun k => k = g) w w' := by
 have cU := za w (.cells #[.int .u32 0, .bool false, .int .u32 0] 63)
 have ct := zk w #[.int .u32 0, .bool false, .int .u32 0] 63
 have H := qh (anQ h.lt.1 (anQ hl (h.ext cU)))
 have xm := qh (fun k (hk : D k) => (h.lt.2 k hk).1)
 have oh := yu s
 clear h hl
 go_enter Tryz.func98, Tryz.ntmps98
 go_wp2_with fail
 have cU := qh cU
 have ct := qh ct
 generalize (w.alloc (.cells #[.int .u32 0, .bool false, .int .u32 0] 63)) = W0 at *
 obtain ⟨gl, cj⟩ := exQ (w.heap.size)
 have aO := qh (show ¬ gl = g from by have := H.o.1; omega)
 rw [cj] at ct ⊢
 have cj := qh cj
 refine (yo H.o.2.2).mono ?_
 rintro e w1 ⟨rfl, k1, k2⟩
 have HR := qh (show zE s = (let m := zd (if 1 < (zn s).1 then (zn s).2.fail 2 else (zn s).2); if (zn s).1 = 1 then (⟨UInt32.ofNat m.1, true, UInt32.ofNat (zd m.2).1⟩, (zd m.2).2) else (⟨UInt32.ofNat m.1, false, 0⟩, m.2)) from rfl)
 have uI := jr s
 generalize (zn s).1 = c at *
 generalize (zn s).2 = s1 at *
 have oz := qh (show s1.b.length ≤ 140737488355328 from by have := H.o.2.1; omega)
 have H1 := qh (anQ k1 (anQ k2 (ct.o.fr k2 aO.o)))
 clear k1 k2 oh
 have eT := qh (show ∀ k, D k → ¬ k = gl from fun k hk e => by have := (H.o.2.2.lt.2 k hk).1; have := cU.o.size; have := xm.o k hk; have := cj.o; omega)
 by_cases h1 : 1 < c
 ·have d1 : decide ((1 : Int) < (c : Int)) = true := decide_eq_true (by omega)
  have d2 := bfQ (a := (c : Int)) (b := 1) (by omega)
  have HR := qh (show zE s = (⟨UInt32.ofNat (zd (s1.fail 2)).1, false, 0⟩, (zd (s1.fail 2)).2) from by rw [HR.o]; simp only [if_pos h1]; rw [if_neg (by omega)])
  go_wp2_with fail
  refine (zr D g lo s1 2 w1 H1.o.1).mono ?_
  rintro e w2 ⟨rfl, k1, k2⟩
  have cV := H1.o.2.2.fr k2 aO.o
  have H2 := qh (anQ k1 (anQ (Fr.trans H1.o.2.1 k2 (U := fun k => k = g) (fun _ _ h => h) (fun _ _ h => h)) cV))
  clear k1 k2 cV
  have ag := (H2.o.2.2).cell
  have eL := (H2.o.2.2).frz
  go_wp2_with fail
  have eQ := zh w2 ⟨gl, 1, none⟩ (.bool false)
  have HS := qh (anQ ((H2.o.1).fr eQ (fun e => aO.o e.symm) (fun k hk e => eT.o k hk e)) (anQ (show Blk (w2.setCell ⟨gl, 1, none⟩ (.bool false)) gl #[.int .u32 0, .bool false, .int .u32 0] 63 from by have := (H2.o.2.2).set 1 (.bool false); simpa using this) (Fr.trans (H2.o.2.1) eQ (U := fun k => k = g ∨ k = gl) (fun _ _ h => .inl h) (fun _ _ h => .inr h))))
  clear ag eL eQ
  generalize (w2.setCell ⟨gl, 1, none⟩ (.bool false)) = W4 at *
  refine (zN D g lo (s1.fail 2) W4 HS.o.1 (nzQ _)).mono ?_
  rintro e w5 ⟨rfl, k1, k2⟩
  have mi := qh (zX (s1.fail 2))
  have nT := qh (show (zd (s1.fail 2)).2.b.length ≤ 140737488355328 from nlQ (zJ (s1.fail 2)) (nzQ _))
  generalize (zd (s1.fail 2)).1 = mn at *
  generalize (zd (s1.fail 2)).2 = s5 at *
  have kN := HS.o.2.1.fr k2 aO.o
  have H5 := qh (anQ k1 (anQ (Fr.trans HS.o.2.2 k2 (U := fun k => k = g ∨ k = gl) (fun _ _ h => h) (fun _ _ h => .inl h)) kN))
  have ag := kN.cell
  have eL := kN.frz
  clear k1 k2 kN
  go_wp2_with (with_reducible refine Zc 63 ?_)
  refine qh ?_
  have eQ := zh w5 ⟨gl, 0, none⟩ (.int .u32 mn)
  have HF := qh (anQ (H5.o.1.fr eQ (fun e => aO.o e.symm) (fun k hk e => eT.o k hk e)) (anQ (show Blk (w5.setCell ⟨gl, 0, none⟩ (.int .u32 mn)) gl #[.int .u32 mn, .bool false, .int .u32 0] 63 from by have := H5.o.2.2.set 0 (.int .u32 mn); simpa using this) (Fr.trans H5.o.2.1 eQ (U := fun k => k = g ∨ k = gl) (fun _ _ h => h) (fun _ _ h => .inr h))))
  generalize (w5.setCell ⟨gl, 0, none⟩ (.int .u32 mn)) = W8 at *
  clear ag eL eQ
  refine HF.o.2.1.wpList_load rfl 63 (.tmp 2) rfl rfl _ Tryz.underlying63 rfl (by kernel_rfl) ?_
  refine HF.o.2.1.wpList_store rfl 63 (.tmp 2) (.tmp 21) rfl rfl rfl (by kernel_rfl) rfl rfl ?_
  refine wpList_nil ?_
  go_wp2
  have hs := yE W8 gl #[.int .u32 mn, .bool false, .int .u32 0]
  have dG := HF.o.2.1.setRow #[.int .u32 mn, .bool false, .int .u32 0]
  have ai := qh (anQ (HF.o.1.fr hs (fun e => aO.o e.symm) (fun k hk e => eT.o k hk e)) ((Ext.fr cU.o (Fr.trans HF.o.2.2 hs (U := fun k => k = g ∨ k = gl) (fun _ _ h => h) (fun _ _ h => .inr h))).mono (fun k hk e => e.elim id (fun e => by have := cj.o; omega)) : Fr (fun k => k = g) w _))
  refine bodyPost_ret (v := .agg #[.int .u32 mn, .bool false, .int .u32 0]) (jG Tryz.results98 _ rfl dG _ Tryz.underlying63 rfl (by kernel_rfl)) rfl ?_
  rw [HR.o]
  refine ⟨?_, ai.o.1, ai.o.2⟩
  show Ending.returned (.agg #[.int .u32 mn, .bool false, .int .u32 0]) = .returned (.agg #[.int .u32 ((UInt32.ofNat mn).toNat : Int), .bool false, .int .u32 (((0 : UInt32).toNat) : Int)])
  rw [UInt32.toNat_ofNat', Nat.mod_eq_of_lt mi.o]
  rfl
 ·have d1 : decide ((1 : Int) < (c : Int)) = false := decide_eq_false (by omega)
  by_cases ek : c = 1
  ·have d2 : ((c : Int) == 1) = true := by rw [beq_iff_eq]; omega
   have HR := qh (show zE s = (⟨UInt32.ofNat (zd s1).1, true, UInt32.ofNat (zd (zd s1).2).1⟩, (zd (zd s1).2).2) from by rw [HR.o]; simp only [if_neg h1]; rw [if_pos ek])
   have ag := (H1.o.2.2).cell
   have eL := (H1.o.2.2).frz
   go_wp2_with fail
   have eQ := zh w1 ⟨gl, 1, none⟩ (.bool true)
   have HS := qh (anQ ((H1.o.1).fr eQ (fun e => aO.o e.symm) (fun k hk e => eT.o k hk e)) (anQ (show Blk (w1.setCell ⟨gl, 1, none⟩ (.bool true)) gl #[.int .u32 0, .bool true, .int .u32 0] 63 from by have := (H1.o.2.2).set 1 (.bool true); simpa using this) (Fr.trans (H1.o.2.1) eQ (U := fun k => k = g ∨ k = gl) (fun _ _ h => .inl h) (fun _ _ h => .inr h))))
   clear ag eL eQ
   generalize (w1.setCell ⟨gl, 1, none⟩ (.bool true)) = W4 at *
   refine (zN D g lo s1 W4 HS.o.1 oz.o).mono ?_
   rintro e w5 ⟨rfl, k1, k2⟩
   have mi := qh (zX s1)
   have nT := qh (show (zd s1).2.b.length ≤ 140737488355328 from nlQ (zJ s1) oz.o)
   generalize (zd s1).1 = mn at *
   generalize (zd s1).2 = s5 at *
   have kN := HS.o.2.1.fr k2 aO.o
   have H5 := qh (anQ k1 (anQ (Fr.trans HS.o.2.2 k2 (U := fun k => k = g ∨ k = gl) (fun _ _ h => h) (fun _ _ h => .inl h)) kN))
   have ag := kN.cell
   have eL := kN.frz
   clear k1 k2 kN
   go_wp2_with (with_reducible refine Zc 63 ?_)
   have eQ := zh w5 ⟨gl, 0, none⟩ (.int .u32 mn)
   have ql := qh (anQ (H5.o.1.fr eQ (fun e => aO.o e.symm) (fun k hk e => eT.o k hk e)) (anQ (show Blk (w5.setCell ⟨gl, 0, none⟩ (.int .u32 mn)) gl #[.int .u32 mn, .bool true, .int .u32 0] 63 from by have := H5.o.2.2.set 0 (.int .u32 mn); simpa using this) (Fr.trans H5.o.2.1 eQ (U := fun k => k = g ∨ k = gl) (fun _ _ h => h) (fun _ _ h => .inr h))))
   clear ag eL eQ
   generalize (w5.setCell ⟨gl, 0, none⟩ (.int .u32 mn)) = W6 at *
   refine (zN D g lo s5 W6 ql.o.1 nT.o).mono ?_
   rintro e w7 ⟨rfl, k1, k2⟩
   have xR := qh (zX s5)
   generalize (zd s5).1 = mx at *
   generalize (zd s5).2 = s7 at *
   have vm := ql.o.2.1.fr k2 aO.o
   have H7 := qh (anQ k1 (anQ (Fr.trans ql.o.2.2 k2 (U := fun k => k = g ∨ k = gl) (fun _ _ h => h) (fun _ _ h => .inl h)) vm))
   have ag := vm.cell
   have eL := vm.frz
   clear k1 k2 vm
   go_wp2_with (with_reducible refine Zc 63 ?_)
   refine qh ?_
   have eQ := zh w7 ⟨gl, 2, none⟩ (.int .u32 mx)
   have HF := qh (anQ (H7.o.1.fr eQ (fun e => aO.o e.symm) (fun k hk e => eT.o k hk e)) (anQ (show Blk (w7.setCell ⟨gl, 2, none⟩ (.int .u32 mx)) gl #[.int .u32 mn, .bool true, .int .u32 mx] 63 from by have := H7.o.2.2.set 2 (.int .u32 mx); simpa using this) (Fr.trans H7.o.2.1 eQ (U := fun k => k = g ∨ k = gl) (fun _ _ h => h) (fun _ _ h => .inr h))))
   generalize (w7.setCell ⟨gl, 2, none⟩ (.int .u32 mx)) = W8 at *
   clear ag eL eQ
   refine HF.o.2.1.wpList_load rfl 63 (.tmp 2) rfl rfl _ Tryz.underlying63 rfl (by kernel_rfl) ?_
   refine HF.o.2.1.wpList_store rfl 63 (.tmp 2) (.tmp 21) rfl rfl rfl (by kernel_rfl) rfl rfl ?_
   refine wpList_nil ?_
   go_wp2
   have hs := yE W8 gl #[.int .u32 mn, .bool true, .int .u32 mx]
   have dG := HF.o.2.1.setRow #[.int .u32 mn, .bool true, .int .u32 mx]
   have ai := qh (anQ (HF.o.1.fr hs (fun e => aO.o e.symm) (fun k hk e => eT.o k hk e)) ((Ext.fr cU.o (Fr.trans HF.o.2.2 hs (U := fun k => k = g ∨ k = gl) (fun _ _ h => h) (fun _ _ h => .inr h))).mono (fun k hk e => e.elim id (fun e => by have := cj.o; omega)) : Fr (fun k => k = g) w _))
   refine bodyPost_ret (v := .agg #[.int .u32 mn, .bool true, .int .u32 mx]) (jG Tryz.results98 _ rfl dG _ Tryz.underlying63 rfl (by kernel_rfl)) rfl ?_
   rw [HR.o]
   refine ⟨?_, ai.o.1, ai.o.2⟩
   show Ending.returned (.agg #[.int .u32 mn, .bool true, .int .u32 mx]) = .returned (.agg #[.int .u32 ((UInt32.ofNat mn).toNat : Int), .bool true, .int .u32 (((UInt32.ofNat mx).toNat) : Int)])
   rw [UInt32.toNat_ofNat', Nat.mod_eq_of_lt mi.o, UInt32.toNat_ofNat', Nat.mod_eq_of_lt xR.o]
  ·have d2 := bfQ (a := (c : Int)) (b := 1) (by omega)
   have HR := qh (show zE s = (⟨UInt32.ofNat (zd s1).1, false, 0⟩, (zd s1).2) from by rw [HR.o]; simp only [if_neg h1]; rw [if_neg ek])
   have ag := (H1.o.2.2).cell
   have eL := (H1.o.2.2).frz
   go_wp2_with fail
   have eQ := zh w1 ⟨gl, 1, none⟩ (.bool false)
   have HS := qh (anQ ((H1.o.1).fr eQ (fun e => aO.o e.symm) (fun k hk e => eT.o k hk e)) (anQ (show Blk (w1.setCell ⟨gl, 1, none⟩ (.bool false)) gl #[.int .u32 0, .bool false, .int .u32 0] 63 from by have := (H1.o.2.2).set 1 (.bool false); simpa using this) (Fr.trans (H1.o.2.1) eQ (U := fun k => k = g ∨ k = gl) (fun _ _ h => .inl h) (fun _ _ h => .inr h))))
   clear ag eL eQ
   generalize (w1.setCell ⟨gl, 1, none⟩ (.bool false)) = W4 at *
   refine (zN D g lo s1 W4 HS.o.1 oz.o).mono ?_
   rintro e w5 ⟨rfl, k1, k2⟩
   have mi := qh (zX s1)
   have nT := qh (show (zd s1).2.b.length ≤ 140737488355328 from nlQ (zJ s1) oz.o)
   generalize (zd s1).1 = mn at *
   generalize (zd s1).2 = s5 at *
   have kN := HS.o.2.1.fr k2 aO.o
   have H5 := qh (anQ k1 (anQ (Fr.trans HS.o.2.2 k2 (U := fun k => k = g ∨ k = gl) (fun _ _ h => h) (fun _ _ h => .inl h)) kN))
   have ag := kN.cell
   have eL := kN.frz
   clear k1 k2 kN
   go_wp2_with (with_reducible refine Zc 63 ?_)
   refine qh ?_
   have eQ := zh w5 ⟨gl, 0, none⟩ (.int .u32 mn)
   have HF := qh (anQ (H5.o.1.fr eQ (fun e => aO.o e.symm) (fun k hk e => eT.o k hk e)) (anQ (show Blk (w5.setCell ⟨gl, 0, none⟩ (.int .u32 mn)) gl #[.int .u32 mn, .bool false, .int .u32 0] 63 from by have := H5.o.2.2.set 0 (.int .u32 mn); simpa using this) (Fr.trans H5.o.2.1 eQ (U := fun k => k = g ∨ k = gl) (fun _ _ h => h) (fun _ _ h => .inr h))))
   generalize (w5.setCell ⟨gl, 0, none⟩ (.int .u32 mn)) = W8 at *
   clear ag eL eQ
   refine HF.o.2.1.wpList_load rfl 63 (.tmp 2) rfl rfl _ Tryz.underlying63 rfl (by kernel_rfl) ?_
   refine HF.o.2.1.wpList_store rfl 63 (.tmp 2) (.tmp 21) rfl rfl rfl (by kernel_rfl) rfl rfl ?_
   refine wpList_nil ?_
   go_wp2
   have hs := yE W8 gl #[.int .u32 mn, .bool false, .int .u32 0]
   have dG := HF.o.2.1.setRow #[.int .u32 mn, .bool false, .int .u32 0]
   have ai := qh (anQ (HF.o.1.fr hs (fun e => aO.o e.symm) (fun k hk e => eT.o k hk e)) ((Ext.fr cU.o (Fr.trans HF.o.2.2 hs (U := fun k => k = g ∨ k = gl) (fun _ _ h => h) (fun _ _ h => .inr h))).mono (fun k hk e => e.elim id (fun e => by have := cj.o; omega)) : Fr (fun k => k = g) w _))
   refine bodyPost_ret (v := .agg #[.int .u32 mn, .bool false, .int .u32 0]) (jG Tryz.results98 _ rfl dG _ Tryz.underlying63 rfl (by kernel_rfl)) rfl ?_
   rw [HR.o]
   refine ⟨?_, ai.o.1, ai.o.2⟩
   show Ending.returned (.agg #[.int .u32 mn, .bool false, .int .u32 0]) = .returned (.agg #[.int .u32 ((UInt32.ofNat mn).toNat : Int), .bool false, .int .u32 (((0 : UInt32).toNat) : Int)])
   rw [UInt32.toNat_ofNat', Nat.mod_eq_of_lt mi.o]
   rfl
end Go.Proofs.YtejgninpjhcgnaaGreatDoor
