/- Texts of the library, merged by wip/tools/merge.py: RdPlain, RiMeth, TaFails, PlainArg. -/
import Derived.Test.YtkbadfljmbeciaaGreatDoorLibD
import Derived.Test.YtkbadfljmbeciaaGreatDoorLibA
import Derived.Test.YtkbadfljmbeciaaGreatDoorProg
import Derived.KernelRfl
import Derived.Deep.QuietTactic
import Derived.BigQuiet
/- Instructions as the package reads them: the plain side, and how they lie. -/
namespace Go.Proofs.YtkbadfljmbeciaaGreatDoor
open Go.RowKit
/-- What is read. -/
inductive RI where
  | i32 (v : Int)
  | i64 (v : Int)
  | eqz
  | idx (op n : Nat)
  | ci (n r : Nat)
  | ret
  | blk (lp : Bool) (body : List RI)
/-- What comes of it: odd: nothing is said. -/
inductive PO where
  | ok (l : List RI) (rest : List UInt8)
  | bad
  | odd
def PO.app (acc : List RI) : PO → PO
  | .ok l r => .ok (acc ++ l) r
  | .bad => .bad
  | .odd => .odd
theorem PO.app_nil : ∀ p : PO, p.app [] = p
  | .ok _ _ => rfl
  | .bad => rfl
  | .odd => rfl
theorem PO.app_app (a b : List RI) : ∀ p : PO, (p.app b).app a = p.app (a ++ b)
  | .ok _ _ => by simp [PO.app]
  | .bad => rfl
  | .odd => rfl
def pIns : Nat → List UInt8 → PO
  | 0, _ => .odd
  | _ + 1, [] => .bad
  | f + 1, c :: r =>
    if c.toNat = 65 then (match readS 0 0 r with | none => .bad | some (v, r') => (pIns f r').app [.i32 (wrap32 v)])
    else if c.toNat = 66 then (match readS 0 0 r with | none => .bad | some (v, r') => (pIns f r').app [.i64 v])
    else if c.toNat = 69 then (pIns f r).app [.eqz]
    else if c.toNat = 32 ∨ c.toNat = 33 ∨ c.toNat = 16 ∨ c.toNat = 13 then (match readU 0 0 r with | none => .bad | some (n, r') => (pIns f r').app [.idx c.toNat (n % 4294967296)])
    else if c.toNat = 17 then (match readU 0 0 r with | none => .bad | some (_, []) => .bad | some (n, b :: r') => (pIns f r').app [.ci (n % 4294967296) b.toNat])
    else if c.toNat = 15 then (pIns f r).app [.ret]
    else if c.toNat = 2 ∨ c.toNat = 3 then
      (match r with
      | [] => .bad
      | b :: r1 => if b.toNat ≠ 64 then .odd else (match pIns f r1 with | .ok l r2 => (pIns f r2).app [.blk (decide (c.toNat = 3)) l] | .bad => .bad | .odd => .odd))
    else if c.toNat = 11 then .ok [] r
    else .odd
def idxT (op : Nat) : TypeId := if op = 32 then 357 else if op = 33 then 358 else if op = 16 then 359 else 363
namespace Lay
/-- Instructions read, of depth below n. -/
def ri : Nat → Lay RI
  | 0 => never RI 1
  | n + 1 => {
      size := 1
      rd := fun A w cs x => match x with
        | .i32 v => cs = [.iface 347 (.agg #[.int .i32 v])] ∧ -2147483648 ≤ v ∧ v < 2147483648
        | .i64 v => cs = [.iface 350 (.agg #[.int .i64 v])] ∧ -9223372036854775808 ≤ v ∧ v < 9223372036854775808
        | .eqz => cs = [.iface 354 (.agg #[])]
        | .idx op k => cs = [.iface (idxT op) (.agg #[.int .u32 (k : Int)])] ∧ k < 4294967296 ∧ (op = 32 ∨ op = 33 ∨ op = 16 ∨ op = 13)
        | .ci k r => cs = [.iface 362 (.agg #[.int .u32 (k : Int), .int .u8 (r : Int)])] ∧ k < 4294967296 ∧ r < 256
        | .ret => cs = [.iface 364 (.agg #[])]
        | .blk lp body => ∃ s, cs = [.iface (if lp then 367 else 366) (.agg #[.pointer none, s])] ∧ (ri n).slice.rd A w [s] body
      len := fun {A w cs x} h => by
        cases x <;> first | (rw [h.1]; rfl) | (rw [h]; rfl) | (obtain ⟨s, h, _⟩ := h; rw [h]; rfl)
      one := fun {A w cs x} h u hu => by
        cases x <;> first | (rw [h.1] at hu; obtain rfl := List.mem_singleton.1 hu; rfl) | (rw [h] at hu; obtain rfl := List.mem_singleton.1 hu; rfl) | (obtain ⟨s, h, _⟩ := h; rw [h] at hu; obtain rfl := List.mem_singleton.1 hu; rfl)
      frame := fun {A w w' cs x} h hf => by
        cases x <;> first | exact h | (obtain ⟨s, h, k⟩ := h; exact ⟨s, h, (ri n).slice.frame k hf⟩)
      mono := fun {A A' w cs x} h hf => by
        cases x <;> first | exact h | (obtain ⟨s, h, k⟩ := h; exact ⟨s, h, (ri n).slice.mono k hf⟩) }
theorem ri_size : ∀ n, (ri n).size = 1
  | 0 => rfl
  | _ + 1 => rfl
theorem ri_succ {A : Nat → Prop} {w : World} : ∀ (n : Nat) (cs : List Value) (x : RI), (ri n).rd A w cs x → (ri (n + 1)).rd A w cs x
  | 0, _, _, h => h.elim
  | n + 1, _, x, h => by
    cases x <;> first | exact h | (obtain ⟨s, h, k⟩ := h; exact ⟨s, h, slice_imp (ri_succ n) k⟩)
theorem ri_le {A : Nat → Prop} {w : World} {n m : Nat} (h : n ≤ m) {cs : List Value} {x : RI} (k : (ri n).rd A w cs x) : (ri m).rd A w cs x := by
  induction h with
  | refl => exact k
  | step _ ih => exact ri_succ _ _ _ ih
end Lay
end Go.Proofs.YtkbadfljmbeciaaGreatDoor
/- What instructions that are read answer. Written by wip/tools/gen_ri.py. -/
namespace Go.Proofs.YtkbadfljmbeciaaGreatDoor
open Go.RowKit
/-- The interface value of an immediate argument. -/
def argIv (a : Int × UInt64) : Value :=
  if a.1 = 0 then .iface 21 (.int .i32 (wrap32 (a.2.toNat : Int)))
  else if a.1 = 1 then .iface 2 (.int .i64 (wrap64 (a.2.toNat : Int)))
  else if a.1 = 2 then .iface 23 (.int .u32 (a.2.toNat : Int))
  else .iface 5 (.int .u8 (a.2.toNat : Int))
theorem argIv_one (a : Int × UInt64) : (argIv a).oneCell' = true := by unfold argIv; (repeat' split) <;> rfl
def okI (a : Int × UInt64) : Prop := (a.1 = 0 ∧ a.2.toNat < 4294967296) ∨ a.1 = 1 ∨ (a.1 = 2 ∧ a.2.toNat < 4294967296) ∨ (a.1 = 5 ∧ a.2.toNat < 256)
def Lay.argI : Lay (Int × UInt64) where
  size := 1
  rd _ _ cs x := cs = [argIv x] ∧ okI x
  len h := by rw [h.1]; rfl
  one h u hu := by rw [h.1] at hu; obtain rfl := List.mem_singleton.1 hu; exact argIv_one _
  frame h _ := h
  mono h _ := h
theorem Lay.flat_argI : Lay.argI.flat := fun h => h
/-- A number's 64 bits. -/
def bits64 (v : Int) : UInt64 := UInt64.ofNat (v % 18446744073709551616).toNat
namespace RI
def op : RI → Nat
  | i32 _ => 65 | i64 _ => 66 | eqz => 69 | idx o _ => o | ci _ _ => 17 | ret => 15 | blk lp _ => if lp then 3 else 2
def args : RI → List (Int × UInt64)
  | i32 v => [(0, bits64 (v % 4294967296))] | i64 v => [(1, bits64 v)] | eqz => [] | idx _ n => [(2, bits64 (n : Int))] | ci n r => [(2, bits64 (n : Int)), (5, bits64 (r : Int))] | ret => [] | blk _ _ => []
def isBlk : RI → Bool
  | blk _ _ => true | _ => false
end RI
mutual
/-- The plain data of an instruction that is read. -/
def toI1 : RI → Ins
  | .blk lp b => .mk (if lp then 3 else 2) [] true (-1) (toIL b)
  | .i32 v => .mk 65 [(0, bits64 (v % 4294967296))] false (-1) []
  | .i64 v => .mk 66 [(1, bits64 v)] false (-1) []
  | .eqz => .mk 69 [] false (-1) []
  | .idx o n => .mk o [(2, bits64 (n : Int))] false (-1) []
  | .ci n r => .mk 17 [(2, bits64 (n : Int)), (5, bits64 (r : Int))] false (-1) []
  | .ret => .mk 15 [] false (-1) []
def toIL : List RI → List Ins
  | [] => []
  | x :: xs => toI1 x :: toIL xs
end
theorem bits64_toNat (v : Int) : ((bits64 v).toNat : Int) = v % 18446744073709551616 := by
  have h : (v % 18446744073709551616).toNat < 18446744073709551616 := by omega
  show (((UInt64.ofNat (v % 18446744073709551616).toNat).toNat : Nat) : Int) = _
  rw [show (UInt64.ofNat (v % 18446744073709551616).toNat).toNat = (v % 18446744073709551616).toNat from Nat.mod_eq_of_lt h]
  omega
theorem argIv_i32 {v : Int} (h : -2147483648 ≤ v ∧ v < 2147483648) : argIv (0, bits64 (v % 4294967296)) = .iface 21 (.int .i32 v) := by
  have := bits64_toNat (v % 4294967296)
  unfold argIv
  simp only [if_true]
  congr 2
  rw [this]; unfold wrap32; omega
theorem argIv_i64 {v : Int} (h : -9223372036854775808 ≤ v ∧ v < 9223372036854775808) : argIv (1, bits64 v) = .iface 2 (.int .i64 v) := by
  have := bits64_toNat v
  unfold argIv
  rw [if_neg (show ¬ (1 : Int) = 0 by decide), if_pos rfl]
  congr 2
  rw [this]; unfold wrap64; omega
theorem argIv_u32 {n : Nat} (h : n < 4294967296) : argIv (2, bits64 (n : Int)) = .iface 23 (.int .u32 (n : Int)) := by
  have := bits64_toNat (n : Int)
  unfold argIv
  rw [if_neg (show ¬ (2 : Int) = 0 by decide), if_neg (show ¬ (2 : Int) = 1 by decide), if_pos rfl]
  congr 2
  rw [this]; omega
theorem argIv_u8 {n : Nat} (h : n < 256) : argIv (5, bits64 (n : Int)) = .iface 5 (.int .u8 (n : Int)) := by
  have := bits64_toNat (n : Int)
  unfold argIv
  rw [if_neg (show ¬ (5 : Int) = 0 by decide), if_neg (show ¬ (5 : Int) = 1 by decide), if_neg (show ¬ (5 : Int) = 2 by decide)]
  congr 2
  rw [this]; omega
/-- A method that answers. -/
def Answers (T : TypeId) (p : Value) (m : String) (R : World → Value → World → Prop) : Prop :=
  ∃ fo po, (∀ W, (nilAhead 496 T p m).run Tryz.prog W = .ok (some false) W) ∧ (∀ W, (method 496 T p m).run Tryz.prog W = .ok (fo, po) W) ∧ (∀ args W, (callFunc fo args).run Tryz.prog W = .ok (.enter fo args) W) ∧
    ∀ w, Calls Tryz.prog fo #[po] w fun e w' => ∃ v, e = .returned v ∧ R w v w' ∧ Ext w w'
def RiOp (T : TypeId) (p : Value) (op : Nat) : Prop := Answers T p "Op" (fun _ v _ => v = .int .u8 (op : Int))
def RiArgs (T : TypeId) (p : Value) (xs : List (Int × UInt64)) : Prop := Answers T p "ImmediateArgs" (fun w v w' => Lay.argI.slice.rd (fun k => w.heap.size ≤ k ∧ k < w'.heap.size) w' [v] xs)
theorem argI_nil {A : Nat → Prop} {w : World} : Lay.argI.slice.rd A w [.slice none 0 0] [] := ⟨none, 0, rfl, Nat.le_refl _, by decide, fun h => absurd h (by simp)⟩
theorem argI_one {w W : World} {x : Int × UInt64} {T : TypeId} (hw : w.heap.size ≤ W.heap.size) (h : okI x) : Lay.argI.slice.rd (fun k => w.heap.size ≤ k ∧ k < (W.alloc (.cells #[argIv x] T)).heap.size) (W.alloc (.cells #[argIv x] T)) [.slice (some ⟨W.heap.size, 0, none⟩) 1 1] [x] :=
  ⟨_, 1, rfl, Nat.le_refl _, by decide, fun _ => ⟨W.heap.size, 0, _, _, _, [argIv x], rfl, ⟨hw, by simp⟩, blk_new W _ _, Lay.all_single ⟨rfl, h⟩, fun j hj => by simp⟩⟩
theorem argI_two {w W : World} {x y : Int × UInt64} {T : TypeId} (hw : w.heap.size ≤ W.heap.size) (h : okI x) (h' : okI y) : Lay.argI.slice.rd (fun k => w.heap.size ≤ k ∧ k < (W.alloc (.cells #[argIv x, argIv y] T)).heap.size) (W.alloc (.cells #[argIv x, argIv y] T)) [.slice (some ⟨W.heap.size, 0, none⟩) 2 2] [x, y] :=
  ⟨_, 2, rfl, Nat.le_refl _, by decide, fun _ => ⟨W.heap.size, 0, _, _, _, [argIv x, argIv y], rfl, ⟨hw, by simp⟩, blk_new W _ _, ⟨[argIv x], [argIv y], rfl, ⟨rfl, h⟩, Lay.all_single ⟨rfl, h'⟩⟩, fun j hj => by simp⟩⟩
set_option maxRecDepth 100000 in
theorem noArgs_calls (w : World) : Calls Tryz.prog 149 #[.agg #[]] w fun e w' => ∃ v, e = .returned v ∧ Lay.argI.slice.rd (fun k => w.heap.size ≤ k ∧ k < w'.heap.size) w' [v] [] ∧ Ext w w' := by
  go_enter Tryz.func149, Tryz.ntmps149
  go_wp2
  go_ret
  exact ⟨_, rfl, argI_nil, ext_alloc _ _⟩
set_option maxRecDepth 100000 in
theorem i32_op (v : Int) : RiOp 347 (.agg #[.int .i32 v]) 65 := by
  refine ⟨146, .agg #[.int .i32 v], fun W => by kernel_rfl, fun W => by kernel_rfl, fun args W => by kernel_rfl, fun w => ?_⟩
  go_enter Tryz.func146, Tryz.ntmps146
  go_wp2
  go_ret
  exact ⟨_, rfl, rfl, ext_alloc _ _⟩
set_option maxRecDepth 100000 in
theorem i32_args {v : Int} (h : -2147483648 ≤ v ∧ v < 2147483648) : RiArgs 347 (.agg #[.int .i32 v]) [(0, bits64 (v % 4294967296))] := by
  refine ⟨145, .agg #[.int .i32 v], fun W => by kernel_rfl, fun W => by kernel_rfl, fun args W => by kernel_rfl, fun w => ?_⟩
  go_enter Tryz.func145, Tryz.ntmps145
  go_wp2
  go_ret
  rw [← argIv_i32 h]
  refine ⟨_, rfl, ?_, Ext.trans (ext_alloc _ _) (ext_alloc _ _)⟩
  have := argI_one (w := w) (W := w.alloc (.cells #[.int .i32 v] 347)) (x := (0, bits64 (v % 4294967296))) (T := 20) (by simp) (.inl ⟨rfl, by have := bits64_toNat (v % 4294967296); show (bits64 _).toNat < _; omega⟩)
  simpa using this
set_option maxRecDepth 100000 in
theorem i64_op (v : Int) : RiOp 350 (.agg #[.int .i64 v]) 66 := by
  refine ⟨148, .agg #[.int .i64 v], fun W => by kernel_rfl, fun W => by kernel_rfl, fun args W => by kernel_rfl, fun w => ?_⟩
  go_enter Tryz.func148, Tryz.ntmps148
  go_wp2
  go_ret
  exact ⟨_, rfl, rfl, ext_alloc _ _⟩
set_option maxRecDepth 100000 in
theorem i64_args {v : Int} (h : -9223372036854775808 ≤ v ∧ v < 9223372036854775808) : RiArgs 350 (.agg #[.int .i64 v]) [(1, bits64 v)] := by
  refine ⟨147, .agg #[.int .i64 v], fun W => by kernel_rfl, fun W => by kernel_rfl, fun args W => by kernel_rfl, fun w => ?_⟩
  go_enter Tryz.func147, Tryz.ntmps147
  go_wp2
  go_ret
  rw [← argIv_i64 h]
  refine ⟨_, rfl, ?_, Ext.trans (ext_alloc _ _) (ext_alloc _ _)⟩
  have := argI_one (w := w) (W := w.alloc (.cells #[.int .i64 v] 350)) (x := (1, bits64 v)) (T := 20) (by simp) (.inr (.inl rfl))
  simpa using this
set_option maxRecDepth 100000 in
theorem eqz_op : RiOp 354 (.agg #[]) 69 := by
  refine ⟨150, .agg #[], fun W => by kernel_rfl, fun W => by kernel_rfl, fun args W => by kernel_rfl, fun w => ?_⟩
  go_enter Tryz.func150, Tryz.ntmps150
  go_wp2
  go_ret
  exact ⟨_, rfl, rfl, ext_alloc _ _⟩
theorem eqz_args : RiArgs 354 (.agg #[]) [] :=
  ⟨149, .agg #[], fun W => by kernel_rfl, fun W => by kernel_rfl, fun args W => by kernel_rfl, fun w => noArgs_calls w⟩
set_option maxRecDepth 100000 in
theorem ret_op : RiOp 364 (.agg #[]) 15 := by
  refine ⟨161, .agg #[], fun W => by kernel_rfl, fun W => by kernel_rfl, fun args W => by kernel_rfl, fun w => ?_⟩
  go_enter Tryz.func161, Tryz.ntmps161
  go_wp2
  go_ret
  exact ⟨_, rfl, rfl, ext_alloc _ _⟩
theorem ret_args : RiArgs 364 (.agg #[]) [] :=
  ⟨149, .agg #[], fun W => by kernel_rfl, fun W => by kernel_rfl, fun args W => by kernel_rfl, fun w => noArgs_calls w⟩
set_option maxRecDepth 100000 in
theorem gl_op (n : Nat) : RiOp 357 (.agg #[.int .u32 (n : Int)]) 32 := by
  refine ⟨152, .agg #[.int .u32 (n : Int)], fun W => by kernel_rfl, fun W => by kernel_rfl, fun args W => by kernel_rfl, fun w => ?_⟩
  go_enter Tryz.func152, Tryz.ntmps152
  go_wp2
  go_ret
  exact ⟨_, rfl, rfl, ext_alloc _ _⟩
set_option maxRecDepth 100000 in
theorem gl_args {n : Nat} (h : n < 4294967296) : RiArgs 357 (.agg #[.int .u32 (n : Int)]) [(2, bits64 (n : Int))] := by
  refine ⟨151, .agg #[.int .u32 (n : Int)], fun W => by kernel_rfl, fun W => by kernel_rfl, fun args W => by kernel_rfl, fun w => ?_⟩
  go_enter Tryz.func151, Tryz.ntmps151
  go_wp2
  go_ret
  rw [← argIv_u32 h]
  refine ⟨_, rfl, ?_, Ext.trans (ext_alloc _ _) (ext_alloc _ _)⟩
  have := argI_one (w := w) (W := w.alloc (.cells #[.int .u32 (n : Int)] 357)) (x := (2, bits64 (n : Int))) (T := 20) (by simp) (.inr (.inr (.inl ⟨rfl, by have := bits64_toNat (n : Int); show (bits64 _).toNat < _; omega⟩)))
  simpa using this
set_option maxRecDepth 100000 in
theorem sl_op (n : Nat) : RiOp 358 (.agg #[.int .u32 (n : Int)]) 33 := by
  refine ⟨154, .agg #[.int .u32 (n : Int)], fun W => by kernel_rfl, fun W => by kernel_rfl, fun args W => by kernel_rfl, fun w => ?_⟩
  go_enter Tryz.func154, Tryz.ntmps154
  go_wp2
  go_ret
  exact ⟨_, rfl, rfl, ext_alloc _ _⟩
set_option maxRecDepth 100000 in
theorem sl_args {n : Nat} (h : n < 4294967296) : RiArgs 358 (.agg #[.int .u32 (n : Int)]) [(2, bits64 (n : Int))] := by
  refine ⟨153, .agg #[.int .u32 (n : Int)], fun W => by kernel_rfl, fun W => by kernel_rfl, fun args W => by kernel_rfl, fun w => ?_⟩
  go_enter Tryz.func153, Tryz.ntmps153
  go_wp2
  go_ret
  rw [← argIv_u32 h]
  refine ⟨_, rfl, ?_, Ext.trans (ext_alloc _ _) (ext_alloc _ _)⟩
  have := argI_one (w := w) (W := w.alloc (.cells #[.int .u32 (n : Int)] 358)) (x := (2, bits64 (n : Int))) (T := 20) (by simp) (.inr (.inr (.inl ⟨rfl, by have := bits64_toNat (n : Int); show (bits64 _).toNat < _; omega⟩)))
  simpa using this
set_option maxRecDepth 100000 in
theorem call_op (n : Nat) : RiOp 359 (.agg #[.int .u32 (n : Int)]) 16 := by
  refine ⟨156, .agg #[.int .u32 (n : Int)], fun W => by kernel_rfl, fun W => by kernel_rfl, fun args W => by kernel_rfl, fun w => ?_⟩
  go_enter Tryz.func156, Tryz.ntmps156
  go_wp2
  go_ret
  exact ⟨_, rfl, rfl, ext_alloc _ _⟩
set_option maxRecDepth 100000 in
theorem call_args {n : Nat} (h : n < 4294967296) : RiArgs 359 (.agg #[.int .u32 (n : Int)]) [(2, bits64 (n : Int))] := by
  refine ⟨155, .agg #[.int .u32 (n : Int)], fun W => by kernel_rfl, fun W => by kernel_rfl, fun args W => by kernel_rfl, fun w => ?_⟩
  go_enter Tryz.func155, Tryz.ntmps155
  go_wp2
  go_ret
  rw [← argIv_u32 h]
  refine ⟨_, rfl, ?_, Ext.trans (ext_alloc _ _) (ext_alloc _ _)⟩
  have := argI_one (w := w) (W := w.alloc (.cells #[.int .u32 (n : Int)] 359)) (x := (2, bits64 (n : Int))) (T := 20) (by simp) (.inr (.inr (.inl ⟨rfl, by have := bits64_toNat (n : Int); show (bits64 _).toNat < _; omega⟩)))
  simpa using this
set_option maxRecDepth 100000 in
theorem brif_op (n : Nat) : RiOp 363 (.agg #[.int .u32 (n : Int)]) 13 := by
  refine ⟨160, .agg #[.int .u32 (n : Int)], fun W => by kernel_rfl, fun W => by kernel_rfl, fun args W => by kernel_rfl, fun w => ?_⟩
  go_enter Tryz.func160, Tryz.ntmps160
  go_wp2
  go_ret
  exact ⟨_, rfl, rfl, ext_alloc _ _⟩
set_option maxRecDepth 100000 in
theorem brif_args {n : Nat} (h : n < 4294967296) : RiArgs 363 (.agg #[.int .u32 (n : Int)]) [(2, bits64 (n : Int))] := by
  refine ⟨159, .agg #[.int .u32 (n : Int)], fun W => by kernel_rfl, fun W => by kernel_rfl, fun args W => by kernel_rfl, fun w => ?_⟩
  go_enter Tryz.func159, Tryz.ntmps159
  go_wp2
  go_ret
  rw [← argIv_u32 h]
  refine ⟨_, rfl, ?_, Ext.trans (ext_alloc _ _) (ext_alloc _ _)⟩
  have := argI_one (w := w) (W := w.alloc (.cells #[.int .u32 (n : Int)] 363)) (x := (2, bits64 (n : Int))) (T := 20) (by simp) (.inr (.inr (.inl ⟨rfl, by have := bits64_toNat (n : Int); show (bits64 _).toNat < _; omega⟩)))
  simpa using this
set_option maxRecDepth 100000 in
theorem ci_op (n r : Nat) : RiOp 362 (.agg #[.int .u32 (n : Int), .int .u8 (r : Int)]) 17 := by
  refine ⟨158, .agg #[.int .u32 (n : Int), .int .u8 (r : Int)], fun W => by kernel_rfl, fun W => by kernel_rfl, fun args W => by kernel_rfl, fun w => ?_⟩
  go_enter Tryz.func158, Tryz.ntmps158
  go_wp2
  go_ret
  exact ⟨_, rfl, rfl, ext_alloc _ _⟩
set_option maxRecDepth 100000 in
theorem ci_args {n r : Nat} (h : n < 4294967296) (h' : r < 256) : RiArgs 362 (.agg #[.int .u32 (n : Int), .int .u8 (r : Int)]) [(2, bits64 (n : Int)), (5, bits64 (r : Int))] := by
  refine ⟨157, .agg #[.int .u32 (n : Int), .int .u8 (r : Int)], fun W => by kernel_rfl, fun W => by kernel_rfl, fun args W => by kernel_rfl, fun w => ?_⟩
  go_enter Tryz.func157, Tryz.ntmps157
  go_wp2
  go_ret
  rw [← argIv_u32 h, ← argIv_u8 h']
  refine ⟨_, rfl, ?_, Ext.trans (ext_alloc _ _) (ext_alloc _ _)⟩
  have := argI_two (w := w) (W := w.alloc (.cells #[.int .u32 (n : Int), .int .u8 (r : Int)] 362)) (x := (2, bits64 (n : Int))) (y := (5, bits64 (r : Int))) (T := 20) (by simp) (.inr (.inr (.inl ⟨rfl, by have := bits64_toNat (n : Int); show (bits64 _).toNat < _; omega⟩))) (.inr (.inr (.inr ⟨rfl, by have := bits64_toNat (r : Int); show (bits64 _).toNat < _; omega⟩)))
  simpa using this
set_option maxRecDepth 100000 in
theorem block_op (s : Value) : RiOp 366 (.agg #[.pointer none, s]) 2 := by
  refine ⟨164, .agg #[.pointer none, s], fun W => by kernel_rfl, fun W => by kernel_rfl, fun args W => by kernel_rfl, fun w => ?_⟩
  go_enter Tryz.func164, Tryz.ntmps164
  go_wp2
  go_ret
  exact ⟨_, rfl, rfl, ext_alloc _ _⟩
theorem block_args (s : Value) : RiArgs 366 (.agg #[.pointer none, s]) [] :=
  ⟨149, .agg #[], fun W => by kernel_rfl, fun W => by kernel_rfl, fun args W => by kernel_rfl, fun w => noArgs_calls w⟩
set_option maxRecDepth 100000 in
theorem block_in (s : Value) : Answers 366 (.agg #[.pointer none, s]) "Instructions" (fun _ v _ => v = s) := by
  refine ⟨163, .agg #[.pointer none, s], fun W => by kernel_rfl, fun W => by kernel_rfl, fun args W => by kernel_rfl, fun w => ?_⟩
  go_enter Tryz.func163, Tryz.ntmps163
  go_wp2
  go_ret
  exact ⟨_, rfl, rfl, ext_alloc _ _⟩
set_option maxRecDepth 100000 in
theorem block_bt (s : Value) : Answers 366 (.agg #[.pointer none, s]) "BlockType" (fun _ v _ => v = .pointer none) := by
  refine ⟨162, .agg #[.pointer none, s], fun W => by kernel_rfl, fun W => by kernel_rfl, fun args W => by kernel_rfl, fun w => ?_⟩
  go_enter Tryz.func162, Tryz.ntmps162
  go_wp2
  go_ret
  exact ⟨_, rfl, rfl, ext_alloc _ _⟩
theorem block_si (v : Value) (W : World) : (Instr.typeAssert (.iface 366 v) 301 306 true).run Tryz.prog W = .ok (.tuple #[.iface 366 v, .bool true]) W := by kernel_rfl
set_option maxRecDepth 100000 in
theorem loop_op (s : Value) : RiOp 367 (.agg #[.pointer none, s]) 3 := by
  refine ⟨167, .agg #[.pointer none, s], fun W => by kernel_rfl, fun W => by kernel_rfl, fun args W => by kernel_rfl, fun w => ?_⟩
  go_enter Tryz.func167, Tryz.ntmps167
  go_wp2
  go_ret
  exact ⟨_, rfl, rfl, ext_alloc _ _⟩
theorem loop_args (s : Value) : RiArgs 367 (.agg #[.pointer none, s]) [] :=
  ⟨149, .agg #[], fun W => by kernel_rfl, fun W => by kernel_rfl, fun args W => by kernel_rfl, fun w => noArgs_calls w⟩
set_option maxRecDepth 100000 in
theorem loop_in (s : Value) : Answers 367 (.agg #[.pointer none, s]) "Instructions" (fun _ v _ => v = s) := by
  refine ⟨166, .agg #[.pointer none, s], fun W => by kernel_rfl, fun W => by kernel_rfl, fun args W => by kernel_rfl, fun w => ?_⟩
  go_enter Tryz.func166, Tryz.ntmps166
  go_wp2
  go_ret
  exact ⟨_, rfl, rfl, ext_alloc _ _⟩
set_option maxRecDepth 100000 in
theorem loop_bt (s : Value) : Answers 367 (.agg #[.pointer none, s]) "BlockType" (fun _ v _ => v = .pointer none) := by
  refine ⟨165, .agg #[.pointer none, s], fun W => by kernel_rfl, fun W => by kernel_rfl, fun args W => by kernel_rfl, fun w => ?_⟩
  go_enter Tryz.func165, Tryz.ntmps165
  go_wp2
  go_ret
  exact ⟨_, rfl, rfl, ext_alloc _ _⟩
theorem loop_si (v : Value) (W : World) : (Instr.typeAssert (.iface 367 v) 301 306 true).run Tryz.prog W = .ok (.tuple #[.iface 367 v, .bool true]) W := by kernel_rfl
end Go.Proofs.YtkbadfljmbeciaaGreatDoor
/- A type assertion to an interface type that fails. -/
namespace Go.Proofs.YtkbadfljmbeciaaGreatDoor
open Go.RowKit
/-- The type T lacks a method of the interface type t. -/
def lacks (P : Program) (T t : TypeId) : Bool :=
  match P.underlying t, P.info? T with
  | some (.interface want), some i => !(want.toList.filter fun x => !i.methods.any fun m => m.name == x.1 && m.sig == x.2).isEmpty
  | _, _ => false
theorem least_some {l : List String} (h : l ≠ []) : ∃ m, Instr.least l = some m := by
  cases l with
  | nil => exact absurd rfl h
  | cons a l => exact ⟨_, rfl⟩
theorem part_some (p : String → Bool) (f : String → String) {l : List String} (h : l ≠ []) : ∃ m, (Instr.least (l.partition p).2 <|> Instr.least ((l.partition p).1.map f)) = some m := by
  rw [List.partition_eq_filter_filter]
  by_cases h1 : l.filter (not ∘ p) = []
  · rw [h1]
    have h2 : l.filter p ≠ [] := by
      intro h2
      apply h
      rw [List.filter_eq_nil_iff] at h1 h2
      cases l with
      | nil => rfl
      | cons a l =>
        have a1 := h1 a (by simp)
        have a2 := h2 a (by simp)
        simp at a1 a2
        simp [a1] at a2
    exact least_some (by simpa using h2)
  · obtain ⟨m, hm⟩ := least_some h1
    exact ⟨m, by show (Instr.least (l.filter (not ∘ p)) <|> _) = _; rw [hm]; rfl⟩
theorem missing_some {want : Array (String × TypeId)} {got : Array Method} (h : (want.toList.filter fun x => !got.any fun m => m.name == x.1 && m.sig == x.2) ≠ []) : ∃ m, Instr.missingMethod want got = some m := by
  unfold Instr.missingMethod
  exact part_some _ _ (by simpa using h)
theorem ta_fails {P : Program} {T x t : TypeId} {z : Value} (h : lacks P T t = true) (hz : ∀ W, (zeroValue t).run P W = .ok z W) (v : Value) (W : World) : (Instr.typeAssert (.iface T v) x t true).run P W = .ok (.tuple #[z, .bool false]) W := by
  unfold lacks at h
  split at h
  · rename_i want i hu hi
    obtain ⟨m, hm⟩ := missing_some (by simpa using h)
    unfold Instr.typeAssert
    simp [run_underlying hu, typeInfo, hi, hm, hz]
  · cases h
end Go.Proofs.YtkbadfljmbeciaaGreatDoor
/- impl.plainArg. -/
namespace Go.Proofs.YtkbadfljmbeciaaGreatDoor
open Go.RowKit
theorem pa_int32_0 (v : Value) (W : World) : (Instr.typeAssert (.iface 21 v) 20 21 true).run Tryz.prog W = .ok (.tuple #[v, .bool true]) W := by kernel_rfl
theorem pa_int64_0 (v : Value) (W : World) : (Instr.typeAssert (.iface 2 v) 20 21 true).run Tryz.prog W = .ok (.tuple #[.int .i32 0, .bool false]) W := by kernel_rfl
theorem pa_int64_1 (v : Value) (W : World) : (Instr.typeAssert (.iface 2 v) 20 2 true).run Tryz.prog W = .ok (.tuple #[v, .bool true]) W := by kernel_rfl
theorem pa_uint32_0 (v : Value) (W : World) : (Instr.typeAssert (.iface 23 v) 20 21 true).run Tryz.prog W = .ok (.tuple #[.int .i32 0, .bool false]) W := by kernel_rfl
theorem pa_uint32_1 (v : Value) (W : World) : (Instr.typeAssert (.iface 23 v) 20 2 true).run Tryz.prog W = .ok (.tuple #[.int .i64 0, .bool false]) W := by kernel_rfl
theorem pa_uint32_2 (v : Value) (W : World) : (Instr.typeAssert (.iface 23 v) 20 23 true).run Tryz.prog W = .ok (.tuple #[v, .bool true]) W := by kernel_rfl
theorem pa_uint8_0 (v : Value) (W : World) : (Instr.typeAssert (.iface 5 v) 20 21 true).run Tryz.prog W = .ok (.tuple #[.int .i32 0, .bool false]) W := by kernel_rfl
theorem pa_uint8_1 (v : Value) (W : World) : (Instr.typeAssert (.iface 5 v) 20 2 true).run Tryz.prog W = .ok (.tuple #[.int .i64 0, .bool false]) W := by kernel_rfl
theorem pa_uint8_2 (v : Value) (W : World) : (Instr.typeAssert (.iface 5 v) 20 23 true).run Tryz.prog W = .ok (.tuple #[.int .u32 0, .bool false]) W := by kernel_rfl
theorem pa_uint8_4 (v : Value) (W : World) : (Instr.typeAssert (.iface 5 v) 20 316 true).run Tryz.prog W = .ok (.tuple #[.float .f32 0, .bool false]) W := by kernel_rfl
theorem pa_uint8_5 (v : Value) (W : World) : (Instr.typeAssert (.iface 5 v) 20 318 true).run Tryz.prog W = .ok (.tuple #[.float .f64 0, .bool false]) W := by kernel_rfl
theorem pa_uint8_6 (v : Value) (W : World) : (Instr.typeAssert (.iface 5 v) 20 5 true).run Tryz.prog W = .ok (.tuple #[v, .bool true]) W := by kernel_rfl
set_option maxRecDepth 100000 in
set_option maxHeartbeats 1000000 in
theorem plainArg_calls (a : Int × UInt64) (ha : okI a) (w : World) : Calls Tryz.prog 70 #[argIv a] w fun e w' => e = .returned (.agg #[.int .i64 a.1, .int .u64 (a.2.toNat : Int)]) ∧ Ext w w' := by
  obtain ⟨k, b⟩ := a
  have hb := b.toNat_lt
  have h00 := pa_int32_0
  have h10 := pa_int64_0
  have h11 := pa_int64_1
  have h20 := pa_uint32_0
  have h21 := pa_uint32_1
  have h22 := pa_uint32_2
  have h30 := pa_uint8_0
  have h31 := pa_uint8_1
  have h32 := pa_uint8_2
  have h34 := pa_uint8_4
  have h35 := pa_uint8_5
  have h36 := pa_uint8_6
  rcases ha with ⟨rfl, h⟩ | h | ⟨rfl, h⟩ | ⟨rfl, h⟩
  · dsimp only at h
    rw [show argIv (0, b) = .iface 21 (.int .i32 (wrap32 (b.toNat : Int))) from rfl]
    have hw : IntKind.u32.wrap (wrap32 (b.toNat : Int)) = (b.toNat : Int) := by rw [IntKind.wrap_u32]; unfold wrap32; omega
    generalize b.toNat = n at *
    go_enter Tryz.func70, Tryz.ntmps70
    go_wp2
    exact bodyPost_ret (v := .agg #[.int .i64 0, .int .u64 (n : Int)]) (by simp [results, Tryz.results70, go_sem]) rfl ⟨rfl, ext_alloc _ _⟩
  · obtain rfl : k = 1 := h
    rw [show argIv (1, b) = .iface 2 (.int .i64 (wrap64 (b.toNat : Int))) from rfl]
    have hw : IntKind.u64.wrap (wrap64 (b.toNat : Int)) = (b.toNat : Int) := by rw [IntKind.wrap_u64]; unfold wrap64; omega
    generalize b.toNat = n at *
    go_enter Tryz.func70, Tryz.ntmps70
    go_wp2
    exact bodyPost_ret (v := .agg #[.int .i64 1, .int .u64 (n : Int)]) (by simp [results, Tryz.results70, go_sem]) rfl ⟨rfl, ext_alloc _ _⟩
  · dsimp only at h
    rw [show argIv (2, b) = .iface 23 (.int .u32 (b.toNat : Int)) from rfl]
    generalize b.toNat = n at *
    go_enter Tryz.func70, Tryz.ntmps70
    go_wp2
    exact bodyPost_ret (v := .agg #[.int .i64 2, .int .u64 (n : Int)]) (by simp [results, Tryz.results70, go_sem]) rfl ⟨rfl, ext_alloc _ _⟩
  · dsimp only at h
    rw [show argIv (5, b) = .iface 5 (.int .u8 (b.toNat : Int)) from rfl]
    generalize b.toNat = n at *
    go_enter Tryz.func70, Tryz.ntmps70
    go_wp2
    exact bodyPost_ret (v := .agg #[.int .i64 5, .int .u64 (n : Int)]) (by simp [results, Tryz.results70, go_sem]) rfl ⟨rfl, ext_alloc _ _⟩
end Go.Proofs.YtkbadfljmbeciaaGreatDoor
