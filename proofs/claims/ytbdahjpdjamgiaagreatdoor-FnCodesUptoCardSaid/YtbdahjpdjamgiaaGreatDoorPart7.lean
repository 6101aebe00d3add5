/- Texts of this proof, one behind the other. -/
import Derived.Test.YtbdahjpdjamgiaaGreatDoorPart6
import Derived.Deep.Cut
import Derived.Deep.CutRange
import Derived.Test.YtbdahjpdjamgiaaGreatDoorPart5
/- laws.given at a module that has code entries alone (gen_modgiven.py). -/
namespace Go.Proofs.YtbdahjpdjamgiaaGreatDoor
open Go.RowKit
set_option linter.unusedSimpArgs false
theorem Blk.setRow {w : World} {g : Nat} {cs : Array Value} {T : TypeId} (h : Blk w g cs T) (cs' : Array Value) : Blk (w.setRow g cs') g cs' T := setRow_heap w g cs cs' T (0, 0) h
theorem fr_setRow (w : World) (g : Nat) (cs : Array Value) : Fr (fun k => k = g) w (w.setRow g cs) := ⟨rfl, rfl, rfl, by rw [World.setRow, Array.size_modify]; omega, fun k _ hk => setRow_other w g k _ (fun e => hk e)⟩
/-- All cells of a block, stored at once. -/
theorem Blk.store {P : Program} {w : World} {g : Nat} {cs : Array Value} {T : TypeId} (h : Blk w g cs T) (l : List Value) (hn : l.length = cs.size) (h1 : ∀ v ∈ l, v.oneCell' = true) : (storeCells ⟨g, 0, none⟩ l 0).run P w = .ok () (w.setRow g l.toArray) := by
  have := run_storeCells_from (P := P) g T l 0 cs w h (by omega) h1
  simpa using this
section
variable {P : Program} {ops : Array Oper} {rest : List Oper} {o : Oper} {a : Act} {Q : Exit → Act → World → Prop}
/-- A struct or array, loaded whole. -/
theorem Blk.wpList_load {w : World} {g : Nat} {cs : Array Value} {T : TypeId} (hB : Blk w g cs T) (hgd : o.guard = none) (ty : TypeId) (x : Operand) (ho : o.op = .load ty x) (hx : a.eval x = .pointer (some ⟨g, 0, none⟩)) (d : TypeDesc)
    (hu : P.underlying ty = some d) (hd : d.isRow = true) (hi : (P.info? ty).map (·.size) = some cs.size) (h : wpList P ops Q rest (a.put o.dst (.agg cs)) w) : wpList P ops Q (o :: rest) a w :=
  wpList_load_mid hgd ty x ho g 0 hx cs.toList d (fun j v hv => by rw [Nat.zero_add, hB.cell j]; simpa using hv) hu hd (by simpa using hi) h
/-- Stored whole. -/
theorem Blk.wpList_store {w : World} {g : Nat} {cs cs' : Array Value} {T : TypeId} (hB : Blk w g cs T) (hgd : o.guard = none) (ty : TypeId) (x y : Operand) (ho : o.op = .store ty x y) (hx : a.eval x = .pointer (some ⟨g, 0, none⟩)) (hy : a.eval y = .agg cs')
    (hi : (P.info? ty).map (·.size) = some cs'.size) (hs : cs.size = cs'.size) (h1 : cs'.toList.all (·.oneCell') = true) (h : wpList P ops Q rest (a.put o.dst undef) (w.setRow g cs')) : wpList P ops Q (o :: rest) a w :=
  wpList_plain hgd fun _ hK => by
    unfold Oper.wp execOp
    simp only [ho, hx, hy, Instr.storeAt, Instr.sureAddr, Sem.run_bind, Sem.run_pure, Result.andThen_ok, run_storeVar_row (P := P) w g T ty cs cs' hB hi hs (by rw [← Array.all_toList]; exact h1)]
    exact hK _ _ h
end
set_option maxRecDepth 100000 in
set_option maxHeartbeats 4000000 in
theorem given0_calls (aa : Option Addr) (n c : Nat) (w : World) :
    Calls Tryz.prog 10 #[modC (.slice aa n c)] w fun e w' => e = .returned (modC (.slice aa n c)) ∧ Ext w w' := by
  unfold modC
  go_enter Tryz.func10, Tryz.ntmps10
  go_wp2_with fail
  have hB0 := ((blk_new w #[.int .u32 0, .bool false, .int .u32 0, .slice none 0 0, .slice none 0 0, .slice none 0 0, .slice none 0 0, .slice none 0 0, .slice none 0 0, .slice none 0 0, .slice none 0 0, .slice aa n c, .slice none 0 0, .slice none 0 0, .string ⟨#[]⟩, .slice none 0 0, .slice none 0 0] 36).ext (ext_alloc _ (.cells #[.int .u32 0, .bool false, .int .u32 0, .slice none 0 0, .slice none 0 0, .slice none 0 0, .slice none 0 0, .slice none 0 0, .slice none 0 0, .slice none 0 0, .slice none 0 0, .slice none 0 0, .slice none 0 0, .slice none 0 0, .string ⟨#[]⟩, .slice none 0 0, .slice none 0 0] 61))).ext (ext_alloc _ (.cells #[.int .u32 0, .bool false, .int .u32 0, .slice none 0 0, .slice none 0 0, .slice none 0 0, .slice none 0 0, .slice none 0 0, .slice none 0 0, .slice none 0 0, .slice none 0 0, .slice aa n c, .slice none 0 0, .slice none 0 0, .string ⟨#[]⟩, .slice none 0 0, .slice none 0 0] 61))
  have hB1 := (blk_new (w.alloc (.cells #[.int .u32 0, .bool false, .int .u32 0, .slice none 0 0, .slice none 0 0, .slice none 0 0, .slice none 0 0, .slice none 0 0, .slice none 0 0, .slice none 0 0, .slice none 0 0, .slice aa n c, .slice none 0 0, .slice none 0 0, .string ⟨#[]⟩, .slice none 0 0, .slice none 0 0] 36)) #[.int .u32 0, .bool false, .int .u32 0, .slice none 0 0, .slice none 0 0, .slice none 0 0, .slice none 0 0, .slice none 0 0, .slice none 0 0, .slice none 0 0, .slice none 0 0, .slice none 0 0, .slice none 0 0, .slice none 0 0, .string ⟨#[]⟩, .slice none 0 0, .slice none 0 0] 61).ext (ext_alloc _ (.cells #[.int .u32 0, .bool false, .int .u32 0, .slice none 0 0, .slice none 0 0, .slice none 0 0, .slice none 0 0, .slice none 0 0, .slice none 0 0, .slice none 0 0, .slice none 0 0, .slice aa n c, .slice none 0 0, .slice none 0 0, .string ⟨#[]⟩, .slice none 0 0, .slice none 0 0] 61))
  have hB2 := blk_new ((w.alloc (.cells #[.int .u32 0, .bool false, .int .u32 0, .slice none 0 0, .slice none 0 0, .slice none 0 0, .slice none 0 0, .slice none 0 0, .slice none 0 0, .slice none 0 0, .slice none 0 0, .slice aa n c, .slice none 0 0, .slice none 0 0, .string ⟨#[]⟩, .slice none 0 0, .slice none 0 0] 36)).alloc (.cells #[.int .u32 0, .bool false, .int .u32 0, .slice none 0 0, .slice none 0 0, .slice none 0 0, .slice none 0 0, .slice none 0 0, .slice none 0 0, .slice none 0 0, .slice none 0 0, .slice none 0 0, .slice none 0 0, .slice none 0 0, .string ⟨#[]⟩, .slice none 0 0, .slice none 0 0] 61)) #[.int .u32 0, .bool false, .int .u32 0, .slice none 0 0, .slice none 0 0, .slice none 0 0, .slice none 0 0, .slice none 0 0, .slice none 0 0, .slice none 0 0, .slice none 0 0, .slice aa n c, .slice none 0 0, .slice none 0 0, .string ⟨#[]⟩, .slice none 0 0, .slice none 0 0] 61
  have hX := (Fr.alloc (Fr.alloc (ext_alloc w (.cells #[.int .u32 0, .bool false, .int .u32 0, .slice none 0 0, .slice none 0 0, .slice none 0 0, .slice none 0 0, .slice none 0 0, .slice none 0 0, .slice none 0 0, .slice none 0 0, .slice aa n c, .slice none 0 0, .slice none 0 0, .string ⟨#[]⟩, .slice none 0 0, .slice none 0 0] 36)) (.cells #[.int .u32 0, .bool false, .int .u32 0, .slice none 0 0, .slice none 0 0, .slice none 0 0, .slice none 0 0, .slice none 0 0, .slice none 0 0, .slice none 0 0, .slice none 0 0, .slice none 0 0, .slice none 0 0, .slice none 0 0, .string ⟨#[]⟩, .slice none 0 0, .slice none 0 0] 61)) (.cells #[.int .u32 0, .bool false, .int .u32 0, .slice none 0 0, .slice none 0 0, .slice none 0 0, .slice none 0 0, .slice none 0 0, .slice none 0 0, .slice none 0 0, .slice none 0 0, .slice aa n c, .slice none 0 0, .slice none 0 0, .string ⟨#[]⟩, .slice none 0 0, .slice none 0 0] 61))
  generalize (((w.alloc (.cells #[.int .u32 0, .bool false, .int .u32 0, .slice none 0 0, .slice none 0 0, .slice none 0 0, .slice none 0 0, .slice none 0 0, .slice none 0 0, .slice none 0 0, .slice none 0 0, .slice aa n c, .slice none 0 0, .slice none 0 0, .string ⟨#[]⟩, .slice none 0 0, .slice none 0 0] 36)).alloc (.cells #[.int .u32 0, .bool false, .int .u32 0, .slice none 0 0, .slice none 0 0, .slice none 0 0, .slice none 0 0, .slice none 0 0, .slice none 0 0, .slice none 0 0, .slice none 0 0, .slice none 0 0, .slice none 0 0, .slice none 0 0, .string ⟨#[]⟩, .slice none 0 0, .slice none 0 0] 61)).alloc (.cells #[.int .u32 0, .bool false, .int .u32 0, .slice none 0 0, .slice none 0 0, .slice none 0 0, .slice none 0 0, .slice none 0 0, .slice none 0 0, .slice none 0 0, .slice none 0 0, .slice aa n c, .slice none 0 0, .slice none 0 0, .string ⟨#[]⟩, .slice none 0 0, .slice none 0 0] 61)) = W3 at *
  rw [show (w.alloc (.cells #[.int .u32 0, .bool false, .int .u32 0, .slice none 0 0, .slice none 0 0, .slice none 0 0, .slice none 0 0, .slice none 0 0, .slice none 0 0, .slice none 0 0, .slice none 0 0, .slice aa n c, .slice none 0 0, .slice none 0 0, .string ⟨#[]⟩, .slice none 0 0, .slice none 0 0] 36)).heap.size = w.heap.size + 1 by simp] at hB1
  rw [show ((w.alloc (.cells #[.int .u32 0, .bool false, .int .u32 0, .slice none 0 0, .slice none 0 0, .slice none 0 0, .slice none 0 0, .slice none 0 0, .slice none 0 0, .slice none 0 0, .slice none 0 0, .slice aa n c, .slice none 0 0, .slice none 0 0, .string ⟨#[]⟩, .slice none 0 0, .slice none 0 0] 36)).alloc (.cells #[.int .u32 0, .bool false, .int .u32 0, .slice none 0 0, .slice none 0 0, .slice none 0 0, .slice none 0 0, .slice none 0 0, .slice none 0 0, .slice none 0 0, .slice none 0 0, .slice none 0 0, .slice none 0 0, .slice none 0 0, .string ⟨#[]⟩, .slice none 0 0, .slice none 0 0] 61)).heap.size = w.heap.size + 1 + 1 by simp] at hB2
  have HB := Lib.hid (And.intro hB0 (And.intro hB1 (And.intro hB2 hX)))
  have hc0 := hB0.cell
  clear hB0 hB1 hB2 hX
  refine wp_loop_rounds 1 ?_
  rw [rounds_succ]
  go_wp2_with fail
  refine wp_loop_rounds 1 ?_
  rw [rounds_succ]
  go_wp2_with fail
  refine wp_loop_rounds 1 ?_
  rw [rounds_succ]
  go_wp2_with fail
  refine wp_loop_rounds 1 ?_
  rw [rounds_succ]
  go_wp2_with fail
  refine wp_loop_rounds 1 ?_
  rw [rounds_succ]
  go_wp2_with fail
  refine wp_loop_rounds 1 ?_
  rw [rounds_succ]
  go_wp2_with fail
  refine wp_loop_rounds 1 ?_
  rw [rounds_succ]
  go_wp2_with fail
  refine wp_loop_rounds 1 ?_
  rw [rounds_succ]
  go_wp2_with fail
  refine wp_loop_rounds 1 ?_
  rw [rounds_succ]
  go_wp2_with fail
  refine wp_loop_rounds 1 ?_
  rw [rounds_succ]
  go_wp2_with fail
  refine wp_loop_rounds 1 ?_
  rw [rounds_succ]
  clear hc0
  go_upto_region 57 with fail
  refine wp_region_lit ?_
  refine HB.out.2.2.1.wpList_load rfl 61 (.tmp 3) rfl rfl _ Tryz.underlying61 rfl (by kernel_rfl) ?_
  refine HB.out.2.1.wpList_store rfl 61 (.tmp 2) (.tmp 257) rfl rfl rfl (by kernel_rfl) rfl rfl ?_
  refine wpList_nil ?_
  go_wp2
  have hbl := (HB.out.2.1.setRow #[.int .u32 0, .bool false, .int .u32 0, .slice none 0 0, .slice none 0 0, .slice none 0 0, .slice none 0 0, .slice none 0 0, .slice none 0 0, .slice none 0 0, .slice none 0 0, .slice aa n c, .slice none 0 0, .slice none 0 0, .string ⟨#[]⟩, .slice none 0 0, .slice none 0 0]).cell
  exact bodyPost_ret (v := .agg #[.int .u32 0, .bool false, .int .u32 0, .slice none 0 0, .slice none 0 0, .slice none 0 0, .slice none 0 0, .slice none 0 0, .slice none 0 0, .slice none 0 0, .slice none 0 0, .slice aa n c, .slice none 0 0, .slice none 0 0, .string ⟨#[]⟩, .slice none 0 0, .slice none 0 0]) (by simp [results, Tryz.results10, go_sem, hbl]) rfl ⟨rfl, Fr.new (Ext.fr HB.out.2.2.2 (fr_setRow _ _ _)) (fun k e => by have e' : k = w.heap.size + 1 := e; omega)⟩
end Go.Proofs.YtbdahjpdjamgiaaGreatDoor
/- Rows of elements as rows of bare cells: what an element leads to is told apart from the row. No program here. -/
namespace Go.Proofs.YtbdahjpdjamgiaaGreatDoor
open Go.RowKit
namespace Lay
variable {α : Type}
/-- n cells, whatever they lead to. -/
def raw (n : Nat) : Lay (List Value) where
  size := n
  rd _ _ cs x := cs = x ∧ x.length = n ∧ ∀ u ∈ x, u.oneCell' = true
  len h := by rw [h.1]; exact h.2.1
  one h := by rw [h.1]; exact h.2.2
  frame h _ := h
  mono h _ := h
theorem flat_raw (n : Nat) : (raw n).flat := fun h => h
/-- Elements and their cells. -/
def zip (l : Lay α) (A : Nat → Prop) (w : World) : List (List Value) → List α → Prop
  | [], [] => True
  | c :: cs, x :: xs => l.rd A w c x ∧ zip l A w cs xs
  | _, _ => False
theorem zip_len {l : Lay α} {A : Nat → Prop} {w : World} : ∀ {cs : List (List Value)} {xs : List α}, l.zip A w cs xs → cs.length = xs.length
  | [], [], _ => rfl
  | _ :: cs, _ :: xs, h => by rw [List.length_cons, List.length_cons, zip_len h.2]
  | [], _ :: _, h => h.elim
  | _ :: _, [], h => h.elim
theorem zip_at {l : Lay α} {A : Nat → Prop} {w : World} : ∀ {cs : List (List Value)} {xs : List α}, l.zip A w cs xs → ∀ (i : Nat) (h1 : i < cs.length) (h2 : i < xs.length), l.rd A w cs[i] xs[i]
  | _ :: _, _ :: _, h, 0, _, _ => h.1
  | _ :: cs, _ :: xs, h, i + 1, h1, h2 => zip_at h.2 i (by simpa using h1) (by simpa using h2)
  | [], [], _, _, h1, _ => absurd h1 (by simp)
theorem zip_frame {l : Lay α} {A : Nat → Prop} {w w' : World} (hf : ∀ k, A k → w'.heap[k]? = w.heap[k]?) : ∀ {cs : List (List Value)} {xs : List α}, l.zip A w cs xs → l.zip A w' cs xs
  | [], [], h => h
  | _ :: _, _ :: _, h => ⟨l.frame h.1 hf, zip_frame hf h.2⟩
  | [], _ :: _, h => h.elim
  | _ :: _, [], h => h.elim
theorem zip_fr {l : Lay α} {A S : Nat → Prop} {w w' : World} {cs : List (List Value)} {xs : List α} (h : l.zip A w cs xs) (hf : Fr S w w') (ha : ∀ k, A k → k < w.heap.size ∧ ¬ S k) : l.zip A w' cs xs :=
  zip_frame (fun k hk => hf.block k (ha k hk).1 (ha k hk).2) h
theorem zip_mono {l : Lay α} {A A' : Nat → Prop} {w : World} (hf : ∀ k, A k → A' k) : ∀ {cs : List (List Value)} {xs : List α}, l.zip A w cs xs → l.zip A' w cs xs
  | [], [], h => h
  | _ :: _, _ :: _, h => ⟨l.mono h.1 hf, zip_mono hf h.2⟩
  | [], _ :: _, h => h.elim
  | _ :: _, [], h => h.elim
theorem zip_append {l : Lay α} {A : Nat → Prop} {w : World} : ∀ {cs : List (List Value)} {xs : List α} {c : List Value} {x : α}, l.zip A w cs xs → l.rd A w c x → l.zip A w (cs ++ [c]) (xs ++ [x])
  | [], [], _, _, _, k => ⟨k, trivial⟩
  | _ :: _, _ :: _, _, _, h, k => ⟨h.1, zip_append h.2 k⟩
  | [], _ :: _, _, _, h, _ => h.elim
  | _ :: _, [], _, _, h, _ => h.elim
theorem zip_imp {β : Type} {l : Lay α} {m : Lay β} {A A' : Nat → Prop} {w w' : World} {f : α → β} (hf : ∀ c x, l.rd A w c x → m.rd A' w' c (f x)) : ∀ {cs : List (List Value)} {xs : List α}, l.zip A w cs xs → m.zip A' w' cs (xs.map f)
  | [], [], h => h
  | _ :: _, _ :: _, h => ⟨hf _ _ h.1, zip_imp hf h.2⟩
  | [], _ :: _, h => h.elim
  | _ :: _, [], h => h.elim
theorem all_raw {l : Lay α} {A : Nat → Prop} {w : World} : ∀ {xs : List α} {cs : List Value}, l.all A w cs xs → ∃ rs, (raw l.size).all A w cs rs ∧ l.zip A w rs xs
  | [], cs, h => ⟨[], h, trivial⟩
  | x :: xs, _, h => by
    obtain ⟨c, d, rfl, h1, h2⟩ := h
    obtain ⟨rs, k1, k2⟩ := all_raw h2
    exact ⟨c :: rs, ⟨c, d, rfl, ⟨rfl, l.len h1, l.one h1⟩, k1⟩, h1, k2⟩
theorem raw_all {l : Lay α} {A B : Nat → Prop} {w w' : World} : ∀ {rs : List (List Value)} {xs : List α} {cs : List Value}, (raw l.size).all B w' cs rs → l.zip A w rs xs → l.all A w cs xs
  | [], [], _, h, _ => h
  | _ :: _, _ :: _, _, ⟨c, d, e, h, h2⟩, k => ⟨c, d, e, by rw [h.1]; exact k.1, raw_all h2 k.2⟩
  | [], _ :: _, _, _, k => k.elim
  | _ :: _, [], _, _, k => k.elim
theorem slice_raw {l : Lay α} {A : Nat → Prop} {w : World} {cs : List Value} {xs : List α} (h : l.slice.rd A w cs xs) : ∃ rs, (raw l.size).slice.rd A w cs rs ∧ l.zip A w rs xs := by
  obtain ⟨a, cap, e, h1, h2, h3⟩ := h
  rcases Nat.eq_zero_or_pos xs.length with h0 | h0
  · have : xs = [] := List.eq_nil_of_length_eq_zero h0
    subst this
    exact ⟨[], ⟨a, cap, e, h1, h2, fun h => absurd h (by simp)⟩, trivial⟩
  · obtain ⟨b, o, cur, T, fz, flat, e', hA, hh, hall, hc⟩ := h3 h0
    obtain ⟨rs, k1, k2⟩ := all_raw hall
    have hl := zip_len k2
    exact ⟨rs, ⟨a, cap, by rw [hl]; exact e, by omega, h2, fun _ => ⟨b, o, cur, T, fz, flat, e', hA, hh, k1, hc⟩⟩, k2⟩
theorem raw_slice {l : Lay α} {A : Nat → Prop} {w : World} {cs : List Value} {rs : List (List Value)} {xs : List α} (h : (raw l.size).slice.rd A w cs rs) (k : l.zip A w rs xs) : l.slice.rd A w cs xs := by
  obtain ⟨a, cap, e, h1, h2, h3⟩ := h
  have hl := zip_len k
  refine ⟨a, cap, by rw [← hl]; exact e, by omega, h2, fun h0 => ?_⟩
  obtain ⟨b, o, cur, T, fz, flat, e', hA, hh, hall, hc⟩ := h3 (by omega)
  exact ⟨b, o, cur, T, fz, flat, e', hA, hh, raw_all hall k, hc⟩
end Lay
end Go.Proofs.YtbdahjpdjamgiaaGreatDoor
/- impl.built at a module that has code entries alone (gen_modbuilt.py). -/
namespace Go.Proofs.YtbdahjpdjamgiaaGreatDoor
open Go.RowKit
set_option linter.unusedSimpArgs false
theorem infoSeg : (Tryz.prog.info? 197).map (fun i => (i.zero, i.size, i.bytes)) = some (some (.agg #[.slice none 0 0]), (Lay.raw 1).size, 24) := by kernel_rfl
/-- The package's module, with code segments alone. -/
abbrev builtC (v : Value) : Array Value := #[.int .u32 0, .pointer none, .slice none 0 0, .slice none 0 0, .slice none 0 0, .slice none 0 0, .slice none 0 0, .slice none 0 0, .slice none 0 0, .slice none 0 0, v, .slice none 0 0, .slice none 0 0, .string ⟨#[]⟩, .slice none 0 0, .slice none 0 0]
set_option maxRecDepth 100000 in
set_option maxHeartbeats 4000000 in
theorem built0_calls (cs : List (List UInt8)) (aa : Option Addr) (n c : Nat) (A : Nat → Prop) (w : World) (h : Lay.u8.slice.slice.rd A w [.slice aa n c] cs) (hA : ∀ k, A k → k < w.heap.size) (hl : cs.length ≤ 1048576) :
    Calls Tryz.prog 26 #[modC (.slice aa n c)] w fun e w' => ∃ g a1 n1 c1, e = .returned (.pointer (some ⟨g, 0, none⟩)) ∧ Blk w' g (builtC (.slice a1 n1 c1)) 195 ∧ Lay.u8.slice.slice.rd (fun k => k < w'.heap.size) w' [.slice a1 n1 c1] cs ∧ Ext w w' := by
  obtain ⟨a', c', e, hlc, hcm⟩ := Lay.slice_form h
  obtain ⟨rfl, rfl, rfl⟩ : aa = a' ∧ n = cs.length ∧ c = c' := by simpa using e
  have hlen : (cs.length : Int) ≤ 9223372036854775807 := by simp only [maxLen] at hcm; omega
  obtain ⟨rs, hrs, hz⟩ := Lay.slice_raw h
  have hrl := Lib.hid (Lay.zip_len hz)
  have H := Lib.hid (And.intro hrs (And.intro hA (And.intro hl hz)))
  clear h hA hcm hlc e hl hrs hz
  unfold modC
  go_enter Tryz.func26, Tryz.ntmps26
  go_wp2_with fail
  refine wp_loop_rounds 1 ?_
  rw [rounds_succ]
  go_wp2_with fail
  refine wp_loop_rounds 1 ?_
  rw [rounds_succ]
  go_wp2_with fail
  have hB0 := (blk_new w #[.int .u32 0, .bool false, .int .u32 0, .slice none 0 0, .slice none 0 0, .slice none 0 0, .slice none 0 0, .slice none 0 0, .slice none 0 0, .slice none 0 0, .slice none 0 0, .slice aa cs.length c, .slice none 0 0, .slice none 0 0, .string ⟨#[]⟩, .slice none 0 0, .slice none 0 0] 61).ext (ext_alloc _ (.cells #[.int .u32 0, .pointer none, .slice none 0 0, .slice none 0 0, .slice none 0 0, .slice none 0 0, .slice none 0 0, .slice none 0 0, .slice none 0 0, .slice none 0 0, .slice none 0 0, .slice none 0 0, .slice none 0 0, .string ⟨#[]⟩, .slice none 0 0, .slice none 0 0] 195))
  have hB1 := blk_new (w.alloc (.cells #[.int .u32 0, .bool false, .int .u32 0, .slice none 0 0, .slice none 0 0, .slice none 0 0, .slice none 0 0, .slice none 0 0, .slice none 0 0, .slice none 0 0, .slice none 0 0, .slice aa cs.length c, .slice none 0 0, .slice none 0 0, .string ⟨#[]⟩, .slice none 0 0, .slice none 0 0] 61)) #[.int .u32 0, .pointer none, .slice none 0 0, .slice none 0 0, .slice none 0 0, .slice none 0 0, .slice none 0 0, .slice none 0 0, .slice none 0 0, .slice none 0 0, .slice none 0 0, .slice none 0 0, .slice none 0 0, .string ⟨#[]⟩, .slice none 0 0, .slice none 0 0] 195
  have hX := Fr.alloc (ext_alloc w (.cells #[.int .u32 0, .bool false, .int .u32 0, .slice none 0 0, .slice none 0 0, .slice none 0 0, .slice none 0 0, .slice none 0 0, .slice none 0 0, .slice none 0 0, .slice none 0 0, .slice aa cs.length c, .slice none 0 0, .slice none 0 0, .string ⟨#[]⟩, .slice none 0 0, .slice none 0 0] 61)) (.cells #[.int .u32 0, .pointer none, .slice none 0 0, .slice none 0 0, .slice none 0 0, .slice none 0 0, .slice none 0 0, .slice none 0 0, .slice none 0 0, .slice none 0 0, .slice none 0 0, .slice none 0 0, .slice none 0 0, .string ⟨#[]⟩, .slice none 0 0, .slice none 0 0] 195)
  rw [show (w.alloc (.cells #[.int .u32 0, .bool false, .int .u32 0, .slice none 0 0, .slice none 0 0, .slice none 0 0, .slice none 0 0, .slice none 0 0, .slice none 0 0, .slice none 0 0, .slice none 0 0, .slice aa cs.length c, .slice none 0 0, .slice none 0 0, .string ⟨#[]⟩, .slice none 0 0, .slice none 0 0] 61)).heap.size = w.heap.size + 1 by simp] at hB1
  generalize ((w.alloc (.cells #[.int .u32 0, .bool false, .int .u32 0, .slice none 0 0, .slice none 0 0, .slice none 0 0, .slice none 0 0, .slice none 0 0, .slice none 0 0, .slice none 0 0, .slice none 0 0, .slice aa cs.length c, .slice none 0 0, .slice none 0 0, .string ⟨#[]⟩, .slice none 0 0, .slice none 0 0] 61)).alloc (.cells #[.int .u32 0, .pointer none, .slice none 0 0, .slice none 0 0, .slice none 0 0, .slice none 0 0, .slice none 0 0, .slice none 0 0, .slice none 0 0, .slice none 0 0, .slice none 0 0, .slice none 0 0, .slice none 0 0, .string ⟨#[]⟩, .slice none 0 0, .slice none 0 0] 195)) = W1 at *
  have hc0 := hB0.cell
  have hc1 := hB1.cell
  have hf1 := hB1.frz
  have HB := Lib.hid (And.intro hB0 (And.intro hB1 hX))
  clear hB0 hB1 hX
  refine wp_loop_rounds 1 ?_
  rw [rounds_succ]
  go_wp2_with fail
  refine wp_loop_rounds 1 ?_
  rw [rounds_succ]
  go_wp2_with fail
  refine wp_loop_rounds 1 ?_
  rw [rounds_succ]
  go_wp2_with fail
  refine wp_loop_rounds 1 ?_
  rw [rounds_succ]
  go_wp2_with fail
  refine wp_loop_rounds 1 ?_
  rw [rounds_succ]
  go_wp2_with fail
  go_loopw [227] (fun s227 w' => ∃ (i : Nat) (va : Value), i ≤ cs.length ∧ s227 = .int .i64 i ∧ Hid (Blk w' (w.heap.size + 1) (builtC va) 195 ∧ Own (Lay.raw 1) 197 W1.heap.size w' va (rs.take i) ∧ Fr (fun k => k = w.heap.size + 1) W1 w')) (fun s227 _ => cs.length - (intOf s227).toNat)
  case atStart => exact ⟨0, _, Nat.zero_le _, rfl, HB.out.2.1, own_nil _ _ _ _, Fr.refl _ _⟩
  case round =>
    obtain ⟨i, va, hi, rfl, hV⟩ := hrel
    clear hc0 hc1 hf1
    have hx := Lib.hid (Fr.new (Ext.fr HB.out.2.2 hV.out.2.2) (fun k e => by have e' : k = w.heap.size + 1 := e; omega) : Ext w wr)
    have hB0 := HB.out.1.fr hV.out.2.2 (fun e => by have e' : w.heap.size = w.heap.size + 1 := e; omega)
    have hB1 := hV.out.1
    unfold builtC at hB1
    have hc0 := hB0.cell
    have hc1 := hB1.cell
    have hf1 := hB1.frz
    have HB0 := Lib.hid hB0
    have hg1 := hB1.lt
    have hgW := HB.out.2.1.lt
    clear hB0 hB1
    by_cases hlt : i < cs.length
    · obtain ⟨b, o, es, hi', rfl, hA1, -, hr, hc⟩ := Lay.slice_at (Lay.fr H.out.1 hx.out (fun k hk => ⟨H.out.2.1 k hk, fun h => h⟩)) i hlt
      obtain ⟨ax, kx, hxe, -, -, -⟩ := id (Lay.zip_at H.out.2.2.2 i hi' hlt)
      have htk := Lib.hid (show rs.take (i + 1) = rs.take i ++ [rs[i]] from List.take_succ_eq_append_getElem hi')
      obtain ⟨rfl, -, -⟩ := id hr
      rw [hxe] at hr hc htk
      generalize cs[i].length = nx at *
      have e0 : wr.cell? ⟨b, o + i, none⟩ = some (.slice ax nx kx) := by have := hc 0 (by decide); rw [show o + i * (Lay.raw Lay.u8.slice.size).size + 0 = o + i from by show o + i * 1 + 0 = o + i; omega] at this; exact this
      obtain ⟨va1, va2, va3, rfl⟩ := hV.out.2.1.shape
      have hr := Lib.hid hr
      clear hc hi' hxe hA1
      go_wp2_with (at_builtin; refine Hid.out ?_)
      refine own_append1n (Lay.raw 1) W1.heap.size wr.heap.size rfl rfl (.tmp 236) (.tmp 239) _ _ _ 24 rfl Tryz.underlying157 infoSeg rfl (by omega) (by decide) (.slice va1 va2 va3) (rs.take i) [.slice ax nx kx] _ rfl rfl hV.out.2.1 hr.out hV.out.2.2.size (by have := H.out.2.2.1; have := hrl.out; rw [List.length_take]; omega) ?_
      intro v1 w2 h1 h2 h3
      have hne : (Value.slice va1 va2 va3).ownBlock ≠ some (w.heap.size + 1) := fun e => by have := (hV.out.2.1.lt _ e).1; omega
      have hB2 := hV.out.1.fr h2 (fun e => hne e.symm)
      unfold builtC at hB2
      have hc2 := hB2.cell
      have hf2 := hB2.frz
      obtain ⟨vb1, vb2, vb3, rfl⟩ := h1.shape
      have hw1 := hV.out.2.2.size
      have hF2 : Fr (fun k => k = w.heap.size + 1) W1 w2 := Fr.trans hV.out.2.2 h2 (fun _ _ h => h) (fun k hk e => absurd hk (by have := (hV.out.2.1.lt k e.symm).1; omega))
      have hO2 : Own (Lay.raw 1) 197 W1.heap.size w2 (.slice vb1 vb2 vb3) (rs.take (i + 1)) := by rw [htk.out]; exact h1
      have H2 := Lib.hid (And.intro hB2 (And.intro hO2 hF2))
      clear h1 h2 h3 hB2 hO2 hF2 hc0 hc1 hf1 e0 hne
      go_wp2_with fail
      have hV2 : Hid (Blk (w2.setCell ⟨w.heap.size + 1, 10, none⟩ (.slice vb1 vb2 vb3)) (w.heap.size + 1) (builtC (.slice vb1 vb2 vb3)) 195 ∧ Own (Lay.raw 1) 197 W1.heap.size (w2.setCell ⟨w.heap.size + 1, 10, none⟩ (.slice vb1 vb2 vb3)) (.slice vb1 vb2 vb3) (rs.take (i + 1)) ∧ Fr (fun k => k = w.heap.size + 1) W1 (w2.setCell ⟨w.heap.size + 1, 10, none⟩ (.slice vb1 vb2 vb3))) := by
        refine ⟨?_, Own.only (Lay.flat_raw 1) H2.out.2.1 (fr_setCell _ _ _) (fun k' h e => by have := (H2.out.2.1.lt k' h).1; have e' : k' = w.heap.size + 1 := e; omega), H2.out.2.2.setCell (.inl rfl) _⟩
        have := H2.out.1.set 10 (.slice vb1 vb2 vb3)
        simpa using this
      clear hc2 hf2
      go_roundw
      case rel => exact ⟨i + 1, _, by omega, by go_num, hV2⟩
      case measure => simp [intOf]; omega
    · obtain rfl : i = cs.length := by omega
      obtain ⟨va1, va2, va3, rfl⟩ := hV.out.2.1.shape
      go_wp2_with fail
      refine wp_loop_rounds 1 ?_
      rw [rounds_succ]
      go_wp2_with fail
      refine wp_loop_rounds 1 ?_
      rw [rounds_succ]
      go_wp2_with fail
      refine wp_loop_rounds 1 ?_
      rw [rounds_succ]
      go_wp2_with fail
      refine wp_loop_rounds 1 ?_
      rw [rounds_succ]
      go_wp2_with fail
      go_ret
      have hs := fr_setCell wr ⟨w.heap.size + 1, 13, none⟩ (.string ⟨#[]⟩)
      have hb := hV.out.1.set 13 (.string ⟨#[]⟩)
      have ho := Own.only (Lay.flat_raw 1) hV.out.2.1 hs (fun k' h e => by have := (hV.out.2.1.lt k' h).1; have e' : k' = w.heap.size + 1 := e; omega)
      have hX := Fr.new (Ext.fr hx.out hs) (fun k e => by have e' : k = w.heap.size + 1 := e; omega)
      rw [← hrl.out, List.take_length] at ho
      refine ⟨_, va1, va2, va3, rfl, by simpa using hb, ?_, hX⟩
      have hsl := ho.slice
      exact Lay.raw_slice (Lay.mono _ hsl (fun k hk => hk.2)) (Lay.zip_mono (fun k hk => Nat.lt_of_lt_of_le (H.out.2.1 k hk) hX.size) (Lay.zip_fr H.out.2.2.2 hX (fun k hk => ⟨H.out.2.1 k hk, fun h => h⟩)))
end Go.Proofs.YtbdahjpdjamgiaaGreatDoor
