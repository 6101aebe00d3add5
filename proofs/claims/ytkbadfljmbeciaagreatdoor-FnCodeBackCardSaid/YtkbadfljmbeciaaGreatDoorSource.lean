/- What bytes are read from: an object behind an io.Reader; the thin package's reader. -/
import Derived.Test.YtkbadfljmbeciaaGreatDoorLibA
import Derived.Test.YtkbadfljmbeciaaGreatDoorProg
import Derived.KernelRfl
import Derived.Deep.QuietTactic
import Derived.BigQuiet
import Derived.Laws.CopyOwn
namespace Go.Proofs.YtkbadfljmbeciaaGreatDoor
open Go.RowKit
/-- The bytes, as cells. -/
def cellsOfB (l : List UInt8) : List Value := l.map fun b => Value.int .u8 (b.toNat : Int)
theorem cellsOfB_len (l : List UInt8) : (cellsOfB l).length = l.length := List.length_map _
section
variable {P : Program} {ops : Array Oper} {Q : Exit → Act → World → Prop} {o : Oper} {a : Act} {K : Act → World → Prop}
/-- copy(dst, src) of bytes: dst known whole, src read. -/
theorem copy_wp {W : World} (d s : Operand) (dT sT e : TypeId) (ho : o.op = .call { callee := .builtin .copy, args := #[d, s], argTypes := #[dT, sT] })
    (hu : P.underlying dT = some (.slice e)) (hsz : (P.info? e).map (·.size) = some 1)
    (b of m c : Nat) (cur : Array Value) (T : TypeId) (aa : Option Addr) (cap : Nat) (bs : List UInt8) {A : Nat → Prop}
    (hd : a.eval d = .slice (some ⟨b, of, none⟩) m c) (hs : a.eval s = .slice aa bs.length cap) (hb : Blk W b cur T) (hfit : of + m ≤ cur.size) (hR : Lay.u8.slice.rd A W [.slice aa bs.length cap] bs)
    (h : ∀ w1, Blk w1 b (splice cur.toList of (cellsOfB (bs.take m))).toArray T → Fr (fun k => k = b) W w1 → K (a.put o.dst (.int .i64 ((bs.take m).length : Nat))) w1) :
    o.wp P a W K Q := by
  have hn : (cellsOfB (bs.take m)).length = Nat.min bs.length m := by rw [cellsOfB_len, List.length_take, Nat.min_comm]
  by_cases h0 : (bs.take m).length = 0
  · have hrun := run_copy_none (P := P) W dT sT o.type e (some ⟨b, of, none⟩) aa m c bs.length cap hu hsz (by rw [← hn, cellsOfB_len]; exact h0)
    unfold Oper.wp
    simp [execOp, ho, resolve, invoke, builtin, hd, hs, hrun, Result.andThen]
    have := h W (by rw [List.eq_nil_of_length_eq_zero h0]; simpa [splice, cellsOfB] using hb) (Fr.refl _ _)
    rw [h0] at this
    exact this
  · obtain ⟨a', cap', e', -, -, h3⟩ := hR
    simp only [List.cons.injEq, Value.slice.injEq, and_true] at e'
    obtain ⟨rfl, -, rfl⟩ := e'
    rw [List.length_take] at h0
    obtain ⟨b', o', cur', T', fz', flat, rfl, -, hh, hall, hc⟩ := h3 (by omega)
    obtain rfl := u8_cells hall
    have hrun := run_copy_row (P := P) W dT sT o.type e b of m c ⟨b', o', none⟩ bs.length cap cur T (cellsOfB (bs.take m)) hu hsz hb hn (fun j v hj => by
        have hlt : j < (bs.take m).length := by rw [← cellsOfB_len]; exact (List.getElem?_eq_some_iff.1 hj).1
        rw [List.length_take] at hlt
        rw [addr_add, Lib.cell_of_heap hh, hc j (by simp; omega), ← hj, cellsOfB, List.getElem?_map, List.getElem?_map, List.getElem?_take, if_pos (by omega)]) (by rw [hn]; have : Nat.min bs.length m ≤ m := Nat.min_le_right _ _; omega)
      (fun u hu => by obtain ⟨x, -, rfl⟩ := List.mem_map.1 hu; rfl)
    unfold Oper.wp
    simp [execOp, ho, resolve, invoke, builtin, hd, hs, hrun, Result.andThen]
    have hset := setRow_heap W b cur (cur.toList.take of ++ cellsOfB (bs.take m) ++ cur.toList.drop (of + (cellsOfB (bs.take m)).length)).toArray T (0, 0) hb
    have := h (W.setRow b (cur.toList.take of ++ cellsOfB (bs.take m) ++ cur.toList.drop (of + (cellsOfB (bs.take m)).length)).toArray) (by unfold Blk; rw [hset]; simp [splice]) ⟨rfl, rfl, rfl, by simp [World.setRow], fun k _ hk => setRow_other W b k _ (fun e => hk e)⟩
    show K _ _
    simpa [cellsOfB_len, goInt] using this
end
/-- The address of io.EOF. -/
abbrev eofAt : Addr := ⟨2, 0, none⟩
/-- An object that holds bytes to be read: D: the blocks (beside its own) that they lie in. -/
structure Src where
  is : (Nat → Prop) → Nat → List UInt8 → World → Prop
  lt : ∀ {D g bs w}, is D g bs w → g < w.heap.size ∧ ∀ k, D k → k < w.heap.size ∧ k ≠ g
  frame : ∀ {D g bs w w' S}, is D g bs w → Fr S w w' → ¬ S g → (∀ k, D k → ¬ S k) → is D g bs w'
  T : TypeId
  f : FuncId
  nil : ∀ (g : Nat) (W : World), (nilAhead 496 T (.pointer (some ⟨g, 0, none⟩)) "Read").run Tryz.prog W = .ok (some false) W
  meth : ∀ (g : Nat) (W : World), (method 496 T (.pointer (some ⟨g, 0, none⟩)) "Read").run Tryz.prog W = .ok (f, .pointer (some ⟨g, 0, none⟩)) W
  call : ∀ (args : Array Value) (W : World), (callFunc f args).run Tryz.prog W = .ok (.enter f args) W
  read : ∀ (D : Nat → Prop) (g b o m c : Nat) (bs : List UInt8) (cs : Array Value) (Tb : TypeId) (w : World), is D g bs w → Blk w b cs Tb → o + m ≤ cs.size → m ≤ c → c ≤ maxLen → b ≠ g → ¬ D b → 0 < m → 0 < bs.length →
    Calls Tryz.prog f #[.pointer (some ⟨g, 0, none⟩), .slice (some ⟨b, o, none⟩) m c] w fun e w' => ∃ n : Nat, 0 < n ∧ n ≤ m ∧ n ≤ bs.length ∧ e = .returned (.tuple #[.int .i64 n, .nilIface]) ∧ is D g (bs.drop n) w' ∧
      Fr (fun k => k = g ∨ k = b) w w' ∧ Blk w' b (splice cs.toList o (cellsOfB (bs.take n))).toArray Tb
  eof : ∀ (D : Nat → Prop) (g : Nat) (p v : Value) (w : World), is D g [] w → w.cell? eofAt = some v →
    Calls Tryz.prog f #[.pointer (some ⟨g, 0, none⟩), p] w fun e w' => e = .returned (.tuple #[.int .i64 0, v]) ∧ is D g [] w' ∧ Fr (fun k => k = g) w w'

/-! ### The thin package's reader -/
def IsR (D : Nat → Prop) (g : Nat) (bs : List UInt8) (w : World) : Prop :=
  ∃ (aa : Option Addr) (cap : Nat) (pp : Option Addr) (pn pc at' : Nat) (ps : List Int), Blk w g #[.slice aa bs.length cap, .slice pp pn pc, .int .i64 at'] 159 ∧ Lay.u8.slice.rd D w [.slice aa bs.length cap] bs ∧
    Lay.int.slice.rd D w [.slice pp pn pc] ps ∧ at' + bs.length ≤ 4611686018427387904 ∧ ∀ k, D k → k < w.heap.size ∧ k ≠ g
theorem IsR.lt {D : Nat → Prop} {g : Nat} {bs : List UInt8} {w : World} (h : IsR D g bs w) : g < w.heap.size ∧ ∀ k, D k → k < w.heap.size ∧ k ≠ g := by
  obtain ⟨aa, cap, pp, pn, pc, at', ps, hb, h1, h2, h3, h4⟩ := h
  exact ⟨hb.lt, h4⟩
theorem IsR.frame {D : Nat → Prop} {g : Nat} {bs : List UInt8} {w w' : World} {S : Nat → Prop} (h : IsR D g bs w) (hf : Fr S w w') (hg : ¬ S g) (hD : ∀ k, D k → ¬ S k) : IsR D g bs w' := by
  obtain ⟨aa, cap, pp, pn, pc, at', ps, hb, h1, h2, h3, h4⟩ := h
  exact ⟨aa, cap, pp, pn, pc, at', ps, hb.fr hf hg, Lay.fr h1 hf (fun k hk => ⟨(h4 k hk).1, hD k hk⟩), Lay.fr h2 hf (fun k hk => ⟨(h4 k hk).1, hD k hk⟩), h3, fun k hk => ⟨Nat.lt_of_lt_of_le (h4 k hk).1 hf.size, (h4 k hk).2⟩⟩
set_option maxRecDepth 100000 in
set_option maxHeartbeats 400000 in
theorem reader_eof_calls (D : Nat → Prop) (g : Nat) (p v : Value) (w : World) (h : IsR D g [] w) (hv : w.cell? eofAt = some v) :
    Calls Tryz.prog 122 #[.pointer (some ⟨g, 0, none⟩), p] w fun e w' => e = .returned (.tuple #[.int .i64 0, v]) ∧ IsR D g [] w' ∧ Fr (fun k => k = g) w w' := by
  have H := Lib.hid h
  obtain ⟨aa, cap, pp, pn, pc, at', ps, hb, h1, h2, h3, h4⟩ := h
  have hc := hb.cell
  clear h1 h2 h3 h4 hb
  go_enter Tryz.func122, Tryz.ntmps122
  go_wp2
  go_quiet (fail)
  go_wp2
  go_ret2
  have hx : Ext w (w.drewN nq) := (Fr.refl _ w).drewN _
  exact ⟨rfl, IsR.frame H.out hx (fun h => h) (fun _ _ h => h), hx.to⟩
theorem rd_drop {D : Nat → Prop} {w : World} {aa : Option Addr} {cap n : Nat} {bs : List UInt8} (h : Lay.u8.slice.rd D w [.slice aa bs.length cap] bs) (hn : n ≤ bs.length) :
    Lay.u8.slice.rd D w [.slice (aa.map (·.add n)) (bs.drop n).length (cap - n)] (bs.drop n) := by
  obtain ⟨a', cap', e, h1, h2, h3⟩ := h
  simp only [List.cons.injEq, Value.slice.injEq, and_true] at e
  obtain ⟨rfl, -, rfl⟩ := e
  refine ⟨_, _, rfl, by rw [List.length_drop]; omega, by omega, fun hp => ?_⟩
  rw [List.length_drop] at hp
  obtain ⟨b, o, cur, T, fz, flat, rfl, hA, hh, hall, hc⟩ := h3 (by omega)
  obtain rfl := u8_cells hall
  refine ⟨b, o + n, cur, T, fz, _, by rw [Option.map_some, addr_add], hA, hh, u8_all _, fun j hj => ?_⟩
  rw [List.length_map, List.length_drop] at hj
  rw [Nat.add_assoc, hc (n + j) (by rw [List.length_map]; omega), List.getElem?_map, List.getElem?_map, List.getElem?_drop]
theorem isR_step {D : Nat → Prop} {g b n at1 : Nat} {bs : List UInt8} {w w1 : World} {aa aa' pp : Option Addr} {cap pn pc : Nat} {ps : List Int} (h1 : Lay.u8.slice.rd D w [.slice aa bs.length cap] bs) (h2 : Lay.int.slice.rd D w [.slice pp pn pc] ps) (h4 : ∀ k, D k → k < w.heap.size ∧ k ≠ g) (hD : ¬ D b)
    (hf : Fr (fun k => k = g ∨ k = b) w w1) (hb : Blk w1 g #[.slice aa' bs.length cap, .slice pp pn pc, .int .i64 at1] 159) (hn : n ≤ bs.length) (h3 : at1 + (bs.length - n) ≤ 4611686018427387904) :
    IsR D g (bs.drop n) (w1.setCell ⟨g, 0, none⟩ (.slice (aa.map (·.add n)) (bs.length - n) (cap - n))) ∧ (cap = n → IsR D g (bs.drop n) (w1.setCell ⟨g, 0, none⟩ (.slice aa (bs.length - n) 0))) := by
  have hX : ∀ v, Fr (fun k => k = g ∨ k = b) w (w1.setCell ⟨g, 0, none⟩ v) := fun v => hf.setCell (.inl (.inl rfl)) v
  have hk : ∀ k, D k → k < w.heap.size ∧ ¬ (k = g ∨ k = b) := fun k hk => ⟨(h4 k hk).1, fun e => by
    rcases e with e | rfl
    · exact (h4 k hk).2 e
    · exact hD hk⟩
  have hl := List.length_drop (l := bs) (i := n)
  refine ⟨⟨_, cap - n, pp, pn, pc, at1, ps, ?_, Lay.fr (rd_drop h1 hn) (hX _) hk, Lay.fr h2 (hX _) hk, by omega, fun k hk' => ⟨Nat.lt_of_lt_of_le (h4 k hk').1 (hX _).size, (h4 k hk').2⟩⟩,
    fun hc => ⟨aa, 0, pp, pn, pc, at1, ps, ?_, ?_, Lay.fr h2 (hX _) hk, by omega, fun k hk' => ⟨Nat.lt_of_lt_of_le (h4 k hk').1 (hX _).size, (h4 k hk').2⟩⟩⟩
  · have := hb.set 0 (.slice (aa.map (·.add n)) (bs.length - n) (cap - n))
    rw [hl]; simpa using this
  · have := hb.set 0 (.slice aa (bs.length - n) 0)
    rw [hl]; simpa using this
  · obtain ⟨_, _, e, h5, _⟩ := h1
    simp only [List.cons.injEq, Value.slice.injEq, and_true] at e
    obtain ⟨-, -, rfl⟩ := e
    have h0 : (bs.drop n).length = 0 := by omega
    exact ⟨aa, 0, rfl, by omega, by decide, fun hp => by omega⟩
set_option maxRecDepth 100000 in
set_option maxHeartbeats 1000000 in
theorem reader_Read_calls (D : Nat → Prop) (g b o m c : Nat) (bs : List UInt8) (cs : Array Value) (Tb : TypeId) (w : World) (h : IsR D g bs w) (hB : Blk w b cs Tb) (hfit : o + m ≤ cs.size) (hmc : m ≤ c) (hcm : c ≤ maxLen) (hne : b ≠ g) (hD : ¬ D b) (hm : 0 < m) (hbs : 0 < bs.length) :
    Calls Tryz.prog 122 #[.pointer (some ⟨g, 0, none⟩), .slice (some ⟨b, o, none⟩) m c] w fun e w' => ∃ n : Nat, 0 < n ∧ n ≤ m ∧ n ≤ bs.length ∧ e = .returned (.tuple #[.int .i64 n, .nilIface]) ∧ IsR D g (bs.drop n) w' ∧
      Fr (fun k => k = g ∨ k = b) w w' ∧ Blk w' b (splice cs.toList o (cellsOfB (bs.take n))).toArray Tb := by
  obtain ⟨aa, cap, pp, pn, pc, at', ps, hb, h1, h2, h3, h4⟩ := h
  have hc := hb.cell
  have hf := hb.frz
  have hcm' : (c : Int) ≤ 9223372036854775807 := by simp only [maxLen] at hcm; omega
  by_cases hpn : pn = 0
  · subst hpn
    have H := Lib.hid (And.intro hb (And.intro h1 (And.intro h2 (And.intro h3 (And.intro h4 (And.intro hB (And.intro hfit (And.intro hne hD))))))))
    have d0 : decide ((0:Int) = (bs.length : Int)) = false := by rw [decide_eq_false_iff_not]; omega
    clear hb h1 h2 h3 h4 hB hfit hne hD
    go_enter Tryz.func122, Tryz.ntmps122
    go_wp2_with fail
    refine region_items (frFrm (fun k => k = b)) [(0, .take), (1, .take), (2, .take), (3, .take), (4, .take), (5, .take), (6, .take), (7, .last), (8, .take)] (by kernel_rfl) (by kernel_rfl) ?_
    simp only [itemsOf, List.getD_cons_zero, List.getD_cons_succ]
    have HC : Hid (∀ W', Fr (fun k => k = b) w.drew W' → ∀ j, W'.cell? ⟨g, j, none⟩ = (#[Value.slice aa bs.length cap, .slice pp 0 pc, .int .i64 at'] : Array Value)[j]?) := fun W' hE => (H.out.1.fr ((ext_drew w).fr hE) (fun e => H.out.2.2.2.2.2.2.2.1 e.symm)).cell
    repeat (apply item_take; rfl; rfl; rfl; rfl; exact fun _ _ _ _ h => h; (intro W hE K hK; have q := HC.out W hE; go_simp; exact hK))
    have hB1 := Lib.hid ((H.out.2.2.2.2.2.1).ext (ext_drew w))
    apply item_last; rfl; intro K hK
    refine copy_wp (.tmp 50) (.tmp 54) 43 43 5 rfl Tryz.underlying43 (by kernel_rfl) b o m c cs Tb aa cap bs rfl rfl hB1.out H.out.2.2.2.2.2.2.1 (Lay.fr H.out.2.1 (ext_drew w) (fun k hk => ⟨(H.out.2.2.2.2.1 k hk).1, fun h => h⟩)) ?_
    intro w1 hB2 hF2
    refine hK _ _ ?_
    have H2 := Lib.hid (And.intro hB2 ((ext_drew w).fr hF2))
    have hn1 : (bs.take m).length ≤ m := by rw [List.length_take]; omega
    have hn2 : (bs.take m).length ≤ bs.length := by rw [List.length_take]; omega
    have hn3 : 0 < (bs.take m).length := by rw [List.length_take]; omega
    have hn4 : Hid (bs.take m = bs.take (bs.take m).length) := by show _ = _; rw [List.length_take]; rcases Nat.le_total m bs.length with h | h; rw [Nat.min_eq_left h]; rw [Nat.min_eq_right h, List.take_of_length_le h, List.take_length]
    have hlc : bs.length ≤ cap ∧ cap ≤ maxLen := by obtain ⟨_, _, e, h1, h2, _⟩ := H.out.2.1; simp only [List.cons.injEq, Value.slice.injEq, and_true] at e; obtain ⟨-, -, rfl⟩ := e; exact ⟨h1, h2⟩
    have hcap : (cap : Int) ≤ 9223372036854775807 := by have := hlc.2; simp only [maxLen] at this; omega
    have hlc1 := hlc.1
    generalize (bs.take m).length = n at *
    have hbG := (H.out.1.ext (ext_drew w)).fr hF2 (fun e => H.out.2.2.2.2.2.2.2.1 e.symm)
    have hc1 := hbG.cell
    have hf1 := hbG.frz
    clear hK K hB1 hB2 hF2 HC hc hf hlc hbG
    repeat (apply item_take; rfl; rfl; rfl; rfl; exact fun _ _ _ _ h => h; (intro W hE K hK; go_simp; exact hK))
    apply items_done
    go_wp2_with fail
    · go_ret2
      have hbG := (H.out.1.fr H2.out.2 (fun e => H.out.2.2.2.2.2.2.2.1 e.symm))
      refine ⟨n, hn3, hn1, hn2, rfl, (isR_step H.out.2.1 H.out.2.2.1 H.out.2.2.2.2.1 H.out.2.2.2.2.2.2.2.2 (H2.out.2.mono (fun _ _ h => .inr h)) hbG hn2 (by have := H.out.2.2.2.1; omega)).2 (by omega), (H2.out.2.mono (fun _ _ h => .inr h)).setCell (.inl (.inl rfl)) _, ?_⟩
      have := H2.out.1.fr (fr_setCell w1 ⟨g, 0, none⟩ (.slice aa (bs.length - n) 0)) H.out.2.2.2.2.2.2.2.1
      rw [hn4.out] at this; exact this
    · go_ret2
      have hbG := (H.out.1.fr H2.out.2 (fun e => H.out.2.2.2.2.2.2.2.1 e.symm))
      refine ⟨n, hn3, hn1, hn2, rfl, (isR_step H.out.2.1 H.out.2.2.1 H.out.2.2.2.2.1 H.out.2.2.2.2.2.2.2.2 (H2.out.2.mono (fun _ _ h => .inr h)) hbG hn2 (by have := H.out.2.2.2.1; omega)).1, (H2.out.2.mono (fun _ _ h => .inr h)).setCell (.inl (.inl rfl)) _, ?_⟩
      have := H2.out.1.fr (fr_setCell w1 ⟨g, 0, none⟩ (.slice (aa.map (·.add n)) (bs.length - n) (cap - n))) H.out.2.2.2.2.2.2.2.1
      rw [hn4.out] at this; exact this
  · have hpl : ps.length = pn := by obtain ⟨_, _, e, _⟩ := h2; simp only [List.cons.injEq, Value.slice.injEq, and_true] at e; exact e.2.1.symm
    have hpm : pn ≤ maxLen := by obtain ⟨_, _, e, h, h', _⟩ := h2; simp only [List.cons.injEq, Value.slice.injEq, and_true] at e; omega
    have hpb : (pn : Int) ≤ 9223372036854775807 := by simp only [maxLen] at hpm; omega
    have hpos : (0 : Int) < pn := by omega
    have hlt : at' % pn < ps.length := by rw [hpl]; exact Nat.mod_lt _ (by omega)
    obtain ⟨pb, po, rfl, hpA, hpc, hp1, hp2⟩ := int_at h2 (at' % pn) hlt
    have hr : ((at' : Int).tmod (pn : Int)) = ((at' % pn : Nat) : Int) := rfl
    have hi1 : ((at' % pn : Nat) : Int) < pn := by omega
    generalize ps[at' % pn] = x at *
    generalize hai : at' % pn = ai at *
    have H := Lib.hid (And.intro hb (And.intro h1 (And.intro h2 (And.intro h3 (And.intro h4 (And.intro hB (And.intro hfit (And.intro hne hD))))))))
    have d0 : decide ((0:Int) = (bs.length : Int)) = false := by rw [decide_eq_false_iff_not]; omega
    have hat : (at' : Int) ≤ 4611686018427387904 := by omega
    clear hb h1 h2 h3 h4 hB hfit hne hD hlt hpA hpl hpm hai
    go_enter Tryz.func122, Tryz.ntmps122
    go_wp2_with fail
    go_quiet (fail)
    obtain ⟨q, hq, hq1, hq2⟩ : ∃ q : Nat, (if (if 1 < x then x else 1) < (m : Int) then if 1 < x then x else 1 else (m : Int)) = (q : Int) ∧ 0 < q ∧ q ≤ m := by
      have h : 0 < (if (if 1 < x then x else 1) < (m : Int) then if 1 < x then x else 1 else (m : Int)) ∧ (if (if 1 < x then x else 1) < (m : Int) then if 1 < x then x else 1 else (m : Int)) ≤ m := by split <;> split <;> omega
      obtain ⟨q, hq⟩ := Int.eq_ofNat_of_zero_le (Int.le_of_lt h.1)
      exact ⟨q, hq, by omega, by omega⟩
    rw [hq]
    have hw := IntKind.wrap_i64 ((at' : Int) + 1)
    have hat1 : IntKind.i64.wrap ((at' : Int) + 1) = ((at' + 1 : Nat) : Int) := by rw [hw]; omega
    clear hq hw hp1 hp2
    generalize hW0 : w.drewN nq = W0 at *
    have hX0 : Ext w W0 := by rw [← hW0]; exact (Fr.refl _ w).drewN _
    have hc0 := (H.out.1.ext hX0).cell
    have hf0 := (H.out.1.ext hX0).frz
    have HX0 := Lib.hid hX0
    clear hc hf hpc hW0 hX0
    generalize (if 1 < x then x else 1) = y at *
    have hqc : q ≤ c := Nat.le_trans hq2 hmc
    go_wp2_with fail
    have hb1 : Blk (W0.setCell ⟨g, 2, none⟩ (.int .i64 ((at' : Int) + 1))) g #[.slice aa bs.length cap, .slice (some ⟨pb, po, none⟩) pn pc, .int .i64 ((at' + 1 : Nat) : Int)] 159 := by
      have := (H.out.1.ext HX0.out).set 2 (.int .i64 ((at' : Int) + 1))
      simpa using this
    have hF1 : Fr (fun k => k = g) w (W0.setCell ⟨g, 2, none⟩ (.int .i64 ((at' : Int) + 1))) := Fr.setCell (S := fun k => k = g) (p := ⟨g, 2, none⟩) (HX0.out.to) (.inl rfl) _
    generalize W0.setCell ⟨g, 2, none⟩ (.int .i64 ((at' : Int) + 1)) = W1 at *
    have HW := Lib.hid (And.intro hb1 hF1)
    clear hb1 hF1 hc0 hf0 HX0
    refine region_items (frFrm (fun k => k = b)) [(0, .take), (1, .take), (2, .take), (3, .take), (4, .take), (5, .take), (6, .take), (7, .last), (8, .take)] (by kernel_rfl) (by kernel_rfl) ?_
    simp only [itemsOf, List.getD_cons_zero, List.getD_cons_succ]
    have HC : Hid (∀ W', Fr (fun k => k = b) W1.drew W' → ∀ j, W'.cell? ⟨g, j, none⟩ = (#[Value.slice aa bs.length cap, .slice (some ⟨pb, po, none⟩) pn pc, .int .i64 ((at' + 1 : Nat) : Int)] : Array Value)[j]?) := fun W' hE => (HW.out.1.fr ((ext_drew _).fr hE) (fun e => H.out.2.2.2.2.2.2.2.1 e.symm)).cell
    repeat (apply item_take; rfl; rfl; rfl; rfl; exact fun _ _ _ _ h => h; (intro W hE K hK; have q := HC.out W hE; go_simp; exact hK))
    have hB1 := Lib.hid ((H.out.2.2.2.2.2.1).fr (HW.out.2.drew) H.out.2.2.2.2.2.2.2.1)
    apply item_last; rfl; intro K hK
    refine copy_wp (.tmp 50) (.tmp 54) 43 43 5 rfl Tryz.underlying43 (by kernel_rfl) b o q c cs Tb aa cap bs rfl rfl hB1.out (by have := H.out.2.2.2.2.2.2.1; omega) (Lay.fr H.out.2.1 (HW.out.2.drew) (fun k hk => H.out.2.2.2.2.1 k hk)) ?_
    intro w1 hB2 hF2
    refine hK _ _ ?_
    have H2 := Lib.hid (And.intro hB2 (Fr.trans HW.out.2 ((ext_drew W1).fr hF2) (U := fun k => k = g ∨ k = b) (fun _ _ h => .inl h) (fun _ _ h => .inr h)))
    have hn1 : (bs.take q).length ≤ m := by rw [List.length_take]; omega
    have hn2 : (bs.take q).length ≤ bs.length := by rw [List.length_take]; omega
    have hn3 : 0 < (bs.take q).length := by rw [List.length_take]; omega
    have hn4 : Hid (bs.take q = bs.take (bs.take q).length) := by show _ = _; rw [List.length_take]; rcases Nat.le_total q bs.length with h | h; rw [Nat.min_eq_left h]; rw [Nat.min_eq_right h, List.take_of_length_le h, List.take_length]
    have hlc : bs.length ≤ cap ∧ cap ≤ maxLen := by obtain ⟨_, _, e, h1, h2, _⟩ := H.out.2.1; simp only [List.cons.injEq, Value.slice.injEq, and_true] at e; obtain ⟨-, -, rfl⟩ := e; exact ⟨h1, h2⟩
    have hcap : (cap : Int) ≤ 9223372036854775807 := by have := hlc.2; simp only [maxLen] at this; omega
    have hlc1 := hlc.1
    generalize (bs.take q).length = n at *
    have hbG := HW.out.1.fr ((ext_drew W1).fr hF2) (fun e => H.out.2.2.2.2.2.2.2.1 e.symm)
    have hc1 := hbG.cell
    have hf1 := hbG.frz
    have HG := Lib.hid hbG
    clear hK K hB1 hB2 hF2 HC hlc hbG
    repeat (apply item_take; rfl; rfl; rfl; rfl; exact fun _ _ _ _ h => h; (intro W hE K hK; go_simp; exact hK))
    apply items_done
    go_wp2_with fail
    · go_ret2
      refine ⟨n, hn3, hn1, hn2, rfl, (isR_step H.out.2.1 H.out.2.2.1 H.out.2.2.2.2.1 H.out.2.2.2.2.2.2.2.2 H2.out.2 HG.out hn2 (by have := H.out.2.2.2.1; omega)).2 (by omega), H2.out.2.setCell (.inl (.inl rfl)) _, ?_⟩
      have := H2.out.1.fr (fr_setCell w1 ⟨g, 0, none⟩ (.slice aa (bs.length - n) 0)) H.out.2.2.2.2.2.2.2.1
      rw [hn4.out] at this; exact this
    · go_ret2
      refine ⟨n, hn3, hn1, hn2, rfl, (isR_step H.out.2.1 H.out.2.2.1 H.out.2.2.2.2.1 H.out.2.2.2.2.2.2.2.2 H2.out.2 HG.out hn2 (by have := H.out.2.2.2.1; omega)).1, H2.out.2.setCell (.inl (.inl rfl)) _, ?_⟩
      have := H2.out.1.fr (fr_setCell w1 ⟨g, 0, none⟩ (.slice (aa.map (·.add n)) (bs.length - n) (cap - n))) H.out.2.2.2.2.2.2.2.1
      rw [hn4.out] at this; exact this
set_option maxRecDepth 100000 in
def srcR : Src where
  is := IsR
  lt := IsR.lt
  frame := IsR.frame
  T := 157
  f := 122
  nil _ _ := by kernel_rfl
  meth _ _ := by kernel_rfl
  call _ _ := by kernel_rfl
  read := reader_Read_calls
  eof := reader_eof_calls
end Go.Proofs.YtkbadfljmbeciaaGreatDoor
