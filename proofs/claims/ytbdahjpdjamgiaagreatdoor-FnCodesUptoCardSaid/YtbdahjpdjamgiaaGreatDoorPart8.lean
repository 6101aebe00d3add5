/- Texts of this proof, one behind the other. -/
import Derived.Test.YtbdahjpdjamgiaaGreatDoorPart2
import Derived.Test.YtbdahjpdjamgiaaGreatDoorProg
import Derived.KernelRfl
import Derived.Deep.QuietTactic
import Derived.BigQuiet
import Derived.Laws.CopyOwn
import Derived.Test.YtbdahjpdjamgiaaGreatDoorPart5
/- What bytes are read from: an object behind an io.Reader. -/
namespace Go.Proofs.YtbdahjpdjamgiaaGreatDoor
open Go.RowKit
/-- The bytes, as cells. -/
def cellsOfB (l : List UInt8) : List Value := l.map fun b => Value.int .u8 (b.toNat : Int)
theorem cellsOfB_len (l : List UInt8) : (cellsOfB l).length = l.length := List.length_map _
section
variable {P : Program} {ops : Array Oper} {Q : Exit → Act → World → Prop} {o : Oper} {a : Act} {K : Act → World → Prop}
/-- copy(dst, src) of bytes: dst known whole, src read. -/
theorem copy_wp {W : World} (d s : Operand) (dT sT e : TypeId) (ho : o.op = .call { callee := .builtin .copy, args := #[d, s], argTypes := #[dT, sT] })
    (hu : P.underlying dT = some (.slice e)) (hsz : (P.info? e).map (·.size) = some 1)
    (b of m c : Nat) (cur : Array Value) (T : TypeId) (aa : Option Addr) (cap : Nat) (bs : List UInt8) {A : Nat → Prop}
    (hd : a.eval d = .slice (some ⟨b, of, none⟩) m c) (hs : a.eval s = .slice aa bs.length cap) (hb : Blk W b cur T) (hfit : of + m ≤ cur.size) (hR : Lay.u8.slice.rd A W [.slice aa bs.length cap] bs)
    (h : ∀ w1, Blk w1 b (splice cur.toList of (cellsOfB (bs.take m))).toArray T → Fr (fun k => k = b) W w1 → K (a.put o.dst (.int .i64 ((bs.take m).length : Nat))) w1) :
    o.wp P a W K Q := by
  have hn : (cellsOfB (bs.take m)).length = Nat.min bs.length m := by rw [cellsOfB_len, List.length_take, Nat.min_comm]
  by_cases h0 : (bs.take m).length = 0
  · have hrun := run_copy_none (P := P) W dT sT o.type e (some ⟨b, of, none⟩) aa m c bs.length cap hu hsz (by rw [← hn, cellsOfB_len]; exact h0)
    unfold Oper.wp
    simp [execOp, ho, resolve, invoke, builtin, hd, hs, hrun, Result.andThen]
    have := h W (by rw [List.eq_nil_of_length_eq_zero h0]; simpa [splice, cellsOfB] using hb) (Fr.refl _ _)
    rw [h0] at this
    exact this
  · obtain ⟨a', cap', e', -, -, h3⟩ := hR
    simp only [List.cons.injEq, Value.slice.injEq, and_true] at e'
    obtain ⟨rfl, -, rfl⟩ := e'
    rw [List.length_take] at h0
    obtain ⟨b', o', cur', T', fz', flat, rfl, -, hh, hall, hc⟩ := h3 (by omega)
    obtain rfl := u8_cells hall
    have hrun := run_copy_row (P := P) W dT sT o.type e b of m c ⟨b', o', none⟩ bs.length cap cur T (cellsOfB (bs.take m)) hu hsz hb hn (fun j v hj => by
        have hlt : j < (bs.take m).length := by rw [← cellsOfB_len]; exact (List.getElem?_eq_some_iff.1 hj).1
        rw [List.length_take] at hlt
        rw [addr_add, Lib.cell_of_heap hh, hc j (by simp; omega), ← hj, cellsOfB, List.getElem?_map, List.getElem?_map, List.getElem?_take, if_pos (by omega)]) (by rw [hn]; have : Nat.min bs.length m ≤ m := Nat.min_le_right _ _; omega)
      (fun u hu => by obtain ⟨x, -, rfl⟩ := List.mem_map.1 hu; rfl)
    unfold Oper.wp
    simp [execOp, ho, resolve, invoke, builtin, hd, hs, hrun, Result.andThen]
    have hset := setRow_heap W b cur (cur.toList.take of ++ cellsOfB (bs.take m) ++ cur.toList.drop (of + (cellsOfB (bs.take m)).length)).toArray T (0, 0) hb
    have := h (W.setRow b (cur.toList.take of ++ cellsOfB (bs.take m) ++ cur.toList.drop (of + (cellsOfB (bs.take m)).length)).toArray) (by unfold Blk; rw [hset]; simp [splice]) ⟨rfl, rfl, rfl, by simp [World.setRow], fun k _ hk => setRow_other W b k _ (fun e => hk e)⟩
    show K _ _
    simpa [cellsOfB_len, goInt] using this
end
/-- The address of io.EOF. -/
abbrev eofAt : Addr := ⟨2, 0, none⟩
/-- An object that holds bytes to be read: D: the blocks (beside its own) that they lie in. -/
structure Src where
  is : (Nat → Prop) → Nat → List UInt8 → World → Prop
  lt : ∀ {D g bs w}, is D g bs w → g < w.heap.size ∧ ∀ k, D k → k < w.heap.size ∧ k ≠ g
  frame : ∀ {D g bs w w' S}, is D g bs w → Fr S w w' → ¬ S g → (∀ k, D k → ¬ S k) → is D g bs w'
  T : TypeId
  f : FuncId
  nil : ∀ (g : Nat) (W : World), (nilAhead 469 T (.pointer (some ⟨g, 0, none⟩)) "Read").run Tryz.prog W = .ok (some false) W
  meth : ∀ (g : Nat) (W : World), (method 469 T (.pointer (some ⟨g, 0, none⟩)) "Read").run Tryz.prog W = .ok (f, .pointer (some ⟨g, 0, none⟩)) W
  call : ∀ (args : Array Value) (W : World), (callFunc f args).run Tryz.prog W = .ok (.enter f args) W
  read : ∀ (D : Nat → Prop) (g b o m c : Nat) (bs : List UInt8) (cs : Array Value) (Tb : TypeId) (w : World), is D g bs w → Blk w b cs Tb → o + m ≤ cs.size → m ≤ c → c ≤ maxLen → b ≠ g → ¬ D b → 0 < m → 0 < bs.length →
    Calls Tryz.prog f #[.pointer (some ⟨g, 0, none⟩), .slice (some ⟨b, o, none⟩) m c] w fun e w' => ∃ n : Nat, 0 < n ∧ n ≤ m ∧ n ≤ bs.length ∧ e = .returned (.tuple #[.int .i64 n, .nilIface]) ∧ is D g (bs.drop n) w' ∧
      Fr (fun k => k = g ∨ k = b) w w' ∧ Blk w' b (splice cs.toList o (cellsOfB (bs.take n))).toArray Tb
  eof : ∀ (D : Nat → Prop) (g : Nat) (p v : Value) (w : World), is D g [] w → w.cell? eofAt = some v →
    Calls Tryz.prog f #[.pointer (some ⟨g, 0, none⟩), p] w fun e w' => e = .returned (.tuple #[.int .i64 0, v]) ∧ is D g [] w' ∧ Fr (fun k => k = g) w w'

theorem rd_drop {D : Nat → Prop} {w : World} {aa : Option Addr} {cap n : Nat} {bs : List UInt8} (h : Lay.u8.slice.rd D w [.slice aa bs.length cap] bs) (hn : n ≤ bs.length) :
    Lay.u8.slice.rd D w [.slice (aa.map (·.add n)) (bs.drop n).length (cap - n)] (bs.drop n) := by
  obtain ⟨a', cap', e, h1, h2, h3⟩ := h
  simp only [List.cons.injEq, Value.slice.injEq, and_true] at e
  obtain ⟨rfl, -, rfl⟩ := e
  refine ⟨_, _, rfl, by rw [List.length_drop]; omega, by omega, fun hp => ?_⟩
  rw [List.length_drop] at hp
  obtain ⟨b, o, cur, T, fz, flat, rfl, hA, hh, hall, hc⟩ := h3 (by omega)
  obtain rfl := u8_cells hall
  refine ⟨b, o + n, cur, T, fz, _, by rw [Option.map_some, addr_add], hA, hh, u8_all _, fun j hj => ?_⟩
  rw [List.length_map, List.length_drop] at hj
  rw [Nat.add_assoc, hc (n + j) (by rw [List.length_map]; omega), List.getElem?_map, List.getElem?_map, List.getElem?_drop]
end Go.Proofs.YtbdahjpdjamgiaaGreatDoor
/- What is read from, once more: objects behind an io.Reader that lie in several blocks. -/
namespace Go.Proofs.YtbdahjpdjamgiaaGreatDoor
open Go.RowKit
/-- An object that holds bytes to be read: D: the blocks that they lie in; F: the blocks that reading turns. -/
structure Rdr where
  is : (Nat → Prop) → (Nat → Prop) → Nat → List UInt8 → World → Prop
  lt : ∀ {D F g bs w}, is D F g bs w → F g ∧ (∀ k, F k → k < w.heap.size) ∧ ∀ k, D k → k < w.heap.size ∧ ¬ F k
  frame : ∀ {D F g bs w w' S}, is D F g bs w → Fr S w w' → (∀ k, F k → ¬ S k) → (∀ k, D k → ¬ S k) → is D F g bs w'
  T : TypeId
  f : FuncId
  nil : ∀ (g : Nat) (W : World), (nilAhead 469 T (.pointer (some ⟨g, 0, none⟩)) "Read").run Tryz.prog W = .ok (some false) W
  meth : ∀ (g : Nat) (W : World), (method 469 T (.pointer (some ⟨g, 0, none⟩)) "Read").run Tryz.prog W = .ok (f, .pointer (some ⟨g, 0, none⟩)) W
  call : ∀ (args : Array Value) (W : World), (callFunc f args).run Tryz.prog W = .ok (.enter f args) W
  read : ∀ (D F : Nat → Prop) (g b o m c : Nat) (bs : List UInt8) (cs : Array Value) (Tb : TypeId) (w : World), is D F g bs w → Blk w b cs Tb → o + m ≤ cs.size → m ≤ c → c ≤ maxLen → ¬ F b → ¬ D b → 0 < m → 0 < bs.length →
    Calls Tryz.prog f #[.pointer (some ⟨g, 0, none⟩), .slice (some ⟨b, o, none⟩) m c] w fun e w' => ∃ n : Nat, 0 < n ∧ n ≤ m ∧ n ≤ bs.length ∧ e = .returned (.tuple #[.int .i64 n, .nilIface]) ∧ is D F g (bs.drop n) w' ∧
      Fr (fun k => F k ∨ k = b) w w' ∧ Blk w' b (splice cs.toList o (cellsOfB (bs.take n))).toArray Tb
  eof : ∀ (D F : Nat → Prop) (g b o m c : Nat) (v : Value) (w : World), is D F g [] w → w.cell? eofAt = some v → 0 < m → ¬ F eofAt.block →
    Calls Tryz.prog f #[.pointer (some ⟨g, 0, none⟩), .slice (some ⟨b, o, none⟩) m c] w fun e w' => e = .returned (.tuple #[.int .i64 0, v]) ∧ is D F g [] w' ∧ Fr F w w'
  left : Nat → World → Nat
  left_is : ∀ {D F g bs w}, is D F g bs w → left g w = bs.length
/-! ### The package's reader, which counts -/
def IsE (R : Rdr) (D F : Nat → Prop) (g : Nat) (bs : List UInt8) (w : World) : Prop :=
  ∃ (gi : Nat) (F' : Nat → Prop) (n : Int), Blk w g #[.iface R.T (.pointer (some ⟨gi, 0, none⟩)), .int .i64 n] 265 ∧ R.is D F' gi bs w ∧ ¬ F' g ∧ ¬ D g ∧ ∀ k, F k ↔ (k = g ∨ F' k)
set_option maxRecDepth 100000 in
set_option maxHeartbeats 400000 in
theorem encRead_calls (R : Rdr) (D F : Nat → Prop) (g b o m c : Nat) (bs : List UInt8) (cs : Array Value) (Tb : TypeId) (w : World) (h : IsE R D F g bs w) (hB : Blk w b cs Tb) (hfit : o + m ≤ cs.size) (hmc : m ≤ c) (hcm : c ≤ maxLen) (hF : ¬ F b) (hD : ¬ D b) (hm : 0 < m) (hbs : 0 < bs.length) :
    Calls Tryz.prog 108 #[.pointer (some ⟨g, 0, none⟩), .slice (some ⟨b, o, none⟩) m c] w fun e w' => ∃ n : Nat, 0 < n ∧ n ≤ m ∧ n ≤ bs.length ∧ e = .returned (.tuple #[.int .i64 n, .nilIface]) ∧ IsE R D F g (bs.drop n) w' ∧
      Fr (fun k => F k ∨ k = b) w w' ∧ Blk w' b (splice cs.toList o (cellsOfB (bs.take n))).toArray Tb := by
  obtain ⟨gi, F', n, hb, hi, hFg, hDg, hFF⟩ := h
  have hna := R.nil gi
  have hme := R.meth gi
  have hcf := R.call
  have hc := hb.cell
  have H := Lib.hid (And.intro hb (And.intro hi (And.intro hB (And.intro hF hFF))))
  have HC := Lib.hid (R.read D F' gi b o m c bs cs Tb w hi hB hfit hmc hcm (fun e => hF ((hFF b).2 (.inr e))) hD hm hbs)
  have hne := Lib.hid (And.intro hFg hDg)
  clear hb hi hB hfit hmc hcm hF hD hm hbs hFF hFg hDg
  go_enter Tryz.func108, Tryz.ntmps108
  go_wp2_with fail
  refine HC.out.mono ?_
  rintro e w1 ⟨q, h0, h1, h2, rfl, h4, h5, h6⟩
  have hbg : ¬ b = g := fun e => H.out.2.2.2.1 ((H.out.2.2.2.2 b).2 (.inl e))
  have hb1 := H.out.1.fr h5 (fun e => e.elim hne.out.1 (fun e => hbg e.symm))
  have hc1 := hb1.cell
  have hf1 := hb1.frz
  have H1 := Lib.hid (And.intro h0 (And.intro h1 (And.intro h2 (And.intro h4 (And.intro h5 (And.intro h6 (And.intro hb1 hbg)))))))
  clear h0 h1 h2 h4 h5 h6 hb1 hc HC hbg
  go_wp2
  go_ret2
  obtain ⟨h0, h1, h2, h4, h5, h6, hb1, hbg⟩ := H1.out
  have hs := fr_setCell w1 ⟨g, 1, none⟩ (.int .i64 (wrap64 (n + (q : Int))))
  refine ⟨q, h0, h1, h2, rfl, ⟨gi, F', wrap64 (n + (q : Int)), ?_, R.frame h4 hs (fun k hk e => by have e' : k = g := e; subst e'; exact hne.out.1 hk) (fun k hk e => by have e' : k = g := e; subst e'; exact hne.out.2 hk), hne.out.1, hne.out.2, H.out.2.2.2.2⟩, Fr.trans h5 hs (fun k _ e => e.imp (fun e => (H.out.2.2.2.2 k).2 (.inr e)) id) (fun k _ e => .inl ((H.out.2.2.2.2 k).2 (.inl e))), h6.fr hs (fun e => hbg e)⟩
  have := hb1.set 1 (.int .i64 (wrap64 (n + (q : Int))))
  simpa using this
set_option maxRecDepth 100000 in
set_option maxHeartbeats 400000 in
theorem encEof_calls (R : Rdr) (D F : Nat → Prop) (g b o m c : Nat) (v : Value) (w : World) (h : IsE R D F g [] w) (hv : w.cell? eofAt = some v) (hm : 0 < m) (hnf : ¬ F eofAt.block) :
    Calls Tryz.prog 108 #[.pointer (some ⟨g, 0, none⟩), .slice (some ⟨b, o, none⟩) m c] w fun e w' => e = .returned (.tuple #[.int .i64 0, v]) ∧ IsE R D F g [] w' ∧ Fr F w w' := by
  obtain ⟨gi, F', n, hb, hi, hFg, hDg, hFF⟩ := h
  have hna := R.nil gi
  have hme := R.meth gi
  have hcf := R.call
  have hc := hb.cell
  have H := Lib.hid (And.intro hb (And.intro hi hFF))
  have HC := Lib.hid (R.eof D F' gi b o m c v w hi hv hm (fun e => hnf ((hFF _).2 (.inr e))))
  have hne := Lib.hid (And.intro hFg hDg)
  clear hb hi hFF hFg hDg hv hm hnf
  go_enter Tryz.func108, Tryz.ntmps108
  go_wp2_with fail
  refine HC.out.mono ?_
  rintro e w1 ⟨rfl, h4, h5⟩
  have hb1 := H.out.1.fr h5 (fun e => hne.out.1 e)
  have hc1 := hb1.cell
  have hf1 := hb1.frz
  have H1 := Lib.hid (And.intro h4 (And.intro h5 hb1))
  clear h4 h5 hb1 hc HC
  go_wp2
  go_ret2
  obtain ⟨h4, h5, hb1⟩ := H1.out
  have hs := fr_setCell w1 ⟨g, 1, none⟩ (.int .i64 (wrap64 n))
  refine ⟨rfl, ⟨gi, F', wrap64 n, ?_, R.frame h4 hs (fun k hk e => by have e' : k = g := e; subst e'; exact hne.out.1 hk) (fun k hk e => by have e' : k = g := e; subst e'; exact hne.out.2 hk), hne.out.1, hne.out.2, H.out.2.2⟩, Fr.trans h5 hs (fun k _ e => (H.out.2.2 k).2 (.inr e)) (fun k _ e => (H.out.2.2 k).2 (.inl e))⟩
  have := hb1.set 1 (.int .i64 (wrap64 n))
  simpa using this
noncomputable def encR (R : Rdr) : Rdr where
  is := IsE R
  lt := fun ⟨gi, F', n, hb, hi, hFg, hDg, hFF⟩ => ⟨(hFF _).2 (.inl rfl), fun k hk => ((hFF k).1 hk).elim (fun e => e ▸ hb.lt) (fun e => (R.lt hi).2.1 k e), fun k hk => ⟨((R.lt hi).2.2 k hk).1, fun e => ((hFF k).1 e).elim (fun e => hDg (e ▸ hk)) ((R.lt hi).2.2 k hk).2⟩⟩
  frame := fun ⟨gi, F', n, hb, hi, hFg, hDg, hFF⟩ hf hF hD => ⟨gi, F', n, hb.fr hf (hF _ ((hFF _).2 (.inl rfl))), R.frame hi hf (fun k hk => hF k ((hFF k).2 (.inr hk))) hD, hFg, hDg, hFF⟩
  T := 263
  f := 108
  nil g W := by kernel_rfl
  meth g W := by kernel_rfl
  call args W := by kernel_rfl
  read D F g b o m c bs cs Tb w h hB hfit hmc hcm hF hD hm hbs := encRead_calls R D F g b o m c bs cs Tb w h hB hfit hmc hcm hF hD hm hbs
  eof D F g b o m c v w h hv hm hnf := encEof_calls R D F g b o m c v w h hv hm hnf
  left g w := match w.cell? ⟨g, 0, none⟩ with
    | some (.iface _ (.pointer (some a))) => R.left a.block w
    | _ => 0
  left_is := fun ⟨gi, F', n, hb, hi, hFg, hDg, hFF⟩ => by
    have := hb.cell 0
    simp at this
    rw [this]
    exact R.left_is hi
/-- The value of io.EOF. -/
abbrev eofV (pe : Addr) : Value := .iface 317 (.pointer (some pe))
/-- What is read from, io.EOF being what it is. -/
structure RdS (R : Rdr) (D F : Nat → Prop) (g : Nat) (pe : Addr) (bs : List UInt8) (w : World) : Prop where
  is : R.is D F g bs w
  cell : w.cell? eofAt = some (eofV pe)
  nf : ¬ F eofAt.block
  len : bs.length ≤ 140737488355328
theorem eof_frame {w w' : World} {S : Nat → Prop} {v : Value} (h : w.cell? eofAt = some v) (hf : Fr S w w') (hs : ¬ S eofAt.block) : w'.cell? eofAt = some v := hf.cell h hs
theorem RdS.step {R : Rdr} {D F : Nat → Prop} {g : Nat} {pe : Addr} {bs bs' : List UInt8} {w w' : World} {S : Nat → Prop} (h : RdS R D F g pe bs w) (hi : R.is D F g bs' w') (hf : Fr S w w') (hs : ¬ S eofAt.block) (hl : bs'.length ≤ bs.length) : RdS R D F g pe bs' w' :=
  ⟨hi, eof_frame h.cell hf hs, h.nf, Nat.le_trans hl h.len⟩
theorem RdS.fr {R : Rdr} {D F : Nat → Prop} {g : Nat} {pe : Addr} {bs : List UInt8} {w w' : World} {S : Nat → Prop} (h : RdS R D F g pe bs w) (hf : Fr S w w') (hs : ¬ S eofAt.block) (hF : ∀ k, F k → ¬ S k) (hD : ∀ k, D k → ¬ S k) : RdS R D F g pe bs w' :=
  h.step (R.frame h.is hf hF hD) hf hs (Nat.le_refl _)
theorem RdS.ext {R : Rdr} {D F : Nat → Prop} {g : Nat} {pe : Addr} {bs : List UInt8} {w w' : World} (h : RdS R D F g pe bs w) (hf : Ext w w') : RdS R D F g pe bs w' := h.fr hf (fun h => h) (fun _ _ h => h) (fun _ _ h => h)
end Go.Proofs.YtbdahjpdjamgiaaGreatDoor
/- *bytes.Buffer, read from. -/
namespace Go.Proofs.YtbdahjpdjamgiaaGreatDoor
open Go.RowKit
set_option linter.unusedSimpArgs false
/-- A buffer that holds bytes. -/
def IsBuf (D F : Nat → Prop) (g : Nat) (bs : List UInt8) (w : World) : Prop :=
  (∃ (aa : Option Addr) (al : List UInt8) (cap off : Nat) (lr : Int), Blk w g #[.slice aa al.length cap, .int .i64 off, .int .i8 lr] 260 ∧ Lay.u8.slice.rd D w [.slice aa al.length cap] al ∧ off ≤ al.length ∧ bs = al.drop off ∧ ∀ k, D k → k < w.heap.size ∧ k ≠ g) ∧ ∀ k, F k ↔ k = g
theorem IsBuf.frame {D F : Nat → Prop} {g : Nat} {bs : List UInt8} {w w' : World} {S : Nat → Prop} (h : IsBuf D F g bs w) (hf : Fr S w w') (hF : ∀ k, F k → ¬ S k) (hD : ∀ k, D k → ¬ S k) : IsBuf D F g bs w' := by
  obtain ⟨⟨aa, al, cap, off, lr, hb, h1, h2, h3, h4⟩, hFF⟩ := h
  exact ⟨⟨aa, al, cap, off, lr, hb.fr hf (hF g ((hFF g).2 rfl)), Lay.fr h1 hf (fun k hk => ⟨(h4 k hk).1, hD k hk⟩), h2, h3, fun k hk => ⟨Nat.lt_of_lt_of_le (h4 k hk).1 hf.size, (h4 k hk).2⟩⟩, hFF⟩
set_option maxRecDepth 100000 in
set_option maxHeartbeats 400000 in
theorem bufEmpty_calls (g : Nat) (aa : Option Addr) (n cap off : Nat) (lr : Int) (w : World) (h : Blk w g #[.slice aa n cap, .int .i64 off, .int .i8 lr] 260) :
    Calls Tryz.prog 105 #[.pointer (some ⟨g, 0, none⟩)] w fun e w' => e = .returned (.bool (decide (n ≤ off))) ∧ Ext w w' := by
  have hc := h.cell
  go_enter Tryz.func105, Tryz.ntmps105
  go_wp2
  go_quiet (fail)
  go_wp2
  go_ret
  exact ⟨rfl, (Fr.refl _ w).drewN _⟩
set_option maxRecDepth 100000 in
set_option maxHeartbeats 400000 in
theorem bufReset_calls (g : Nat) (aa : Option Addr) (n cap off : Nat) (lr : Int) (w : World) (h : Blk w g #[.slice aa n cap, .int .i64 off, .int .i8 lr] 260) :
    Calls Tryz.prog 103 #[.pointer (some ⟨g, 0, none⟩)] w fun e w' => e = .returned (.tuple #[]) ∧ Blk w' g #[.slice aa 0 cap, .int .i64 0, .int .i8 0] 260 ∧ Fr (fun k => k = g) w w' := by
  have hc := h.cell
  have hf := h.frz
  have hcm : 0 ≤ (cap : Int) := by omega
  have H := Lib.hid h
  clear h
  go_enter Tryz.func103, Tryz.ntmps103
  go_wp2
  go_end0
  refine ⟨rfl, ?_, Fr.setCell (Fr.setCell (Fr.setCell (Fr.refl (fun k => k = g) w) (p := ⟨g, 0, none⟩) (.inl rfl) _) (p := ⟨g, 1, none⟩) (.inl rfl) _) (p := ⟨g, 2, none⟩) (.inl rfl) _⟩
  have := ((H.out.set 0 (.slice aa 0 cap)).set 1 (.int .i64 0)).set 2 (.int .i8 0)
  simpa using this
set_option maxRecDepth 100000 in
set_option maxHeartbeats 400000 in
theorem bufEof_calls (D F : Nat → Prop) (g b o m c : Nat) (v : Value) (w : World) (h : IsBuf D F g [] w) (hv : w.cell? eofAt = some v) (hm : 0 < m) (hnf : ¬ F eofAt.block) :
    Calls Tryz.prog 102 #[.pointer (some ⟨g, 0, none⟩), .slice (some ⟨b, o, none⟩) m c] w fun e w' => e = .returned (.tuple #[.int .i64 0, v]) ∧ IsBuf D F g [] w' ∧ Fr F w w' := by
  obtain ⟨⟨aa, al, cap, off, lr, hb, h1, h2, h3, h4⟩, hFF⟩ := h
  have hlo : al.length = off := by have := congrArg List.length h3; rw [List.length_drop] at this; simp at this; omega
  have hc := hb.cell
  have hf := hb.frz
  have hvn : ¬ eofAt.block = g := fun e => hnf ((hFF _).2 e)
  have hv2 : (w.setCell ⟨g, 2, none⟩ (.int .i8 0)).cell? eofAt = some v := (fr_setCell w ⟨g, 2, none⟩ (.int .i8 0)).cell hv hvn
  have H := Lib.hid (And.intro hb (And.intro h1 (And.intro h4 (And.intro hFF (And.intro hlo hvn)))))
  clear h1 h2 h3 h4 hFF hb
  have d0 : decide ((m : Int) = 0) = false := decide_eq_false (by omega)
  go_enter Tryz.func102, Tryz.ntmps102
  go_wp2_with fail
  have hb1 : Blk (w.setCell ⟨g, 2, none⟩ (.int .i8 0)) g #[.slice aa al.length cap, .int .i64 off, .int .i8 0] 260 := by
    have := H.out.1.set 2 (.int .i8 0)
    simpa using this
  have hF1 := fr_setCell w ⟨g, 2, none⟩ (.int .i8 0)
  generalize (w.setCell ⟨g, 2, none⟩ (.int .i8 0)) = W1 at *
  refine (bufEmpty_calls g aa al.length cap off 0 W1 hb1).mono ?_
  rintro e w1 ⟨rfl, hx1⟩
  have hd : decide (al.length ≤ off) = true := decide_eq_true (by have := H.out.2.2.2.2.1; omega)
  rw [hd]
  have hb2 := hb1.ext hx1
  have H1 := Lib.hid (And.intro hb2 (And.intro (Fr.ext hF1 hx1) (eof_frame hv2 hx1 (fun h => h))))
  clear hd hb1 hF1 hv2 hx1 hb2 hc hf
  go_wp2_with fail
  refine (bufReset_calls g aa al.length cap off 0 w1 H1.out.1).mono ?_
  rintro e w2 ⟨rfl, hb3, hF3⟩
  have hv3 := eof_frame H1.out.2.2 hF3 H.out.2.2.2.2.2
  have H2 := Lib.hid (And.intro hb3 (Fr.trans H1.out.2.1 hF3 (fun _ _ h => h) (fun _ _ h => h)))
  clear hb3 hF3
  go_wp2
  go_quiet (fail)
  go_wp2
  go_ret2
  have hx : Ext w2 (w2.drewN nq) := (Fr.refl _ w2).drewN _
  have hF := Fr.ext H2.out.2 hx
  refine ⟨rfl, ⟨⟨aa, [], cap, 0, 0, H2.out.1.ext hx, ?_, Nat.le_refl _, rfl, fun k hk => ⟨Nat.lt_of_lt_of_le (H.out.2.2.1 k hk).1 hF.size, (H.out.2.2.1 k hk).2⟩⟩, H.out.2.2.2.1⟩, hF.mono (fun k _ e => (H.out.2.2.2.1 k).2 e)⟩
  obtain ⟨_, _, e, h5, h6, _⟩ := H.out.2.1
  simp only [List.cons.injEq, Value.slice.injEq, and_true] at e
  obtain ⟨-, -, rfl⟩ := e
  exact ⟨aa, _, rfl, Nat.zero_le _, h6, fun hp => absurd hp (by simp)⟩
set_option maxRecDepth 100000 in
set_option maxHeartbeats 1000000 in
theorem bufRead_calls (D F : Nat → Prop) (g b o m c : Nat) (bs : List UInt8) (cs : Array Value) (Tb : TypeId) (w : World) (h : IsBuf D F g bs w) (hB : Blk w b cs Tb) (hfit : o + m ≤ cs.size) (hmc : m ≤ c) (hcm : c ≤ maxLen) (hFb : ¬ F b) (hD : ¬ D b) (hm : 0 < m) (hbs : 0 < bs.length) :
    Calls Tryz.prog 102 #[.pointer (some ⟨g, 0, none⟩), .slice (some ⟨b, o, none⟩) m c] w fun e w' => ∃ n : Nat, 0 < n ∧ n ≤ m ∧ n ≤ bs.length ∧ e = .returned (.tuple #[.int .i64 n, .nilIface]) ∧ IsBuf D F g (bs.drop n) w' ∧
      Fr (fun k => F k ∨ k = b) w w' ∧ Blk w' b (splice cs.toList o (cellsOfB (bs.take n))).toArray Tb := by
  obtain ⟨⟨aa, al, cap, off, lr, hb, h1, h2, h3, h4⟩, hFF⟩ := h
  have hlo : bs.length = al.length - off := by rw [h3, List.length_drop]
  have hne : ¬ b = g := fun e => hFb ((hFF b).2 e)
  have hcap : al.length ≤ cap ∧ cap ≤ maxLen := by
    obtain ⟨_, _, e, h5, h6, _⟩ := id h1
    simp only [List.cons.injEq, Value.slice.injEq, and_true] at e
    obtain ⟨-, -, rfl⟩ := e
    exact ⟨h5, h6⟩
  have hcm' : (c : Int) ≤ 9223372036854775807 := by simp only [maxLen] at hcm; omega
  have hcap' : (cap : Int) ≤ 9223372036854775807 := by have := hcap.2; simp only [maxLen] at this; omega
  have hal := hcap.1
  have hc := hb.cell
  have hf := hb.frz
  have H := Lib.hid (And.intro hb (And.intro h1 (And.intro h4 (And.intro hFF (And.intro hlo (And.intro hne (And.intro hB (And.intro hfit (And.intro hD h3)))))))))
  have hoff : off < al.length := by omega
  clear h1 h3 h4 hFF hb hB hfit hD hFb hcap
  go_enter Tryz.func102, Tryz.ntmps102
  go_wp2_with fail
  have hb1 : Blk (w.setCell ⟨g, 2, none⟩ (.int .i8 0)) g #[.slice aa al.length cap, .int .i64 off, .int .i8 0] 260 := by
    have := H.out.1.set 2 (.int .i8 0)
    simpa using this
  have hF1 := fr_setCell w ⟨g, 2, none⟩ (.int .i8 0)
  generalize (w.setCell ⟨g, 2, none⟩ (.int .i8 0)) = W1 at *
  refine (bufEmpty_calls g aa al.length cap off 0 W1 hb1).mono ?_
  rintro e w1 ⟨rfl, hx1⟩
  have hd : decide (al.length ≤ off) = false := decide_eq_false (by omega)
  rw [hd]
  have hb2 := hb1.ext hx1
  have H1 := Lib.hid (And.intro hb2 (Fr.ext hF1 hx1))
  clear hd hb1 hF1 hx1 hb2 hc hf
  go_wp2_with fail
  refine region_items (frFrm (fun k => k = b)) [(0, .take), (1, .take), (2, .take), (3, .take), (4, .take), (5, .take), (6, .take), (7, .take), (8, .take), (9, .take), (10, .last), (11, .take)] (by kernel_rfl) (by kernel_rfl) ?_
  simp only [itemsOf, List.getD_cons_zero, List.getD_cons_succ]
  have HC : Hid (∀ W', Fr (fun k => k = b) w1.drew W' → ∀ j, W'.cell? ⟨g, j, none⟩ = (#[Value.slice aa al.length cap, .int .i64 off, .int .i8 0] : Array Value)[j]?) := fun W' hE => (H1.out.1.fr ((ext_drew w1).fr hE) (fun e => H.out.2.2.2.2.2.1 e.symm)).cell
  repeat (apply item_take; rfl; rfl; rfl; rfl; exact fun _ _ _ _ h => h; (intro W hE K hK; have q := HC.out W hE; go_simp; exact hK))
  rw [if_neg (show ¬ cap = off by omega), ← H.out.2.2.2.2.1]
  have hB1 := Lib.hid ((H.out.2.2.2.2.2.2.1).fr (H1.out.2.drew) H.out.2.2.2.2.2.1)
  have hrd := Lib.hid (show Lay.u8.slice.rd D w1.drew [.slice (aa.map (·.add off)) bs.length (cap - off)] bs from by
    have := rd_drop H.out.2.1 h2
    rw [← H.out.2.2.2.2.2.2.2.2.2] at this
    exact Lay.fr this H1.out.2.drew (fun k hk => H.out.2.2.1 k hk))
  apply item_last; rfl; intro K hK
  refine copy_wp (.tmp 17) (.tmp 26) 43 43 5 rfl Tryz.underlying43 (by kernel_rfl) b o m c cs Tb _ _ bs rfl rfl hB1.out H.out.2.2.2.2.2.2.2.1 hrd.out ?_
  intro w2 hB2 hF2
  refine hK _ _ ?_
  have H2 := Lib.hid (And.intro hB2 (Fr.trans H1.out.2 ((ext_drew w1).fr hF2) (U := fun k => k = g ∨ k = b) (fun _ _ h => .inl h) (fun _ _ h => .inr h)))
  have hn1 : (bs.take m).length ≤ m := by rw [List.length_take]; omega
  have hn2 : (bs.take m).length ≤ bs.length := by rw [List.length_take]; omega
  have hn3 : 0 < (bs.take m).length := by rw [List.length_take]; omega
  have hn4 : Hid (bs.take m = bs.take (bs.take m).length) := by show _ = _; rw [List.length_take]; rcases Nat.le_total m bs.length with h | h; rw [Nat.min_eq_left h]; rw [Nat.min_eq_right h, List.take_of_length_le h, List.take_length]
  generalize (bs.take m).length = n at *
  have hbG := H1.out.1.fr ((ext_drew w1).fr hF2) (fun e => H.out.2.2.2.2.2.1 e.symm)
  have hc1 := hbG.cell
  have hf1 := hbG.frz
  have HG := Lib.hid hbG
  have hla := H.out.2.2.2.2.1
  clear hK K hB1 hB2 hF2 HC hbG
  repeat (apply item_take; rfl; rfl; rfl; rfl; exact fun _ _ _ _ h => h; (intro W hE K hK; go_simp; exact hK))
  apply items_done
  have hi1 : wrap64 ((off : Int) + (n : Int)) = ((off + n : Nat) : Int) := by unfold wrap64; omega
  have hi2 : IntKind.i64.wrap ((off : Int) + (n : Int)) = ((off + n : Nat) : Int) := by rw [IntKind.wrap_i64]; omega
  have d1 : decide ((0 : Int) < (n : Int)) = true := decide_eq_true (by omega)
  go_wp2
  go_ret2
  have hs := Fr.setCell (Fr.setCell (Fr.refl (fun k => k = g) w2) (p := ⟨g, 1, none⟩) (.inl rfl) (.int .i64 ((off : Int) + (n : Int)))) (p := ⟨g, 2, none⟩) (.inl rfl) (.int .i8 (-1))
  have hF := Fr.trans H2.out.2 hs (U := fun k => k = g ∨ k = b) (fun _ _ h => h) (fun _ _ h => .inl h)
  refine ⟨n, hn3, hn1, hn2, rfl, ⟨⟨aa, al, cap, off + n, -1, ?_, Lay.fr H.out.2.1 hF (fun k hk => ⟨(H.out.2.2.1 k hk).1, fun e => e.elim (H.out.2.2.1 k hk).2 (fun e => H.out.2.2.2.2.2.2.2.2.1 (e ▸ hk))⟩), by omega, ?_, fun k hk => ⟨Nat.lt_of_lt_of_le (H.out.2.2.1 k hk).1 hF.size, (H.out.2.2.1 k hk).2⟩⟩, H.out.2.2.2.1⟩, hF.mono (fun k _ e => e.imp (fun e => (H.out.2.2.2.1 k).2 e) id), ?_⟩
  · have := (HG.out.set 1 (.int .i64 ((off + n : Nat) : Int))).set 2 (.int .i8 (-1))
    rw [show ((off + n : Nat) : Int) = (off : Int) + (n : Int) from by omega] at this ⊢
    simpa using this
  · rw [H.out.2.2.2.2.2.2.2.2.2, List.drop_drop]
  · have := H2.out.1.fr hs H.out.2.2.2.2.2.1
    rw [hn4.out] at this; exact this
noncomputable def bufR : Rdr where
  is := IsBuf
  lt := fun ⟨⟨aa, al, cap, off, lr, hb, h1, h2, h3, h4⟩, hFF⟩ => ⟨(hFF _).2 rfl, fun k hk => by obtain rfl := (hFF k).1 hk; exact hb.lt, fun k hk => ⟨(h4 k hk).1, fun e => (h4 k hk).2 ((hFF k).1 e)⟩⟩
  frame h hf hF hD := h.frame hf hF hD
  T := 198
  f := 102
  nil g W := by kernel_rfl
  meth g W := by kernel_rfl
  call args W := by kernel_rfl
  read D F g b o m c bs cs Tb w h hB hfit hmc hcm hF hD hm hbs := bufRead_calls D F g b o m c bs cs Tb w h hB hfit hmc hcm hF hD hm hbs
  eof D F g b o m c v w h hv hm hnf := bufEof_calls D F g b o m c v w h hv hm hnf
  left g w := match w.cell? ⟨g, 0, none⟩, w.cell? ⟨g, 1, none⟩ with
    | some (.slice _ n _), some (.int _ k) => n - k.toNat
    | _, _ => 0
  left_is := fun ⟨⟨aa, al, cap, off, lr, hb, h1, h2, h3, h4⟩, hFF⟩ => by
    have e0 := hb.cell 0
    have e1 := hb.cell 1
    simp only [List.getElem?_toArray, List.getElem?_cons_zero, List.getElem?_cons_succ] at e0 e1
    rw [e0, e1, h3, List.length_drop]
    simp
set_option maxRecDepth 100000 in
set_option maxHeartbeats 400000 in
theorem NewBuffer_calls (aa : Option Addr) (n c : Nat) (w : World) :
    Calls Tryz.prog 47 #[.slice aa n c] w fun e w' => e = .returned (.pointer (some ⟨w.heap.size, 0, none⟩)) ∧ w' = w.alloc (.cells #[.slice aa n c, .int .i64 0, .int .i8 0] 260) := by
  go_enter Tryz.func47, Tryz.ntmps47
  go_wp2
  go_ret
  exact ⟨rfl, rfl⟩
/-- A new buffer holds what it was made of. -/
theorem buf_new {A : Nat → Prop} {aa : Option Addr} {n c : Nat} {bs : List UInt8} {w : World} (h : Lay.u8.slice.rd A w [.slice aa n c] bs) (hA : ∀ k, A k → k < w.heap.size) :
    bufR.is A (fun k => k = w.heap.size) w.heap.size bs (w.alloc (.cells #[.slice aa n c, .int .i64 0, .int .i8 0] 260)) := by
  obtain ⟨a', c', e, -, -⟩ := Lay.slice_form h
  obtain ⟨rfl, rfl, rfl⟩ : aa = a' ∧ n = bs.length ∧ c = c' := by simpa using e
  have hx := ext_alloc w (.cells #[.slice aa bs.length c, .int .i64 0, .int .i8 0] 260)
  exact ⟨⟨aa, bs, c, 0, 0, blk_new _ _ _, Lay.fr h hx (fun k hk => ⟨hA k hk, fun h => h⟩), Nat.zero_le _, rfl, fun k hk => ⟨Nat.lt_of_lt_of_le (hA k hk) hx.size, fun e => by have := hA k hk; omega⟩⟩, fun k => Iff.rfl⟩
end Go.Proofs.YtbdahjpdjamgiaaGreatDoor
