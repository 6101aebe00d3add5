/- What is read from, once more: objects behind an io.Reader that lie in several blocks. -/
import Derived.Test.YtfpikpbolgodcaaDoorSource
import Derived.Test.YtfpikpbolgodcaaDoorMem2
namespace Go.Proofs.YtfpikpbolgodcaaDoor
open Go.RowKit
/-- An object that holds bytes to be read: D: the blocks that they lie in; F: the blocks that reading turns. -/
structure Rdr where
  is : (Nat → Prop) → (Nat → Prop) → Nat → List UInt8 → World → Prop
  lt : ∀ {D F g bs w}, is D F g bs w → F g ∧ (∀ k, F k → k < w.heap.size) ∧ ∀ k, D k → k < w.heap.size ∧ ¬ F k
  frame : ∀ {D F g bs w w' S}, is D F g bs w → Fr S w w' → (∀ k, F k → ¬ S k) → (∀ k, D k → ¬ S k) → is D F g bs w'
  T : TypeId
  f : FuncId
  nil : ∀ (g : Nat) (W : World), (nilAhead 290 T (.pointer (some ⟨g, 0, none⟩)) "Read").run Tryd.prog W = .ok (some false) W
  meth : ∀ (g : Nat) (W : World), (method 290 T (.pointer (some ⟨g, 0, none⟩)) "Read").run Tryd.prog W = .ok (f, .pointer (some ⟨g, 0, none⟩)) W
  call : ∀ (args : Array Value) (W : World), (callFunc f args).run Tryd.prog W = .ok (.enter f args) W
  read : ∀ (D F : Nat → Prop) (g b o m c : Nat) (bs : List UInt8) (cs : Array Value) (Tb : TypeId) (w : World), is D F g bs w → Blk w b cs Tb → o + m ≤ cs.size → m ≤ c → c ≤ maxLen → ¬ F b → ¬ D b → 0 < m → 0 < bs.length →
    Calls Tryd.prog f #[.pointer (some ⟨g, 0, none⟩), .slice (some ⟨b, o, none⟩) m c] w fun e w' => ∃ n : Nat, 0 < n ∧ n ≤ m ∧ n ≤ bs.length ∧ e = .returned (.tuple #[.int .i64 n, .nilIface]) ∧ is D F g (bs.drop n) w' ∧
      Fr (fun k => F k ∨ k = b) w w' ∧ Blk w' b (splice cs.toList o (cellsOfB (bs.take n))).toArray Tb
  eof : ∀ (D F : Nat → Prop) (g : Nat) (p v : Value) (w : World), is D F g [] w → w.cell? eofAt = some v →
    Calls Tryd.prog f #[.pointer (some ⟨g, 0, none⟩), p] w fun e w' => e = .returned (.tuple #[.int .i64 0, v]) ∧ is D F g [] w' ∧ Fr F w w'
  left : Nat → World → Nat
  left_is : ∀ {D F g bs w}, is D F g bs w → left g w = bs.length
/-- The thin package's reader. -/
noncomputable def implR : Rdr where
  is D F g bs w := IsR D g bs w ∧ ∀ k, F k ↔ k = g
  lt h := ⟨(h.2 _).2 rfl, fun k hk => by obtain rfl := (h.2 k).1 hk; exact h.1.lt.1, fun k hk => ⟨(h.1.lt.2 k hk).1, fun e => (h.1.lt.2 k hk).2 ((h.2 k).1 e)⟩⟩
  frame h hf hF hD := ⟨h.1.frame hf (hF _ ((h.2 _).2 rfl)) hD, h.2⟩
  T := 54
  f := 70
  nil g W := by kernel_rfl
  meth g W := by kernel_rfl
  call args W := by kernel_rfl
  read D F g b o m c bs cs Tb w h hB hfit hmc hcm hF hD hm hbs := by
    refine (reader_Read_calls D g b o m c bs cs Tb w h.1 hB hfit hmc hcm (fun e => hF ((h.2 b).2 e)) hD hm hbs).mono ?_
    rintro e w' ⟨n, h0, h1, h2, h3, h4, h5, h6⟩
    exact ⟨n, h0, h1, h2, h3, ⟨h4, h.2⟩, h5.mono (fun k _ e => e.imp (fun e => (h.2 k).2 e) id), h6⟩
  eof D F g p v w h hv := by
    refine (reader_eof_calls D g p v w h.1 hv).mono ?_
    rintro e w' ⟨h3, h4, h5⟩
    exact ⟨h3, ⟨h4, h.2⟩, h5.mono (fun k _ e => (h.2 k).2 e)⟩
  left g w := match w.cell? ⟨g, 0, none⟩ with
    | some (.slice _ n _) => n
    | _ => 0
  left_is h := by
    obtain ⟨⟨aa, cap, pp, pn, pc, at', ps, hb, -, -, -, -⟩, -⟩ := h
    have := hb.cell 0
    simp at this
    rw [this]
/-! ### The package's reader, which counts -/
def IsE (R : Rdr) (D F : Nat → Prop) (g : Nat) (bs : List UInt8) (w : World) : Prop :=
  ∃ (gi : Nat) (F' : Nat → Prop) (n : Int), Blk w g #[.iface R.T (.pointer (some ⟨gi, 0, none⟩)), .int .i64 n] 77 ∧ R.is D F' gi bs w ∧ ¬ F' g ∧ ¬ D g ∧ ∀ k, F k ↔ (k = g ∨ F' k)
set_option maxRecDepth 100000 in
set_option maxHeartbeats 400000 in
theorem encRead_calls (R : Rdr) (D F : Nat → Prop) (g b o m c : Nat) (bs : List UInt8) (cs : Array Value) (Tb : TypeId) (w : World) (h : IsE R D F g bs w) (hB : Blk w b cs Tb) (hfit : o + m ≤ cs.size) (hmc : m ≤ c) (hcm : c ≤ maxLen) (hF : ¬ F b) (hD : ¬ D b) (hm : 0 < m) (hbs : 0 < bs.length) :
    Calls Tryd.prog 71 #[.pointer (some ⟨g, 0, none⟩), .slice (some ⟨b, o, none⟩) m c] w fun e w' => ∃ n : Nat, 0 < n ∧ n ≤ m ∧ n ≤ bs.length ∧ e = .returned (.tuple #[.int .i64 n, .nilIface]) ∧ IsE R D F g (bs.drop n) w' ∧
      Fr (fun k => F k ∨ k = b) w w' ∧ Blk w' b (splice cs.toList o (cellsOfB (bs.take n))).toArray Tb := by
  obtain ⟨gi, F', n, hb, hi, hFg, hDg, hFF⟩ := h
  have hna := R.nil gi
  have hme := R.meth gi
  have hcf := R.call
  have hc := hb.cell
  have H := Lib.hid (And.intro hb (And.intro hi (And.intro hB (And.intro hF hFF))))
  have HC := Lib.hid (R.read D F' gi b o m c bs cs Tb w hi hB hfit hmc hcm (fun e => hF ((hFF b).2 (.inr e))) hD hm hbs)
  have hne := Lib.hid (And.intro hFg hDg)
  clear hb hi hB hfit hmc hcm hF hD hm hbs hFF hFg hDg
  go_enter Tryd.func71, Tryd.ntmps71
  go_wp2_with fail
  refine HC.out.mono ?_
  rintro e w1 ⟨q, h0, h1, h2, rfl, h4, h5, h6⟩
  have hbg : ¬ b = g := fun e => H.out.2.2.2.1 ((H.out.2.2.2.2 b).2 (.inl e))
  have hb1 := H.out.1.fr h5 (fun e => e.elim hne.out.1 (fun e => hbg e.symm))
  have hc1 := hb1.cell
  have hf1 := hb1.frz
  have H1 := Lib.hid (And.intro h0 (And.intro h1 (And.intro h2 (And.intro h4 (And.intro h5 (And.intro h6 (And.intro hb1 hbg)))))))
  clear h0 h1 h2 h4 h5 h6 hb1 hc HC hbg
  go_wp2
  go_ret2
  obtain ⟨h0, h1, h2, h4, h5, h6, hb1, hbg⟩ := H1.out
  have hs := fr_setCell w1 ⟨g, 1, none⟩ (.int .i64 (wrap64 (n + (q : Int))))
  refine ⟨q, h0, h1, h2, rfl, ⟨gi, F', wrap64 (n + (q : Int)), ?_, R.frame h4 hs (fun k hk e => by have e' : k = g := e; subst e'; exact hne.out.1 hk) (fun k hk e => by have e' : k = g := e; subst e'; exact hne.out.2 hk), hne.out.1, hne.out.2, H.out.2.2.2.2⟩, Fr.trans h5 hs (fun k _ e => e.imp (fun e => (H.out.2.2.2.2 k).2 (.inr e)) id) (fun k _ e => .inl ((H.out.2.2.2.2 k).2 (.inl e))), h6.fr hs (fun e => hbg e)⟩
  have := hb1.set 1 (.int .i64 (wrap64 (n + (q : Int))))
  simpa using this
set_option maxRecDepth 100000 in
set_option maxHeartbeats 400000 in
theorem encEof_calls (R : Rdr) (D F : Nat → Prop) (g : Nat) (p v : Value) (w : World) (h : IsE R D F g [] w) (hv : w.cell? eofAt = some v) :
    Calls Tryd.prog 71 #[.pointer (some ⟨g, 0, none⟩), p] w fun e w' => e = .returned (.tuple #[.int .i64 0, v]) ∧ IsE R D F g [] w' ∧ Fr F w w' := by
  obtain ⟨gi, F', n, hb, hi, hFg, hDg, hFF⟩ := h
  have hna := R.nil gi
  have hme := R.meth gi
  have hcf := R.call
  have hc := hb.cell
  have H := Lib.hid (And.intro hb (And.intro hi hFF))
  have HC := Lib.hid (R.eof D F' gi p v w hi hv)
  have hne := Lib.hid (And.intro hFg hDg)
  clear hb hi hFF hFg hDg hv
  go_enter Tryd.func71, Tryd.ntmps71
  go_wp2_with fail
  refine HC.out.mono ?_
  rintro e w1 ⟨rfl, h4, h5⟩
  have hb1 := H.out.1.fr h5 (fun e => hne.out.1 e)
  have hc1 := hb1.cell
  have hf1 := hb1.frz
  have H1 := Lib.hid (And.intro h4 (And.intro h5 hb1))
  clear h4 h5 hb1 hc HC
  go_wp2
  go_ret2
  obtain ⟨h4, h5, hb1⟩ := H1.out
  have hs := fr_setCell w1 ⟨g, 1, none⟩ (.int .i64 (wrap64 n))
  refine ⟨rfl, ⟨gi, F', wrap64 n, ?_, R.frame h4 hs (fun k hk e => by have e' : k = g := e; subst e'; exact hne.out.1 hk) (fun k hk e => by have e' : k = g := e; subst e'; exact hne.out.2 hk), hne.out.1, hne.out.2, H.out.2.2⟩, Fr.trans h5 hs (fun k _ e => (H.out.2.2 k).2 (.inr e)) (fun k _ e => (H.out.2.2 k).2 (.inl e))⟩
  have := hb1.set 1 (.int .i64 (wrap64 n))
  simpa using this
noncomputable def encR (R : Rdr) : Rdr where
  is := IsE R
  lt := fun ⟨gi, F', n, hb, hi, hFg, hDg, hFF⟩ => ⟨(hFF _).2 (.inl rfl), fun k hk => ((hFF k).1 hk).elim (fun e => e ▸ hb.lt) (fun e => (R.lt hi).2.1 k e), fun k hk => ⟨((R.lt hi).2.2 k hk).1, fun e => ((hFF k).1 e).elim (fun e => hDg (e ▸ hk)) ((R.lt hi).2.2 k hk).2⟩⟩
  frame := fun ⟨gi, F', n, hb, hi, hFg, hDg, hFF⟩ hf hF hD => ⟨gi, F', n, hb.fr hf (hF _ ((hFF _).2 (.inl rfl))), R.frame hi hf (fun k hk => hF k ((hFF k).2 (.inr hk))) hD, hFg, hDg, hFF⟩
  T := 75
  f := 71
  nil g W := by kernel_rfl
  meth g W := by kernel_rfl
  call args W := by kernel_rfl
  read D F g b o m c bs cs Tb w h hB hfit hmc hcm hF hD hm hbs := encRead_calls R D F g b o m c bs cs Tb w h hB hfit hmc hcm hF hD hm hbs
  eof D F g p v w h hv := encEof_calls R D F g p v w h hv
  left g w := match w.cell? ⟨g, 0, none⟩ with
    | some (.iface _ (.pointer (some a))) => R.left a.block w
    | _ => 0
  left_is := fun ⟨gi, F', n, hb, hi, hFg, hDg, hFF⟩ => by
    have := hb.cell 0
    simp at this
    rw [this]
    exact R.left_is hi
/-- The value of io.EOF. -/
abbrev eofV (pe : Addr) : Value := .iface 140 (.pointer (some pe))
/-- What is read from, io.EOF being what it is. -/
structure RdS (R : Rdr) (D F : Nat → Prop) (g : Nat) (pe : Addr) (bs : List UInt8) (w : World) : Prop where
  is : R.is D F g bs w
  cell : w.cell? eofAt = some (eofV pe)
  nf : ¬ F eofAt.block
  len : bs.length ≤ 140737488355328
theorem eof_frame {w w' : World} {S : Nat → Prop} {v : Value} (h : w.cell? eofAt = some v) (hf : Fr S w w') (hs : ¬ S eofAt.block) : w'.cell? eofAt = some v := hf.cell h hs
theorem RdS.step {R : Rdr} {D F : Nat → Prop} {g : Nat} {pe : Addr} {bs bs' : List UInt8} {w w' : World} {S : Nat → Prop} (h : RdS R D F g pe bs w) (hi : R.is D F g bs' w') (hf : Fr S w w') (hs : ¬ S eofAt.block) (hl : bs'.length ≤ bs.length) : RdS R D F g pe bs' w' :=
  ⟨hi, eof_frame h.cell hf hs, h.nf, Nat.le_trans hl h.len⟩
theorem RdS.fr {R : Rdr} {D F : Nat → Prop} {g : Nat} {pe : Addr} {bs : List UInt8} {w w' : World} {S : Nat → Prop} (h : RdS R D F g pe bs w) (hf : Fr S w w') (hs : ¬ S eofAt.block) (hF : ∀ k, F k → ¬ S k) (hD : ∀ k, D k → ¬ S k) : RdS R D F g pe bs w' :=
  h.step (R.frame h.is hf hF hD) hf hs (Nat.le_refl _)
theorem RdS.ext {R : Rdr} {D F : Nat → Prop} {g : Nat} {pe : Addr} {bs : List UInt8} {w w' : World} (h : RdS R D F g pe bs w) (hf : Ext w w') : RdS R D F g pe bs w' := h.fr hf (fun h => h) (fun _ _ h => h) (fun _ _ h => h)
end Go.Proofs.YtfpikpbolgodcaaDoor
