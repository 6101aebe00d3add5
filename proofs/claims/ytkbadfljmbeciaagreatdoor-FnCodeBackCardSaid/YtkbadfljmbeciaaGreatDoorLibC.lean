/- Texts of the library, merged by wip/tools/merge.py: Bytes, LebU, Hold, Key, CodeKey. -/
import Derived.Test.YtkbadfljmbeciaaGreatDoorProg
import Derived.Test.YtkbadfljmbeciaaGreatDoorLibA
import Derived.KernelRfl
/- Rows of bytes. -/
namespace Go.Proofs.YtkbadfljmbeciaaGreatDoor
open Go.RowKit
theorem infoB : (Tryz.prog.info? 5).map (fun i => (i.zero, i.size, i.bytes)) = some (some (.int .u8 0), Lay.u8.size, 1) := by kernel_rfl
/-- A byte's row that the call owns. -/
abbrev OwnB (lo : Nat) (w : World) (v : Value) (xs : List UInt8) : Prop := Own Lay.u8 5 lo w v xs

/-- append(v, one byte): behind 'at_builtin'. -/
theorem appB {ops : Array Oper} {rest : List Oper} {o : Oper} {a : Act} {Q : Exit → Act → World → Prop} {W : World} (lo : Nat) (hgd : o.guard = none) (s x : Operand)
    (ho : o.op = .call { callee := .builtin .append, args := #[s, x], argTypes := #[43, 43] })
    (v : Value) (xs : List UInt8) (y : UInt8) (c : Int) (hc : c = (y.toNat : Int)) (hs : a.eval s = v) (hx : a.eval x = .slice (some ⟨W.heap.size, 0, none⟩) 1 1)
    (HO : OwnB lo W v xs) (hlo : lo ≤ W.heap.size) (hl : xs.length + 1 ≤ 140737488355328)
    (h : ∀ v1 w1, OwnB lo w1 v1 (xs ++ [y]) → Fr (fun k => some k = v.ownBlock) W w1 → (∀ k, v1.ownBlock = some k → v.ownBlock = some k ∨ W.heap.size ≤ k) → wpList Tryz.prog ops Q rest (a.put o.dst v1) w1) :
    wpList Tryz.prog ops Q (o :: rest) a (W.alloc (.cells #[.int .u8 c] 5)) := by
  subst hc
  exact own_append1 Lay.u8 lo hgd s x _ _ (.int .u8 0) 1 ho Tryz.underlying43 infoB rfl (by omega) (by decide) v xs y _ hs hx HO rfl hlo (by omega) h

theorem fr_row {w wr w1 : World} {v s0 : Value} (hb : Fr (fun k => some k = v.ownBlock) w wr) (h2 : Fr (fun k => some k = s0.ownBlock) wr w1) (hk : ∀ k, s0.ownBlock = some k → v.ownBlock = some k ∨ w.heap.size ≤ k) : Fr (fun k => some k = v.ownBlock) w w1 :=
  hb.trans h2 (fun _ _ h => h) (fun k hk' hs => by
    rcases hk k hs.symm with h | h
    · exact h.symm
    · omega)
theorem row_row {S : Nat → Prop} {w wr : World} {v s0 v1 : Value} (hb : Fr S w wr) (hk : ∀ k, s0.ownBlock = some k → v.ownBlock = some k ∨ w.heap.size ≤ k) (h3 : ∀ k, v1.ownBlock = some k → s0.ownBlock = some k ∨ wr.heap.size ≤ k) : ∀ k, v1.ownBlock = some k → v.ownBlock = some k ∨ w.heap.size ≤ k := fun k hk' => by
  rcases h3 k hk' with h | h
  · exact hk k h
  · have := hb.size
    exact .inr (by omega)
theorem byte_low (x : Nat) : ((x : Int) % 128) = ((UInt8.ofNat (x % 128)).toNat : Int) := by
  rw [UInt8.toNat_ofNat']
  omega
theorem byte_high (x : Nat) : ((x : Int) % 128 + 128) = ((UInt8.ofNat (x % 128 + 128)).toNat : Int) := by
  rw [UInt8.toNat_ofNat']
  omega

end Go.Proofs.YtkbadfljmbeciaaGreatDoor
/- spec.AppendUnsigned. -/
namespace Go.Proofs.YtkbadfljmbeciaaGreatDoor
open Go.RowKit
set_option maxRecDepth 100000 in
set_option maxHeartbeats 400000 in
theorem specAppendUnsigned_calls (n : Nat) (hv : n < 18446744073709551616) (lo : Nat) (v : Value) (bs : List UInt8) (w : World) (hO : OwnB lo w v bs) (hlo : lo ≤ w.heap.size) (hl : bs.length + 10 ≤ 140737488355328) :
    Calls Tryz.prog 20 #[v, .int .u64 n] w fun e w' => ∃ v1, e = .returned v1 ∧ OwnB lo w' v1 (bs ++ uleb n) ∧ Fr (fun k => some k = v.ownBlock) w w' ∧ (∀ k, v1.ownBlock = some k → v.ownBlock = some k ∨ w.heap.size ≤ k) := by
  have hul := uleb_len64 n hv
  have hul := Lib.hid hul
  have hO := Lib.hid hO
  have hlo := Lib.hid hlo
  have hl := Lib.hid hl
  go_enter Tryz.func20, Tryz.ntmps20
  go_wp2_with fail
  go_loopw [0, 1] (fun s0 s1 w' => ∃ (x : Nat) (pre : List UInt8), s1 = .int .u64 x ∧ Hid (pre ++ uleb x = uleb n) ∧ Hid (x ≤ n) ∧ Hid (OwnB lo w' s0 (bs ++ pre)) ∧ Hid (Fr (fun k => some k = v.ownBlock) w w') ∧ Hid (∀ k, s0.ownBlock = some k → v.ownBlock = some k ∨ w.heap.size ≤ k)) (fun _ s1 _ => (intOf s1).toNat)
  case atStart => exact ⟨n, [], rfl, rfl, Nat.le_refl _, (by rw [List.append_nil]; exact hO.out), Fr.refl _ _, fun k h => .inl h⟩
  case round =>
    obtain ⟨x, pre, rfl, hp, hx, hown, hb, hk⟩ := hrel
    have hxn : x < 18446744073709551616 := Nat.lt_of_le_of_lt hx.out hv
    have hloW : Hid (lo ≤ wr.heap.size) := Nat.le_trans hlo.out hb.out.size
    have hlW : Hid ((bs ++ pre).length + 1 ≤ 140737488355328) := by
      have h1 := congrArg List.length hp.out
      rw [List.length_append] at h1
      have h2 : 0 < (uleb x).length := by rw [uleb]; split <;> simp
      have h3 := hul.out
      have h4 := hl.out
      show _ ≤ _
      rw [List.length_append]
      omega
    by_cases hc : x < 128
    · have hc1 : decide (128 ≤ (x : Int)) = false := by rw [decide_eq_false_iff_not]; omega
      have hlow : Hid ((x : Int) = ((UInt8.ofNat x).toNat : Int)) := by show _ = _; rw [UInt8.toNat_ofNat']; omega
      go_wp2_with (at_builtin; refine Hid.out ?_)
      refine appB lo rfl (.tmp 15) (.tmp 18) rfl _ (bs ++ pre) (UInt8.ofNat x) _ hlow.out rfl rfl hown.out hloW.out hlW.out ?_
      intro v1 w1 h1 h2 h3
      have H := Lib.hid (And.intro h1 (And.intro h2 h3))
      clear h1 h2 h3
      go_wp2
      go_ret
      obtain ⟨h1, h2, h3⟩ := H.out
      exact ⟨_, rfl, by rw [← hp.out, uleb_small hc, ← List.append_assoc]; exact h1, fr_row hb.out h2 hk.out, row_row hb.out hk.out h3⟩
    · have hc1 : decide (128 ≤ (x : Int)) = true := by rw [decide_eq_true_eq]; omega
      have e2 : bits .or .u8 ((x : Int) % 256) 128 = (x : Int) % 128 + 128 := by rw [u8_or128_low _ (by omega) (by omega)]; omega
      go_wp2_with (at_builtin; refine Hid.out ?_)
      refine appB lo rfl (.tmp 7) (.tmp 11) rfl _ (bs ++ pre) (UInt8.ofNat (x % 128 + 128)) _ (byte_high x) rfl rfl hown.out hloW.out hlW.out ?_
      intro v1 w1 h1 h2 h3
      have H := Lib.hid (And.intro h1 (And.intro h2 h3))
      clear h1 h2 h3
      go_wp2
      go_roundw
      case rel =>
        obtain ⟨h1, h2, h3⟩ := H.out
        refine ⟨x / 128, pre ++ [UInt8.ofNat (x % 128 + 128)], by go_num, ?_, ?_, ?_, fr_row hb.out h2 hk.out, row_row hb.out hk.out h3⟩
        · show _ = _
          rw [← hp.out, uleb_big (n := x) (by omega), List.append_assoc, List.singleton_append]
        · have := hx.out
          show _ ≤ _
          omega
        · rw [← List.append_assoc]; exact h1
      case measure => simp [intOf]; omega
end Go.Proofs.YtkbadfljmbeciaaGreatDoor
/- Objects that hold bytes. -/
namespace Go.Proofs.YtkbadfljmbeciaaGreatDoor
open Go.RowKit

/-- The block g and the array that its first cell leads to. -/
def foot1 (w : World) (g : Nat) : Nat → Prop := fun k => k = g ∨ ∃ v, w.cell? ⟨g, 0, none⟩ = some v ∧ v.ownBlock = some k

/-- An object that holds bytes, and the blocks that are its own. -/
structure Hold where
  is : Nat → Nat → List UInt8 → World → Prop
  foot : World → Nat → Nat → Prop
  lt : ∀ {lo g bs w}, is lo g bs w → ∀ k, foot w g k → lo ≤ k ∧ k < w.heap.size
  frame : ∀ {lo g bs w w' S}, is lo g bs w → Fr S w w' → (∀ k, foot w g k → ¬ S k) → is lo g bs w' ∧ ∀ k, foot w' g k ↔ foot w g k
/-- What a write leaves. -/
structure Wrote (S : Hold) (lo g : Nat) (w : World) (bs : List UInt8) (w' : World) : Prop where
  is : S.is lo g bs w'
  fr : Fr (S.foot w g) w w'
  foot : ∀ k, S.foot w' g k → S.foot w g k ∨ w.heap.size ≤ k
theorem Wrote.trans {S : Hold} {lo g : Nat} {w w1 w2 : World} {bs bs' : List UInt8} (h : Wrote S lo g w bs w1) (k : Wrote S lo g w1 bs' w2) : Wrote S lo g w bs' w2 :=
  ⟨k.is, h.fr.trans k.fr (fun _ _ h => h) (fun i hi hs => by
    rcases h.foot i hs with h' | h'
    · exact h'
    · omega), fun i hi => by
    rcases k.foot i hi with h' | h'
    · exact h.foot i h'
    · have := h.fr.size
      exact .inr (by omega)⟩
theorem Wrote.refl {S : Hold} {lo g : Nat} {w : World} {bs : List UInt8} (h : S.is lo g bs w) : Wrote S lo g w bs w := ⟨h, Fr.refl _ _, fun _ h => .inl h⟩
/-- Something new is made first. -/
theorem Wrote.after {S : Hold} {lo g : Nat} {w w1 w2 : World} {bs bs' : List UInt8} (h : S.is lo g bs w) (hx : Ext w w1) (k : Wrote S lo g w1 bs' w2) : Wrote S lo g w bs' w2 :=
  Wrote.trans ⟨(S.frame h hx (fun _ _ h => h)).1, hx.to, fun i hi => .inl (((S.frame h hx (fun _ _ h => h)).2 i).1 hi)⟩ k
theorem Wrote.ext {S : Hold} {lo g : Nat} {w w1 w2 : World} {bs : List UInt8} (h : Wrote S lo g w bs w1) (hx : Ext w1 w2) : Wrote S lo g w bs w2 :=
  h.trans ⟨(S.frame h.is hx (fun _ _ h => h)).1, hx.to, fun i hi => .inl (((S.frame h.is hx (fun _ _ h => h)).2 i).1 hi)⟩
/-- All that lies below lo stands. -/
theorem Wrote.below {S : Hold} {lo g : Nat} {w w' : World} {bs0 bs : List UInt8} (h : S.is lo g bs0 w) (hw : Wrote S lo g w bs w') : Fr (fun k => lo ≤ k) w w' := hw.fr.mono fun k _ hk => (S.lt h k hk).1

/-! ### A block of one cell that leads to bytes -/
def IsB (T : TypeId) (lo g : Nat) (bs : List UInt8) (w : World) : Prop := lo ≤ g ∧ ∃ v, Blk w g #[v] T ∧ OwnB lo w v bs ∧ v.ownBlock ≠ some g
theorem IsB.lt {T : TypeId} {lo g : Nat} {bs : List UInt8} {w : World} (h : IsB T lo g bs w) : ∀ k, foot1 w g k → lo ≤ k ∧ k < w.heap.size := by
  obtain ⟨hg, v, hb, ho, hne⟩ := h
  rintro k (rfl | ⟨v', hc, hk⟩)
  · exact ⟨hg, hb.lt⟩
  · rw [hb.cell 0] at hc
    simp only [List.getElem?_toArray, List.getElem?_cons_zero, Option.some.injEq] at hc
    subst hc
    exact ho.lt k hk
theorem IsB.frame {T : TypeId} {lo g : Nat} {bs : List UInt8} {w w' : World} {S : Nat → Prop} (h : IsB T lo g bs w) (hf : Fr S w w') (hs : ∀ k, foot1 w g k → ¬ S k) : IsB T lo g bs w' ∧ ∀ k, foot1 w' g k ↔ foot1 w g k := by
  have hlt := h.lt
  obtain ⟨hg, v, hb, ho, hne⟩ := h
  have hc0 : w.cell? ⟨g, 0, none⟩ = some v := hb.cell 0
  have hb' := hb.fr hf (hs g (.inl rfl))
  have hc1 : w'.cell? ⟨g, 0, none⟩ = some v := hb'.cell 0
  refine ⟨⟨hg, v, hb', ?_, hne⟩, fun k => ?_⟩
  · exact Own.only Lay.flat_u8 ho hf (fun k hk => hs k (.inr ⟨v, hc0, hk⟩))
  · unfold foot1
    rw [hc0, hc1]
def holdB (T : TypeId) : Hold := ⟨IsB T, foot1, IsB.lt, IsB.frame⟩
theorem isB_new (T : TypeId) (w : World) : IsB T w.heap.size w.heap.size [] (w.alloc (.cells #[.slice none 0 0] T)) :=
  ⟨Nat.le_refl _, .slice none 0 0, blk_new w _ _, own_nil _ _ _ _, by simp [Value.ownBlock]⟩
/-- What was written to one of the call's own, read back off its one field. -/
theorem wrote_new {T : TypeId} {w w1 : World} {bs : List UInt8} (h : Wrote (holdB T) w.heap.size w.heap.size (w.alloc (.cells #[.slice none 0 0] T)) bs w1) :
    ∃ v, w1.cell? ⟨w.heap.size, 0, none⟩ = some v ∧ OwnB w.heap.size w1 v bs ∧ Ext w w1 := by
  obtain ⟨⟨hg, v, hb, ho, hne⟩, hf, -⟩ := h
  refine ⟨v, hb.cell 0, ho, Ext.fr (ext_alloc w _) hf |>.mono fun k hk hs => ?_⟩
  rcases hs with rfl | ⟨v', hc, hk'⟩
  · omega
  · rw [(blk_new w _ _).cell 0] at hc
    simp at hc
    subst hc
    simp [Value.ownBlock] at hk'
theorem isB_at (T : TypeId) (w : World) (n : Nat) (hn : w.heap.size = n) : (holdB T).is n n [] (w.alloc (.cells #[.slice none 0 0] T)) := by subst hn; exact isB_new T w
theorem wrote_at {T : TypeId} {w w1 : World} {bs : List UInt8} {n : Nat} (hn : w.heap.size = n) (h : Wrote (holdB T) n n (w.alloc (.cells #[.slice none 0 0] T)) bs w1) :
    ∃ v, w1.cell? ⟨n, 0, none⟩ = some v ∧ OwnB n w1 v bs ∧ Ext w w1 := by subst hn; exact wrote_new h
/-- The cell is read, a slice with more bytes in the same row or a new one is stored. -/
theorem isB_step {T : TypeId} {lo g : Nat} {bs' : List UInt8} {w w1 : World} {v v1 : Value} (hg : lo ≤ g) (hb : Blk w g #[v] T) (hne : v.ownBlock ≠ some g)
    (h1 : OwnB lo w1 v1 bs') (h2 : Fr (fun k => some k = v.ownBlock) w w1) (h3 : ∀ k, v1.ownBlock = some k → v.ownBlock = some k ∨ w.heap.size ≤ k) : Wrote (holdB T) lo g w bs' (w1.setCell ⟨g, 0, none⟩ v1) := by
  have hb1 := hb.fr h2 (fun e => hne e.symm)
  have hne1 : v1.ownBlock ≠ some g := fun e => by
    rcases h3 g e with h | h
    · exact hne h
    · have := hb.lt
      omega
  have hc0 : w.cell? ⟨g, 0, none⟩ = some v := hb.cell 0
  have hb2 : Blk (w1.setCell ⟨g, 0, none⟩ v1) g #[v1] _ := hb1.set 0 _
  refine ⟨⟨hg, _, hb2, Own.only Lay.flat_u8 h1 (fr_setCell w1 _ _) (fun k hk e => hne1 (by rw [hk, e])), hne1⟩, ?_, ?_⟩
  · exact h2.trans (fr_setCell w1 _ _) (fun k _ e => .inr ⟨v, hc0, e.symm⟩) (fun k _ e => .inl e)
  · rintro k (rfl | ⟨v', hc, hk⟩)
    · exact .inl (.inl rfl)
    · rw [hb2.cell 0] at hc
      simp at hc
      subst hc
      rcases h3 k hk with h | h
      · exact .inl (.inr ⟨v, hc0, h⟩)
      · exact .inr h

end Go.Proofs.YtkbadfljmbeciaaGreatDoor
/- The reference's keys: numbers, lists of numbers, function types. -/
namespace Go.Proofs.YtkbadfljmbeciaaGreatDoor
open Go.RowKit
abbrev holdK : Hold := holdB 136
/-- uint64(n) of an int, written. -/
def ulebI (n : Int) : List UInt8 := uleb (n % 18446744073709551616).toNat
theorem ulebI_len (n : Int) : (ulebI n).length ≤ 10 := uleb_len64 _ (by omega)
def keyNums (l : List Int) : List UInt8 := uleb l.length ++ l.flatMap ulebI
theorem flat_len (l : List Int) : (l.flatMap ulebI).length ≤ 10 * l.length := by
  induction l with
  | nil => simp
  | cons a l ih =>
    have := ulebI_len a
    simp only [List.flatMap_cons, List.length_append, List.length_cons]
    omega
/-- A contract's bounds: bytes there, and to come. -/
abbrev KeyCap : Nat := 70368744177664

set_option maxRecDepth 100000 in
set_option maxHeartbeats 400000 in
theorem key_number_calls (lo g n : Nat) (hn : n < 18446744073709551616) (bs : List UInt8) (w : World) (hS : holdK.is lo g bs w) (hlo : lo ≤ w.heap.size) (hl : bs.length + 10 ≤ KeyCap) :
    Calls Tryz.prog 35 #[.pointer (some ⟨g, 0, none⟩), .int .u64 n] w fun e w' => e = .returned (.tuple #[]) ∧ Wrote holdK lo g w (bs ++ uleb n) w' := by
  obtain ⟨hg, v, hb, ho, hne⟩ := hS
  have hc := hb.cell 0
  simp only [List.getElem?_toArray, List.getElem?_cons_zero] at hc
  have H := Lib.hid (And.intro hg (And.intro hb (And.intro ho (And.intro hne (And.intro hlo (And.intro hn hl))))))
  clear hg hb ho hne hlo hl hn
  go_enter Tryz.func35, Tryz.ntmps35
  go_wp2_with (go_at_call 20; refine Hid.out ?_)
  obtain ⟨hg, hb, ho, hne, hlo, hn, hl⟩ := H.out
  refine (specAppendUnsigned_calls n hn lo v bs w ho hlo (by simp only [KeyCap] at hl; omega)).mono ?_
  rintro e w1 ⟨v1, rfl, h1, h2, h3⟩
  clear hc
  have hb1 := hb.fr h2 (fun e => hne e.symm)
  have hc1 := hb1.cell 0
  have hf1 := hb1.frz 0
  simp only [List.getElem?_toArray, List.getElem?_cons_zero] at hc1
  obtain ⟨aa1, n1, cap1, e1⟩ := h1.shape
  subst e1
  have H1 := Lib.hid (And.intro h1 (And.intro h2 h3))
  clear hg hb ho hne hlo hn hl h1 h2 h3 hb1
  go_wp2
  go_end0
  obtain ⟨hg, hb, ho, hne, hlo, hn, hl⟩ := H.out
  obtain ⟨h1, h2, h3⟩ := H1.out
  exact ⟨rfl, isB_step hg hb hne h1 h2 h3⟩

end Go.Proofs.YtkbadfljmbeciaaGreatDoor
/- The keys of code entries. -/
namespace Go.Proofs.YtkbadfljmbeciaaGreatDoor
open Go.RowKit
def keyArg (a : Int × UInt64) : List UInt8 := ulebI a.1 ++ uleb a.2.toNat
mutual
def keyI1 : Ins → List UInt8
  | .mk op args st ty body => ulebI op ++ (uleb args.length ++ (args.flatMap keyArg ++ (if st then uleb 1 ++ (ulebI (ty + 1) ++ (uleb body.length ++ keyIs body)) else uleb 0)))
def keyIs : List Ins → List UInt8
  | [] => []
  | x :: xs => keyI1 x ++ keyIs xs
end
def keyIL (l : List Ins) : List UInt8 := uleb l.length ++ keyIs l
theorem keyIs_append : ∀ (l m : List Ins), keyIs (l ++ m) = keyIs l ++ keyIs m
  | [], m => rfl
  | x :: l, m => by simp only [List.cons_append, keyIs, keyIs_append l m, List.append_assoc]
theorem keyIs_take {l : List Ins} {i : Nat} (h : i < l.length) : keyIs (l.take (i + 1)) = keyIs (l.take i) ++ keyI1 l[i] := by
  rw [List.take_succ_eq_append_getElem h, keyIs_append]; simp [keyIs]
theorem keyIs_split {l : List Ins} {i : Nat} (h : i < l.length) : ∃ m, keyIs l = keyIs (l.take i) ++ (keyI1 l[i] ++ m) := by
  refine ⟨keyIs (l.drop (i + 1)), ?_⟩
  have : l = l.take i ++ (l[i] :: l.drop (i + 1)) := by rw [← List.drop_eq_getElem_cons h, List.take_append_drop]
  conv => lhs; rw [this]
  rw [keyIs_append, keyIs]
theorem keyArgs_split {l : List (Int × UInt64)} {i : Nat} (h : i < l.length) : ∃ m, l.flatMap keyArg = (l.take i).flatMap keyArg ++ (keyArg l[i] ++ m) := by
  refine ⟨(l.drop (i + 1)).flatMap keyArg, ?_⟩
  have : l = l.take i ++ (l[i] :: l.drop (i + 1)) := by rw [← List.drop_eq_getElem_cons h, List.take_append_drop]
  conv => lhs; rw [this]
  rw [List.flatMap_append, List.flatMap_cons]
theorem keyArgs_take {l : List (Int × UInt64)} {i : Nat} (h : i < l.length) : (l.take (i + 1)).flatMap keyArg = (l.take i).flatMap keyArg ++ keyArg l[i] := by
  rw [List.take_succ_eq_append_getElem h, List.flatMap_append]; simp
def keyLoc (x : UInt32 × Int) : List UInt8 := uleb x.1.toNat ++ ulebI x.2
def codeKey (ls : List (UInt32 × Int)) (l : List Ins) : List UInt8 := uleb ls.length ++ (ls.flatMap keyLoc ++ keyIL l)
set_option maxRecDepth 100000 in
set_option maxHeartbeats 400000 in
theorem key_flag_calls (lo g : Nat) (b : Bool) (bs : List UInt8) (w : World) (hS : holdK.is lo g bs w) (hlo : lo ≤ w.heap.size) (hl : bs.length + 10 ≤ KeyCap) :
    Calls Tryz.prog 49 #[.pointer (some ⟨g, 0, none⟩), .bool b] w fun e w' => e = .returned (.tuple #[]) ∧ Wrote holdK lo g w (bs ++ uleb (if b then 1 else 0)) w' := by
  have H := Lib.hid (And.intro hS (And.intro hlo hl))
  clear hS hlo hl
  cases b with
  | true =>
    go_enter Tryz.func49, Tryz.ntmps49
    go_wp2_with fail
    refine (key_number_calls lo g 1 (by decide) bs w H.out.1 H.out.2.1 H.out.2.2).mono ?_
    rintro e w1 ⟨rfl, hW⟩
    have hW := Lib.hid hW
    go_wp2
    go_end0
    exact ⟨rfl, hW.out⟩
  | false =>
    go_enter Tryz.func49, Tryz.ntmps49
    go_wp2_with fail
    refine (key_number_calls lo g 0 (by decide) bs w H.out.1 H.out.2.1 H.out.2.2).mono ?_
    rintro e w1 ⟨rfl, hW⟩
    have hW := Lib.hid hW
    go_wp2
    go_end0
    exact ⟨rfl, hW.out⟩
/-- An int, written as a number: what the walk computes, and what the bytes are. -/
theorem ulebI_num (x : Int) : ∃ m : Nat, IntKind.u64.wrap x = (m : Int) ∧ m < 18446744073709551616 ∧ ulebI x = uleb m :=
  ⟨(x % 18446744073709551616).toNat, by rw [IntKind.wrap_u64]; omega, by omega, rfl⟩
theorem ulebI_num1 (x : Int) : ∃ m : Nat, (IntKind.u64.wrap (wrap64 (x + 1)) = (m : Int) ∧ IntKind.u64.wrap (IntKind.i64.wrap (x + 1)) = (m : Int)) ∧ m < 18446744073709551616 ∧ ulebI (x + 1) = uleb m :=
  ⟨((x + 1) % 18446744073709551616).toNat, ⟨by rw [IntKind.wrap_u64]; unfold wrap64; omega, by rw [IntKind.wrap_u64, IntKind.wrap_i64]; omega⟩, by omega, rfl⟩
end Go.Proofs.YtkbadfljmbeciaaGreatDoor
