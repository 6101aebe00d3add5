/- Texts of this proof, one behind the other. -/
import Derived.Test.YtbdahjpdjamgiaaGreatDoorPart31
import Derived.Test.YtbdahjpdjamgiaaGreatDoorPart25
import Derived.Test.YtbdahjpdjamgiaaGreatDoorPart30
import Derived.Test.YtbdahjpdjamgiaaGreatDoorPart29
import Derived.Test.YtbdahjpdjamgiaaGreatDoorPart28
/- RoomCode, LegalCode. -/
namespace Go.Proofs.YtbdahjpdjamgiaaGreatDoor
open Go.RowKit
set_option maxRecDepth 100000 in
set_option maxHeartbeats 1000000 in
theorem RoomCode_calls (n : Nat) (l : List Ins) (v1 : Value) (most : Int) (aa : Option Addr) (m c : Nat) (A : Nat → Prop) (w : World) (h2 : (Lay.ins n).slice.rd A w [.slice aa m c] l) (hA : ∀ k, A k → k < w.heap.size) (h0 : 0 ≤ most) (h1 : most ≤ 2147483647) :
    Calls Tryz.prog 4 #[.agg #[v1, .slice aa m c], .int .i64 most] w fun e w' => e = .returned (.bool (decide ((countL l : Int) ≤ most))) ∧ Ext w w' := by
  have H := Lib.hid (And.intro h2 hA)
  clear h2 hA
  go_enter Tryz.func4, Tryz.ntmps4
  go_wp2_with fail
  have hx0 := Ext.trans (ext_alloc w (.cells #[v1, .slice aa m c] 40)) (ext_alloc _ (.cells #[.int .i64 most] 3))
  refine (room_calls n l most aa m c A (w.heap.size + 1) _ (Lay.fr H.out.1 hx0 (fun k hk => ⟨H.out.2 k hk, fun h => h⟩)) (fun k hk => ⟨by have := H.out.2 k hk; simp; omega, by have := H.out.2 k hk; omega⟩) (by have := blk_new (w.alloc (.cells #[v1, .slice aa m c] 40)) #[.int .i64 most] 3; simpa using this) h0 h1).mono ?_
  rintro e w1 ⟨rfl, hF, -⟩
  have hX : Hid (Ext w w1) := (Ext.fr hx0 hF).mono (fun k hk (e : k = w.heap.size + 1) => by omega)
  clear hF hx0
  go_wp2
  go_ret
  exact ⟨rfl, hX.out⟩
set_option maxRecDepth 100000 in
set_option maxHeartbeats 1000000 in
theorem LegalCode_calls (n : Nat) (ls : List (UInt32 × Int)) (l : List Ins) (a1 a2 : Option Addr) (n1 n2 c1 c2 : Nat) (A : Nat → Prop) (w : World) (h1 : Lay.loc.slice.rd A w [.slice a1 n1 c1] ls) (h2 : (Lay.ins n).slice.rd A w [.slice a2 n2 c2] l) (hA : ∀ k, A k → k < w.heap.size) :
    Calls Tryz.prog 5 #[.agg #[.slice a1 n1 c1, .slice a2 n2 c2]] w fun e w' => e = .returned (.bool (legalCode ls l)) ∧ Ext w w' := by
  obtain ⟨a', c', e, hlc, hcm⟩ := Lay.slice_form h1
  obtain ⟨rfl, rfl, rfl⟩ : a1 = a' ∧ n1 = ls.length ∧ c1 = c' := by simpa using e
  have hlen : (ls.length : Int) ≤ 9223372036854775807 := by simp only [maxLen] at hcm; omega
  have H := Lib.hid (And.intro h1 (And.intro h2 hA))
  clear h1 h2 hA hcm hlc e
  go_enter Tryz.func5, Tryz.ntmps5
  go_wp2_with fail
  have hB := Lib.hid (blk_new w #[.slice a1 ls.length c1, .slice a2 n2 c2] 40)
  go_loopw [8] (fun s8 w' => ∃ (i : Nat), i ≤ ls.length ∧ s8 = .int .i64 i ∧ Hid (∀ (t : Nat) (h : t < ls.length), t < i → localOk ls[t] = true) ∧ Hid (Ext (w.alloc (.cells #[.slice a1 ls.length c1, .slice a2 n2 c2] 40)) w')) (fun s8 _ => ls.length - (intOf s8).toNat)
  case atStart => exact ⟨0, Nat.zero_le _, rfl, fun t _ h => absurd h (Nat.not_lt_zero _), Fr.refl _ _⟩
  case round =>
    obtain ⟨i, hi, rfl, hJ, hF⟩ := hrel
    by_cases hlt : i < ls.length
    · obtain ⟨b, o, rfl, hA1, e0, e1, -, -⟩ := loc_at (Lay.fr H.out.1 (Ext.trans (ext_alloc _ _) hF.out) (fun k hk => ⟨H.out.2.2 k hk, fun h => h⟩)) i hlt
      have hJ2 : Hid (localOk ls[i] = true → ∀ (t : Nat) (h : t < ls.length), t < i + 1 → localOk ls[t] = true) := by
        intro h0 t h ht
        rcases Nat.lt_or_ge t i with h1 | h1
        · exact hJ.out t h h1
        · obtain rfl : t = i := by omega
          exact h0
      have hJN : Hid (localOk ls[i] = false → legalCode ls l = false) := fun h0 => by
        show (ls.all localOk && _) = false
        rw [(List.all_eq_false.2 ⟨ls[i], List.getElem_mem _, by rw [h0]; decide⟩ : ls.all localOk = false)]; rfl
      generalize ls[i] = x at *
      obtain ⟨cn, ty⟩ := x
      simp only [] at e0 e1
      have hun : Hid (localOk (cn, ty) = (decide (0 ≤ ty) && decide (ty ≤ 3))) := rfl
      generalize localOk (cn, ty) = ok at *
      clear hJ hA1
      by_cases h0 : ty < 0
      · have hN : Hid (legalCode ls l = false) := hJN.out (by rw [hun.out, decide_eq_false (by omega)]; rfl)
        clear hun hJ2 hJN
        go_wp2
        go_ret
        exact ⟨by rw [hN.out]; rfl, Ext.trans (ext_alloc _ _) (hF.out.alloc _)⟩
      · by_cases h3 : 3 < ty
        · have hN : Hid (legalCode ls l = false) := hJN.out (by rw [hun.out, decide_eq_false (by omega : ¬ ty ≤ 3), Bool.and_false])
          clear hun hJ2 hJN
          go_wp2
          go_ret
          exact ⟨by rw [hN.out]; rfl, Ext.trans (ext_alloc _ _) (hF.out.alloc _)⟩
        · have hT := Lib.hid (hJ2.out (by rw [hun.out, decide_eq_true (by omega), decide_eq_true (by omega)]; rfl))
          clear hun hJ2 hJN
          go_wp2
          go_roundw
          case rel => exact ⟨i + 1, by omega, by go_num, hT, hF.out.alloc _⟩
          case measure => simp [intOf]; omega
    · obtain rfl : i = ls.length := by omega
      have hcB := (hB.out.ext hF.out).cell
      go_wp2_with fail
      refine (legal_calls n l 0 a2 n2 c2 A _ (Lay.fr H.out.2.1 (Ext.trans (ext_alloc _ _) hF.out) (fun k hk => ⟨H.out.2.2 k hk, fun h => h⟩)) (fun k hk => Nat.lt_of_lt_of_le (H.out.2.2 k hk) (Ext.trans (ext_alloc _ _) hF.out).size) (by omega) (by omega)).mono ?_
      rintro e w2 ⟨rfl, hx⟩
      have hX := Lib.hid (Ext.trans (Ext.trans (ext_alloc _ _) hF.out) hx)
      have hL : Hid (legalCode ls l = legalL 0 l) := by
        show (ls.all localOk && _) = _
        rw [List.all_eq_true.2 (fun x hx => by obtain ⟨t, ht, rfl⟩ := List.getElem_of_mem hx; exact hJ.out t ht ht)]; rfl
      clear hx hcB
      go_wp2
      go_ret
      exact ⟨by rw [hL.out]; rfl, hX.out⟩
end Go.Proofs.YtbdahjpdjamgiaaGreatDoor
/- The walk of FnCodes: the code entries of a module are those of its bytes. -/
namespace Go.Proofs.YtbdahjpdjamgiaaGreatDoor
open Go.RowKit
set_option linter.unusedSimpArgs false
abbrev CodeP := List (UInt32 × Int) × List Ins
/-- A code entry's bytes. -/
def spB (x : CodeP) : List UInt8 := codeSp x.1 x.2
/-- What the statement's guards let in. -/
structure GoodC (x : CodeP) : Prop where
  legal : legalCode x.1 x.2 = true
  room : countL x.2 ≤ 65536
  good : (rCode (spB x)).2 = 0
theorem spB_len {x : CodeP} (h : legalL 0 x.2 = true) (hc : countL x.2 ≤ 65536) (hl : x.1.length ≤ 1048576) : (spB x).length ≤ 20000000 := by
  obtain ⟨-, -, -, h4, h5⟩ := legal_factsL x.2 0 h hc
  have l1 := uleb_len64 x.1.length (by omega)
  have l4 := locsB_len x.1
  simp only [spB, codeSp, List.length_append, List.length_cons, List.length_nil]
  omega
theorem GoodC.facts {x : CodeP} (h : GoodC x) (hl : x.1.length ≤ 1048576) : pEven (spB x) ∧ pCode (spB x) ≠ none ∧ (codeOf (spB x)).1 = x.1 ∧ codeKey x.1 (codeOf (spB x)).2 = codeKey x.1 x.2 ∧ (codeKey x.1 x.2).length + 10 ≤ KeyCap := by
  obtain ⟨hty, hl0⟩ := legal_locs h.legal
  obtain ⟨q1, q2⟩ := code_back (ls := x.1) (l := x.2) hty hl0 (by omega) h.good
  obtain ⟨hev, l2, rest, hp, hk⟩ := (code_law (spB x)).1 h.good
  have q3 : (rCode (spB x)).1.1 = x.1 := q1
  have q4 : codeKey x.1 (rCode (spB x)).1.2 = codeKey x.1 x.2 := q2
  rw [q3] at hp hk
  have he : entOf (spB x) = (x.1, l2) := by unfold entOf; rw [hp]
  have hco : codeOf (spB x) = (x.1, toIL l2) := by unfold codeOf; rw [he]
  have hcl := codeKey_len (ls := x.1) hl0 h.room (by omega)
  refine ⟨hev, (by rw [hp]; exact fun h => (by cases h)), by rw [hco], ?_, hcl.1⟩
  rw [hco]
  exact hk.trans q4
theorem text_len {cs : List (List UInt8)} (h : (cs.flatMap keyText).length ≤ 65536) : ∀ c ∈ cs, c.length ≤ 65536 := by
  intro c hc
  obtain ⟨a, b, rfl⟩ := List.append_of_mem hc
  rw [List.flatMap_append, List.flatMap_cons, List.length_append, List.length_append, keyText, List.length_append] at h
  omega
theorem texts_cap : ∀ cs : List (List UInt8), (∀ c ∈ cs, c.length ≤ 20000000) → (cs.flatMap keyText).length ≤ 20000020 * cs.length
  | [], _ => by simp
  | c :: cs, h => by
    have h1 := texts_cap cs (fun d hd => h d (List.mem_cons_of_mem _ hd))
    have h2 := h c (List.mem_cons_self ..)
    have h3 := uleb_len64 c.length (by omega)
    rw [List.flatMap_cons, List.length_append, keyText, List.length_append, List.length_cons]
    omega
theorem code_at {A : Nat → Prop} {w : World} {a : Option Addr} {n cap : Nat} {xs : List CodeP} (h : Lay.code.slice.rd A w [.slice a n cap] xs) (i : Nat) (hi : i < xs.length) :
    ∃ (b o k : Nat) (a1 : Option Addr) (c1 : Nat) (a2 : Option Addr) (c2 : Nat), a = some ⟨b, o, none⟩ ∧ w.cell? ⟨b, o + i * 2, none⟩ = some (.slice a1 xs[i].1.length c1) ∧ w.cell? ⟨b, o + i * 2 + 1, none⟩ = some (.slice a2 xs[i].2.length c2) ∧
      Lay.loc.slice.rd A w [.slice a1 xs[i].1.length c1] xs[i].1 ∧ (Lay.ins k).slice.rd A w [.slice a2 xs[i].2.length c2] xs[i].2 := by
  have hn : xs.length = n := by
    obtain ⟨_, _, e, _⟩ := h
    simp only [List.cons.injEq, Value.slice.injEq, and_true] at e
    exact e.2.1.symm
  obtain ⟨b, o, es, hi', e, hA, _, hr, hc⟩ := Lay.slice_at h i (by omega)
  obtain ⟨k, c, d, rfl, h1, h2⟩ := hr
  obtain ⟨a1, c1, rfl, q1⟩ := id h1
  obtain ⟨a2, c2, rfl, q2⟩ := id h2
  exact ⟨b, o, k, a1, c1, a2, c2, e, hc 0 (by decide), hc 1 (by decide), h1, h2⟩
theorem infoBs : (Tryz.prog.info? 43).map (fun i => (i.zero, i.size, i.bytes)) = some (some (.slice none 0 0), (Lay.u8.slice).size, 24) := by kernel_rfl
/-- The reference's module, with code entries alone. -/
abbrev modA (v : Value) : Array Value := #[.int .u32 0, .bool false, .int .u32 0, .slice none 0 0, .slice none 0 0, .slice none 0 0, .slice none 0 0, .slice none 0 0, .slice none 0 0, .slice none 0 0, .slice none 0 0, v, .slice none 0 0, .slice none 0 0, .string ⟨#[]⟩, .slice none 0 0, .slice none 0 0]
set_option maxRecDepth 100000 in
set_option maxHeartbeats 4000000 in
theorem FnCodes_calls (cl : List CodeP) (aa : Option Addr) (m cap : Nat) (pe : Addr) (w : World) (h : Lay.code.slice.rd (fun k => k < w.heap.size) w [.slice aa m cap] cl) (hE : w.cell? eofAt = some (eofV pe)) (hn : cl.length ≤ 1048576) (hls : ∀ (i : Nat) (hi : i < cl.length), cl[i].1.length ≤ 1048576) :
    Calls Tryz.prog 3 #[.slice aa m cap] w fun e w' => e = .returned (.bool true) ∧ Ext w w' := by
  obtain ⟨a', c', e, hlc, hcm⟩ := Lay.slice_form h
  obtain ⟨rfl, rfl, rfl⟩ : aa = a' ∧ m = cl.length ∧ cap = c' := by simpa using e
  have hlen : (cl.length : Int) ≤ 1048576 := by omega
  have d0 : decide ((2147483647 : Int) < (cl.length : Int)) = false := decide_eq_false (by omega)
  have HR := Lib.hid (fun W (h' : Ext w W) => And.intro (Lay.fr h h' (fun k hk => ⟨hk, fun h => h⟩)) (fun k (hk : k < w.heap.size) => Nat.lt_of_lt_of_le hk h'.size))
  have HE := Lib.hid (fun W (h : Ext w W) => eof_frame hE h (fun h => h))
  have HN := Lib.hid (And.intro hn hls)
  clear h hE hn hls e hlc hcm
  go_enter Tryz.func3, Tryz.ntmps3
  go_wp2_with fail
  have hB0 := blk_new w (modA (.slice none 0 0)) 36
  have hX0 := ext_alloc w (.cells (modA (.slice none 0 0)) 36)
  unfold modA at hB0 hX0
  generalize (w.alloc (.cells #[.int .u32 0, .bool false, .int .u32 0, .slice none 0 0, .slice none 0 0, .slice none 0 0, .slice none 0 0, .slice none 0 0, .slice none 0 0, .slice none 0 0, .slice none 0 0, .slice none 0 0, .slice none 0 0, .slice none 0 0, .string ⟨#[]⟩, .slice none 0 0, .slice none 0 0] 36)) = W1 at *
  obtain ⟨g, hg⟩ : ∃ g, w.heap.size = g := ⟨_, rfl⟩
  rw [hg] at hB0 ⊢
  have H1 := Lib.hid (And.intro hB0 (And.intro hX0 hg))
  clear hB0 hX0 hg
  go_loopw [5, 6, 7, 8, 18] (fun s5 s6 s7 s8 s18 w' => ∃ (i : Nat) (va : Value), i ≤ cl.length ∧ s18 = .int .i64 i ∧ Hid (Blk w' g (modA va) 36 ∧ Own Lay.u8.slice 43 W1.heap.size w' va ((cl.map spB).take i) ∧ Fr (fun k => k = g) W1 w' ∧ ∀ (j : Nat) (hj : j < cl.length), j < i → GoodC cl[j])) (fun _ _ _ _ s18 _ => cl.length - (intOf s18).toNat)
  case atStart => exact ⟨0, _, Nat.zero_le _, rfl, H1.out.1, own_nil _ _ _ _, Fr.refl _ _, fun j _ hj => absurd hj (by omega)⟩
  case round =>
    obtain ⟨i, va, hi, rfl, hV⟩ := hrel
    obtain ⟨va1, va2, va3, rfl⟩ := hV.out.2.1.shape
    have hXr := Lib.hid (show Ext w wr from Fr.new (Ext.fr H1.out.2.1 hV.out.2.2.1) (fun k e => by have e' : k = g := e; have := H1.out.2.2; omega))
    have hgl := hV.out.1.lt
    have hgW := H1.out.1.lt
    by_cases hlt : i < cl.length
    · obtain ⟨b, o, k, a1, c1, a2, c2, rfl, e0, e1, r1, r2⟩ := code_at (HR.out _ hXr.out).1 i hlt
      have hlsi := HN.out.2 i hlt
      have HX := Lib.hid (And.intro r1 (And.intro r2 (And.intro (HR.out _ hXr.out).2 hlsi)))
      have htk := Lib.hid (show (cl.map spB).take (i + 1) = (cl.map spB).take i ++ [spB cl[i]] from by rw [List.take_succ_eq_append_getElem (by simpa using hlt)]; simp)
      have hgi := Lib.hid (show ∀ (hg : GoodC cl[i]) (j : Nat) (hj : j < cl.length), j < i + 1 → GoodC cl[j] from fun hg j hj hji => by
        rcases Nat.lt_or_ge j i with h | h
        · exact hV.out.2.2.2 j hj h
        · have : j = i := by omega
          subst this
          exact hg)
      generalize cl[i] = x at *
      clear r1 r2 hlsi
      go_wp2_with fail
      have hxa := Lib.hid (ext_alloc wr (.cells #[.slice a1 x.1.length c1, .slice a2 x.2.length c2] 40))
      have hBc := Lib.hid (blk_new wr #[.slice a1 x.1.length c1, .slice a2 x.2.length c2] 40)
      have hcB := hBc.out.cell
      generalize (wr.alloc (.cells #[.slice a1 x.1.length c1, .slice a2 x.2.length c2] 40)) = W2 at *
      obtain ⟨gc, hgc⟩ : ∃ gc, wr.heap.size = gc := ⟨_, rfl⟩
      have hgc2 := Lib.hid hgc
      rw [hgc] at hcB hBc ⊢
      have HY := Lib.hid (fun W (h' : Ext W2 W) => (show Lay.loc.slice.rd (fun k => k < w.heap.size) W [.slice a1 x.1.length c1] x.1 ∧ (Lay.ins k).slice.rd (fun k => k < w.heap.size) W [.slice a2 x.2.length c2] x.2 ∧ (∀ k, k < w.heap.size → k < W.heap.size) from
        ⟨Lay.fr HX.out.1 (Ext.trans hxa.out h') (fun k hk => ⟨HX.out.2.2.1 k hk, fun h => h⟩), Lay.fr HX.out.2.1 (Ext.trans hxa.out h') (fun k hk => ⟨HX.out.2.2.1 k hk, fun h => h⟩), fun k hk => Nat.lt_of_lt_of_le (HX.out.2.2.1 k hk) (Ext.trans hxa.out h').size⟩))
      clear e0 e1 hgc
      go_wp2_with fail
      obtain ⟨r1, r2, r3⟩ := HY.out _ (Fr.refl _ _)
      refine (RoomCode_calls k x.2 _ 65536 a2 x.2.length c2 _ W2 r2 r3 (by decide) (by decide)).mono ?_
      rintro e w3 ⟨rfl, hx3⟩
      have hX3 := Lib.hid hx3
      clear hcB r1 r2 r3 hx3
      have hcB := (hBc.out.ext hX3.out).cell
      by_cases hroom : (countL x.2 : Int) ≤ 65536
      · have hb : decide ((countL x.2 : Int) ≤ 65536) = true := decide_eq_true hroom
        rw [hb]
        have hroom := Lib.hid (show countL x.2 ≤ 65536 by omega)
        clear hb
        go_wp2_with fail
        obtain ⟨r1, r2, r3⟩ := HY.out _ hX3.out
        refine (LegalCode_calls k x.1 x.2 a1 a2 x.1.length x.2.length c1 c2 _ w3 r1 r2 r3).mono ?_
        rintro e w4 ⟨rfl, hx4⟩
        have hX4 := Lib.hid (Ext.trans hX3.out hx4)
        clear hcB r1 r2 r3 hx4
        have hcB := (hBc.out.ext hX4.out).cell
        cases hleg : legalCode x.1 x.2 with
        | true =>
          have hleg := Lib.hid hleg
          go_wp2_with fail
          obtain ⟨hty, hl0⟩ := legal_locs hleg.out
          have hbl := spB_len hl0 hroom.out HX.out.2.2.2
          obtain ⟨r1, r2, r3⟩ := HY.out _ hX4.out
          refine (CodeBytes_calls k x.1 x.2 a1 a2 x.1.length x.2.length c1 c2 _ w4 r1 r2 r3 hty (by unfold spB at hbl; omega)).mono ?_
          rintro e w5 ⟨u, rfl, hu, hx5⟩
          have hX5 := Lib.hid (Ext.trans hX4.out hx5)
          have hw45 := hX4.out.size
          obtain ⟨u1, cu, rfl, -, -⟩ := hu.form
          have HU := Lib.hid (And.intro hu (And.intro hbl hw45))
          clear hcB r1 r2 r3 hx5 hu hbl hty hl0 hw45
          rw [show codeSp x.1 x.2 = spB x from rfl] at *
          go_wp2_with fail
          refine (ReadCode_calls _ u1 cu (spB x) w5 HU.out.1.slice (fun k hk => hk.2) (by have := HU.out.2.1; omega)).mono ?_
          rintro e w6 ⟨f1, f2, f3, g1, g2, g3, rfl, -, -, hx6⟩
          obtain ⟨v0, hv0⟩ : ∃ v0, (rCode (spB x)).2 = v0 := ⟨_, rfl⟩
          rw [hv0]
          have hX7 := Lib.hid (Ext.trans hX5.out (Ext.trans hx6 (ext_alloc w6 (.cells #[.slice f1 f2 f3, .slice g1 g2 g3] 40))))
          have hx57 := Lib.hid (Ext.trans hx6 (ext_alloc w6 (.cells #[.slice f1 f2 f3, .slice g1 g2 g3] 40)))
          have hv0 := Lib.hid hv0
          clear hx6
          by_cases hv : v0 = 0
          · subst hv
            have hX8 := Lib.hid (Ext.trans hxa.out hX7.out)
            have hBm := hV.out.1.ext hX8.out
            unfold modA at hBm
            have hcm := hBm.cell
            have hfm := hBm.frz
            have HBm := Lib.hid hBm
            clear hBm
            go_wp2_with (at_builtin; refine Hid.out ?_)
            have hwr7 : wr.heap.size ≤ (w6.alloc (.cells #[.slice f1 f2 f3, .slice g1 g2 g3] 40)).heap.size := hX8.out.size
            have hw57 : w5.heap.size ≤ (w6.alloc (.cells #[.slice f1 f2 f3, .slice g1 g2 g3] 40)).heap.size := hx57.out.size
            have hw67 : (w6.alloc (.cells #[.slice f1 f2 f3, .slice g1 g2 g3] 40)).heap.size = w6.heap.size + 1 := by simp
            have hxa1 := hxa.out.size
            have hW1r := hV.out.2.2.1.size
            refine own_append1n Lay.u8.slice W1.heap.size (w6.heap.size + 1) (by simp) rfl (.tmp 40) (.tmp 42) _ _ _ 24 rfl Tryz.underlying31 infoBs rfl (by omega) (by decide) (.slice va1 va2 va3) ((cl.map spB).take i) (spB x) _ rfl rfl (hV.out.2.1.ext hX8.out) (Lay.mono _ (Lay.fr HU.out.1.slice hx57.out (fun k hk => ⟨hk.2, fun h => h⟩)) (fun k hk => ⟨by have := HU.out.2.2; omega, by omega, fun e => by have := (hV.out.2.1.lt k e.symm).2; have := HU.out.2.2; omega⟩)) (by omega) (by have := HN.out.1; rw [List.length_take]; omega) ?_
            intro v1 w8 h1 h2 h3
            have hne : (Value.slice va1 va2 va3).ownBlock ≠ some g := fun e => by have := (hV.out.2.1.lt _ e).1; omega
            have hB2 := HBm.out.fr h2 (fun e => hne e.symm)
            have hc2 := hB2.cell
            have hf2 := hB2.frz
            obtain ⟨vb1, vb2, vb3, rfl⟩ := h1.shape
            have hF2 : Fr (fun k => k = g) W1 w8 := Fr.trans (hV.out.2.2.1.ext hX8.out) h2 (fun _ _ h => h) (fun k hk e => absurd hk (by have := (hV.out.2.1.lt k e.symm).1; omega))
            have hO2 : Own Lay.u8.slice 43 W1.heap.size w8 (.slice vb1 vb2 vb3) ((cl.map spB).take (i + 1)) := by rw [htk.out]; exact h1
            have H2 := Lib.hid (And.intro hB2 (And.intro hO2 (And.intro hF2 (GoodC.mk hleg.out hroom.out hv0.out))))
            clear h1 h2 h3 hB2 hO2 hF2 hcm hfm hne
            go_wp2_with fail
            have hV2 : Hid (Blk (w8.setCell ⟨g, 11, none⟩ (.slice vb1 vb2 vb3)) g (modA (.slice vb1 vb2 vb3)) 36 ∧ Own Lay.u8.slice 43 W1.heap.size (w8.setCell ⟨g, 11, none⟩ (.slice vb1 vb2 vb3)) (.slice vb1 vb2 vb3) ((cl.map spB).take (i + 1)) ∧ Fr (fun k => k = g) W1 (w8.setCell ⟨g, 11, none⟩ (.slice vb1 vb2 vb3)) ∧ ∀ (j : Nat) (hj : j < cl.length), j < i + 1 → GoodC cl[j]) := by
              refine ⟨?_, Own.fr H2.out.2.1 (fr_setCell _ _ _) (fun k' h _ e => by have e' : k' = g := e; omega), H2.out.2.2.1.setCell (.inl rfl) _, hgi.out H2.out.2.2.2⟩
              have := H2.out.1.set 11 (.slice vb1 vb2 vb3)
              simpa using this
            clear hc2 hf2
            go_roundw
            case rel => exact ⟨i + 1, _, by omega, by go_num, hV2⟩
            case measure => simp [intOf]; omega
          · have hvn : ((v0 : Int) != 0) = true := by rw [bne_iff_ne]; omega
            go_wp2
            go_ret
            exact ⟨rfl, Ext.trans hXr.out (Ext.trans hxa.out hX7.out)⟩
        | false =>
          go_wp2
          go_ret
          exact ⟨rfl, Ext.trans hXr.out (Ext.trans hxa.out hX4.out)⟩
      · have hb : decide ((countL x.2 : Int) ≤ 65536) = false := decide_eq_false hroom
        rw [hb]
        clear hb hroom
        go_wp2
        go_ret
        exact ⟨rfl, Ext.trans hXr.out (Ext.trans hxa.out hX3.out)⟩
    · obtain rfl : i = cl.length := by omega
      have hml : (cl.map spB).length = cl.length := List.length_map _
      have hV' := hV.out
      rw [show (cl.map spB).take cl.length = cl.map spB from by rw [List.take_of_length_le (by simp)]] at hV'
      unfold modA at hV'
      have HV := Lib.hid (And.intro hV'.1 (And.intro hV'.2.1 (show ∀ (j : Nat) (hj : j < cl.length), GoodC cl[j] from fun j hj => hV'.2.2.2 j hj hj)))
      obtain ⟨ax, cx, e, -, -⟩ := hV'.2.1.form
      rw [hml] at e
      simp only [Value.slice.injEq] at e
      obtain ⟨rfl, rfl, rfl⟩ := e
      have hmlH := Lib.hid hml
      clear hV hV' hml
      go_upto_region 15 with fail
      refine wp_region_lit ?_
      refine HV.out.1.wpList_load rfl 36 (.tmp 3) rfl rfl _ Tryz.underlying36 rfl (by kernel_rfl) ?_
      go_wp2_with fail
      have hcap := Lib.hid (show ((cl.map spB).flatMap keyText).length + 40 ≤ 35184372088832 from by
        have h1 := texts_cap (cl.map spB) (fun c hc => by
          obtain ⟨x, hx, rfl⟩ := List.mem_map.1 hc
          obtain ⟨j, hj, rfl⟩ := List.getElem_of_mem hx
          have hg := HV.out.2.2 j hj
          exact spB_len (legal_locs hg.legal).2 hg.room (HN.out.2 j hj))
        rw [hmlH.out] at h1
        have := HN.out.1
        omega)
      refine (small_calls (cl.map spB) va1 cl.length va3 _ wr HV.out.2.1.slice (fun k hk => hk.2) hcap.out).mono ?_
      rintro e w3 ⟨sm, rfl, hsm0, hx3⟩
      cases sm with
      | false =>
        go_wp2
        go_ret
        exact ⟨rfl, Ext.trans hXr.out hx3⟩
      | true =>
        have hsm := Lib.hid (hsm0 rfl)
        clear hsm0
        have hX3 := Lib.hid hx3
        clear hx3
        go_upto_region 17 with fail
        refine wp_region_lit ?_
        refine (HV.out.1.ext hX3.out).wpList_load rfl 36 (.tmp 3) rfl rfl _ Tryz.underlying36 rfl (by kernel_rfl) ?_
        go_wp2_with fail
        refine (given0_calls va1 cl.length va3 w3).mono ?_
        rintro e w4 ⟨rfl, hx4⟩
        have hX4 := Lib.hid (Ext.trans hX3.out hx4)
        clear hx4
        go_wp2_with fail
        have hcs := Lib.hid (show ∀ (i : Nat) (hi : i < (cl.map spB).length), (cl.map spB)[i].length ≤ 65536 ∧ pEven (cl.map spB)[i] ∧ pCode (cl.map spB)[i] ≠ none from fun j hj => by
          have hj' : j < cl.length := by rw [hmlH.out] at hj; exact hj
          have hf := (HV.out.2.2 j hj').facts (HN.out.2 j hj')
          have := text_len hsm.out _ (List.getElem_mem hj)
          rw [List.getElem_map] at *
          exact ⟨this, hf.1, hf.2.1⟩)
        refine (implCodes_calls (cl.map spB) va1 cl.length va3 pe _ w4 (Lay.fr HV.out.2.1.slice hX4.out (fun k hk => ⟨hk.2, fun h => h⟩)) (fun k hk => Nat.lt_of_lt_of_le hk.2 hX4.out.size) (HE.out _ (Ext.trans hXr.out hX4.out)) (by rw [hmlH.out]; exact HN.out.1) (fun j hj => ⟨Nat.le_trans (hcs.out j hj).1 (by decide), (hcs.out j hj).2⟩)).mono ?_
        rintro e w5 ⟨a2, c2, rfl, hr, hx5⟩
        rw [hmlH.out] at hr ⊢
        have H5 := Lib.hid (And.intro hr (And.intro (Ext.trans hXr.out (Ext.trans hX4.out hx5)) (show ∀ (j : Nat) (hj : j < cl.length), GoodC cl[j] ∧ (spB cl[j]).length ≤ 65536 from fun j hj => ⟨HV.out.2.2 j hj, by
          have := (hcs.out j (by rw [hmlH.out]; exact hj)).1
          rw [List.getElem_map] at this
          exact this⟩)))
        clear hr hx5 hcs hcap hsm hX3 hX4 HV hXr
        go_wp2_with fail
        clear hgl hgW hi hlt
        generalize wr = wq at *
        go_loopw [11, 12, 66] (fun s11 s12 s66 w' => ∃ (i : Nat), i ≤ cl.length ∧ s66 = .int .i64 i ∧ Hid (Ext w5 w')) (fun _ _ s66 _ => cl.length - (intOf s66).toNat)
        case atStart => exact ⟨0, Nat.zero_le _, rfl, Fr.refl _ _⟩
        case round =>
          obtain ⟨i, hi, rfl, hQ⟩ := hrel
          have hXr := Lib.hid (show Ext w wr from Ext.trans H5.out.2.1 hQ.out)
          by_cases hlt : i < cl.length
          · obtain ⟨b, o, k, a1, c1, a3, c3, rfl, e0, e1, r1, r2⟩ := code_at (HR.out _ hXr.out).1 i hlt
            obtain ⟨b', o', k', a1', c1', a3', c3', rfl, e0', e1', r1', r2'⟩ := code_at (Lay.fr H5.out.1 hQ.out (fun k hk => ⟨hk.2, fun h => h⟩)) i (by rw [List.length_map, List.length_map]; exact hlt)
            rw [List.getElem_map, List.getElem_map] at e0' e1' r1' r2'
            have hf := (H5.out.2.2 i hlt).1.facts (HN.out.2 i hlt)
            have hbl := (H5.out.2.2 i hlt).2
            have hll : cl[i].2.length ≤ 65536 := Nat.le_trans (count_len _) (H5.out.2.2 i hlt).1.room
            have hlsi := HN.out.2 i hlt
            generalize cl[i] = x at *
            have hfit : (codeOf (spB x)).2.length ≤ 1048576 ∧ fitA (codeOf (spB x)).2 ∧ (codeKey x.1 (codeOf (spB x)).2).length + 10 ≤ KeyCap := by
              cases hp : pCode (spB x) with
              | none => exact absurd hp hf.2.1
              | some q =>
                obtain ⟨ls, l, rest⟩ := q
                have h1 := pCode_fit hp (by omega)
                have h2 := read_key_len hp
                have h3 := hf.2.2.1
                have he : entOf (spB x) = (ls, l) := by unfold entOf; rw [hp]
                unfold codeOf at h3 ⊢
                rw [he] at h3 ⊢
                dsimp only at h3 ⊢
                subst h3
                refine ⟨by rw [toIL_len]; omega, toIL_fit h1.2.2, by simp only [KeyCap]; omega⟩
            rw [hf.2.2.1] at e0' r1'
            generalize (codeOf (spB x)).2 = y at *
            have HX := Lib.hid (And.intro r1 (And.intro r2 (And.intro r1' (And.intro r2' (And.intro hf (And.intro hfit (And.intro hlsi ((HR.out _ hXr.out).2))))))))
            clear r1 r2 r1' r2' hf hfit hlsi hll hbl
            go_wp2_with fail
            have hxa := Lib.hid (ext_alloc wr (.cells #[.slice a1 x.1.length c1, .slice a3 x.2.length c3] 40))
            have hBc := Lib.hid (blk_new wr #[.slice a1 x.1.length c1, .slice a3 x.2.length c3] 40)
            have e0'' := Lib.hid (fun W (h' : Ext wr W) => And.intro (h'.cell e0' (fun h => h)) (h'.cell e1' (fun h => h)))
            generalize (wr.alloc (.cells #[.slice a1 x.1.length c1, .slice a3 x.2.length c3] 40)) = W2 at *
            obtain ⟨gc, hgc⟩ : ∃ gc, wr.heap.size = gc := ⟨_, rfl⟩
            rw [hgc] at hBc ⊢
            have hgc := Lib.hid hgc
            clear e0 e1 e0' e1'
            go_wp2_with fail
            refine region_items extFrm [(0, .take), (1, .take), (2, .take), (3, .take), (6, .take), (4, .run), (5, .run), (7, .run), (8, .take)] (by kernel_rfl) (by kernel_rfl) ?_
            simp only [itemsOf, List.getD_cons_zero, List.getD_cons_succ]
            have HC := Lib.hid (fun W' (h : Ext W2.drew W') => And.intro (e0''.out _ (Ext.trans hxa.out (Ext.trans (ext_drew _) h))).1 (And.intro (e0''.out _ (Ext.trans hxa.out (Ext.trans (ext_drew _) h))).2 (hBc.out.ext (Ext.trans (ext_drew _) h)).cell))
            have hxd := Lib.hid (Ext.trans hxa.out (ext_drew W2))
            generalize W2.drew = W3 at *
            repeat (apply item_take; rfl; rfl; rfl; rfl; exact fun _ _ _ _ h => h; (intro W hE K hK; have q := HC.out W hE; go_simp; exact hK))
            apply item_run; rfl; intro K hK; go_simp
            refine (lawsPlainCode_calls k' x.1 y a1' a3' x.1.length y.length c1' c3' _ W3 (Lay.fr HX.out.2.2.1 hxd.out (fun k hk => ⟨Nat.lt_of_lt_of_le hk.2 hQ.out.size, fun h => h⟩)) (Lay.fr HX.out.2.2.2.1 hxd.out (fun k hk => ⟨Nat.lt_of_lt_of_le hk.2 hQ.out.size, fun h => h⟩)) (fun k hk => Nat.lt_of_lt_of_le (Nat.lt_of_lt_of_le hk.2 hQ.out.size) hxd.out.size) (by have := HX.out.2.2.2.2.2.2.1; omega) HX.out.2.2.2.2.2.1.1 HX.out.2.2.2.2.2.1.2.1).mono ?_
            rintro e w10 ⟨y1, y2, y3, z1, z2, z3, rfl, r1, r2, hx11⟩
            refine hK _ _ hx11 ?_
            have H6 := Lib.hid (And.intro r1 (And.intro r2 (Ext.trans hxd.out hx11)))
            clear hK K r1 r2 hx11
            apply item_run; rfl; intro K hK; go_simp
            refine (CodeKey_calls k' x.1 y y1 z1 y2 z2 y3 z3 _ w10 H6.out.1 H6.out.2.1 (fun k hk => hk.2) HX.out.2.2.2.2.2.1.2.2).mono ?_
            rintro e w11 ⟨rfl, hx12⟩
            refine hK _ _ hx12 ?_
            have H7 := Lib.hid (Ext.trans H6.out.2.2 hx12)
            clear hK K hx12
            apply item_run; rfl; intro K hK; go_simp
            refine (CodeKey_calls k x.1 x.2 a1 a3 x.1.length x.2.length c1 c3 _ w11 (Lay.fr HX.out.1 H7.out (fun k hk => ⟨HX.out.2.2.2.2.2.2.2 k hk, fun h => h⟩)) (Lay.fr HX.out.2.1 H7.out (fun k hk => ⟨HX.out.2.2.2.2.2.2.2 k hk, fun h => h⟩)) (fun k hk => Nat.lt_of_lt_of_le (HX.out.2.2.2.2.2.2.2 k hk) H7.out.size) HX.out.2.2.2.2.1.2.2.2.2).mono ?_
            rintro e w12 ⟨rfl, hx13⟩
            refine hK _ _ hx13 ?_
            rw [HX.out.2.2.2.2.1.2.2.2.1]
            have hV2 := Lib.hid (show Ext w5 w12 from Ext.trans hQ.out (Ext.trans H7.out hx13))
            clear hK K hx13 HC
            repeat (apply item_take; rfl; rfl; rfl; rfl; exact fun _ _ _ _ h => h; (intro W hE K hK; go_simp; exact hK))
            apply items_done
            go_wp2
            go_roundw
            case rel => exact ⟨i + 1, by omega, by go_num, hV2⟩
            case measure => simp [intOf]; omega
          · obtain rfl : i = cl.length := by omega
            go_wp2
            go_ret
            exact ⟨rfl, hXr.out⟩
end Go.Proofs.YtbdahjpdjamgiaaGreatDoor
