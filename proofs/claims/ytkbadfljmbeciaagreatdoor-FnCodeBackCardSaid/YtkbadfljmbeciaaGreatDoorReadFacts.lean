/- Facts on code entries that are read. -/
import Derived.Test.YtkbadfljmbeciaaGreatDoorReadLaw
import Derived.Test.YtkbadfljmbeciaaGreatDoorSpecReadCode
import Derived.Test.YtkbadfljmbeciaaGreatDoorCodeKeyWalk
import Derived.Test.YtkbadfljmbeciaaGreatDoorLawsPlainCode
namespace Go.Proofs.YtkbadfljmbeciaaGreatDoor
open Go.RowKit
mutual
def cntR1 : RI → Nat
  | .blk _ b => 1 + cntRL b
  | .i32 _ => 1
  | .i64 _ => 1
  | .eqz => 1
  | .idx _ _ => 1
  | .ci _ _ => 1
  | .ret => 1
def cntRL : List RI → Nat
  | [] => 0
  | x :: xs => cntR1 x + cntRL xs
end
theorem cntR1_pos : ∀ x : RI, 1 ≤ cntR1 x
  | .blk _ _ => by rw [cntR1]; omega
  | .i32 _ | .i64 _ | .eqz | .idx _ _ | .ci _ _ | .ret => by rw [cntR1]; omega
theorem pIns_cnt : ∀ (f : Nat) (bs : List UInt8) {l : List RI} {r : List UInt8}, pIns f bs = .ok l r → cntRL l + r.length ≤ bs.length
  | 0, _, _, _, h => by cases h
  | _ + 1, [], _, _, h => by cases h
  | f + 1, c :: r0, l, r, h => by
    have app : ∀ {x : RI} {bs : List UInt8} {k : Nat}, (pIns f bs).app [x] = .ok l r → bs.length + k ≤ r0.length → cntR1 x ≤ k + 1 → cntRL l + r.length ≤ r0.length + 1 := fun {x bs k} h hb hx => by
      cases hp : pIns f bs with
      | ok l' r' =>
        rw [hp] at h
        simp only [PO.app, PO.ok.injEq, List.singleton_append] at h
        obtain ⟨rfl, rfl⟩ := h
        have := pIns_cnt f bs hp
        rw [cntRL]
        omega
      | bad => rw [hp] at h; cases h
      | odd => rw [hp] at h; cases h
    simp only [List.length_cons]
    unfold pIns at h
    split at h
    · split at h
      · cases h
      · have := readS_shorter _ _ _ ‹_›; exact app (k := 0) h (by omega) (by rw [cntR1]; omega)
    · split at h
      · split at h
        · cases h
        · have := readS_shorter _ _ _ ‹_›; exact app (k := 0) h (by omega) (by rw [cntR1]; omega)
      · split at h
        · exact app (k := 0) h (by omega) (by rw [cntR1]; omega)
        · split at h
          · split at h
            · cases h
            · have := readU_shorter _ _ _ ‹_›; exact app (k := 0) h (by omega) (by rw [cntR1]; omega)
          · split at h
            · split at h
              · cases h
              · cases h
              · have h2 := readU_shorter _ _ _ ‹_›; simp only [List.length_cons] at h2; exact app (k := 0) h (by omega) (by rw [cntR1]; omega)
            · split at h
              · exact app (k := 0) h (by omega) (by rw [cntR1]; omega)
              · split at h
                · split at h
                  · cases h
                  · split at h
                    · cases h
                    · split at h
                      · rename_i b r1 hb64 l1 r2 hp1
                        have h2 := pIns_cnt f _ hp1
                        exact app (k := cntRL l1) h (by simp only [List.length_cons]; omega) (by rw [cntR1]; omega)
                      · cases h
                      · cases h
                · split at h
                  · simp only [PO.ok.injEq] at h; obtain ⟨rfl, rfl⟩ := h; rw [cntRL]; omega
                  · cases h
theorem keyArg_len (a : Int × UInt64) : (keyArg a).length ≤ 20 := by
  unfold keyArg
  have h1 := ulebI_len a.1
  have h2 := uleb_len64 a.2.toNat a.2.toNat_lt
  rw [List.length_append]; omega
theorem uleb_short (n : Nat) : (uleb n).length ≤ n + 1 := by
  induction n using Nat.strongRecOn with
  | ind n ih =>
    by_cases h : n < 128
    · rw [uleb_small h]; simp
    · rw [uleb_big (by omega), List.length_cons]
      have := ih (n / 128) (by omega)
      omega
theorem key_plain (op : Int) (args : List (Int × UInt64)) (ha : args.length ≤ 2) : (keyI1 (.mk op args false (-1) [])).length ≤ 60 := by
  have h1 := ulebI_len op
  have h2 := uleb_short args.length
  have h3 : (args.flatMap keyArg).length ≤ 40 := by
    match args, ha with
    | [], _ => simp
    | [a], _ => have := keyArg_len a; simp; omega
    | [a, b], _ => have := keyArg_len a; have := keyArg_len b; simp; omega
  have h4 := uleb_short 0
  unfold keyI1
  simp only [List.length_append, Bool.false_eq_true, if_false]
  omega
mutual
theorem keyI1_len : ∀ x : RI, (keyI1 (toI1 x)).length + 1 ≤ 101 * cntR1 x
  | .blk lp b => by
    have ih := keyIs_len b
    rw [toI1, cntR1]
    have h1 := ulebI_len (if lp then 3 else 2)
    have h2 := ulebI_len (-1 + 1)
    have h3 := uleb_short (toIL b).length
    have h4 := uleb_short 0
    have h5 := uleb_short 1
    rw [toIL_len] at h3
    unfold keyI1
    simp only [List.length_append, if_true, List.length_nil, List.flatMap_nil, toIL_len]
    omega
  | .i32 v => by rw [toI1, cntR1]; have := key_plain 65 [(0, bits64 (v % 4294967296))] (by simp); omega
  | .i64 v => by rw [toI1, cntR1]; have := key_plain 66 [(1, bits64 v)] (by simp); omega
  | .eqz => by rw [toI1, cntR1]; have := key_plain 69 [] (by simp); omega
  | .idx o n => by rw [toI1, cntR1]; have := key_plain o [(2, bits64 (n : Int))] (by simp); omega
  | .ci n r => by rw [toI1, cntR1]; have := key_plain 17 [(2, bits64 (n : Int)), (5, bits64 (r : Int))] (by simp); omega
  | .ret => by rw [toI1, cntR1]; have := key_plain 15 [] (by simp); omega
theorem keyIs_len : ∀ l : List RI, (keyIs (toIL l)).length + l.length ≤ 101 * cntRL l
  | [] => by rw [toIL, cntRL]; simp [keyIs]
  | x :: xs => by
    have h1 := keyI1_len x
    have h2 := keyIs_len xs
    rw [toIL, keyIs, List.length_append, cntRL, List.length_cons]
    omega
end
theorem locs_klen : ∀ ls : List (UInt32 × Int), (ls.flatMap keyLoc).length ≤ 20 * ls.length
  | [] => by simp
  | x :: xs => by
    have ih := locs_klen xs
    have h1 := uleb_len64 x.1.toNat (Nat.lt_trans x.1.toNat_lt (by decide))
    have h2 := ulebI_len x.2
    rw [List.flatMap_cons, List.length_append, List.length_cons]
    unfold keyLoc at *
    rw [List.length_append]
    omega
theorem read_key_len {b : List UInt8} {ls : List (UInt32 × Int)} {l : List RI} {rest : List UInt8} (h : pCode b = some (ls, l, rest)) : (codeKey ls (toIL l)).length ≤ 1000 * b.length + 1000 := by
  unfold pCode at h
  split at h
  · cases h
  · rename_i ls' r' hpl
    have hs := pLoc_shorter hpl
    split at h
    · rename_i l' rest' hpi
      simp only [Option.some.injEq, Prod.mk.injEq] at h
      obtain ⟨rfl, rfl, rfl⟩ := h
      have h1 := pIns_cnt _ _ hpi
      have h2 := keyIs_len l'
      have h3 := uleb_short ls'.length
      have h4 := locs_klen ls'
      have h5 := uleb_short l'.length
      unfold codeKey keyIL
      simp only [List.length_append, toIL_len]
      omega
    · cases h
theorem u8_two (w : World) : Lay.u8.slice.rd (fun k => k < (w.alloc (.cells #[.int .u8 0, .int .u8 11] 5)).heap.size) (w.alloc (.cells #[.int .u8 0, .int .u8 11] 5)) [.slice (some ⟨w.heap.size, 0, none⟩) 2 2] [0, 11] :=
  ⟨_, 2, rfl, Nat.le_refl _, by decide, fun _ => ⟨w.heap.size, 0, _, _, _, [.int .u8 0, .int .u8 11], rfl, by simp, blk_new w _ _, ⟨[_], _, rfl, rfl, Lay.all_single rfl⟩, fun j hj => by simp⟩⟩
theorem two_code : (∃ ls l rest, pCode [0, 11] = some (ls, l, rest)) ∧ pEven [0, 11] := by
  have h1 : pLoc [0, 11] = some ([], [11]) := by rfl
  have h2 : pIns 2 [11] = .ok [] [] := by rfl
  refine ⟨⟨[], [], [], by unfold pCode; rw [h1]; simp only []; rw [show ([11] : List UInt8).length + 1 = 2 from rfl, h2]⟩, fun ls r h => ?_⟩
  rw [h1] at h
  simp only [Option.some.injEq, Prod.mk.injEq] at h
  rw [← h.2, show ([11] : List UInt8).length + 1 = 2 from rfl, h2]
  exact fun q => by cases q
theorem rd_len {A : Nat → Prop} {w : World} {aa : Option Addr} {m cap : Nat} {bs : List UInt8} (h : Lay.u8.slice.rd A w [.slice aa m cap] bs) : m = bs.length := by
  obtain ⟨_, _, e, _⟩ := h
  simp only [List.cons.injEq, Value.slice.injEq, and_true] at e
  exact e.2.1
theorem toIL_fit : ∀ {l : List RI}, fitRL l → fitA (toIL l)
  | [], _ => by rw [toIL]; trivial
  | .blk lp b :: xs, h => by
    rw [fitRL, fitR1] at h
    rw [toIL, toI1]
    exact ⟨⟨Nat.zero_le _, by rw [toIL_len]; exact h.1.1, toIL_fit h.1.2⟩, toIL_fit h.2⟩
  | .i32 _ :: xs, h => by rw [fitRL] at h; rw [toIL, toI1]; exact ⟨⟨by simp, by simp, trivial⟩, toIL_fit h.2⟩
  | .i64 _ :: xs, h => by rw [fitRL] at h; rw [toIL, toI1]; exact ⟨⟨by simp, by simp, trivial⟩, toIL_fit h.2⟩
  | .eqz :: xs, h => by rw [fitRL] at h; rw [toIL, toI1]; exact ⟨⟨by simp, by simp, trivial⟩, toIL_fit h.2⟩
  | .idx _ _ :: xs, h => by rw [fitRL] at h; rw [toIL, toI1]; exact ⟨⟨by simp, by simp, trivial⟩, toIL_fit h.2⟩
  | .ci _ _ :: xs, h => by rw [fitRL] at h; rw [toIL, toI1]; exact ⟨⟨by simp, by simp, trivial⟩, toIL_fit h.2⟩
  | .ret :: xs, h => by rw [fitRL] at h; rw [toIL, toI1]; exact ⟨⟨by simp, by simp, trivial⟩, toIL_fit h.2⟩
theorem pCode_fit {b : List UInt8} {ls : List (UInt32 × Int)} {l : List RI} {rest : List UInt8} (h : pCode b = some (ls, l, rest)) (hb : b.length ≤ 1048576) : ls.length ≤ b.length ∧ l.length ≤ b.length ∧ fitRL l := by
  unfold pCode at h
  split at h
  · cases h
  · rename_i ls' r' hpl
    have hs := pLoc_shorter hpl
    split at h
    · rename_i l' rest' hpi
      simp only [Option.some.injEq, Prod.mk.injEq] at h
      obtain ⟨rfl, rfl, rfl⟩ := h
      have := pIns_fit _ _ hpi (by omega)
      exact ⟨hs.2, by omega, this.2⟩
    · cases h
end Go.Proofs.YtkbadfljmbeciaaGreatDoor
