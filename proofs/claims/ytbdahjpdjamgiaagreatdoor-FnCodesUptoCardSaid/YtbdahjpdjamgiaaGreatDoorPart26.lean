/- Texts of this proof, one behind the other. -/
import Derived.Test.YtbdahjpdjamgiaaGreatDoorPart9
import Derived.Test.YtbdahjpdjamgiaaGreatDoorPart4
import Derived.Test.YtbdahjpdjamgiaaGreatDoorPart3
/- LEB128 written and read back: plain numbers. -/
namespace Go.Proofs.YtbdahjpdjamgiaaGreatDoor
open Go.RowKit
theorem or_shl (x y s : Nat) : (x ||| y) * 2 ^ s % 2 ^ 64 = (x * 2 ^ s % 2 ^ 64) ||| (y * 2 ^ s % 2 ^ 64) := by
  rw [← Nat.shiftLeft_eq, ← Nat.shiftLeft_eq, ← Nat.shiftLeft_eq, Nat.shiftLeft_or_distrib, Nat.or_mod_two_pow]
theorem split7 (n : Nat) : (n % 128) ||| (n / 128 * 128) = n := by
  have h := Nat.shiftLeft_add_eq_or_of_lt (i := 7) (b := n % 128) (Nat.mod_lt _ (by decide)) (n / 128)
  rw [Nat.shiftLeft_eq, show (2 : Nat) ^ 7 = 128 from rfl] at h
  rw [Nat.or_comm, ← h]
  omega
theorem readU_uleb : ∀ (n s a : Nat) (r : List UInt8), readU s a (uleb n ++ r) = some (a ||| (n * 2 ^ s % 2 ^ 64), r) := by
  intro n
  induction n using Nat.strongRecOn with
  | ind n ih =>
    intro s a r
    by_cases hn : n < 128
    · rw [uleb_small hn]
      simp only [List.cons_append, List.nil_append, readU, UInt8.toNat_ofNat']
      rw [Nat.mod_eq_of_lt (by omega : n < 2 ^ 8), if_pos hn, Nat.mod_eq_of_lt hn]
    · rw [uleb_big (by omega)]
      simp only [List.cons_append, readU, UInt8.toNat_ofNat']
      rw [Nat.mod_eq_of_lt (by omega : n % 128 + 128 < 2 ^ 8), if_neg (by omega), ih (n / 128) (by omega), Nat.or_assoc]
      congr 2
      congr 1
      rw [show (n % 128 + 128) % 128 = n % 128 from by omega, show n / 128 * 2 ^ (s + 7) = n / 128 * 128 * 2 ^ s from by rw [Nat.pow_add, Nat.mul_comm (2 ^ s), ← Nat.mul_assoc], ← or_shl, split7]
theorem or_add {x y k : Nat} (hx : x < 2 ^ k) (hy : 2 ^ k ∣ y) : x ||| y = x + y := by
  obtain ⟨c, rfl⟩ := hy
  have h := Nat.shiftLeft_add_eq_or_of_lt (i := k) (b := x) hx c
  rw [Nat.shiftLeft_eq, Nat.mul_comm c] at h
  rw [Nat.or_comm, ← h, Nat.add_comm]
theorem emod_toNat (i : Int) : ((i % 128).toNat : Int) = i % 128 := by omega
theorem readS_sleb (N : Nat) : ∀ (i : Int) (s a : Nat) (r : List UInt8), i.natAbs ≤ N → s ≤ 63 → -2 ^ (63 - s) ≤ i → i < 2 ^ (63 - s) →
    ∃ q : Nat, readS s a (sleb i ++ r) = some (toS (a ||| q), r) ∧ q < 18446744073709551616 ∧ 2 ^ s ∣ q ∧
      ((0 ≤ i ∨ s + 7 * (sleb i).length < 32) → (q : Int) % 18446744073709551616 = i * 2 ^ s % 18446744073709551616) ∧ (q : Int) % 4294967296 = i * 2 ^ s % 4294967296 := by
  induction N using Nat.strongRecOn with
  | ind N ih =>
    intro i s a r hN hs h1 h2
    have hP : 0 < 2 ^ s := Nat.pow_pos (by decide)
    have ht := emod_toNat i
    by_cases hi : -64 ≤ i ∧ i < 64
    · rw [sleb_small hi]
      generalize hT : (i % 128).toNat = t at *
      have htl : t < 128 := by omega
      simp only [List.cons_append, List.nil_append, readS, UInt8.toNat_ofNat', List.length_cons, List.length_nil]
      rw [Nat.mod_eq_of_lt (by omega : t < 2 ^ 8), if_pos htl, Nat.mod_eq_of_lt htl]
      by_cases hf : s + 7 < 32 ∧ 64 ≤ t
      · rw [if_pos hf, Nat.or_assoc]
        have hp7 : 2 ^ (s + 7) = 128 * 2 ^ s := by rw [Nat.pow_add]; omega
        have hlt : 2 ^ (s + 7) ≤ 2 ^ 32 := Nat.pow_le_pow_right (by decide) (by omega)
        have hx : t * 2 ^ s < 2 ^ (s + 7) := by rw [hp7]; exact Nat.mul_lt_mul_of_pos_right htl hP
        have hx2 : t * 2 ^ s % 2 ^ 64 = t * 2 ^ s := Nat.mod_eq_of_lt (by omega)
        have hd : 2 ^ (s + 7) ∣ 2 ^ 64 - 2 ^ (s + 7) := Nat.dvd_sub (Nat.pow_dvd_pow 2 (by omega)) (Nat.dvd_refl _)
        have hds : 2 ^ s ∣ 2 ^ 64 - 2 ^ (s + 7) := Nat.dvd_trans (Nat.pow_dvd_pow 2 (by omega)) hd
        have ho := or_add hx hd
        have hi2 : i * 2 ^ s = (t : Int) * 2 ^ s - 128 * 2 ^ s := by rw [show i = (t : Int) - 128 from by omega, Int.sub_mul]
        refine ⟨_, rfl, ?_, ?_, ?_, ?_⟩
        · rw [hx2, ho]; omega
        · rw [hx2, ho]; exact Nat.dvd_add (Nat.dvd_mul_left _ _) hds
        · intro _
          rw [hx2, ho, hi2]
          have e1 : ((t * 2 ^ s : Nat) : Int) = (t : Int) * 2 ^ s := by simp
          have e2 : ((2 ^ s : Nat) : Int) = 2 ^ s := by simp
          rw [← e1, ← e2]
          generalize t * 2 ^ s = X at *
          generalize 2 ^ s = P at *
          omega
        · rw [hx2, ho, hi2]
          have e1 : ((t * 2 ^ s : Nat) : Int) = (t : Int) * 2 ^ s := by simp
          have e2 : ((2 ^ s : Nat) : Int) = 2 ^ s := by simp
          rw [← e1, ← e2]
          generalize t * 2 ^ s = X at *
          generalize 2 ^ s = P at *
          omega
      · rw [if_neg hf]
        refine ⟨_, rfl, Nat.mod_lt _ (by decide), ?_, ?_, ?_⟩
        · exact (Nat.dvd_mod_iff (Nat.pow_dvd_pow 2 (by omega))).2 (Nat.dvd_mul_left _ _)
        · intro h
          have : i = t := by omega
          rw [this]
          simp
        · have e1 : ((t * 2 ^ s % 2 ^ 64 : Nat) : Int) = ((t : Int) * 2 ^ s) % 18446744073709551616 := by simp
          rw [e1]
          by_cases h0 : 0 ≤ i
          · rw [show i = t from by omega]
            generalize (t : Int) * 2 ^ s = X
            omega
          · have hge : 32 ≤ s + 7 := by omega
            obtain ⟨c, hc⟩ : ∃ c : Nat, 2 ^ (s + 7) = 4294967296 * c := Nat.pow_dvd_pow 2 hge
            have hp7 : 2 ^ (s + 7) = 128 * 2 ^ s := by rw [Nat.pow_add]; omega
            have hi2 : i * 2 ^ s = (t : Int) * 2 ^ s - 128 * 2 ^ s := by rw [show i = (t : Int) - 128 from by omega, Int.sub_mul]
            have e2 : ((2 ^ s : Nat) : Int) = 2 ^ s := by simp
            rw [hi2]
            generalize (t : Int) * 2 ^ s = X
            rw [← e2]
            generalize 2 ^ s = P at *
            omega
    · have hs56 : s + 7 ≤ 63 := by
        rcases Nat.lt_or_ge 6 (63 - s) with h | h
        · omega
        · have hle : 2 ^ (63 - s) ≤ 2 ^ 6 := Nat.pow_le_pow_right (by decide) h
          have e : (2 : Int) ^ (63 - s) = ((2 ^ (63 - s) : Nat) : Int) := by simp
          rw [e] at h1 h2
          generalize 2 ^ (63 - s) = Q at *
          omega
      have hQ : (2 : Int) ^ (63 - s) = 128 * 2 ^ (63 - (s + 7)) := by rw [show 63 - s = 63 - (s + 7) + 7 from by omega, Int.pow_add]; generalize (2 : Int) ^ (63 - (s + 7)) = q; omega
      rw [sleb_big hi]
      have hlen : (UInt8.ofNat ((i % 128).toNat + 128) :: sleb (i / 128)).length = (sleb (i / 128)).length + 1 := rfl
      rw [hlen]
      simp only [List.cons_append, readS, UInt8.toNat_ofNat']
      generalize hT : (i % 128).toNat = t at *
      have htl : t < 128 := by omega
      rw [Nat.mod_eq_of_lt (by omega : t + 128 < 2 ^ 8), if_neg (by omega), show (t + 128) % 128 = t from by omega]
      obtain ⟨q, hq1, hq2, hq3, hq4, hq5⟩ := ih (i / 128).natAbs (by omega) (i / 128) (s + 7) (a ||| (t * 2 ^ s % 2 ^ 64)) r (Nat.le_refl _) hs56 (by
        rw [hQ] at h1; generalize (2 : Int) ^ (63 - (s + 7)) = q at *; omega) (by
        rw [hQ] at h2; generalize (2 : Int) ^ (63 - (s + 7)) = q at *; omega)
      rw [hq1, Nat.or_assoc]
      have hp7 : 2 ^ (s + 7) = 128 * 2 ^ s := by rw [Nat.pow_add]; omega
      have hlt : 2 ^ (s + 7) ≤ 2 ^ 63 := Nat.pow_le_pow_right (by decide) hs56
      have hx : t * 2 ^ s < 2 ^ (s + 7) := by rw [hp7]; exact Nat.mul_lt_mul_of_pos_right htl hP
      have hx2 : t * 2 ^ s % 2 ^ 64 = t * 2 ^ s := Nat.mod_eq_of_lt (by omega)
      have ho := or_add hx hq3
      have hor : t * 2 ^ s ||| q < 2 ^ 64 := Nat.or_lt_two_pow (by omega) hq2
      have hi2 : i * 2 ^ s = (t : Int) * 2 ^ s + i / 128 * 2 ^ (s + 7) := by
        rw [Int.pow_add, show (2 : Int) ^ s * 2 ^ 7 = 128 * 2 ^ s from by generalize (2 : Int) ^ s = p; omega, ← Int.mul_assoc, ← Int.add_mul]
        congr 1
        omega
      have e1 : ((t * 2 ^ s : Nat) : Int) = (t : Int) * 2 ^ s := by simp
      refine ⟨_, rfl, ?_, ?_, ?_, ?_⟩
      · rw [hx2]; exact hor
      · rw [hx2, ho]; exact Nat.dvd_add (Nat.dvd_mul_left _ _) (Nat.dvd_trans (Nat.pow_dvd_pow 2 (by omega)) hq3)
      · intro h
        have := hq4 (by omega)
        rw [hx2, ho, hi2, ← e1]
        generalize i / 128 * 2 ^ (s + 7) = Y at *
        generalize t * 2 ^ s = X at *
        omega
      · rw [hx2, ho, hi2, ← e1]
        generalize i / 128 * 2 ^ (s + 7) = Y at *
        generalize t * 2 ^ s = X at *
        omega
theorem readU_back (n : Nat) (hn : n < 18446744073709551616) : readU 0 0 (uleb n) = some (n, []) := by
  have := readU_uleb n 0 0 []
  rw [List.append_nil] at this
  rw [this, Nat.zero_or, Nat.pow_zero, Nat.mul_one, Nat.mod_eq_of_lt (show n < 2 ^ 64 from hn)]
theorem readS_back64 (i : Int) (h1 : -134217728 ≤ i) (h2 : i ≤ 9223372036854775807) : readS 0 0 (sleb i) = some (i, []) := by
  obtain ⟨q, e, hq, -, h4, -⟩ := readS_sleb i.natAbs i 0 0 [] (Nat.le_refl _) (by omega) (by show -2 ^ 63 ≤ i; omega) (by show i < 2 ^ 63; omega)
  rw [List.append_nil] at e
  have hc : 0 ≤ i ∨ 0 + 7 * (sleb i).length < 32 := by
    by_cases h : 0 ≤ i
    · exact .inl h
    · have := sleb_len 3 i (by omega) (by omega)
      omega
  have h5 := h4 hc
  rw [e, Nat.zero_or]
  simp only [Int.pow_zero, Int.mul_one] at h5
  have : toS q = i := by unfold toS; omega
  rw [this]
theorem readS_back32 (i : Int) (h1 : -2147483648 ≤ i) (h2 : i ≤ 2147483647) : ∃ m : Int, readS 0 0 (sleb i) = some (m, []) ∧ m % 4294967296 = i % 4294967296 := by
  obtain ⟨q, e, hq, -, -, h5⟩ := readS_sleb i.natAbs i 0 0 [] (Nat.le_refl _) (by omega) (by show -2 ^ 63 ≤ i; omega) (by show i < 2 ^ 63; omega)
  rw [List.append_nil] at e
  refine ⟨_, e, ?_⟩
  simp only [Int.pow_zero, Int.mul_one] at h5
  rw [Nat.zero_or]
  unfold toS
  omega
end Go.Proofs.YtbdahjpdjamgiaaGreatDoor
/- What the package writes for instructions, as bytes. No program here. -/
namespace Go.Proofs.YtbdahjpdjamgiaaGreatDoor
open Go.RowKit
def bytesOfKind (k mb : Nat) : List UInt8 :=
  if k = 0 then sleb (wrap32 (mb : Int)) else if k = 1 then sleb (wrap64 (mb : Int)) else if k = 2 then uleb (mb % 4294967296) else if k = 3 then lowBytes 4 mb else if k = 4 then lowBytes 8 mb else if k = 5 then [UInt8.ofNat (mb % 256)] else uleb mb
theorem argBytes_kind (k : Nat) (hk : k < 6) (b : UInt64) : argBytes ((k : Int), b) = bytesOfKind k b.toNat := by
  have h : k = 0 ∨ k = 1 ∨ k = 2 ∨ k = 3 ∨ k = 4 ∨ k = 5 := by omega
  rcases h with rfl | rfl | rfl | rfl | rfl | rfl <;> simp [argBytes, bytesOfKind, wrap32, wrap64]
theorem argBytes_rest (k : Int) (hk : ¬ (k = 0 ∨ k = 1 ∨ k = 2 ∨ k = 3 ∨ k = 4 ∨ k = 5)) (b : UInt64) : argBytes (k, b) = bytesOfKind 6 b.toNat := by
  simp only [not_or] at hk
  simp [argBytes, bytesOfKind, hk.1, hk.2.1, hk.2.2.1, hk.2.2.2.1, hk.2.2.2.2.1, hk.2.2.2.2.2]
theorem lowBytes4_mod (n : Nat) : lowBytes 4 (n % 4294967296) = lowBytes 4 n := by
  simp only [lowBytes, List.cons.injEq, and_true]
  refine ⟨?_, ?_, ?_, ?_⟩ <;> (congr 1; omega)
theorem argBytes_len (a : Int × UInt64) : (argBytes a).length ≤ 10 := by
  obtain ⟨k, b⟩ := a
  have hb := b.toNat_lt
  have hw1 : -9223372036854775808 ≤ wrap32 (b.toNat : Int) ∧ wrap32 (b.toNat : Int) ≤ 9223372036854775807 := by unfold wrap32; omega
  have hw2 : -9223372036854775808 ≤ wrap64 (b.toNat : Int) ∧ wrap64 (b.toNat : Int) ≤ 9223372036854775807 := by unfold wrap64; omega
  have key : ∀ q : Nat, (bytesOfKind q b.toNat).length ≤ 10 := by
    intro q
    unfold bytesOfKind
    split
    · exact sleb_len64 _ hw1.1 hw1.2
    split
    · exact sleb_len64 _ hw2.1 hw2.2
    split
    · exact uleb_len64 _ (by omega)
    split
    · simp [lowBytes]
    split
    · simp [lowBytes]
    split
    · simp
    · exact uleb_len64 _ hb
  by_cases h : k = 0 ∨ k = 1 ∨ k = 2 ∨ k = 3 ∨ k = 4 ∨ k = 5
  · obtain ⟨q, rfl⟩ := Int.eq_ofNat_of_zero_le (by omega : 0 ≤ k)
    rw [show ((q : Nat) : Int) = (q : Int) from rfl, argBytes_kind q (by omega) b]
    exact key q
  · rw [argBytes_rest k h]
    exact key 6
mutual
/-- What the package writes for an instruction. -/
def encB1 : Ins → List UInt8
  | .mk op args st ty body => UInt8.ofNat (op % 256).toNat :: (args.flatMap argBytes ++ (if st then typeByte ty :: (encBL body ++ [11]) else []))
def encBL : List Ins → List UInt8
  | [] => []
  | x :: xs => encB1 x ++ encBL xs
end
mutual
/-- Blocks have a type that is one. -/
def tyOk1 : Ins → Prop
  | .mk _ _ st ty body => st = true → ty ≤ 3 ∧ tyOkA body
def tyOkA : List Ins → Prop
  | [] => True
  | x :: xs => tyOk1 x ∧ tyOkA xs
end
theorem tyOkA_at : ∀ {l : List Ins}, tyOkA l → ∀ (i : Nat) (h : i < l.length), tyOk1 l[i]
  | _ :: _, h, 0, _ => h.1
  | _ :: _, h, i + 1, hi => tyOkA_at h.2 i (by simpa using hi)
theorem encBL_append : ∀ (l m : List Ins), encBL (l ++ m) = encBL l ++ encBL m
  | [], m => rfl
  | x :: l, m => by simp only [List.cons_append, encBL, encBL_append l m, List.append_assoc]
theorem encBL_take {l : List Ins} {i : Nat} (h : i < l.length) : encBL (l.take (i + 1)) = encBL (l.take i) ++ encB1 l[i] := by
  rw [List.take_succ_eq_append_getElem h, encBL_append]; simp [encBL]
theorem encBL_split {l : List Ins} {i : Nat} (h : i < l.length) : ∃ m, encBL l = encBL (l.take i) ++ (encB1 l[i] ++ m) := by
  refine ⟨encBL (l.drop (i + 1)), ?_⟩
  have : l = l.take i ++ (l[i] :: l.drop (i + 1)) := by rw [← List.drop_eq_getElem_cons h, List.take_append_drop]
  conv => lhs; rw [this]
  rw [encBL_append, encBL]
theorem argB_split {l : List (Int × UInt64)} {i : Nat} (h : i < l.length) : ∃ m, l.flatMap argBytes = (l.take i).flatMap argBytes ++ (argBytes l[i] ++ m) := by
  refine ⟨(l.drop (i + 1)).flatMap argBytes, ?_⟩
  have : l = l.take i ++ (l[i] :: l.drop (i + 1)) := by rw [← List.drop_eq_getElem_cons h, List.take_append_drop]
  conv => lhs; rw [this]
  rw [List.flatMap_append, List.flatMap_cons]
theorem argB_take {l : List (Int × UInt64)} {i : Nat} (h : i < l.length) : (l.take (i + 1)).flatMap argBytes = (l.take i).flatMap argBytes ++ argBytes l[i] := by
  rw [List.take_succ_eq_append_getElem h, List.flatMap_append]; simp
def locBytes (x : UInt32 × Int) : List UInt8 := uleb x.1.toNat ++ [UInt8.ofNat (127 - x.2).toNat]
def codeEnc (ls : List (UInt32 × Int)) (l : List Ins) : List UInt8 := uleb ls.length ++ (ls.flatMap locBytes ++ (encBL l ++ [11]))
theorem locB_split {l : List (UInt32 × Int)} {i : Nat} (h : i < l.length) : ∃ m, l.flatMap locBytes = (l.take i).flatMap locBytes ++ (locBytes l[i] ++ m) := by
  refine ⟨(l.drop (i + 1)).flatMap locBytes, ?_⟩
  have : l = l.take i ++ (l[i] :: l.drop (i + 1)) := by rw [← List.drop_eq_getElem_cons h, List.take_append_drop]
  conv => lhs; rw [this]
  rw [List.flatMap_append, List.flatMap_cons]
theorem locB_take {l : List (UInt32 × Int)} {i : Nat} (h : i < l.length) : (l.take (i + 1)).flatMap locBytes = (l.take i).flatMap locBytes ++ locBytes l[i] := by
  rw [List.take_succ_eq_append_getElem h, List.flatMap_append]; simp
end Go.Proofs.YtbdahjpdjamgiaaGreatDoor
/- spec.AppendSigned. -/
namespace Go.Proofs.YtbdahjpdjamgiaaGreatDoor
open Go.RowKit
set_option maxRecDepth 100000 in
set_option maxHeartbeats 400000 in
theorem specAppendSigned_calls (n : Int) (hv : -9223372036854775808 ≤ n ∧ n ≤ 9223372036854775807) (lo : Nat) (v : Value) (bs : List UInt8) (w : World) (hO : OwnB lo w v bs) (hlo : lo ≤ w.heap.size) (hl : bs.length + 10 ≤ 140737488355328) :
    Calls Tryz.prog 54 #[v, .int .i64 n] w fun e w' => ∃ v1, e = .returned v1 ∧ OwnB lo w' v1 (bs ++ sleb n) ∧ Fr (fun k => some k = v.ownBlock) w w' ∧ (∀ k, v1.ownBlock = some k → v.ownBlock = some k ∨ w.heap.size ≤ k) := by
  have hul := sleb_len64 n hv.1 hv.2
  have hul := Lib.hid hul
  have hO := Lib.hid hO
  have hlo := Lib.hid hlo
  have hl := Lib.hid hl
  go_enter Tryz.func54, Tryz.ntmps54
  go_wp2_with fail
  go_loopw [0, 1] (fun s0 s1 w' => ∃ (x : Int) (pre : List UInt8), s1 = .int .i64 x ∧ Hid (pre ++ sleb x = sleb n) ∧ (-9223372036854775808 ≤ x ∧ x ≤ 9223372036854775807) ∧ Hid (OwnB lo w' s0 (bs ++ pre)) ∧ Hid (Fr (fun k => some k = v.ownBlock) w w') ∧ Hid (∀ k, s0.ownBlock = some k → v.ownBlock = some k ∨ w.heap.size ≤ k)) (fun _ s1 _ => (intOf s1).natAbs)
  case atStart => exact ⟨n, [], rfl, rfl, hv, (by rw [List.append_nil]; exact hO.out), Fr.refl _ _, fun k h => .inl h⟩
  case round =>
    obtain ⟨x, pre, rfl, hp, hx, hown, hb, hk⟩ := hrel
    have hloW : Hid (lo ≤ wr.heap.size) := Nat.le_trans hlo.out hb.out.size
    have hlW : Hid ((bs ++ pre).length + 1 ≤ 140737488355328) := by
      have h1 := congrArg List.length hp.out
      rw [List.length_append] at h1
      have h2 : 0 < (sleb x).length := by rw [sleb]; split <;> simp
      have h3 := hul.out
      have h4 := hl.out
      show _ ≤ _
      rw [List.length_append]
      omega
    have hx' : -9223372036854775808 ≤ x / 128 ∧ x / 128 ≤ 9223372036854775807 := by omega
    by_cases hst : -64 ≤ x ∧ x < 64
    · have HS := Lib.hid (sleb_small hst)
      have c1 : decide (x < -64) = false := by rw [decide_eq_false_iff_not]; omega
      have c2 : decide (63 < x) = false := by rw [decide_eq_false_iff_not]; omega
      have hlow : Hid (x % 128 = ((UInt8.ofNat (x % 128).toNat).toNat : Int)) := by show _ = _; rw [UInt8.toNat_ofNat']; omega
      have e2 : bits .and .u8 (x % 256) 127 = x % 128 := by rw [u8_and127 _ (by omega) (by omega)]; omega
      clear hst
      go_wp2_with (at_builtin; refine Hid.out ?_)
      refine appB lo rfl (.tmp 19) (.tmp 23) rfl _ (bs ++ pre) _ _ hlow.out rfl rfl hown.out hloW.out hlW.out ?_
      intro v1 w1 h1 h2 h3
      have H := Lib.hid (And.intro h1 (And.intro h2 h3))
      clear h1 h2 h3
      go_wp2
      go_ret
      obtain ⟨h1, h2, h3⟩ := H.out
      exact ⟨_, rfl, by rw [← hp.out, HS.out, ← List.append_assoc]; exact h1, fr_row hb.out h2 hk.out, row_row hb.out hk.out h3⟩
    · have HS := Lib.hid (sleb_big hst)
      have hhigh : Hid (x % 128 + 128 = ((UInt8.ofNat ((x % 128).toNat + 128)).toNat : Int)) := by show _ = _; rw [UInt8.toNat_ofNat']; omega
      have e2 : bits .or .u8 (x % 256) 128 = x % 128 + 128 := by rw [u8_or128_low _ (by omega) (by omega)]; omega
      have hM : Hid ((x / 128).natAbs < x.natAbs) := by show _ < _; omega
      have hcase : (decide (x < -64) = true) ∨ (decide (x < -64) = false ∧ decide (63 < x) = true) := by
        simp only [decide_eq_true_eq, decide_eq_false_iff_not]
        omega
      clear hst
      rcases hcase with c1 | ⟨c1, c2⟩
      all_goals
        go_wp2_with (at_builtin; refine Hid.out ?_)
        refine appB lo rfl (.tmp 11) (.tmp 15) rfl _ (bs ++ pre) _ _ hhigh.out rfl rfl hown.out hloW.out hlW.out ?_
        intro v1 w1 h1 h2 h3
        have H := Lib.hid (And.intro h1 (And.intro h2 h3))
        clear h1 h2 h3
        go_wp2
        go_roundw
        case rel =>
          obtain ⟨h1, h2, h3⟩ := H.out
          refine ⟨x / 128, pre ++ [UInt8.ofNat ((x % 128).toNat + 128)], rfl, ?_, hx', ?_, fr_row hb.out h2 hk.out, row_row hb.out hk.out h3⟩
          · show _ = _
            rw [← hp.out, HS.out, List.append_assoc, List.singleton_append]
          · rw [← List.append_assoc]; exact h1
        case measure => exact hM.out
end Go.Proofs.YtbdahjpdjamgiaaGreatDoor
