/- Texts of this proof, one behind the other. -/
import Derived.Test.YtejgninpjhcgnaaGreatDoorPart15
namespace Go.Proofs.YtejgninpjhcgnaaGreatDoor
open Go.RowKit
set_option linter.unusedSimpArgs false
set_option linter.unusedVariables false
set_option maxRecDepth 100000
set_option maxHeartbeats 400000
def OkS (s : St) : Prop := s.v ≠ 0 → s.b = []
def Tame {α : Type} (rd : St → α × St) : Prop := ∀ s, OkS s → OkS (rd s).2 ∧ (s.v ≠ 0 → (rd s).2 = s)
def zN {α β : Type} (rd : St → α × St) (k : α → St → β × St) : St → β × St := fun s => k (rd s).1 (rd s).2
def ji {α : Type} (x : α) : St → α × St := fun s => (x, s)
def rChk (P : Prop) [Decidable P] (n : Nat) : St → Unit × St := fun s => ((), if s.v = 0 ∧ P then s.fail n else s)
def yF {α β : Type} (p : List UInt8 → PR α) (q : α → List UInt8 → PR β) : List UInt8 → PR β := fun bs => (p bs).bind q
theorem JK (bs : List UInt8) : OkS ⟨bs, 0⟩ := fun h => absurd rfl h
theorem jh (s : St) (n : Nat) : OkS (s.fail n) := fun _ => rfl
variable {s : St}
theorem jy (n : Nat) (hv : s.v ≠ 0) (hb : s.b = []) : s.fail n = s := by
 obtain ⟨b, v⟩ := s
 obtain rfl : b = [] := hb
 simp only [St.fail, if_neg hv]
variable {α : Type}
theorem Tame.pure (x : α) : Tame (ji x) := fun _ h => ⟨h, fun _ => rfl⟩
theorem Tame.chk (P : Prop) [Decidable P] (n : Nat) : Tame (rChk P n) := fun s h => by
 unfold rChk
 dsimp only
 split
 ·rename_i hc
  exact ⟨jh _ _, fun hv => absurd hc.1 hv⟩
 ·exact ⟨h, fun _ => rfl⟩
variable {β : Type} {rd : St → α × St}
theorem Tame.bind {k : α → St → β × St} (h : Tame rd) (hk : ∀ x, Tame (k x)) : Tame (zN rd k) := fun s hs => by
 have h1 := h s hs
 have h2 := hk (rd s).1 (rd s).2 h1.1
 refine ⟨h2.1, fun hv => ?_⟩
 have e := h1.2 hv
 show (k (rd s).1 (rd s).2).2 = s
 rw [h2.2 (by rw [e]; exact hv), e]
variable {rd' : St → α × St}
theorem Tame.of (h : Tame rd') (e : ∀ s, rd s = rd' s) : Tame rd := by rw [show rd = rd' from funext e]; exact h
structure LawP {α β : Type} (rd : St → α × St) (p : List UInt8 → PR β) (f : α → β) (C V : α → Prop) : Prop where
 good : ∀ bs, (rd ⟨bs, 0⟩).2.v = 0 → C (rd ⟨bs, 0⟩).1 → p bs = .ok (f (rd ⟨bs, 0⟩).1) (rd ⟨bs, 0⟩).2.b
 bad : ∀ bs, (rd ⟨bs, 0⟩).2.v = 1 → C (rd ⟨bs, 0⟩).1 → p bs = .bad
 val : ∀ bs, (rd ⟨bs, 0⟩).2.v = 0 → V (rd ⟨bs, 0⟩).1
abbrev All {α : Type} : α → Prop := fun _ => True
variable {V : α → Prop}
theorem LawP.pure (x : α) (f : α → β) (C : α → Prop) (hV : V x) : LawP (ji x) (fun bs => .ok (f x) bs) f C V :=
 ⟨fun _ _ _ => rfl, fun _ h _ => (by cases h), fun _ _ => hV⟩
theorem LawP.chk1 (P : Prop) [Decidable P] (Q : Prop) [Decidable Q] (h : Q ↔ ¬ P) : LawP (rChk P 1) (pChk Q) id All (fun _ => ¬ P) := by
 by_cases hp : P
 ·have e : ∀ bs, rChk P 1 ⟨bs, 0⟩ = ((), ⟨[], 1⟩) := fun bs => by unfold rChk; rw [if_pos ⟨rfl, hp⟩]; rfl
  refine ⟨fun bs hv => ?_, fun bs _ _ => ?_, fun bs hv => ?_⟩
  ·rw [e] at hv; cases hv
  ·unfold pChk; rw [if_neg (fun q => h.1 q hp)]
  ·rw [e] at hv; cases hv
 ·have e : ∀ bs, rChk P 1 ⟨bs, 0⟩ = ((), ⟨bs, 0⟩) := fun bs => by unfold rChk; rw [if_neg (fun q => hp q.2)]
  refine ⟨fun bs _ _ => ?_, fun bs hv => ?_, fun _ _ => hp⟩
  ·unfold pChk; rw [if_pos (h.2 hp), e]
  ·rw [e] at hv; cases hv
theorem LawP.chk2 (P : Prop) [Decidable P] : LawP (rChk P 2) (fun bs => .ok () bs) id All (fun _ => ¬ P) := by
 by_cases hp : P
 ·have e : ∀ bs, rChk P 2 ⟨bs, 0⟩ = ((), ⟨[], 2⟩) := fun bs => by unfold rChk; rw [if_pos ⟨rfl, hp⟩]; rfl
  refine ⟨fun bs hv => ?_, fun bs hv => ?_, fun bs hv => ?_⟩ <;> (rw [e] at hv; cases hv)
 ·have e : ∀ bs, rChk P 2 ⟨bs, 0⟩ = ((), ⟨bs, 0⟩) := fun bs => by unfold rChk; rw [if_neg (fun q => hp q.2)]
  refine ⟨fun bs _ _ => ?_, fun bs hv => ?_, fun _ _ => hp⟩
  ·rw [e]
  ·rw [e] at hv; cases hv
variable {γ δ : Type} {p : List UInt8 → PR β}
theorem LawP.bind {f1 : α → β} {C1 V1 : α → Prop} {k : α → St → γ × St} {q : β → List UInt8 → PR δ} {f : γ → δ} {C V : γ → Prop}
 (h1 : LawP rd p f1 C1 V1) (ht : Tame rd) (hk : ∀ x, Tame (k x)) (h2 : ∀ x, V1 x → LawP (k x) (q (f1 x)) f C V) (hC : ∀ x s, C (k x s).1 → C1 x) : LawP (zN rd k) (yF p q) f C V := by
 have key : ∀ bs, (rd ⟨bs, 0⟩).2.v = 0 ∧ (rd ⟨bs, 0⟩).2 = ⟨(rd ⟨bs, 0⟩).2.b, 0⟩ ∨ (rd ⟨bs, 0⟩).2.v ≠ 0 ∧ (zN rd k ⟨bs, 0⟩).2 = (rd ⟨bs, 0⟩).2 := fun bs => by
  by_cases hv : (rd ⟨bs, 0⟩).2.v = 0
  ·exact .inl ⟨hv, St.eta hv⟩
  ·exact .inr ⟨hv, (hk _ _ (ht _ (JK bs)).1).2 hv⟩
 refine ⟨fun bs hv hc => ?_, fun bs hv hc => ?_, fun bs hv => ?_⟩
 ·rcases key bs with ⟨h0, e⟩ | ⟨h0, e⟩
  ·have g1 := h1.good bs h0 (hC _ _ hc)
   have g2 := h2 _ (h1.val bs h0)
   unfold zN at hv hc ⊢
   rw [e] at hv hc ⊢
   show (p bs).bind q = _
   rw [g1, PR.bind_ok]
   exact g2.good _ hv hc
  ·rw [e] at hv; exact absurd hv h0
 ·rcases key bs with ⟨h0, e⟩ | ⟨h0, e⟩
  ·have g1 := h1.good bs h0 (hC _ _ hc)
   have g2 := h2 _ (h1.val bs h0)
   unfold zN at hv hc
   rw [e] at hv hc
   show (p bs).bind q = _
   rw [g1, PR.bind_ok]
   exact g2.bad _ hv hc
  ·rw [e] at hv
   show (p bs).bind q = _
   rw [h1.bad bs hv (hC _ _ hc)]; rfl
 ·rcases key bs with ⟨h0, e⟩ | ⟨h0, e⟩
  ·have g2 := h2 _ (h1.val bs h0)
   unfold zN at hv ⊢
   rw [e] at hv ⊢
   exact g2.val _ hv
  ·rw [e] at hv; exact absurd hv h0
variable {f : α → β} {C : α → Prop} {p' : List UInt8 → PR β}
theorem LawP.of (h : LawP rd' p' f C V) (e : ∀ s, rd s = rd' s) (e2 : ∀ bs, p bs = p' bs) : LawP rd p f C V := by
 rw [show rd = rd' from funext e, show p = p' from funext e2]; exact h
theorem LawP.weak {C' V' : α → Prop} (h : LawP rd p f C V) (hC : ∀ x, C' x → C x) (hV : ∀ x, V x → V' x) : LawP rd p f C' V' :=
 ⟨fun bs hv hc => h.good bs hv (hC _ hc), fun bs hv hc => h.bad bs hv (hC _ hc), fun bs hv => hV _ (h.val bs hv)⟩
theorem LawP.no (h : ∀ s, ¬ C (rd s).1) (hV : ∀ s, V (rd s).1) : LawP rd p f C V :=
 ⟨fun _ _ hc => absurd hc (h _), fun _ _ hc => absurd hc (h _), fun _ _ => hV _⟩
theorem yy : Tame zi := fun s hs => by
 unfold zi
 split
 ·rename_i hb
  exact ⟨jh _ _, fun hv => jy 3 hv hb⟩
 ·rename_i c r hb
  refine ⟨fun h => ?_, fun hv => ?_⟩
  ·rw [hs h] at hb; cases hb
  ·rw [hs hv] at hb; cases hb
theorem zhi : LawP zi y7 UInt8.ofNat All (fun c => c < 256) := by
 refine ⟨fun bs hv _ => ?_, fun bs hv _ => ?_, fun bs _ => y4 _⟩
 ·cases bs with
  | nil => cases hv
  | cons c r => show PR.ok c r = .ok (UInt8.ofNat c.toNat) r; rw [UInt8.ofNat_toNat]
 ·cases bs with
  | nil => cases hv
  | cons c r => cases hv
theorem Jk : Tame zc := fun s hs => by
 unfold zc
 split
 ·rename_i h0
  refine ⟨jh _ _, fun hv => ?_⟩
  exact jy _ hv (hs hv)
 ·rename_i h0
  refine ⟨fun h => by show s.b.drop _ = []; rw [hs h]; simp, fun hv => ?_⟩
  have : (uns 32 s.b).2 = 0 := by rw [hs hv]; rfl
  exact absurd this h0
variable {bs : List UInt8}
theorem Jl (hv : (zc ⟨bs, 0⟩).2.v = 0) : pNum bs = .ok (UInt32.ofNat (zc ⟨bs, 0⟩).1) (zc ⟨bs, 0⟩).2.b := by
 obtain ⟨m, h1, h2⟩ := (Zd (s := ⟨bs, 0⟩) rfl).1 hv
 unfold pNum
 rw [show jq 0 0 bs = _ from h1, h2]
theorem zcb (bs : List UInt8) : (zc ⟨bs, 0⟩).2.v = 0 ∨ (zc ⟨bs, 0⟩).2.v = 2 ∨ (zc ⟨bs, 0⟩).2.v = 3 := by
 by_cases h : (zc ⟨bs, 0⟩).2.v = 0
 ·exact .inl h
 ·exact .inr (((Zd (s := ⟨bs, 0⟩) rfl).2 h).2.imp id (fun h => h.1))
theorem zbH : LawP zc pNum UInt32.ofNat All (fun n => n < 4294967296) :=
 ⟨fun _ hv _ => Jl hv, fun bs hv _ => by rcases zcb bs with h | h | h <;> (rw [h] at hv; cases hv), fun bs _ => zL _⟩
theorem yi : Tame rNum := fun s hs => Jk s hs
theorem JL : LawP rNum pNum id All All :=
 ⟨fun _ hv _ => Jl hv, fun bs hv h => zbH.bad bs hv h, fun _ _ => trivial⟩
theorem Ys (n : Nat) : ∀ s, OkS s → OkS (zy n s).2 ∧ (s.v ≠ 0 → n = 0 → (zy n s).2 = s) := fun s hs => by
 unfold zy
 split
 ·rename_i h
  refine ⟨?_, fun _ h0 => absurd h (by omega)⟩
  split
  ·exact fun _ => rfl
  ·exact jh _ _
 ·rename_i h
  refine ⟨fun h => by show s.b.drop n = []; rw [hs h]; simp, fun hv h0 => ?_⟩
  rw [h0]; rfl
theorem Yc (hs : OkS s) (hv : s.v ≠ 0) : zc s = (0, s) := by
 have : (uns 32 s.b).2 = 0 := by rw [hs hv]; rfl
 unfold zc
 rw [if_pos this, jy _ hv (hs hv)]
theorem jI : Tame zY := fun s hs => by
 have h1 := Jk s hs
 refine ⟨(Ys _ _ h1.1).1, fun hv => ?_⟩
 unfold zY
 rw [Yc hs hv]
 exact (Ys 0 s hs).2 hv rfl
theorem zjA (n : Nat) (bs : List UInt8) : (zy n ⟨bs, 0⟩).2.v = 0 ∨ (zy n ⟨bs, 0⟩).2.v = 2 ∨ (zy n ⟨bs, 0⟩).2.v = 3 := by
 unfold zy
 split
 ·split
  ·exact .inr (.inl rfl)
  ·exact .inr (.inr rfl)
 ·exact .inl rfl
variable {n : Nat}
theorem zcY (hv : (zy n ⟨bs, 0⟩).2.v = 0) : ZY n bs = .ok (zy n ⟨bs, 0⟩).1 (zy n ⟨bs, 0⟩).2.b ∧ n ≤ bs.length := by
 unfold zy at hv ⊢
 unfold ZY
 split at hv
 ·split at hv <;> cases hv
 ·rename_i h
  have h : ¬ bs.length < n := h
  rw [if_pos (show n ≤ bs.length by omega), if_neg h]
  exact ⟨rfl, by omega⟩
theorem yT (h : n < 4294967296) : (UInt32.ofNat n).toNat = n := Nat.mod_eq_of_lt h
theorem zdR (bs : List UInt8) : (zY ⟨bs, 0⟩).2.v = 0 ∧ (zc ⟨bs, 0⟩).2.v = 0 ∨ (zY ⟨bs, 0⟩).2.v = 2 ∨ (zY ⟨bs, 0⟩).2.v = 3 := by
 have hv := zcb bs
 by_cases h0 : (zc ⟨bs, 0⟩).2.v = 0
 ·have := zjA (zc ⟨bs, 0⟩).1 (zc ⟨bs, 0⟩).2.b
  unfold zY
  rw [St.eta h0]
  exact this.imp (fun h => ⟨h, rfl⟩) id
 ·have hd : (zY ⟨bs, 0⟩).2 = (zc ⟨bs, 0⟩).2 := by
   have ht := (Jk ⟨bs, 0⟩ (JK bs)).1
   have hn : (zc ⟨bs, 0⟩).1 = 0 := by
    by_cases hu : (uns 32 bs).2 = 0
    ·unfold zc; rw [if_pos hu]
    ·unfold zc at h0; rw [if_neg hu] at h0; exact absurd rfl h0
   unfold zY
   rw [hn]
   exact (Ys 0 _ ht).2 h0 rfl
  rw [hd]
  exact .inr (hv.resolve_left h0)
theorem zaU : LawP zY zR id All All := by
 refine ⟨fun bs hv _ => ?_, fun bs hv _ => ?_, fun _ _ => trivial⟩
 ·rcases zdR bs with ⟨_, h0⟩ | h | h
  ·have hg := Jl h0
   unfold zY at hv ⊢
   rw [St.eta h0] at hv ⊢
   unfold zR
   rw [hg, PR.bind_ok, yT (zL _)]
   exact (zcY hv).1
  ·rw [h] at hv; cases hv
  ·rw [h] at hv; cases hv
 ·rcases zdR bs with ⟨h, _⟩ | h | h <;> (rw [h] at hv; cases hv)
theorem zcc (s : St) : zr s = ((zY s).1, if Zm (zY s).1 then (zY s).2 else (zY s).2.fail 2) := rfl
theorem zeT : Zm [] = true := by
 unfold Zm
 rw [show (zd []).size = 0 from by rw [zB]; rfl]
 rfl
theorem zga (s : St) : zy 0 s = ([], s) := by
 unfold zy
 rw [if_neg (by omega)]
 rfl
theorem jz : Tame zr := fun s hs => by
 have h1 := jI s hs
 rw [zcc]
 refine ⟨?_, fun hv => ?_⟩
 ·dsimp only
  split
  ·exact h1.1
  ·exact jh _ _
 ·have e : zY s = ([], s) := by unfold zY; rw [Yc hs hv]; exact zga s
  rw [e]
  dsimp only
  rw [zeT]; rfl
theorem Ze : LawP zr zR id All All := by
 have h := zaU
 refine ⟨fun bs hv _ => ?_, fun bs hv _ => ?_, fun _ _ => trivial⟩
 ·rw [zcc] at hv ⊢
  dsimp only at hv ⊢
  split at hv
  ·rename_i ht
   rw [if_pos ht]
   exact h.good bs hv trivial
  ·rename_i ht
   unfold St.fail at hv
   dsimp only at hv
   split at hv
   ·cases hv
   ·rename_i hn; exact absurd hv hn
 ·rw [zcc] at hv
  dsimp only at hv
  split at hv
  ·exact h.bad bs hv trivial
  ·unfold St.fail at hv
   dsimp only at hv
   split at hv
   ·cases hv
   ·exact h.bad bs hv trivial
theorem JT : Tame zo := fun s hs => by
 have h1 := Jk s hs
 unfold zo
 split
 ·rename_i h
  refine ⟨?_, fun hv => ?_⟩
  ·dsimp only
   split
   ·exact fun _ => rfl
   ·exact jh _ _
  ·rw [Yc hs hv] at h; exact absurd h (by omega)
 ·exact h1
theorem Zw : LawP zo pNum UInt32.ofNat All (fun n => n < 4294967296) := by
 have h := zbH
 refine ⟨fun bs hv _ => ?_, fun bs hv _ => ?_, fun bs hv => ?_⟩
 all_goals
  unfold zo at hv
  split at hv
  ·rename_i hl
   dsimp only at hv
   split at hv
   ·cases hv
   ·unfold St.fail at hv
    dsimp only at hv
    split at hv
    ·cases hv
    ·rename_i hn
     first
      | exact absurd hv hn
      | exact h.bad bs hv trivial
  ·rename_i hl
   first
    | (unfold zo; rw [if_neg hl]; exact h.good bs hv trivial)
    | (exact h.bad bs hv trivial)
    | (unfold zo; rw [if_neg hl]; exact h.val bs hv)
theorem Yt (h : Tame rd) : ∀ n, Tame (rVec rd n)
 | 0 => Tame.pure []
 | n + 1 => Tame.of (Tame.bind h fun x => Tame.bind (Yt h n) fun xs => Tame.pure (x :: xs)) (fun _ => rfl)
theorem zgb (h : LawP rd p f C V) (ht : Tame rd) : ∀ n, LawP (rVec rd n) (pRep p n) (List.map f) (fun l => ∀ x ∈ l, C x) All
 | 0 => LawP.pure [] (List.map f) _ trivial
 | n + 1 => LawP.of
  (LawP.bind (k := fun x => zN (rVec rd n) fun xs => ji (x :: xs)) (q := fun x => yF (pRep p n) fun xs bs => .ok (x :: xs) bs) h ht (fun _ => Tame.bind (Yt ht n) fun _ => Tame.pure _)
   (fun x _ => LawP.bind (zgb h ht n) (Yt ht n) (fun _ => Tame.pure _) (fun xs _ => LawP.pure (x :: xs) (List.map f) _ trivial) (fun _ _ hc y hy => hc y (List.mem_cons_of_mem _ hy)))
   (fun x _ hc => hc x (List.mem_cons_self ..))) (fun _ => rfl) (fun _ => rfl)
theorem zcZ (h : Tame rd) : Tame (zW rd) := Tame.of (Tame.bind JT fun n => Yt h n) (fun _ => rfl)
theorem zcd (h : LawP rd p f C V) (ht : Tame rd) : LawP (zW rd) (pVec p) (List.map f) (fun l => ∀ x ∈ l, C x) All :=
 LawP.of (LawP.bind (k := fun n => rVec rd n) (q := fun n => pRep p n.toNat) Zw JT (fun n => Yt ht n) (fun n hn => by rw [yT hn]; exact zgb h ht n) (fun _ _ _ => trivial)) (fun _ => rfl) (fun _ => rfl)
theorem LawP.of' (h : LawP rd' p' f C V) (e : ∀ s, OkS s → rd s = rd' s) (e2 : ∀ bs, p bs = p' bs) : LawP rd p f C V :=
 ⟨fun bs => by rw [e _ (JK bs), e2]; exact h.good bs, fun bs => by rw [e _ (JK bs), e2]; exact h.bad bs, fun bs => by rw [e _ (JK bs)]; exact h.val bs⟩
theorem Tame.of' (h : Tame rd') (e : ∀ s, OkS s → rd s = rd' s) : Tame rd := fun s hs => by rw [e s hs]; exact h s hs
theorem zhj (hs : OkS s) (hc : 0 < (zi s).1) : (zi s).2.v = 0 := by
 unfold zi at hc ⊢
 split
 ·rename_i hb; rw [hb] at hc; exact absurd hc (by simp)
 ·rename_i c r hb
  by_cases hv : s.v = 0
  ·exact hv
  ·rw [hs hv] at hb; cases hb
theorem zgc (hs : OkS s) (P : Prop) [Decidable P] (hP : P → 0 < (zi s).1) (a b : St) : (if P then a else b) = if (zi s).2.v = 0 ∧ P then a else b := by
 by_cases h : P
 ·rw [if_pos h, if_pos ⟨zhj hs (hP h), h⟩]
 ·rw [if_neg h, if_neg (fun q => h q.2)]
theorem zjB (h : n < 256) : (UInt8.ofNat n).toNat = n := Nat.mod_eq_of_lt h
theorem LawP.byte {k : Nat → St → γ × St} {q : UInt8 → List UInt8 → PR δ} {f : γ → δ} {C V : γ → Prop} (hk : ∀ x, Tame (k x)) (h : ∀ u : UInt8, LawP (k u.toNat) (q u) f C V) : LawP (zN zi k) (yF y7 q) f C V :=
 LawP.bind zhi yy hk (fun c hc => by
  obtain ⟨u, rfl⟩ : ∃ u : UInt8, c = u.toNat := ⟨UInt8.ofNat c, (zjB hc).symm⟩
  rw [UInt8.ofNat_toNat]
  exact h u) (fun _ _ _ => trivial)
theorem LawP.vecId {p : List UInt8 → PR α} (h : LawP rd p id C V) (ht : Tame rd) : LawP (zW rd) (pVec p) id (fun l => ∀ x ∈ l, C x) All := by
 have := zcd h ht
 rw [show (List.map id : List α → List α) = id from funext List.map_id] at this
 exact this
theorem LawP.vecAll {p : List UInt8 → PR α} (h : LawP rd p id All V) (ht : Tame rd) : LawP (zW rd) (pVec p) id All All := (h.vecId ht).weak (fun _ _ _ _ => trivial) (fun _ h => h)
theorem zaV : Tame zk := Tame.of (rd' := zN zi fun c => zN (rChk (c < 124 ∨ 127 < c) 1) fun _ => ji (127 - (c : Int))) (Tame.bind yy fun _ => Tame.bind (Tame.chk _ _) fun _ => Tame.pure _) (fun _ => rfl)
theorem zhU : LawP zk pVT id All All :=
 LawP.of (rd' := zN zi fun c => zN (rChk (c < 124 ∨ 127 < c) 1) fun _ => ji (127 - (c : Int))) (p' := yF y7 fun c => yF (pChk (124 ≤ c.toNat ∧ c.toNat ≤ 127)) fun _ bs => .ok (127 - (c.toNat : Int)) bs)
  (LawP.byte (fun _ => Tame.bind (Tame.chk _ _) fun _ => Tame.pure _) fun u => LawP.bind (LawP.chk1 _ _ (by omega)) (Tame.chk _ _) (fun _ => Tame.pure _) (fun _ _ => LawP.pure _ id _ trivial) (fun _ _ _ => trivial)) (fun _ => rfl) (fun _ => rfl)
theorem j7 : Tame rVTs := zcZ zaV
theorem zgd : LawP rVTs (pVec pVT) id All All := zhU.vecAll zaV
theorem ziG : Tame rFT := Tame.of (rd' := zN zi fun c => zN (rChk (c ≠ 96) 1) fun _ => zN rVTs fun ps => zN rVTs fun rs => ji ⟨ps, rs⟩)
 (Tame.bind yy fun _ => Tame.bind (Tame.chk _ _) fun _ => Tame.bind j7 fun _ => Tame.bind j7 fun _ => Tame.pure _) (fun _ => rfl)
theorem zjC : LawP rFT pFT id All All :=
 LawP.of (rd' := zN zi fun c => zN (rChk (c ≠ 96) 1) fun _ => zN rVTs fun ps => zN rVTs fun rs => ji ⟨ps, rs⟩)
  (p' := yF y7 fun c => yF (pChk (c.toNat = 96)) fun _ => yF (pVec pVT) fun ps => yF (pVec pVT) fun rs bs => .ok ⟨ps, rs⟩ bs)
  (LawP.byte (fun _ => Tame.bind (Tame.chk _ _) fun _ => Tame.bind j7 fun _ => Tame.bind j7 fun _ => Tame.pure _) fun u =>
   LawP.bind (LawP.chk1 _ _ (by omega)) (Tame.chk _ _) (fun _ => Tame.bind j7 fun _ => Tame.bind j7 fun _ => Tame.pure _) (fun _ _ =>
    LawP.bind zgd j7 (fun _ => Tame.bind j7 fun _ => Tame.pure _) (fun _ _ =>
     LawP.bind zgd j7 (fun _ => Tame.pure _) (fun _ _ => LawP.pure _ id _ trivial) (fun _ _ _ => trivial)) (fun _ _ _ => trivial)) (fun _ _ _ => trivial)) (fun _ => rfl) (fun _ => rfl)
abbrev ziH : St → Lim × St := zN zi fun c => zN (rChk (1 < c) 2) fun _ => zN rNum fun m => if c = 1 then zN rNum fun x => ji ⟨m, true, x⟩ else ji ⟨m, false, 0⟩
theorem zge (s : St) (hs : OkS s) : zD s = ziH s := by
 unfold zD ziH zN rChk
 dsimp only
 rw [zgc hs (1 < (zi s).1) (fun h => by omega)]
 by_cases h : (zi s).1 = 1
 ·rw [if_pos h, if_pos h]; rfl
 ·rw [if_neg h, if_neg h]; rfl
theorem Yu (c : Nat) : ∀ m : UInt32, Tame (if c = 1 then zN rNum fun x => ji (⟨m, true, x⟩ : Lim) else ji ⟨m, false, 0⟩) := fun m => by
 split
 ·exact Tame.bind yi fun _ => Tame.pure _
 ·exact Tame.pure _
theorem ZS : Tame zD := Tame.of' (Tame.bind yy fun c => Tame.bind (Tame.chk _ _) fun _ => Tame.bind yi (Yu c)) zge
theorem zdS : LawP zD pLim id All All :=
 LawP.of' (rd' := ziH) (p' := yF y7 fun c => yF (fun bs => .ok () bs) fun _ => yF pNum fun m bs => if c.toNat = 1 then (pNum bs).bind fun x r2 => .ok ⟨m, true, x⟩ r2 else (pChk (c.toNat = 0) bs).bind fun _ r1 => .ok ⟨m, false, 0⟩ r1)
  (LawP.byte (fun c => Tame.bind (Tame.chk _ _) fun _ => Tame.bind yi (Yu c)) fun u =>
   LawP.bind (LawP.chk2 _) (Tame.chk _ _) (fun _ => Tame.bind yi (Yu _)) (fun _ hu => LawP.bind JL yi (Yu _) (fun m _ => by
    by_cases h : u.toNat = 1
    ·simp only [if_pos h]
     exact LawP.bind (q := fun x bs => PR.ok (⟨m, true, x⟩ : Lim) bs) JL yi (fun _ => Tame.pure _) (fun _ _ => LawP.pure _ id _ trivial) (fun _ _ _ => trivial)
    ·simp only [if_neg h]
     exact LawP.of (LawP.pure (⟨m, false, 0⟩ : Lim) id _ trivial) (fun _ => rfl) (fun bs => by unfold pChk; rw [if_pos (show u.toNat = 0 by omega)]; rfl)) (fun _ _ _ => trivial)) (fun _ _ _ => trivial)) zge (fun _ => rfl)
theorem zce : Tame zX := Tame.of (rd' := zN zi fun c => zN (rChk (c ≠ 112) 1) fun _ => zD) (Tame.bind yy fun _ => Tame.bind (Tame.chk _ _) fun _ => ZS) (fun _ => rfl)
theorem zgf : LawP zX pTab id All All :=
 LawP.of (rd' := zN zi fun c => zN (rChk (c ≠ 112) 1) fun _ => zD) (p' := yF y7 fun c => yF (pChk (c.toNat = 112)) fun _ => pLim)
  (LawP.byte (fun _ => Tame.bind (Tame.chk _ _) fun _ => ZS) fun u => LawP.bind (LawP.chk1 _ _ (by omega)) (Tame.chk _ _) (fun _ => ZS) (fun _ _ => zdS) (fun _ _ _ => trivial)) (fun _ => rfl) (fun _ => rfl)
def zjD {α : Type} (x : α) (n : Nat) : St → α × St := fun s => (x, s.fail n)
theorem Tame.fail (x : α) (n : Nat) : Tame (zjD x n) := fun s hs => ⟨jh s n, fun hv => jy n hv (hs hv)⟩
abbrev zeU (c : Nat) (mdl nm : List UInt8) : St → Imp × St :=
 if c = 0 then zN rNum fun i => ji ⟨mdl, nm, (c : Int), i, ⟨0, false, 0⟩, 0, false⟩
 else if c = 1 then zN zX fun l => ji ⟨mdl, nm, (c : Int), 0, l, 0, false⟩
 else if c = 2 then zN zD fun l => ji ⟨mdl, nm, (c : Int), 0, l, 0, false⟩
 else if c = 3 then zN zk fun t => zN jH fun b => ji ⟨mdl, nm, (c : Int), 0, ⟨0, false, 0⟩, t, b⟩
 else zjD ⟨mdl, nm, (c : Int), 0, ⟨0, false, 0⟩, 0, false⟩ 1
abbrev zgg : St → Bool × St := zN zi fun c => zN (rChk (1 < c) 1) fun _ => ji (decide (c = 1))
theorem zem (s : St) (hs : OkS s) : jH s = zgg s := by
 unfold jH zgg zN rChk
 dsimp only
 rw [zgc hs (1 < (zi s).1) (fun h => by omega)]
 rfl
theorem Yv : Tame jH := Tame.of' (Tame.bind yy fun _ => Tame.bind (Tame.chk _ _) fun _ => Tame.pure _) zem
theorem zhk : LawP jH pBit id All All :=
 LawP.of' (rd' := zgg) (p' := yF y7 fun c => yF (pChk (c.toNat ≤ 1)) fun _ bs => .ok (decide (c.toNat = 1)) bs)
  (LawP.byte (fun _ => Tame.bind (Tame.chk _ _) fun _ => Tame.pure _) fun u => LawP.bind (LawP.chk1 _ _ (by omega)) (Tame.chk _ _) (fun _ => Tame.pure _) (fun _ _ => LawP.pure _ id _ trivial) (fun _ _ _ => trivial)) zem (fun _ => rfl)
theorem Yw (c : Nat) (mdl nm : List UInt8) : Tame (zeU c mdl nm) := by
 unfold zeU
 split
 ·exact Tame.bind yi fun _ => Tame.pure _
 ·split
  ·exact Tame.bind zce fun _ => Tame.pure _
  ·split
   ·exact Tame.bind ZS fun _ => Tame.pure _
   ·split
    ·exact Tame.bind zaV fun _ => Tame.bind Yv fun _ => Tame.pure _
    ·exact Tame.fail _ _
theorem zgh (s : St) : rImp s = zN zr (fun mdl => zN zr fun nm => zN zi fun c => zeU c mdl nm) s := by
 unfold rImp jC zN zeU
 dsimp only
 generalize zi (zr (zr s).2).2 = b
 by_cases h0 : b.1 = 0
 ·rw [if_pos h0, if_pos h0]; rfl
 ·rw [if_neg h0, if_neg h0]
  by_cases h1 : b.1 = 1
  ·rw [if_pos h1, if_pos h1]; rfl
  ·rw [if_neg h1, if_neg h1]
   by_cases h2 : b.1 = 2
   ·rw [if_pos h2, if_pos h2]; rfl
   ·rw [if_neg h2, if_neg h2]
    by_cases h3 : b.1 = 3
    ·rw [if_pos h3, if_pos h3]; rfl
    ·rw [if_neg h3, if_neg h3]; rfl
theorem zhl : Tame rImp := Tame.of (Tame.bind jz fun _ => Tame.bind jz fun _ => Tame.bind yy fun _ => Yw _ _ _) zgh
def CImp (i : Imp) : Prop := i.kind ≠ 3
theorem zhm (u : UInt8) (mdl nm : List UInt8) : LawP (zeU u.toNat mdl nm) (zeC u mdl nm) id CImp All := by
 unfold zeU zeC
 by_cases h0 : u.toNat = 0
 ·simp only [h0, if_true]
  exact LawP.bind (q := fun i bs => PR.ok (⟨mdl, nm, 0, i, ⟨0, false, 0⟩, 0, false⟩ : Imp) bs) JL yi (fun _ => Tame.pure _) (fun _ _ => LawP.pure _ id _ trivial) (fun _ _ _ => trivial)
 ·by_cases h1 : u.toNat = 1
  ·simp only [h1, if_true]
   exact LawP.bind (q := fun i bs => PR.ok (⟨mdl, nm, 1, 0, i, 0, false⟩ : Imp) bs) zgf zce (fun _ => Tame.pure _) (fun _ _ => LawP.pure _ id _ trivial) (fun _ _ _ => trivial)
  ·by_cases h2 : u.toNat = 2
   ·simp only [h2, if_true]
    exact LawP.bind (q := fun i bs => PR.ok (⟨mdl, nm, 2, 0, i, 0, false⟩ : Imp) bs) zdS ZS (fun _ => Tame.pure _) (fun _ _ => LawP.pure _ id _ trivial) (fun _ _ _ => trivial)
   ·by_cases h3 : u.toNat = 3
    ·simp only [h3]
     exact LawP.no (fun s h => h rfl) (fun _ => trivial)
    ·simp only [if_neg h0, if_neg h1, if_neg h2, if_neg h3]
     exact ⟨fun _ hv _ => (by cases hv), fun _ _ _ => rfl, fun _ _ => trivial⟩
theorem ziI : LawP rImp pImp id CImp All :=
 LawP.of (p' := yF zR fun mdl => yF zR fun nm => yF y7 fun c => zeC c mdl nm)
  (LawP.bind Ze jz (fun _ => Tame.bind jz fun _ => Tame.bind yy fun _ => Yw _ _ _) (fun _ _ =>
   LawP.bind Ze jz (fun _ => Tame.bind yy fun _ => Yw _ _ _) (fun _ _ => LawP.byte (fun _ => Yw _ _ _) fun u => zhm u _ _) (fun _ _ _ => trivial)) (fun _ _ _ => trivial)) zgh (fun _ => rfl)
theorem LawP.v2 (h : ∀ bs, (rd ⟨bs, 0⟩).2.v ≠ 0 ∧ (rd ⟨bs, 0⟩).2.v ≠ 1) : LawP rd p f C V :=
 ⟨fun bs hv => absurd hv (h bs).1, fun bs hv => absurd hv (h bs).2, fun bs hv => absurd hv (h bs).1⟩
theorem zaW (bits : Nat) : Tame (zJ bits) := fun s hs => by
 unfold zJ
 split
 ·exact ⟨jh _ _, fun hv => jy _ hv (hs hv)⟩
 ·rename_i h0
  refine ⟨fun h => by show s.b.drop _ = []; rw [hs h]; simp, fun hv => ?_⟩
  have : (sig bits s.b).2 = 0 := by rw [hs hv]; rfl
  exact absurd this h0
theorem zdT {bits : Nat} (hs : OkS s) (hv : s.v ≠ 0) : zJ bits s = (0, s) := by
 have : (sig bits s.b).2 = 0 := by rw [hs hv]; rfl
 unfold zJ
 rw [if_pos this, jy _ hv (hs hv)]
theorem zeV (n : Nat) (hn : n ≤ 1048576) : Tame (zy n) := fun s hs => by
 refine ⟨(Ys n s hs).1, fun hv => ?_⟩
 unfold zy
 split
 ·rw [if_neg (by omega)]; exact jy _ hv (hs hv)
 ·rename_i h
  have h0 : n = 0 := by rw [hs hv] at h; simp at h; exact h
  rw [h0]; rfl
theorem zgi (k : Int) : Tame (y0 k) := fun s hs => by
 unfold y0
 split
 ·exact zaW 32 s hs
 ·split
  ·have h1 := zaW 64 s hs
   refine ⟨?_, fun hv => ?_⟩
   ·dsimp only
    split
    ·exact jh _ _
    ·exact h1.1
   ·dsimp only
    rw [zdT hs hv, if_neg (fun h => absurd h.1 (by show ¬ 9223372036854775808 ≤ (0 : Nat); omega))]
  ·split
   ·exact Jk s hs
   ·split
    ·exact yy s hs
    ·dsimp only
     generalize hn : (if k = 3 then 4 else if k = 4 then 8 else 0) = n
     have Dd : n ≤ 1048576 := by
      rw [← hn]
      split
      ·decide
      ·split <;> decide
     exact zeV n Dd s hs
theorem zc0 : ∀ ks : List Int, Tame (y2 ks)
 | [] => Tame.pure []
 | k :: ks => Tame.of (rd' := zN (y0 k) fun v => zN (y2 ks) fun l => ji ((k, UInt64.ofNat v) :: l)) (Tame.bind (zgi k) fun _ => Tame.bind (zc0 ks) fun _ => Tame.pure _) (fun _ => rfl)
theorem Jm (op : Nat) : Tame (zI op) := Tame.of (rd' := zN (rChk (z5 (op : Int) = none) 2) fun _ => y2 ((z5 (op : Int)).getD [])) (Tame.bind (Tame.chk _ _) fun _ => zc0 _) (fun _ => rfl)
theorem zc1 (s : St) : zI 65 s = ([(0, UInt64.ofNat (zJ 32 s).1)], (zJ 32 s).2) := by
 unfold zI jV
 rw [show z5 ((65 : Nat) : Int) = some [0] from rfl, if_neg (fun h => nomatch h.2)]
 rfl
theorem zc2 (s : St) : zI 66 s = ([(1, UInt64.ofNat (y0 1 s).1)], (y0 1 s).2) := by
 unfold zI jV
 rw [show z5 ((66 : Nat) : Int) = some [1] from rfl, if_neg (fun h => nomatch h.2)]
 rfl
theorem ziJ : LawP (zI 65) pA32 id All All := by
 refine ⟨fun bs hv _ => ?_, fun bs hv _ => ?_, fun _ _ => trivial⟩
 ·rw [zc1] at hv ⊢
  obtain ⟨m, h1, h2⟩ := (Yq (s := ⟨bs, 0⟩) rfl).1 hv
  unfold pA32
  rw [show yM 0 0 bs = _ from h1, ← h2]; rfl
 ·rw [zc1] at hv
  have hv : (zJ 32 ⟨bs, 0⟩).2.v = 1 := hv
  rcases (Yq (s := ⟨bs, 0⟩) rfl).2 (by rw [hv]; decide) with h | h
  ·rw [hv] at h; cases h
  ·rw [hv] at h; cases h.1
theorem ziK : LawP (zI 66) pA64 id All All := by
 refine ⟨fun bs hv _ => ?_, fun bs hv _ => ?_, fun _ _ => trivial⟩
 ·rw [zc2] at hv ⊢
  obtain ⟨m, h1, h2⟩ := (Yr (s := ⟨bs, 0⟩) rfl).1 hv
  unfold pA64
  rw [show yM 0 0 bs = _ from h1, ← h2]; rfl
 ·rw [zc2] at hv
  have hv : (y0 1 ⟨bs, 0⟩).2.v = 1 := hv
  rcases (Yr (s := ⟨bs, 0⟩) rfl).2 (by rw [hv]; decide) with h | h
  ·rw [hv] at h; cases h
  ·rw [hv] at h; cases h.1
def cst1 : Ins → Ins
 | .mk op a st ty b => .mk op a st (if st then ty else -1) b
def CCon : List Ins → Prop
 | .mk op _ _ _ _ :: _ => op ≠ 67 ∧ op ≠ 68
 | [] => True
def rEnd {α : Type} (x : α) : St → α × St := zN zi fun e => zN (rChk (e ≠ 11) 2) fun _ => ji x
theorem Yx (x : α) : Tame (rEnd x) := Tame.bind yy fun _ => Tame.bind (Tame.chk _ _) fun _ => Tame.pure _
theorem zgj (x : α) (f : α → β) (C : α → Prop) : LawP (rEnd x) (fun bs => (pEnd bs).bind fun _ r => .ok (f x) r) f C All :=
 LawP.of (p' := yF y7 fun c bs => if c.toNat = 11 then .ok (f x) bs else .any) (LawP.byte (fun _ => Tame.bind (Tame.chk _ _) fun _ => Tame.pure _) fun u => by
  by_cases h : u.toNat = 11
  ·simp only [if_pos h]
   exact LawP.of (LawP.pure x f C trivial) (fun s => by unfold zN rChk; rw [if_neg (fun q => q.2 h)]) (fun _ => rfl)
  ·refine LawP.v2 fun bs => ?_
   have e : (zN (rChk (u.toNat ≠ 11) 2) (fun _ => ji x) ⟨bs, 0⟩).2 = ⟨[], 2⟩ := by unfold zN rChk; rw [if_pos ⟨rfl, h⟩]; first | done | rfl
   rw [e]; exact ⟨by decide, by decide⟩) (fun _ => rfl) (fun bs => by
  unfold pEnd yF
  rw [PR.bind_bind]
  congr 1
  funext c r
  split <;> rfl)
abbrev zgk : St → List Ins × St := zN zi fun op => zN (rChk (zdx op = false) 2) fun _ => zN (zI op) fun a => rEnd [.mk (op : Int) a false 0 []]
theorem yN : Tame ya := Tame.of (rd' := zgk) (Tame.bind yy fun _ => Tame.bind (Tame.chk _ _) fun _ => Tame.bind (Jm _) fun _ => Yx _) (fun _ => rfl)
theorem zaX : LawP ya jb (List.map cst1) CCon All :=
 LawP.of (rd' := zgk) (p' := yF y7 fun c => yF (fun bs => .ok () bs) fun _ bs => if c.toNat = 65 then (pA32 bs).bind fun a r1 => (pEnd r1).bind fun _ r2 => .ok [.mk 65 a false (-1) []] r2
  else if c.toNat = 66 then (pA64 bs).bind fun a r1 => (pEnd r1).bind fun _ r2 => .ok [.mk 66 a false (-1) []] r2 else .any)
  (LawP.byte (fun _ => Tame.bind (Tame.chk _ _) fun _ => Tame.bind (Jm _) fun _ => Yx _) fun u =>
   LawP.bind (LawP.chk2 _) (Tame.chk _ _) (fun _ => Tame.bind (Jm _) fun _ => Yx _) (fun _ hu => by
    have ho : u.toNat = 65 ∨ u.toNat = 66 ∨ u.toNat = 67 ∨ u.toNat = 68 := by
     unfold zdx at hu
     exact Classical.byContradiction fun h => hu (decide_eq_false h)
    rcases ho with h | h | h | h
    ·simp only [h, if_true]
     exact LawP.bind (q := fun a bs => (pEnd bs).bind fun _ r2 => PR.ok (List.map cst1 [.mk 65 a false 0 []]) r2) ziJ (Jm _) (fun _ => Yx _) (fun a _ => zgj _ _ _) (fun _ _ _ => trivial)
    ·simp only [h, if_true]
     exact LawP.bind (q := fun a bs => (pEnd bs).bind fun _ r2 => PR.ok (List.map cst1 [.mk 66 a false 0 []]) r2) ziK (Jm _) (fun _ => Yx _) (fun a _ => zgj _ _ _) (fun _ _ _ => trivial)
    ·simp only [h]
     exact LawP.no (fun s q => q.1 rfl) (fun _ => trivial)
    ·simp only [h]
     exact LawP.no (fun s q => q.2 rfl) (fun _ => trivial)) (fun _ _ _ => trivial)) (fun _ => rfl) (fun _ => rfl)
def zgl (g : Glob) : Glob := { g with init := g.init.map cst1 }
def zgm (e : Elem) : Elem := { e with off := e.off.map cst1 }
def nDat (d : Dat) : Dat := { d with off := d.off.map cst1 }
theorem zgn : Tame Je := Tame.of (rd' := zN zk fun t => zN jH fun b => zN ya fun c => ji ⟨t, b, c⟩) (Tame.bind zaV fun _ => Tame.bind Yv fun _ => Tame.bind yN fun _ => Tame.pure _) (fun _ => rfl)
theorem zhn : LawP Je Zr zgl (fun g => CCon g.init) All :=
 LawP.of (rd' := zN zk fun t => zN jH fun b => zN ya fun c => ji ⟨t, b, c⟩) (p' := yF pVT fun t => yF pBit fun b => yF jb fun l bs => .ok ⟨t, b, l⟩ bs)
  (LawP.bind zhU zaV (fun _ => Tame.bind Yv fun _ => Tame.bind yN fun _ => Tame.pure _) (fun t _ =>
   LawP.bind zhk Yv (fun _ => Tame.bind yN fun _ => Tame.pure _) (fun b _ =>
    LawP.bind (k := fun c => ji (⟨t, b, c⟩ : Glob)) zaX yN (fun _ => Tame.pure _) (fun _ _ => LawP.pure _ zgl _ trivial) (fun _ _ h => h)) (fun _ _ _ => trivial)) (fun _ _ _ => trivial)) (fun _ => rfl) (fun _ => rfl)
theorem Jy : Tame zZ := zcZ yi
theorem zaY : LawP zZ (pVec pNum) id All All := JL.vecAll yi
theorem zgo : Tame Jf := Tame.of (rd' := zN rNum fun i => zN ya fun c => zN zZ fun l => ji ⟨i, c, l⟩) (Tame.bind yi fun _ => Tame.bind yN fun _ => Tame.bind Jy fun _ => Tame.pure _) (fun _ => rfl)
theorem zho : LawP Jf ZZ zgm (fun g => CCon g.off) All :=
 LawP.of (rd' := zN rNum fun i => zN ya fun c => zN zZ fun l => ji ⟨i, c, l⟩) (p' := yF pNum fun t => yF jb fun b => yF (pVec pNum) fun l bs => .ok ⟨t, b, l⟩ bs)
  (LawP.bind JL yi (fun _ => Tame.bind yN fun _ => Tame.bind Jy fun _ => Tame.pure _) (fun i _ =>
   LawP.bind (k := fun c => zN zZ fun l => ji (⟨i, c, l⟩ : Elem)) zaX yN (fun _ => Tame.bind Jy fun _ => Tame.pure _) (fun _ _ =>
    LawP.bind zaY Jy (fun _ => Tame.pure _) (fun _ _ => LawP.pure _ zgm _ trivial) (fun _ _ _ => trivial)) (fun _ _ h => h)) (fun _ _ _ => trivial)) (fun _ => rfl) (fun _ => rfl)
theorem zhp : Tame rDat := Tame.of (rd' := zN rNum fun i => zN ya fun c => zN zY fun l => ji ⟨i, c, l⟩) (Tame.bind yi fun _ => Tame.bind yN fun _ => Tame.bind jI fun _ => Tame.pure _) (fun _ => rfl)
theorem ziL : LawP rDat pDat nDat (fun g => CCon g.off) All :=
 LawP.of (rd' := zN rNum fun i => zN ya fun c => zN zY fun l => ji ⟨i, c, l⟩) (p' := yF pNum fun t => yF jb fun b => yF zR fun l bs => .ok ⟨t, b, l⟩ bs)
  (LawP.bind JL yi (fun _ => Tame.bind yN fun _ => Tame.bind jI fun _ => Tame.pure _) (fun i _ =>
   LawP.bind (k := fun c => zN zY fun l => ji (⟨i, c, l⟩ : Dat)) zaX yN (fun _ => Tame.bind jI fun _ => Tame.pure _) (fun _ _ =>
    LawP.bind zaU jI (fun _ => Tame.pure _) (fun _ _ => LawP.pure _ nDat _ trivial) (fun _ _ _ => trivial)) (fun _ _ h => h)) (fun _ _ _ => trivial)) (fun _ => rfl) (fun _ => rfl)
abbrev zgp (n : List UInt8) (k : Nat) : St → Expo × St := zN rNum fun i => zN (rChk (3 < k) 1) fun _ => ji ⟨n, (k : Int), i⟩
theorem zaZ (n : List UInt8) (k : Nat) : Tame (zgp n k) := Tame.bind yi fun _ => Tame.bind (Tame.chk _ _) fun _ => Tame.pure _
theorem zgq : Tame j5 := Tame.of (rd' := zN zr fun n => zN zi fun k => zgp n k) (Tame.bind jz fun _ => Tame.bind yy fun _ => zaZ _ _) (fun _ => rfl)
theorem zhq : LawP j5 JR id All All :=
 LawP.of (rd' := zN zr fun n => zN zi fun k => zgp n k) (p' := yF zR fun n => yF y7 fun c => yF (pChk (c.toNat ≤ 3)) fun _ => yF pNum fun i bs => .ok ⟨n, (c.toNat : Int), i⟩ bs)
  (LawP.bind Ze jz (fun _ => Tame.bind yy fun _ => zaZ _ _) (fun n _ =>
   LawP.byte (fun _ => zaZ _ _) fun u => by
    by_cases h : 3 < u.toNat
    ·have e : ∀ bs, yF (pChk (u.toNat ≤ 3)) (fun _ => yF pNum fun i bs => PR.ok (⟨n, (u.toNat : Int), i⟩ : Expo) bs) bs = .bad := fun bs => by unfold yF pChk; rw [if_neg (by omega)]; rfl
     refine ⟨fun bs hv _ => absurd hv ?_, fun bs _ _ => e bs, fun _ _ => trivial⟩
     unfold zgp zN rChk ji
     dsimp only
     intro hv
     split at hv
     ·rename_i h2
      unfold St.fail at hv
      rw [if_pos h2.1] at hv
      cases hv
     ·rename_i h2
      exact h2 ⟨hv, h⟩
    ·refine LawP.of (rd' := zN rNum fun i => ji ⟨n, (u.toNat : Int), i⟩) (p' := yF pNum fun i bs => .ok ⟨n, (u.toNat : Int), i⟩ bs)
      (LawP.bind JL yi (fun _ => Tame.pure _) (fun _ _ => LawP.pure _ id _ trivial) (fun _ _ _ => trivial)) (fun s => ?_) (fun bs => ?_)
     ·unfold zgp zN rChk
      dsimp only
      rw [if_neg (fun q => h q.2)]
     ·unfold yF pChk
      rw [if_pos (by omega)]; rfl) (fun _ _ _ => trivial)) (fun _ => rfl) (fun _ => rfl)
variable {σ : Type}
theorem YS (step : σ → σ) (n : Nat) (s : σ) : yj step (n + 1) s = step (yj step n s) := rfl
theorem Zf (f : UInt32) (p : List Nam × St) (hs : OkS p.2) : OkS (zO f p).2 ∧ (p.2.v ≠ 0 → (zO f p).2 = p.2) := by
 have h1 := yi p.2 hs
 have h2 := jz (rNum p.2).2 h1.1
 refine ⟨?_, fun hv => ?_⟩
 ·show OkS (if zaI p.1 (rNum p.2).1 then (zr (rNum p.2).2).2.fail 2 else (zr (rNum p.2).2).2)
  split
  ·exact jh _ _
  ·exact h2.1
 ·show (if zaI p.1 (rNum p.2).1 then (zr (rNum p.2).2).2.fail 2 else (zr (rNum p.2).2).2) = p.2
  have e1 := h1.2 hv
  rw [e1] at h2 ⊢
  have e2 := h2.2 hv
  rw [e2]
  split
  ·exact jy 2 hv (hs hv)
  ·rfl
theorem JU (step : σ → σ) (pr : σ → St) (h : ∀ p, OkS (pr p) → OkS (pr (step p)) ∧ ((pr p).v ≠ 0 → pr (step p) = pr p)) : ∀ (n : Nat) (p : σ), OkS (pr p) → OkS (pr (yj step n p)) ∧ ((pr p).v ≠ 0 → pr (yj step n p) = pr p)
 | 0, _, hp => ⟨hp, fun _ => rfl⟩
 | n + 1, p, hp => by
  have ih := JU step pr h n p hp
  have h1 := h _ ih.1
  refine ⟨h1.1, fun hv => ?_⟩
  have e := ih.2 hv
  rw [YS, h1.2 (by rw [e]; exact hv), e]
theorem zbI (f : UInt32) : Tame (zQ f) := fun s hs => by
 have h1 := JT s hs
 have h2 := JU (zO f) (fun p => p.2) (Zf f) (zo s).1 ([], (zo s).2) h1.1
 refine ⟨h2.1, fun hv => ?_⟩
 have e := h1.2 hv
 show (yj (zO f) (zo s).1 ([], (zo s).2)).2 = s
 rw [h2.2 (by show (zo s).2.v ≠ 0; rw [e]; exact hv)]
 exact e
theorem zbJ (f : UInt32) (bs : List UInt8) : ∀ n, (yj (zO f) n ([], ⟨bs, 0⟩)).2.v = 0 → pRep (pNam f) n bs = .ok (yj (zO f) n ([], ⟨bs, 0⟩)).1 (yj (zO f) n ([], ⟨bs, 0⟩)).2.b
 | 0, _ => rfl
 | n + 1, hv => by
  have ih := zbJ f bs n
  have ht := JU (zO f) (fun p => p.2) (Zf f) n ([], ⟨bs, 0⟩) (JK bs)
  rw [YS] at hv ⊢
  generalize yj (zO f) n ([], ⟨bs, 0⟩) = p at *
  have dQ : p.2.v = 0 := Classical.byContradiction fun h => by rw [(Zf f p ht.1).2 h] at hv; exact h hv
  have h1 := yi p.2 ht.1
  have h2 := jz (rNum p.2).2 h1.1
  have hv : (if zaI p.1 (rNum p.2).1 then (zr (rNum p.2).2).2.fail 2 else (zr (rNum p.2).2).2).v = 0 := hv
  have oS : zaI p.1 (rNum p.2).1 = false := by
   cases hb : zaI p.1 (rNum p.2).1 with
   | false => rfl
   | true =>
    rw [hb, if_pos rfl] at hv
    unfold St.fail at hv
    dsimp only at hv
    split at hv
    ·cases hv
    ·rename_i h; exact absurd hv h
  rw [oS] at hv
  have hv : (zr (rNum p.2).2).2.v = 0 := hv
  have hH : (rNum p.2).2.v = 0 := Classical.byContradiction fun h => by rw [h2.2 h] at hv; exact h hv
  rw [St.eta dQ] at hH
  have g1 := JL.good p.2.b hH trivial
  have e1 := St.eta hH
  rw [St.eta dQ, e1] at hv
  have g2 := Ze.good _ hv trivial
  refine yu (ih dQ) ?_
  unfold pNam
  rw [g1, PR.bind_ok, g2, PR.bind_ok]
  show _ = PR.ok _ (if zaI p.1 (rNum p.2).1 then (zr (rNum p.2).2).2.fail 2 else (zr (rNum p.2).2).2).b
  rw [oS, St.eta dQ, e1]
  rfl
theorem zbK (f : UInt32) (hv : (zQ f ⟨bs, 0⟩).2.v = 0) : pVec (pNam f) bs = .ok (zQ f ⟨bs, 0⟩).1 (zQ f ⟨bs, 0⟩).2.b := by
 have h1 := JT ⟨bs, 0⟩ (JK bs)
 have h2 := JU (zO f) (fun p => p.2) (Zf f) (zo ⟨bs, 0⟩).1 ([], (zo ⟨bs, 0⟩).2) h1.1
 have hv : (yj (zO f) (zo ⟨bs, 0⟩).1 ([], (zo ⟨bs, 0⟩).2)).2.v = 0 := hv
 have hc : (zo ⟨bs, 0⟩).2.v = 0 := Classical.byContradiction fun h => by rw [h2.2 h] at hv; exact h hv
 have g := Zw.good bs hc trivial
 have hl := Zw.val bs hc
 unfold pVec
 rw [g, PR.bind_ok, yT hl]
 rw [St.eta hc] at hv
 have := zbJ f _ _ hv
 rw [this]
 unfold zQ
 rw [← St.eta hc]
theorem za0 (lo : Bool) (p : LocSt) (hs : OkS p.s) : OkS (zT lo p).s ∧ (p.s.v ≠ 0 → (zT lo p).s = p.s) := by
 have h1 := yi p.s hs
 unfold zT
 dsimp only
 have h2 : OkS (if (rNum p.s).1 ∈ p.seen ∨ ((rNum p.s).1.toNat < p.last.toNat ∧ lo = false) then (rNum p.s).2.fail 2 else (rNum p.s).2) := by
  split
  ·exact jh _ _
  ·exact h1.1
 have h3 := zbI (rNum p.s).1 _ h2
 refine ⟨h3.1, fun hv => ?_⟩
 have e1 := h1.2 hv
 have e2 : (if (rNum p.s).1 ∈ p.seen ∨ ((rNum p.s).1.toNat < p.last.toNat ∧ lo = false) then (rNum p.s).2.fail 2 else (rNum p.s).2) = p.s := by
  rw [e1]
  split
  ·exact jy 2 hv (hs hv)
  ·rfl
 rw [h3.2 (by rw [e2]; exact hv), e2]
theorem zc3 (lo : Bool) (bs : List UInt8) : ∀ n, (yj (zT lo) n ⟨[], 0, [], ⟨bs, 0⟩⟩).s.v = 0 → ∃ ls, pRep Jv n bs = .ok ls (yj (zT lo) n ⟨[], 0, [], ⟨bs, 0⟩⟩).s.b ∧ ls.flatten = (yj (zT lo) n ⟨[], 0, [], ⟨bs, 0⟩⟩).o
 | 0, _ => ⟨[], rfl, rfl⟩
 | n + 1, hv => by
  have ih := zc3 lo bs n
  have ht := JU (zT lo) (fun p => p.s) (za0 lo) n ⟨[], 0, [], ⟨bs, 0⟩⟩ (JK bs)
  rw [YS] at hv ⊢
  generalize yj (zT lo) n ⟨[], 0, [], ⟨bs, 0⟩⟩ = p at *
  have dQ : p.s.v = 0 := Classical.byContradiction fun h => by rw [(za0 lo p ht.1).2 h] at hv; exact h hv
  obtain ⟨ls, hr, hf⟩ := ih dQ
  have h1 := yi p.s ht.1
  have hv : (zQ (rNum p.s).1 (if (rNum p.s).1 ∈ p.seen ∨ ((rNum p.s).1.toNat < p.last.toNat ∧ lo = false) then (rNum p.s).2.fail 2 else (rNum p.s).2)).2.v = 0 := hv
  have hd := zbI (rNum p.s).1
  have rq : ¬ ((rNum p.s).1 ∈ p.seen ∨ ((rNum p.s).1.toNat < p.last.toNat ∧ lo = false)) := fun h => by
   rw [if_pos h, (hd _ (jh _ _)).2 (by unfold St.fail; dsimp only; split; decide; assumption)] at hv
   unfold St.fail at hv
   dsimp only at hv
   split at hv
   ·cases hv
   ·rename_i h; exact absurd hv h
  rw [if_neg rq] at hv
  have hH : (rNum p.s).2.v = 0 := Classical.byContradiction fun h => by rw [(hd _ h1.1).2 h] at hv; exact h hv
  rw [St.eta dQ] at hH
  have g1 := JL.good p.s.b hH trivial
  have e1 := St.eta hH
  rw [St.eta dQ, e1] at hv
  have g2 := zbK _ hv
  refine ⟨ls ++ [(zQ (rNum ⟨p.s.b, 0⟩).1 ⟨(rNum ⟨p.s.b, 0⟩).2.b, 0⟩).1], ?_, ?_⟩
  ·refine (yu (x := (zQ (rNum ⟨p.s.b, 0⟩).1 ⟨(rNum ⟨p.s.b, 0⟩).2.b, 0⟩).1) (r' := (zQ (rNum ⟨p.s.b, 0⟩).1 ⟨(rNum ⟨p.s.b, 0⟩).2.b, 0⟩).2.b) hr ?_).trans ?_
   ·unfold Jv
    rw [g1, PR.bind_ok]
    exact g2
   ·show _ = PR.ok _ (zQ (rNum p.s).1 (if (rNum p.s).1 ∈ p.seen ∨ ((rNum p.s).1.toNat < p.last.toNat ∧ lo = false) then (rNum p.s).2.fail 2 else (rNum p.s).2)).2.b
    rw [if_neg rq, St.eta dQ, ← e1]
  ·rw [List.flatten_append, hf]
   show _ = p.o ++ (zQ (rNum p.s).1 (if (rNum p.s).1 ∈ p.seen ∨ ((rNum p.s).1.toNat < p.last.toNat ∧ lo = false) then (rNum p.s).2.fail 2 else (rNum p.s).2)).1
   rw [if_neg rq, St.eta dQ, ← e1]
   simp
theorem zgr (lo : Bool) (hv : (yx lo ⟨bs, 0⟩).2.v = 0) : zaJ bs = .ok (yx lo ⟨bs, 0⟩).1 (yx lo ⟨bs, 0⟩).2.b := by
 have h1 := JT ⟨bs, 0⟩ (JK bs)
 have h2 := JU (zT lo) (fun p => p.s) (za0 lo) (zo ⟨bs, 0⟩).1 ⟨[], 0, [], (zo ⟨bs, 0⟩).2⟩ h1.1
 have hv : (yj (zT lo) (zo ⟨bs, 0⟩).1 ⟨[], 0, [], (zo ⟨bs, 0⟩).2⟩).s.v = 0 := hv
 have hc : (zo ⟨bs, 0⟩).2.v = 0 := Classical.byContradiction fun h => by rw [h2.2 h] at hv; exact h hv
 have g := Zw.good bs hc trivial
 have hl := Zw.val bs hc
 rw [St.eta hc] at hv
 obtain ⟨ls, hr, hf⟩ := zc3 lo _ _ hv
 unfold zaJ pVec
 rw [g, PR.bind_ok, yT hl, hr, PR.bind_ok, hf]
 unfold yx
 dsimp only
 rw [← St.eta hc]
def nM (m : Mod) : Mod := { m with version := 0, globals := m.globals.map zgl, elements := m.elements.map zgm, datas := m.datas.map nDat }
variable {id : Nat}
theorem zgs (lo : Bool) (eX : id ≤ 2) (m : Mod) (hm : id = 2 → m.locals = []) (hv : (jr lo id m ⟨bs, 0⟩).2.v = 0) : Zs id (nM m) bs = .ok (nM (jr lo id m ⟨bs, 0⟩).1) (jr lo id m ⟨bs, 0⟩).2.b := by
 unfold jr at hv ⊢
 unfold Zs
 by_cases h0 : id = 0
 ·simp only [if_pos h0] at hv ⊢
  rw [Ze.good bs hv trivial]; rfl
 ·simp only [if_neg h0] at hv ⊢
  by_cases h1 : id = 1
  ·simp only [if_pos h1] at hv ⊢
   rw [zbK 0 hv]; rfl
  ·simp only [if_neg h1] at hv ⊢
   rw [if_pos (show id = 2 by omega), zgr lo hv]
   have e : (nM m).locals = [] := hm (by omega)
   rw [PR.bind_ok, e]; rfl
structure Same (m m' : Mod) : Prop where
 version : m'.version = m.version
 types : m'.types = m.types
 imports : m'.imports = m.imports
 functions : m'.functions = m.functions
 tables : m'.tables = m.tables
 memories : m'.memories = m.memories
 elements : m'.elements = m.elements
 globals : m'.globals = m.globals
 exports : m'.exports = m.exports
 codes : m'.codes = m.codes
 datas : m'.datas = m.datas
theorem Same.refl (m : Mod) : Same m m := ⟨rfl, rfl, rfl, rfl, rfl, rfl, rfl, rfl, rfl, rfl, rfl⟩
theorem Same.trans {a b c : Mod} (h : Same a b) (k : Same b c) : Same a c := ⟨k.1.trans h.1, k.2.trans h.2, k.3.trans h.3, k.4.trans h.4, k.5.trans h.5, k.6.trans h.6, k.7.trans h.7, k.8.trans h.8, k.9.trans h.9, k.10.trans h.10, k.11.trans h.11⟩
theorem zgt (lo : Bool) (id : Nat) (m : Mod) (s : St) : Same m (jr lo id m s).1 := by
 unfold jr
 split
 ·exact ⟨rfl, rfl, rfl, rfl, rfl, rfl, rfl, rfl, rfl, rfl, rfl⟩
 ·split <;> exact ⟨rfl, rfl, rfl, rfl, rfl, rfl, rfl, rfl, rfl, rfl, rfl⟩
theorem zbL (lo : Bool) : ∀ (f : Nat) (m : Mod) (last : Nat) (s : St), Same m (zw lo f m last s).1
 | 0, m, _, _ => Same.refl m
 | f + 1, m, last, s => by
  unfold zw
  split
  ·dsimp only
   split
   ·exact Same.refl m
   ·exact (zgt lo _ m _).trans (zbL lo f _ _ _)
  ·exact Same.refl m
theorem zdU (lo : Bool) (h : id < 2) (m : Mod) (s : St) : (jr lo id m s).1.locals = m.locals := by
 unfold jr
 by_cases h0 : id = 0
 ·rw [if_pos h0]
 ·rw [if_neg h0, if_pos (show id = 1 by omega)]
theorem zbM (lo : Bool) (f : Nat) (m : Mod) (last : Nat) (hv : s.v ≠ 0) : zw lo f m last s = (m, s) := by
 cases f with
 | zero => rfl
 | succ f => unfold zw; rw [if_neg (fun h => hv h.1)]
theorem zbN (lo : Bool) : ∀ (f : Nat) (m : Mod) (last : Nat) (bs : List UInt8), last ≤ 3 → 4 ≤ last + f → (last ≤ 2 → m.locals = []) → (zw lo f m last ⟨bs, 0⟩).2.v = 0 →
 ∀ f', bs.length < f' → Jg f' (nM m) bs = .ok (nM (zw lo f m last ⟨bs, 0⟩).1) []
 | 0, m, last, bs, h1, h2, _, _ => by omega
 | f + 1, m, last, bs, iX, gJ, hm, hv => fun f' gC => by
  obtain ⟨f', rfl⟩ : ∃ g, f' = g + 1 := ⟨f' - 1, by omega⟩
  unfold zw at hv ⊢
  unfold Jg
  cases bs with
  | nil => rw [if_neg (fun h => h.2 rfl)]
  | cons c r =>
   rw [if_pos ⟨rfl, List.cons_ne_nil _ _⟩] at hv ⊢
   have eb : zi ⟨c :: r, 0⟩ = (c.toNat, ⟨r, 0⟩) := rfl
   rw [eb] at hv ⊢
   dsimp only at hv ⊢
   by_cases hq : (zy (zc ⟨r, 0⟩).1 (zc ⟨r, 0⟩).2).2.v ≠ 0 ∨ c.toNat < last ∨ 2 < c.toNat
   ·rw [if_pos hq] at hv
    unfold St.fail at hv
    dsimp only at hv
    split at hv
    ·cases hv
    ·rename_i h; exact absurd hv h
   ·rw [if_neg hq] at hv ⊢
    have iB : (zy (zc ⟨r, 0⟩).1 (zc ⟨r, 0⟩).2).2.v = 0 := Classical.byContradiction fun h => hq (.inl h)
    have hH : (zc ⟨r, 0⟩).2.v = 0 := Classical.byContradiction fun h => by
     have hx := jI ⟨r, 0⟩ (JK r)
     rcases zdR r with ⟨_, q⟩ | q | q
     ·exact h q
     ·exact absurd iB (by show ¬ (zY ⟨r, 0⟩).2.v = 0; rw [q]; decide)
     ·exact absurd iB (by show ¬ (zY ⟨r, 0⟩).2.v = 0; rw [q]; decide)
    have g1 := Jl hH
    have e1 := St.eta hH
    rw [e1] at hv iB ⊢
    have g2 := zcY iB
    have aj := zL ⟨r, 0⟩
    have A5 := zF ⟨r, 0⟩
    have C6 := yR (zc ⟨r, 0⟩).1 ⟨(zc ⟨r, 0⟩).2.b, 0⟩
    have e2 := St.eta iB
    rw [e2] at hv ⊢
    generalize (zy (zc ⟨r, 0⟩).1 ⟨(zc ⟨r, 0⟩).2.b, 0⟩).1 = t1 at *
    generalize (zy (zc ⟨r, 0⟩).1 ⟨(zc ⟨r, 0⟩).2.b, 0⟩).2 = t2 at *
    have dQ : (jr lo c.toNat m ⟨t1, 0⟩).2.v = 0 ∧ (jr lo c.toNat m ⟨t1, 0⟩).2.b = [] := by
     refine Classical.byContradiction fun h => ?_
     have hc : (jr lo c.toNat m ⟨t1, 0⟩).2.v ≠ 0 ∨ (jr lo c.toNat m ⟨t1, 0⟩).2.b ≠ [] := by
      by_cases h0 : (jr lo c.toNat m ⟨t1, 0⟩).2.v = 0
      ·exact .inr (fun h1 => h ⟨h0, h1⟩)
      ·exact .inl h0
     rw [if_pos hc, zbM lo f _ _ (by simp [St.fail])] at hv
     simp [St.fail] at hv
    have hc : ¬ ((jr lo c.toNat m ⟨t1, 0⟩).2.v ≠ 0 ∨ (jr lo c.toNat m ⟨t1, 0⟩).2.b ≠ []) := fun h => h.elim (fun h => h dQ.1) (fun h => h dQ.2)
    rw [if_neg hc] at hv ⊢
    have eX : c.toNat ≤ 2 := by
     have : ¬ 2 < c.toNat := fun h => hq (.inr (.inr h))
     omega
    have Cp : last ≤ c.toNat := by
     have : ¬ c.toNat < last := fun h => hq (.inr (.inl h))
     omega
    have g3 := zgs lo eX m (fun _ => hm (by omega)) dQ.1
    rw [g1, PR.bind_ok, yT aj, g2.1, PR.bind_ok, g3, PR.bind_ok]
    exact zbN lo f _ _ t2.b (by omega) (by omega) (fun h => by rw [zdU lo (by omega)]; exact hm (by omega)) hv f' (by
     have : (c :: r).length = r.length + 1 := rfl
     have q : ({ b := r, v := 0 } : St).b.length = r.length := rfl
     have q2 : ({ b := (zc ⟨r, 0⟩).2.b, v := 0 } : St).b.length = (zc ⟨r, 0⟩).2.b.length := rfl
     omega)
theorem Zg (lo : Bool) (m : Mod) (seen : Bool) (s : St) : Same m (zs lo m seen s).1 := by
 unfold zs
 dsimp only
 split
 ·exact Same.refl m
 ·split
  ·exact ⟨rfl, rfl, rfl, rfl, rfl, rfl, rfl, rfl, rfl, rfl, rfl⟩
  ·exact zbL lo _ _ _ _
theorem zhr (lo : Bool) (m : Mod) (seen : Bool) (bs : List UInt8) : (zs lo m seen ⟨bs, 0⟩).2.2.v ≠ 1 := by
 unfold zs
 dsimp only
 have hn : (zr ⟨bs, 0⟩).2.v ≠ 1 := fun h => by
  have h1 := Ze.bad bs h trivial
  unfold zR at h1
  cases hp : pNum bs with
  | ok n r =>
   rw [hp, PR.bind_ok] at h1
   unfold ZY at h1
   split at h1 <;> cases h1
  | bad => unfold pNum at hp; split at hp <;> cases hp
  | any => rw [hp] at h1; cases h1
 split
 ·exact hn
 ·rename_i h0
  split
  ·exact hn
  ·generalize zw lo 4 m 0 (if seen = true then (zr ⟨bs, 0⟩).2.fail 2 else (zr ⟨bs, 0⟩).2) = p
   show (if p.2.v ≠ 0 then { p.2 with v := 2 } else p.2 : St).v ≠ 1
   by_cases h : p.2.v = 0
   ·rw [if_neg (fun q => q h), h]; decide
   ·rw [if_pos h]; show ¬ (2 : Nat) = 1; decide
theorem za1 (lo : Bool) (m : Mod) (seen : Bool) (hm : seen = false → m.locals = []) (bs : List UInt8) (hv : (zs lo m seen ⟨bs, 0⟩).2.2.v = 0) :
 ∃ r, YN (nM m) bs = .ok (nM (zs lo m seen ⟨bs, 0⟩).1) r ∧ ((zs lo m seen ⟨bs, 0⟩).2.1 = false → (zs lo m seen ⟨bs, 0⟩).1.locals = []) := by
 unfold zs at hv ⊢
 dsimp only at hv ⊢
 by_cases h0 : (zr ⟨bs, 0⟩).2.v = 0
 ·have hH : ¬ (zr ⟨bs, 0⟩).2.v ≠ 0 := fun h => h h0
  rw [if_neg hH] at hv ⊢
  have g1 := Ze.good bs h0 trivial
  unfold YN
  rw [g1, PR.bind_ok]
  have BK : (id (zr ⟨bs, 0⟩).1 : List UInt8) = (zr ⟨bs, 0⟩).1 := rfl
  rw [BK]
  by_cases eC : (zr ⟨bs, 0⟩).1 = zdC
  ·have kv : ¬ (zr ⟨bs, 0⟩).1 ≠ zdC := fun h => h eC
   rw [if_neg kv] at hv ⊢
   rw [if_pos eC]
   cases seen with
   | true =>
    simp only [if_true] at hv
    rw [zbM lo 4 m 0 (by simp [St.fail, h0])] at hv
    simp [St.fail, h0] at hv
   | false =>
    have e1 : (if false = true then (zr ⟨bs, 0⟩).2.fail 2 else (zr ⟨bs, 0⟩).2) = (zr ⟨bs, 0⟩).2 := rfl
    rw [e1] at hv ⊢
    rw [St.eta h0] at hv ⊢
    have iP : (zw lo 4 m 0 ⟨(zr ⟨bs, 0⟩).2.b, 0⟩).2.v = 0 := Classical.byContradiction fun h => by rw [if_pos h] at hv; cases hv
    refine ⟨[], zbN lo 4 m 0 _ (by omega) (by omega) (fun _ => hm rfl) iP _ (Nat.lt_succ_self _), fun h => by cases h⟩
  ·rw [if_pos eC] at hv ⊢
   rw [if_neg eC]
   exact ⟨_, rfl, fun h => hm h⟩
 ·have hH : (zr ⟨bs, 0⟩).2.v ≠ 0 := h0
  rw [if_pos hH] at hv
  exact absurd hv h0
theorem JV (n : Nat) (hv : n < 18446744073709551616) (lo : Nat) (v : Value) (bs : List UInt8) (w : World) (hO : OwnB lo w v bs) (bj : lo ≤ w.heap.size) (hl : bs.length + 10 ≤ 140737488355328) :
 Calls Tryz.prog 60 #[v, .int .u64 n] w fun e w' => ∃ v1, e = .returned v1 ∧ OwnB lo w' v1 (bs ++ uleb n) ∧ Fr (fun k => some k = v.ownBlock) w w' ∧ (∀ k, v1.ownBlock = some k → v.ownBlock = some k ∨ w.heap.size ≤ k) := by
 have qR := jG n hv
 have qR := qh qR
 have hO := qh hO
 have bj := qh bj
 have hl := qh hl
 go_enter Tryz.func60, Tryz.ntmps60
 go_wp2_with fail
 go_loopw [0, 1] (fun s0 s1 w' => ∃ (x : Nat) (pre : List UInt8), s1 = .int .u64 x ∧ Hq (pre ++ uleb x = uleb n) ∧ Hq (x ≤ n) ∧ Hq (OwnB lo w' s0 (bs ++ pre)) ∧ Hq (Fr (fun k => some k = v.ownBlock) w w') ∧ Hq (∀ k, s0.ownBlock = some k → v.ownBlock = some k ∨ w.heap.size ≤ k)) (fun _ s1 _ => (intOf s1).toNat)
 case atStart => exact ⟨n, [], rfl, rfl, Nat.le_refl _, (by rw [List.append_nil]; exact hO.o), Fr.refl _ _, fun k h => .inl h⟩
 case round =>
  obtain ⟨x, pre, rfl, hp, hx, ah, hb, hk⟩ := hrel
  have Dv : x < 18446744073709551616 := Nat.lt_of_le_of_lt hx.o hv
  have rt : Hq (lo ≤ wr.heap.size) := nlQ bj.o hb.o.size
  have As : Hq ((bs ++ pre).length + 1 ≤ 140737488355328) := by
   have h1 := congrArg List.length hp.o
   rw [laQ] at h1
   have h2 : 0 < (uleb x).length := by rw [uleb]; split <;> simp
   have h3 := qR.o
   have h4 := hl.o
   show _ ≤ _
   rw [laQ]
   omega
  by_cases hc : x < 128
  ·have cw : decide (128 ≤ (x : Int)) = false := by rw [decide_eq_false_iff_not]; omega
   have iK : Hq ((x : Int) = ((UInt8.ofNat x).toNat : Int)) := by show _ = _; rw [UInt8.toNat_ofNat']; omega
   go_wp2_with (at_builtin; refine Hq.o ?_)
   refine appB lo rfl (.tmp 15) (.tmp 18) rfl _ (bs ++ pre) (UInt8.ofNat x) _ iK.o rfl rfl ah.o rt.o As.o ?_
   intro v1 w1 h1 h2 h3
   have H := qh (anQ h1 (anQ h2 h3))
   clear h1 h2 h3
   go_wp2
   go_ret
   obtain ⟨h1, h2, h3⟩ := H.o
   exact ⟨_, rfl, by rw [← hp.o, ZL hc, ← List.append_assoc]; exact h1, zhP hb.o h2 hk.o, zfr hb.o hk.o h3⟩
  ·have cw : decide (128 ≤ (x : Int)) = true := by rw [decide_eq_true_eq]; omega
   have e2 : bits .or .u8 ((x : Int) % 256) 128 = (x : Int) % 128 + 128 := by rw [zcv _ (by omega) (by omega)]; omega
   go_wp2_with (at_builtin; refine Hq.o ?_)
   refine appB lo rfl (.tmp 7) (.tmp 11) rfl _ (bs ++ pre) (UInt8.ofNat (x % 128 + 128)) _ (zfs x) rfl rfl ah.o rt.o As.o ?_
   intro v1 w1 h1 h2 h3
   have H := qh (anQ h1 (anQ h2 h3))
   clear h1 h2 h3
   go_wp2
   go_roundw
   case rel =>
    obtain ⟨h1, h2, h3⟩ := H.o
    refine ⟨x / 128, pre ++ [UInt8.ofNat (x % 128 + 128)], by go_num, ?_, ?_, ?_, zhP hb.o h2 hk.o, zfr hb.o hk.o h3⟩
    ·show _ = _
     rw [← hp.o, zbV (n := x) (by omega), List.append_assoc, List.singleton_append]
    ·have := hx.o
     show _ ≤ _
     omega
    ·rw [← List.append_assoc]; exact h1
   case measure => simp [intOf]; omega
def zeW (w : World) (g : Nat) : Nat → Prop := fun k => k = g ∨ ∃ v, w.cell? ⟨g, 0, none⟩ = some v ∧ v.ownBlock = some k
structure Hold where
 is : Nat → Nat → List UInt8 → World → Prop
 foot : World → Nat → Nat → Prop
 lt : ∀ {lo g bs w}, is lo g bs w → ∀ k, foot w g k → lo ≤ k ∧ k < w.heap.size
 frame : ∀ {lo g bs w w' S}, is lo g bs w → Fr S w w' → (∀ k, foot w g k → ¬ S k) → is lo g bs w' ∧ ∀ k, foot w' g k ↔ foot w g k
structure Wrote (S : Hold) (lo g : Nat) (w : World) (bs : List UInt8) (w' : World) : Prop where
 is : S.is lo g bs w'
 fr : Fr (S.foot w g) w w'
 foot : ∀ k, S.foot w' g k → S.foot w g k ∨ w.heap.size ≤ k
variable {S : Hold} {lo g : Nat} {w w1 w2 : World} {fg : List UInt8}
theorem Wrote.trans (h : Wrote S lo g w bs w1) (k : Wrote S lo g w1 fg w2) : Wrote S lo g w fg w2 :=
 ⟨k.is, h.fr.trans k.fr (fun _ _ h => h) (fun i hi hs => by
  rcases h.foot i hs with h' | h'
  ·exact h'
  ·omega), fun i hi => by
  rcases k.foot i hi with h' | h'
  ·exact h.foot i h'
  ·have := h.fr.size
   exact .inr (by omega)⟩
theorem Wrote.refl (h : S.is lo g bs w) : Wrote S lo g w bs w := ⟨h, Fr.refl _ _, fun _ h => .inl h⟩
theorem Wrote.after (h : S.is lo g bs w) (hx : Ext w w1) (k : Wrote S lo g w1 fg w2) : Wrote S lo g w fg w2 :=
 Wrote.trans ⟨(S.frame h hx (fun _ _ h => h)).1, hx.to, fun i hi => .inl (((S.frame h hx (fun _ _ h => h)).2 i).1 hi)⟩ k
theorem Wrote.ext (h : Wrote S lo g w bs w1) (hx : Ext w1 w2) : Wrote S lo g w bs w2 :=
 h.trans ⟨(S.frame h.is hx (fun _ _ h => h)).1, hx.to, fun i hi => .inl (((S.frame h.is hx (fun _ _ h => h)).2 i).1 hi)⟩
variable {w' : World}
theorem Wrote.below {wg : List UInt8} (h : S.is lo g wg w) (hw : Wrote S lo g w bs w') : Fr (fun k => lo ≤ k) w w' := hw.fr.mono fun k _ hk => (S.lt h k hk).1
def IsB (T : TypeId) (lo g : Nat) (bs : List UInt8) (w : World) : Prop := lo ≤ g ∧ ∃ v, Blk w g #[v] T ∧ OwnB lo w v bs ∧ v.ownBlock ≠ some g
variable {T : TypeId}
theorem IsB.lt (h : IsB T lo g bs w) : ∀ k, zeW w g k → lo ≤ k ∧ k < w.heap.size := by
 obtain ⟨hg, v, hb, ho, ag⟩ := h
 rintro k (rfl | ⟨v', hc, hk⟩)
 ·exact ⟨hg, hb.lt⟩
 ·rw [hb.cell 0] at hc
  simp only [List.getElem?_toArray, List.getElem?_cons_zero, Option.some.injEq] at hc
  subst hc
  exact ho.lt k hk
theorem IsB.frame {S : Nat → Prop} (h : IsB T lo g bs w) (hf : Fr S w w') (hs : ∀ k, zeW w g k → ¬ S k) : IsB T lo g bs w' ∧ ∀ k, zeW w' g k ↔ zeW w g k := by
 have aj := h.lt
 obtain ⟨hg, v, hb, ho, ag⟩ := h
 have dr : w.cell? ⟨g, 0, none⟩ = some v := hb.cell 0
 have Av := hb.fr hf (hs g (.inl rfl))
 have cw : w'.cell? ⟨g, 0, none⟩ = some v := Av.cell 0
 refine ⟨⟨hg, v, Av, ?_, ag⟩, fun k => ?_⟩
 ·exact Own.only Lay.flat_u8 ho hf (fun k hk => hs k (.inr ⟨v, dr, hk⟩))
 ·unfold zeW
  rw [dr, cw]
def zgu (T : TypeId) : Hold := ⟨IsB T, zeW, IsB.lt, IsB.frame⟩
theorem ziM (T : TypeId) (w : World) : IsB T w.heap.size w.heap.size [] (w.alloc (.cells #[.slice none 0 0] T)) :=
 ⟨Nat.le_refl _, .slice none 0 0, zl w _ _, J3 _ _ _ _, by simp [Value.ownBlock]⟩
theorem zgv (h : Wrote (zgu T) w.heap.size w.heap.size (w.alloc (.cells #[.slice none 0 0] T)) bs w1) :
 ∃ v, w1.cell? ⟨w.heap.size, 0, none⟩ = some v ∧ OwnB w.heap.size w1 v bs ∧ Ext w w1 := by
 obtain ⟨⟨hg, v, hb, ho, ag⟩, hf, -⟩ := h
 refine ⟨v, hb.cell 0, ho, Ext.fr (za w _) hf |>.mono fun k hk hs => ?_⟩
 rcases hs with rfl | ⟨v', hc, mY⟩
 ·omega
 ·rw [(zl w _ _).cell 0] at hc
  simp at hc
  subst hc
  simp [Value.ownBlock] at mY
theorem zhV (T : TypeId) (w : World) (n : Nat) (hn : w.heap.size = n) : (zgu T).is n n [] (w.alloc (.cells #[.slice none 0 0] T)) := by subst hn; exact ziM T w
theorem zen (hn : w.heap.size = n) (h : Wrote (zgu T) n n (w.alloc (.cells #[.slice none 0 0] T)) bs w1) :
 ∃ v, w1.cell? ⟨n, 0, none⟩ = some v ∧ OwnB n w1 v bs ∧ Ext w w1 := by subst hn; exact zgv h
theorem zeo {v v1 : Value} (hg : lo ≤ g) (hb : Blk w g #[v] T) (ag : v.ownBlock ≠ some g)
 (h1 : OwnB lo w1 v1 fg) (h2 : Fr (fun k => some k = v.ownBlock) w w1) (h3 : ∀ k, v1.ownBlock = some k → v.ownBlock = some k ∨ w.heap.size ≤ k) : Wrote (zgu T) lo g w fg (w1.setCell ⟨g, 0, none⟩ v1) := by
 have de := hb.fr h2 (fun e => ag e.symm)
 have sM : v1.ownBlock ≠ some g := fun e => by
  rcases h3 g e with h | h
  ·exact ag h
  ·have := hb.lt
   omega
 have dr : w.cell? ⟨g, 0, none⟩ = some v := hb.cell 0
 have ct : Blk (w1.setCell ⟨g, 0, none⟩ v1) g #[v1] _ := de.set 0 _
 refine ⟨⟨hg, _, ct, Own.only Lay.flat_u8 h1 (zf w1 _ _) (fun k hk e => sM (by rw [hk, e])), sM⟩, ?_, ?_⟩
 ·exact h2.trans (zf w1 _ _) (fun k _ e => .inr ⟨v, dr, e.symm⟩) (fun k _ e => .inl e)
 ·rintro k (rfl | ⟨v', hc, hk⟩)
  ·exact .inl (.inl rfl)
  ·rw [ct.cell 0] at hc
   simp at hc
   subst hc
   rcases h3 k hk with h | h
   ·exact .inl (.inr ⟨v, dr, h⟩)
   ·exact .inr h
def Away (S : Hold) (g : Nat) (w : World) (A : Nat → Prop) : Prop := ∀ k, A k → k < w.heap.size ∧ ¬ S.foot w g k
theorem Away.step {A : Nat → Prop} (h : Away S g w A) (hW : Wrote S lo g w bs w') : Away S g w' A := fun k hk =>
 ⟨nqQ (h k hk).1 hW.fr.size, fun hf => by
  rcases hW.foot k hf with h' | h'
  ·exact (h k hk).2 h'
  ·have := (h k hk).1; omega⟩
abbrev ym : Hold := zgu 86
def Jr (n : Int) : List UInt8 := uleb (n % 18446744073709551616).toNat
theorem zc4 (n : Int) : (Jr n).length ≤ 10 := jG _ (by omega)
def Zh (l : List Int) : List UInt8 := uleb l.length ++ l.flatMap Jr
theorem zep (l : List Int) : (l.flatMap Jr).length ≤ 10 * l.length := by
 induction l with
 | nil => simp
 | cons a l ih =>
  have := zc4 a
  simp only [List.flatMap_cons, laQ, List.length_cons]
  omega
abbrev zG : Nat := 70368744177664
theorem zh (lo g n : Nat) (hn : n < 18446744073709551616) (bs : List UInt8) (w : World) (hS : ym.is lo g bs w) (bj : lo ≤ w.heap.size) (hl : bs.length + 10 ≤ zG) :
 Calls Tryz.prog 22 #[.pointer (some ⟨g, 0, none⟩), .int .u64 n] w fun e w' => e = .returned (.tuple #[]) ∧ Wrote ym lo g w (bs ++ uleb n) w' := by
 obtain ⟨hg, v, hb, ho, ag⟩ := hS
 have hc := hb.cell 0
 simp only [List.getElem?_toArray, List.getElem?_cons_zero] at hc
 have H := qh (anQ hg (anQ hb (anQ ho (anQ ag (anQ bj (anQ hn hl))))))
 clear hg hb ho ag bj hl hn
 go_enter Tryz.func22, Tryz.ntmps22
 go_wp2_with (go_at_call 60; refine Hq.o ?_)
 obtain ⟨hg, hb, ho, ag, bj, hn, hl⟩ := H.o
 refine (JV n hn lo v bs w ho bj (by simp only [zG] at hl; omega)).mono ?_
 rintro e w1 ⟨v1, rfl, h1, h2, h3⟩
 clear hc
 have de := hb.fr h2 (fun e => ag e.symm)
 have cw := de.cell 0
 have fj := de.frz 0
 simp only [List.getElem?_toArray, List.getElem?_cons_zero] at cw
 obtain ⟨AZ, n1, ti, e1⟩ := h1.shape
 subst e1
 have H1 := qh (anQ h1 (anQ h2 h3))
 clear hg hb ho ag bj hn hl h1 h2 h3 de
 go_wp2
 go_end0
 obtain ⟨hg, hb, ho, ag, bj, hn, hl⟩ := H.o
 obtain ⟨h1, h2, h3⟩ := H1.o
 exact ⟨rfl, zeo hg hb ag h1 h2 h3⟩
theorem JW (lo g : Nat) (l : List Int) (v : Value) (A : Nat → Prop) (bs : List UInt8) (w : World) (hS : ym.is lo g bs w) (hR : Lay.int.slice.rd A w [v] l) (hA : ∀ k, A k → k < lo) (bj : lo ≤ w.heap.size) (hl : bs.length + 10 * l.length + 20 ≤ zG) :
 Calls Tryz.prog 61 #[.pointer (some ⟨g, 0, none⟩), v] w fun e w' => e = .returned (.tuple #[]) ∧ Wrote ym lo g w (bs ++ Zh l) w' := by
 obtain ⟨aa, cap, rfl, dw, cn⟩ := Lay.slice_form hR
 have lz : l.length < 18446744073709551616 := by simp only [maxLen] at cn; omega
 have e1 : IntKind.u64.wrap (l.length : Int) = (l.length : Int) := by rw [IntKind.wrap_u64]; omega
 have aT : (l.length : Int) ≤ 9223372036854775807 := by simp only [maxLen] at cn; omega
 have H := qh (anQ hS (anQ hR (anQ hA (anQ bj (anQ hl lz)))))
 clear hS hR hA bj hl lz dw cn
 go_enter Tryz.func61, Tryz.ntmps61
 go_wp2_with (go_at_call 22; refine Hq.o ?_)
 obtain ⟨hS, hR, hA, bj, hl, lz⟩ := H.o
 refine (zh lo g l.length lz bs w hS bj (by simp only [zG] at *; omega)).mono ?_
 rintro e w1 ⟨rfl, iQ⟩
 have iQ := qh iQ
 clear hS hR hA bj hl lz
 go_wp2_with fail
 go_loopw [13] (fun ib w' => ∃ (i : Nat), i ≤ l.length ∧ ib = .int .i64 i ∧ Hq (Wrote ym lo g w (bs ++ uleb l.length ++ (l.take i).flatMap Jr) w')) (fun ib _ => l.length - (intOf ib).toNat)
 case atStart => exact ⟨0, nzQ _, rfl, (by rw [List.take_zero, List.flatMap_nil, List.append_nil]; exact iQ.o)⟩
 case round =>
  obtain ⟨i, hi, rfl, hW⟩ := hrel
  by_cases aj : i < l.length
  ·obtain ⟨hS, hR, hA, bj, hl, lz⟩ := H.o
   have dA := Wrote.below hS hW.o
   have kH := Lay.fr hR dA (fun k hk => ⟨nqQ (hA k hk) bj, by have := hA k hk; omega⟩)
   obtain ⟨b, o, rfl, li, rU, eJ, eQ⟩ := zd4 kH i aj
   have bU : Hq (l.take (i + 1) = l.take i ++ [l[i]]) := by rw [tsQ aj]; rfl
   generalize l[i] = x at *
   have AJ : Hq (Jr x = uleb (x % 18446744073709551616).toNat) := rfl
   obtain ⟨m, hm⟩ : ∃ m : Nat, (x % 18446744073709551616).toNat = m := ⟨_, rfl⟩
   rw [hm] at AJ
   have e2 : IntKind.u64.wrap x = (m : Int) := by rw [IntKind.wrap_u64]; omega
   have Bm : Hq (m < 18446744073709551616) := by show _ < _; omega
   have fm := qh (zep (l.take i))
   clear hS hR hA bj hl lz dA kH li eJ eQ hm
   go_wp2_with (go_at_call 22; refine Hq.o ?_)
   obtain ⟨hS, hR, hA, bj, hl, lz⟩ := H.o
   refine (zh lo g _ Bm.o _ wr hW.o.is (nlQ bj hW.o.fr.size) ?_).mono ?_
   ·have h1 := fm.o
    have h2 := jG l.length lz
    simp only [zG, laQ] at *
    rw [ltQ] at h1
    omega
   rintro e w2 ⟨rfl, lY⟩
   have fi : Hq (Wrote ym lo g w (bs ++ uleb l.length ++ (l.take (i + 1)).flatMap Jr) w2) := by
    show Wrote _ _ _ _ _ _
    rw [bU.o, List.flatMap_append, ← List.append_assoc]
    exact hW.o.trans (by simpa [AJ.o] using lY)
   clear hS hR hA bj hl lz lY
   go_wp2
   go_roundw
   case rel => exact ⟨i + 1, by omega, by go_num, fi⟩
   case measure => simp [intOf]; omega
  ·obtain rfl : i = l.length := by omega
   go_wp2
   go_end0
   refine ⟨rfl, ?_⟩
   have := hW.o
   rw [tlQ, List.append_assoc] at this
   exact this
def Yd (x : List Int × List Int) : List UInt8 := Zh x.1 ++ Zh x.2
theorem Zi (l : List Int) (h : l.length < 18446744073709551616) : (Zh l).length ≤ 10 * l.length + 10 := by
 have h1 := zep l
 have h2 := jG l.length h
 simp only [Zh, laQ]
 omega
theorem zcf (x : List Int × List Int) (v1 v2 : Value) (A : Nat → Prop) (w : World) (h1 : Lay.int.slice.rd A w [v1] x.1) (h2 : Lay.int.slice.rd A w [v2] x.2) (hA : ∀ k, A k → k < w.heap.size) (hl : x.1.length + x.2.length ≤ 4294967296) :
 Calls Tryz.prog 24 #[.agg #[v1, v2]] w fun e w' => e = .returned (.string (zd (Yd x))) ∧ Ext w w' := by
 obtain ⟨a1, c1, rfl, -, -⟩ := Lay.slice_form h1
 obtain ⟨a2, c2, rfl, -, -⟩ := Lay.slice_form h2
 generalize eG : x.1.length = n1 at *
 generalize fy : x.2.length = n2 at *
 have H := qh (anQ h1 (anQ h2 (anQ hA (anQ hl (anQ eG fy)))))
 clear h1 h2 hA hl eG fy
 go_enter Tryz.func24, Tryz.ntmps24
 go_wp2_with (go_at_call 61; refine Hq.o ?_)
 obtain ⟨h1, h2, hA, hl, eG, fy⟩ := H.o
 have df := za w (.cells #[.slice a1 n1 c1, .slice a2 n2 c2] 91)
 have eJ := df.trans (za _ (.cells #[.slice none 0 0] 86))
 have dL := Zi x.1 (by omega)
 refine (JW (w.heap.size + 1) (w.heap.size + 1) x.1 _ A [] _ (zhV _ _ _ (by simp)) (by exact Lay.fr h1 eJ (fun k hk => ⟨hA k hk, fun h => h⟩)) (fun k hk => by have := hA k hk; omega) (by simp) (by simp only [zG, List.length_nil]; omega)).mono ?_
 rintro e w1 ⟨rfl, hW⟩
 rw [List.nil_append] at hW
 obtain ⟨_, -, -, bP⟩ := zen (by simp) hW
 have cz := (zl w _ _).ext bP
 have cw := cz.cell
 have H1 := qh (anQ hW bP)
 clear h1 h2 hA hl eG fy df eJ dL hW cz bP
 go_wp2_with (go_at_call 61; refine Hq.o ?_)
 obtain ⟨h1, h2, hA, hl, eG, fy⟩ := H.o
 obtain ⟨hW, bP⟩ := H1.o
 have eJ := (za w (.cells #[.slice a1 n1 c1, .slice a2 n2 c2] 91)).trans bP
 have dL := Zi x.1 (by omega)
 have gB := Zi x.2 (by omega)
 refine (JW (w.heap.size + 1) (w.heap.size + 1) x.2 _ A _ _ hW.is (by exact Lay.fr h2 eJ (fun k hk => ⟨hA k hk, fun h => h⟩)) (fun k hk => by have := hA k hk; omega) (by have := bP.size; simpa using this) (by simp only [zG]; omega)).mono ?_
 rintro e w2 ⟨rfl, lY⟩
 have fi := hW.trans lY
 obtain ⟨v, hc, ho, sD⟩ := zen (by simp) fi
 have gI := Jt ho.slice (fun _ hk => hk.2) 86 9 5 Tryz.underlying86 Tryz.underlying5 Tryz.underlying9 w2 (Fr.refl _ _)
 obtain ⟨aa, m, c, e1⟩ := ho.shape
 subst e1
 have HX := qh ((za w (.cells #[.slice a1 n1 c1, .slice a2 n2 c2] 91)).trans sD)
 clear h1 h2 hA hl eG fy eJ dL gB hW lY fi ho sD bP cw
 go_wp2
 go_ret
 exact ⟨rfl, HX.o⟩
end Go.Proofs.YtejgninpjhcgnaaGreatDoor
