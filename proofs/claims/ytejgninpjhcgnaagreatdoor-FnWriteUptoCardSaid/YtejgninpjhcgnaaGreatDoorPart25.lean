/- Texts of this proof, one behind the other. -/
import Derived.Test.YtejgninpjhcgnaaGreatDoorPart24
import Derived.Test.YtejgninpjhcgnaaGreatDoorPart15
import Derived.Test.YtejgninpjhcgnaaGreatDoorPart17
import Derived.Deep.Slices
import Derived.Test.YtejgninpjhcgnaaGreatDoorRows
namespace Go.Proofs.YtejgninpjhcgnaaGreatDoor
open Go.RowKit
open Go.ChangeShapes Go.WideShapes Go.ChangeAt Go.RowKit Go.Deep
set_option linter.unusedSimpArgs false
set_option linter.unusedVariables false
set_option maxRecDepth 100000
set_option maxHeartbeats 8000000
variable {id : Nat}
theorem zhL (h : id < 256) (r : List UInt8) : zn ⟨UInt8.ofNat id :: r, 0⟩ = (id, ⟨r, 0⟩) := by
 show ((UInt8.ofNat id).toNat, _) = _
 rw [UInt8.toNat_ofNat', Nat.mod_eq_of_lt (by omega)]
theorem zgb (f : Nat) (m : Mod) (last : Nat) : zx true f m last ⟨[], 0⟩ = (m, ⟨[], 0⟩) := by
 cases f with
 | zero => rfl
 | succ f => rw [zx, if_neg (fun q => q.2 rfl)]
variable {f : Nat} {m m' : Mod} {last : Nat} {body R : List UInt8}
theorem zcr (lQ : last ≤ id) (h2 : id ≤ 2) (hs : (zq body).length < 4294967296) (hp : JN true id m ⟨body, 0⟩ = (m', ⟨[], 0⟩)) :
 zx true (f + 1) m last ⟨wSec (UInt8.ofNat id) body ++ R, 0⟩ = zx true f m' (id + 1) ⟨R, 0⟩ := by
 have ht := zeE hs R
 dsimp only at ht
 have eb : zn ⟨wSec (UInt8.ofNat id) body ++ R, 0⟩ = (id, ⟨zq body ++ R, 0⟩) := zhL (by omega) _
 rw [zx, if_pos ⟨rfl, fun q => by cases q⟩, eb]
 dsimp only
 rw [ht]
 dsimp only
 rw [if_neg (by omega), hp]
 dsimp only
 rw [if_neg (fun q => q.elim (fun q => q rfl) (fun q => q rfl))]
variable {k : Nat} {q : Mod} {α : Type} {g : α → List UInt8} {l : List α}
theorem zd8 (lQ : last ≤ id) (h2 : id ≤ 2) (hs : l.length ≠ 0 → (zq (wVec g l)).length < 4294967296) (hp : l.length ≠ 0 → JN true id m ⟨wVec g l, 0⟩ = (m', ⟨[], 0⟩)) (h0 : l.length = 0 → m' = m)
 (hf : k + 1 ≤ f) (hn : ∀ f last, k ≤ f → last ≤ id + 1 → zx true f m' last ⟨R, 0⟩ = (q, ⟨[], 0⟩)) : zx true f m last ⟨zD (UInt8.ofNat id) g l ++ R, 0⟩ = (q, ⟨[], 0⟩) := by
 unfold zD
 by_cases hl : l.length = 0
 ·rw [if_pos hl, List.nil_append, ← h0 hl]
  exact hn f last (by omega) (by omega)
 ·rw [if_neg hl]
  obtain ⟨f', rfl⟩ : ∃ f', f = f' + 1 := ⟨f - 1, by omega⟩
  rw [zcr lQ h2 (hs hl) (hp hl)]
  exact hn f' (id + 1) (by omega) (Nat.le_refl _)
variable {rd : St → α × St}
theorem Rd.all {bs : List UInt8} {x : α} (h : Rd rd bs x) : rd ⟨bs, 0⟩ = (x, ⟨[], 0⟩) := by
 have := h []
 rwa [List.append_nil] at this
theorem Z7 {id : UInt8} (hl : l.length ≠ 0) : (zD id g l).length = (zq (wVec g l)).length + 1 := by
 unfold zD
 rw [if_neg hl]
 rfl
theorem JM (b : List UInt8) : b.length ≤ (zq b).length := by
 unfold zq
 rw [laQ]
 omega
variable {M : Mod} {gs : List (UInt32 × List Nam)}
theorem zhM {s : List UInt8} {l : List Nam} (h0 : M.named = []) (h1 : M.funcs = []) (h2 : M.locals = []) (ht : z9 s = true) (hl : ZP 0 l) (hn : (gs.map (·.1)).Nodup) (hg : ∀ g ∈ gs, ZP g.1 g.2)
 (hs : (yL s ++ (zD 1 wNam l ++ zD 2 wGrp gs)).length < 4294967296) : zx true 4 M 0 ⟨yL s ++ (zD 1 wNam l ++ zD 2 wGrp gs), 0⟩ = ({ M with named := s, funcs := l, locals := gs.flatMap (·.2) }, ⟨[], 0⟩) := by
 obtain ⟨v, hst, st, a1, a2, a3, a4, a5, a6, a7, a8, a9, a10, kZ, nm, fu, lo⟩ := M
 obtain rfl : nm = [] := h0
 obtain rfl : fu = [] := h1
 obtain rfl : lo = [] := h2
 simp only [laQ] at hs
 have s2 : ∀ (nm : List UInt8) (fu : List Nam) (f last : Nat), 1 ≤ f → last ≤ 2 → zx true f ⟨v, hst, st, a1, a2, a3, a4, a5, a6, a7, a8, a9, a10, kZ, nm, fu, []⟩ last ⟨zD 2 wGrp gs, 0⟩ = (⟨v, hst, st, a1, a2, a3, a4, a5, a6, a7, a8, a9, a10, kZ, nm, fu, gs.flatMap (·.2)⟩, ⟨[], 0⟩) := fun nm fu f last hf vi => by
  rw [← List.append_nil (zD 2 wGrp gs)]
  refine zd8 (k := 0) (id := 2) (m' := ⟨v, hst, st, a1, a2, a3, a4, a5, a6, a7, a8, a9, a10, kZ, nm, fu, gs.flatMap (·.2)⟩) vi (Nat.le_refl _) (fun q => ?_) (fun q => ?_) (fun q => ?_) hf (fun f last _ _ => zgb f _ last)
  ·have := Z7 (id := 2) (g := wGrp) q
   omega
  ·have := Z7 (id := 2) (g := wGrp) q
   have := JM (wVec wGrp gs)
   rw [JN, if_neg (by decide), if_neg (by decide), (zjJ hn hg (by omega)).all]
  ·rw [List.eq_nil_of_length_eq_zero q]
   rfl
 have s1 : ∀ (nm : List UInt8) (f last : Nat), 2 ≤ f → last ≤ 1 → zx true f ⟨v, hst, st, a1, a2, a3, a4, a5, a6, a7, a8, a9, a10, kZ, nm, [], []⟩ last ⟨zD 1 wNam l ++ zD 2 wGrp gs, 0⟩ = (⟨v, hst, st, a1, a2, a3, a4, a5, a6, a7, a8, a9, a10, kZ, nm, l, gs.flatMap (·.2)⟩, ⟨[], 0⟩) := fun nm f last hf vi => by
  refine zd8 (k := 1) (id := 1) (m' := ⟨v, hst, st, a1, a2, a3, a4, a5, a6, a7, a8, a9, a10, kZ, nm, l, []⟩) vi (by decide) (fun q => ?_) (fun q => ?_) (fun q => ?_) hf (fun f last q1 q2 => s2 nm l f last q1 q2)
  ·have := Z7 (id := 1) (g := wNam) q
   omega
  ·have := Z7 (id := 1) (g := wNam) q
   have := JM (wVec wNam l)
   rw [JN, if_neg (by decide), if_pos rfl, (zfo hl (by omega)).all]
  ·rw [List.eq_nil_of_length_eq_zero q]
 unfold yL at hs ⊢
 by_cases hz : s.length = 0
 ·rw [if_pos hz]
  obtain rfl := List.eq_nil_of_length_eq_zero hz
  exact s1 [] 4 0 (by decide) (by decide)
 ·rw [if_neg hz] at hs ⊢
  have hw := JM (zq s)
  have e : (wSec 0 (zq s)).length = (zq (zq s)).length + 1 := rfl
  rw [show (0 : UInt8) = UInt8.ofNat 0 from rfl, zcr (Nat.le_refl _) (by decide) (by omega) (m' := ⟨v, hst, st, a1, a2, a3, a4, a5, a6, a7, a8, a9, a10, kZ, s, [], []⟩) (by rw [JN, if_pos rfl, (Yv ht (by omega)).all])]
  exact s1 s 3 1 (by decide) (Nat.le_refl _)
theorem zjK : z9 ji = true := by decide +kernel
def modQ (id : Nat) (M : Mod) (last : Nat) (names : Bool) (body : List UInt8) : ModSt :=
 if id = 0 then
  let c := zz true M names ⟨body, 0⟩
  ⟨c.1, last, c.2.1, c.2.2⟩
 else if 11 < id ∨ id ≤ last ∨ names then ⟨M, last, names, St.fail ⟨body, 0⟩ 2⟩
 else
  let c := zO id M ⟨body, 0⟩
  ⟨c.1, id, names, if c.2.v = 0 ∧ c.2.b ≠ [] then c.2.fail 2 else c.2⟩
theorem zjL (lQ : id < 256) (hb : 1 ≤ body.length) (hs : (zq body).length < 4294967296) (M : Mod) (last : Nat) (names : Bool) (hv : (modQ id M last names body).s.v = 0) :
 YJ true ⟨M, last, names, ⟨wSec (UInt8.ofNat id) body ++ R, 0⟩⟩ = (⟨(modQ id M last names body).m, (modQ id M last names body).last, (modQ id M last names body).names, ⟨R, 0⟩⟩, true) := by
 have hw := JM body
 have hp := Zt body
 have eb : zn ⟨wSec (UInt8.ofNat id) body ++ R, 0⟩ = (id, ⟨zq body ++ R, 0⟩) := zhL lQ _
 have e1 : zd ⟨zq body ++ R, 0⟩ = (body.length, ⟨body ++ R, 0⟩) := by
  unfold zq
  rw [List.append_assoc, jI (by omega)]
 have aO : ¬ zq body ++ R = [] := fun q => by
  have := congrArg List.length q
  rw [laQ] at this
  simp only [List.length_nil] at this
  omega
 have iO : ¬ body ++ R = [] := fun q => by
  have := congrArg List.length q
  rw [laQ] at this
  simp only [List.length_nil] at this
  omega
 have e2 : ∀ s : St, s.v = 0 → Zg s = s := fun s h => by unfold Zg; rw [if_neg (by omega)]
 have ao : ¬ (body ++ R).length < body.length := by rw [laQ]; omega
 generalize hQ : modQ id M last names body = q at *
 unfold YJ
 simp only [eb, if_neg aO, e1, e2 ⟨body ++ R, 0⟩ rfl, if_neg (show ¬ (True ∧ (body.length = 0 ∨ body ++ R = [] ∨ id = 0 ∧ (body ++ R).length < body.length)) from fun h => by rcases h.2 with h | h | h; omega; exact iO h; exact ao h.2), uW body R 0]
 rw [if_neg (fun h => h rfl)]
 have Eo : (if id = 0 then (⟨(zz true M names ⟨body, 0⟩).1, last, (zz true M names ⟨body, 0⟩).2.1, (zz true M names ⟨body, 0⟩).2.2⟩ : ModSt) else if 11 < id ∨ id ≤ last ∨ names = true then ⟨M, last, names, St.fail ⟨body, 0⟩ 2⟩ else ⟨(zO id M ⟨body, 0⟩).1, id, names, if (zO id M ⟨body, 0⟩).2.v = 0 ∧ (zO id M ⟨body, 0⟩).2.b ≠ [] then (zO id M ⟨body, 0⟩).2.fail 2 else (zO id M ⟨body, 0⟩).2⟩) = q := hQ
 rw [Eo, e2 q.s hv, if_neg (by omega)]
def Run (p : ModSt) (q : Mod) : Prop := ∀ f, p.s.b.length ≤ f → (Yg true f p).m = q ∧ (Yg true f p).s = ⟨[], 0⟩
variable {names : Bool}
theorem ziF : Run ⟨M, last, names, ⟨[], 0⟩⟩ M := fun f _ => by
 cases f with
 | zero => exact ⟨rfl, rfl⟩
 | succ f => rw [Yg, if_neg (fun h => h.2 rfl)]; exact ⟨rfl, rfl⟩
variable {M' : Mod}
theorem zdd (lQ : id < 256) (hb : 1 ≤ body.length) (hs : (zq body).length < 4294967296) {last' : Nat} {names' : Bool} {s : St} (hq : modQ id M last names body = ⟨M', last', names', s⟩) (hv : s.v = 0) (h : Run ⟨M', last', names', ⟨R, 0⟩⟩ q) :
 Run ⟨M, last, names, ⟨wSec (UInt8.ofNat id) body ++ R, 0⟩⟩ q := fun f hf => by
 have h1 := zjL lQ (R := R) hb hs M last names (by rw [hq]; exact hv)
 rw [hq] at h1
 have hl : (wSec (UInt8.ofNat id) body ++ R).length = (zq body).length + 1 + R.length := by rw [laQ]; rfl
 have BW : (wSec (UInt8.ofNat id) body ++ R).length ≤ f := hf
 obtain ⟨f', rfl⟩ : ∃ f', f = f' + 1 := ⟨f - 1, by omega⟩
 rw [Yg, if_pos ⟨rfl, fun e => by have := congrArg List.length e; rw [hl] at this; simp at this⟩, h1]
 rw [if_pos rfl]
 exact h f' (by show R.length ≤ f'; omega)
theorem j9 {f : α → List UInt8} (lQ : last < id) (pL : id ≤ 11) (hr : ∀ x ∈ l, RdE rd f x) (hs : (zD (UInt8.ofNat id) f l).length < 4294967296)
 (qk : ∀ s, zR rd s = (l, ⟨[], 0⟩) → zO id M s = (M', ⟨[], 0⟩)) (h0 : l = [] → M' = M) (h : ∀ last', last' ≤ id → Run ⟨M', last', false, ⟨R, 0⟩⟩ q) : Run ⟨M, last, false, ⟨zD (UInt8.ofNat id) f l ++ R, 0⟩⟩ q := by
 by_cases hl : l.length = 0
 ·have e : zD (UInt8.ofNat id) f l = [] := by unfold zD; rw [if_pos hl]
  rw [e, List.nil_append, ← h0 (List.eq_nil_of_length_eq_zero hl)]
  exact h last (by omega)
 ·have n8 := Z7 (id := UInt8.ofNat id) (g := f) hl
  have e : zD (UInt8.ofNat id) f l = wSec (UInt8.ofNat id) (wVec f l) := by unfold zD; rw [if_neg hl]
  have hw := JM (wVec f l)
  have hv := (zfi (l := l) hr (by omega)).all
  have hp : 1 ≤ (wVec f l).length := by
   unfold wVec
   have := zU l.length
   rw [laQ]; omega
  rw [e]
  refine zdd (by omega) hp (by omega) (M' := M') (last' := id) (names' := false) (s := ⟨[], 0⟩) ?_ rfl (h id (Nat.le_refl _))
  unfold modQ
  rw [if_neg (by omega), if_neg (by rintro (h | h | h); omega; omega; cases h), qk _ hv]
  dsimp only
  rw [if_neg (fun q => q.2 rfl)]
variable {v : UInt32} {hst : Bool} {st : UInt32} {a1 : List FT} {a2 : List Imp} {a3 : List UInt32} {a4 a5 : List Lim} {a6 : List Elem} {a7 : List Glob} {a8 : List Expo} {a9 : List (List UInt8)} {a10 : List Dat}
theorem zhN {nm : List UInt8} {fu lo : List Nam} :
 ∀ (cs bz : List Cus), (∀ c ∈ cs, qK c = true) → (cs.flatMap wCus).length < 4294967296 →
 Run ⟨⟨v, hst, st, a1, a2, a3, a4, a5, a6, a7, a8, a9, a10, bz, nm, fu, lo⟩, last, names, ⟨cs.flatMap wCus, 0⟩⟩ ⟨v, hst, st, a1, a2, a3, a4, a5, a6, a7, a8, a9, a10, bz ++ cs, nm, fu, lo⟩
 | [], bz, _, _ => by rw [List.append_nil]; exact ziF
 | c :: cs, bz, h, hs => by
  rw [List.flatMap_cons] at hs ⊢
  rw [laQ] at hs
  have hc := h c (List.mem_cons_self ..)
  unfold qK at hc
  simp only [Bool.and_eq_true, decide_eq_true_eq] at hc
  have e : (wCus c).length = (zq (zq c.name ++ c.data)).length + 1 := rfl
  have hw := JM (zq c.name ++ c.data)
  rw [laQ] at hw
  have hp := Zt c.name
  have hn := (Yv hc.1 (by omega)) c.data
  have ih := zhN (nm := nm) (fu := fu) (lo := lo) cs (bz ++ [c]) (fun x hx => h x (List.mem_cons_of_mem _ hx)) (by omega)
  rw [List.append_assoc] at ih
  refine zdd (id := 0) (by decide) (by rw [laQ]; omega) (by omega) (s := ⟨c.data, 0⟩) ?_ rfl ih
  unfold modQ
  rw [if_pos rfl]
  unfold zz
  simp only [hn]
  rw [if_neg (fun q => q rfl), if_pos hc.2]
theorem zhO {cu : List Cus} 
 (ht : z9 m.named = true) (hl : ZP 0 m.funcs) (hG : jU m.locals gs) (hg : ∀ g ∈ gs, ZP g.1 g.2) (hs : (Yl m gs).length < 4294967296)
 (h : ∀ names, Run ⟨⟨v, hst, st, a1, a2, a3, a4, a5, a6, a7, a8, a9, a10, cu, m.named, m.funcs, gs.flatMap (·.2)⟩, last, names, ⟨R, 0⟩⟩ q) :
 Run ⟨⟨v, hst, st, a1, a2, a3, a4, a5, a6, a7, a8, a9, a10, cu, [], [], []⟩, last, false, ⟨Yl m gs ++ R, 0⟩⟩ q := by
 by_cases hz : m.named.length = 0 ∧ m.funcs.length = 0 ∧ m.locals.length = 0
 ·have e : Yl m gs = [] := by unfold Yl; rw [if_pos hz]
  have e3 : gs = [] := by
   cases gs with
   | nil => rfl
   | cons g gs =>
    obtain ⟨n, hn, -⟩ := (hG.2.1 g.1).1 (by simp)
    rw [List.eq_nil_of_length_eq_zero hz.2.2] at hn
    cases hn
  have h1 := h false
  rw [List.eq_nil_of_length_eq_zero hz.1, List.eq_nil_of_length_eq_zero hz.2.1, e3] at h1
  rw [e, List.nil_append]
  exact h1
 ·have e : Yl m gs = wSec 0 (zq ji ++ (yL m.named ++ (zD 1 wNam m.funcs ++ zD 2 wGrp gs))) := by unfold Yl; rw [if_neg hz]
  rw [e] at hs ⊢
  have e2 : (wSec 0 (zq ji ++ (yL m.named ++ (zD 1 wNam m.funcs ++ zD 2 wGrp gs)))).length = (zq (zq ji ++ (yL m.named ++ (zD 1 wNam m.funcs ++ zD 2 wGrp gs)))).length + 1 := rfl
  have hw := JM (zq ji ++ (yL m.named ++ (zD 1 wNam m.funcs ++ zD 2 wGrp gs)))
  rw [laQ] at hw
  have hp := Zt ji
  have hn := (Yv zjK (by omega)) (yL m.named ++ (zD 1 wNam m.funcs ++ zD 2 wGrp gs))
  have ha := zhM (M := ⟨v, hst, st, a1, a2, a3, a4, a5, a6, a7, a8, a9, a10, cu, [], [], []⟩) rfl rfl rfl ht hl hG.1 hg (by omega)
  refine zdd (id := 0) (by decide) (by rw [laQ]; omega) (by omega) (s := ⟨[], 0⟩) ?_ rfl (h true)
  unfold modQ
  rw [if_pos rfl]
  unfold zz
  simp only [hn]
  rw [if_neg (fun q => q rfl), if_neg (fun q => q rfl)]
  simp only [Bool.false_eq_true, if_false, ha]
  rw [if_neg (fun q => q rfl)]
theorem zhP (h1 : M.hasStart = false) (h2 : M.start = 0) (hm : m.hasStart = true ∨ m.start = 0) (vi : last < 8) (h : ∀ last', last' ≤ 8 → Run ⟨{ M with hasStart := m.hasStart, start := m.start }, last', false, ⟨R, 0⟩⟩ q) :
 Run ⟨M, last, false, ⟨zdC m ++ R, 0⟩⟩ q := by
 obtain ⟨v, hst, st, a1, a2, a3, a4, a5, a6, a7, a8, a9, a10, kZ, nm, fu, lo⟩ := M
 obtain rfl : hst = false := h1
 obtain rfl : st = 0 := h2
 unfold zdC
 cases hs : m.hasStart with
 | false =>
  have e := hm.resolve_left (by rw [hs]; simp)
  have h3 := h last (by omega)
  rw [hs, e] at h3
  exact h3
 | true =>
  have hu := zI m.start.toNat (by have := m.start.toNat_lt; omega)
  have hp := zU m.start.toNat
  have hw : (zq (uleb m.start.toNat)).length < 4294967296 := by
   unfold zq
   rw [laQ]
   have := zI (uleb m.start.toNat).length (by omega)
   omega
  have h3 := h 8 (Nat.le_refl _)
  rw [hs] at h3
  rw [if_pos rfl]
  refine zdd (id := 8) (by decide) hp hw (s := ⟨[], 0⟩) ?_ rfl h3
  unfold modQ
  rw [if_neg (by decide), if_neg (by rintro (h | h | h); omega; omega; cases h)]
  have qk : zO 8 ⟨v, false, 0, a1, a2, a3, a4, a5, a6, a7, a8, a9, a10, kZ, nm, fu, lo⟩ ⟨uleb m.start.toNat, 0⟩ = (⟨v, true, m.start, a1, a2, a3, a4, a5, a6, a7, a8, a9, a10, kZ, nm, fu, lo⟩, ⟨[], 0⟩) := by
   show ((⟨v, true, (rNum ⟨uleb m.start.toNat, 0⟩).1, a1, a2, a3, a4, a5, a6, a7, a8, a9, a10, kZ, nm, fu, lo⟩ : Mod), (rNum ⟨uleb m.start.toNat, 0⟩).2) = _
   rw [(zbC m.start).all]
  rw [qk]
  dsimp only
  rw [if_neg (fun q => q.2 rfl)]
theorem Ja {p : α → Bool} (h : l.all p = true) : ∀ x ∈ l, p x = true := List.all_eq_true.1 h
theorem zhQ (hL : JU m = true) (hG : jU m.locals gs) (hs : (wMod m gs).length < 4294967296) : yl true (wMod m gs) = ({ m with locals := gs.flatMap (·.2) }, 0) := by
 unfold JU at hL
 simp only [Bool.and_eq_true, Bool.or_eq_true, decide_eq_true_eq] at hL
 obtain ⟨⟨⟨⟨⟨⟨⟨⟨⟨⟨⟨⟨⟨⟨sP, hst⟩, Br⟩, B8⟩, fq⟩, gc⟩, eF⟩, cj⟩, vV⟩, xf⟩, wR⟩, rx⟩, lU⟩, xb⟩, A7⟩ := hL
 have vS : ∀ x ∈ m.tables, ZR x = true := fun x hx => Ja eF x (List.mem_append_left _ hx)
 have iJ : ∀ x ∈ m.memories, ZR x = true := fun x hx => Ja eF x (List.mem_append_right _ hx)
 have D3 : ZP 0 m.funcs := zhH (fun n hn => ⟨of_decide_eq_true (Ja lU n hn), zcq xb n hn⟩) (zcp xb)
 have sn := zhI A7 hG
 have Co : (wMod m gs).take 8 = YK := rfl
 have ao := hs
 unfold wMod zfy at ao
 simp only [laQ] at ao
 have mu : Run ⟨{ Mod.none with version := 1 }, 0, false, ⟨(wMod m gs).drop 8, 0⟩⟩ { m with locals := gs.flatMap (·.2) } := by
  rw [show (wMod m gs).drop 8 = zfy m gs from rfl]
  unfold zfy
  have ai : ∀ la nm, Run ⟨⟨1, m.hasStart, m.start, m.types, m.imports, m.functions, m.tables, m.memories, m.elements, m.globals, m.exports, m.codes, m.datas, [], m.named, m.funcs, gs.flatMap (·.2)⟩, la, nm, ⟨m.customs.flatMap wCus, 0⟩⟩ { m with locals := gs.flatMap (·.2) } := fun la nm => by
   have := zhN (last := la) (names := nm) (v := 1) (hst := m.hasStart) (st := m.start) (a1 := m.types) (a2 := m.imports) (a3 := m.functions) (a4 := m.tables) (a5 := m.memories) (a6 := m.elements) (a7 := m.globals) (a8 := m.exports) (a9 := m.codes) (a10 := m.datas) (nm := m.named) (fu := m.funcs) (lo := gs.flatMap (·.2)) m.customs [] (Ja rx) (by omega)
   rw [List.nil_append] at this
   rw [show ({ m with locals := gs.flatMap (·.2) } : Mod) = ⟨1, m.hasStart, m.start, m.types, m.imports, m.functions, m.tables, m.memories, m.elements, m.globals, m.exports, m.codes, m.datas, m.customs, m.named, m.funcs, gs.flatMap (·.2)⟩ from by rw [← sP]]
   exact this
  refine j9 (rd := rFT) (id := 1) (f := wFT) (l := m.types) (M' := ⟨1, false, 0, m.types, [], [], [], [], [], [], [], [], [], [], [], [], []⟩) (by omega) (by decide) (fun x hx => zkn (Ja fq x hx)) (by show (zD 1 wFT m.types).length < _; omega) (fun s h => by show ((⟨1, false, 0, (zR rFT s).1, [], [], [], [], [], [], [], [], [], [], [], [], []⟩ : Mod), (zR rFT s).2) = _; rw [h]) (fun e => by rw [e]; rfl) fun l1 h1 => ?_
  refine j9 (rd := rImp) (id := 2) (f := wImp) (l := m.imports) (M' := ⟨1, false, 0, m.types, m.imports, [], [], [], [], [], [], [], [], [], [], [], []⟩) (by omega) (by decide) (fun x hx => zjt (Ja gc x hx)) (by show (zD 2 wImp m.imports).length < _; omega) (fun s h => by show ((⟨1, false, 0, m.types, (zR rImp s).1, [], [], [], [], [], [], [], [], [], [], [], []⟩ : Mod), (zR rImp s).2) = _; rw [h]) (fun e => by rw [e]) fun l2 h2 => ?_
  refine j9 (rd := rNum) (id := 3) (f := wNum) (l := m.functions) (M' := ⟨1, false, 0, m.types, m.imports, m.functions, [], [], [], [], [], [], [], [], [], [], []⟩) (by omega) (by decide) (fun x _ => zgV x) (by show (zD 3 wNum m.functions).length < _; omega) (fun s h => by show ((⟨1, false, 0, m.types, m.imports, (zR rNum s).1, [], [], [], [], [], [], [], [], [], [], []⟩ : Mod), (zR rNum s).2) = _; rw [h]) (fun e => by rw [e]) fun l3 h3 => ?_
  refine j9 (rd := z6) (id := 4) (f := wTab) (l := m.tables) (M' := ⟨1, false, 0, m.types, m.imports, m.functions, m.tables, [], [], [], [], [], [], [], [], [], []⟩) (by omega) (by decide) (fun x hx => zjs (vS x hx)) (by show (zD 4 wTab m.tables).length < _; omega) (fun s h => by show ((⟨1, false, 0, m.types, m.imports, m.functions, (zR z6 s).1, [], [], [], [], [], [], [], [], [], []⟩ : Mod), (zR z6 s).2) = _; rw [h]) (fun e => by rw [e]) fun l4 h4 => ?_
  refine j9 (rd := zE) (id := 5) (f := wLim) (l := m.memories) (M' := ⟨1, false, 0, m.types, m.imports, m.functions, m.tables, m.memories, [], [], [], [], [], [], [], [], []⟩) (by omega) (by decide) (fun x hx => zjr (iJ x hx)) (by show (zD 5 wLim m.memories).length < _; omega) (fun s h => by show ((⟨1, false, 0, m.types, m.imports, m.functions, m.tables, (zR zE s).1, [], [], [], [], [], [], [], [], []⟩ : Mod), (zR zE s).2) = _; rw [h]) (fun e => by rw [e]) fun l5 h5 => ?_
  refine j9 (rd := Ju) (id := 6) (f := jC) (l := m.globals) (M' := ⟨1, false, 0, m.types, m.imports, m.functions, m.tables, m.memories, [], m.globals, [], [], [], [], [], [], []⟩) (by omega) (by decide) (fun x hx => zii (Ja cj x hx)) (by show (zD 6 jC m.globals).length < _; omega) (fun s h => by show ((⟨1, false, 0, m.types, m.imports, m.functions, m.tables, m.memories, [], (zR Ju s).1, [], [], [], [], [], [], []⟩ : Mod), (zR Ju s).2) = _; rw [h]) (fun e => by rw [e]) fun l6 h6 => ?_
  refine j9 (rd := Ji) (id := 7) (f := jS) (l := m.exports) (M' := ⟨1, false, 0, m.types, m.imports, m.functions, m.tables, m.memories, [], m.globals, m.exports, [], [], [], [], [], []⟩) (by omega) (by decide) (fun x hx => zij (Ja vV x hx)) (by show (zD 7 jS m.exports).length < _; omega) (fun s h => by show ((⟨1, false, 0, m.types, m.imports, m.functions, m.tables, m.memories, [], m.globals, (zR Ji s).1, [], [], [], [], [], []⟩ : Mod), (zR Ji s).2) = _; rw [h]) (fun e => by rw [e]) fun l7 h7 => ?_
  refine zhP (m := m) rfl rfl hst (by omega) fun l8 h8 => ?_
  refine j9 (rd := Jv) (id := 9) (f := jT) (l := m.elements) (M' := ⟨1, m.hasStart, m.start, m.types, m.imports, m.functions, m.tables, m.memories, m.elements, m.globals, m.exports, [], [], [], [], [], []⟩) (by omega) (by decide) (fun x hx => zik (Ja xf x hx)) (by show (zD 9 jT m.elements).length < _; omega) (fun s h => by show ((⟨1, m.hasStart, m.start, m.types, m.imports, m.functions, m.tables, m.memories, (zR Jv s).1, m.globals, m.exports, [], [], [], [], [], []⟩ : Mod), (zR Jv s).2) = _; rw [h]) (fun e => by rw [e]) fun l9 h9 => ?_
  refine j9 (rd := y7) (id := 10) (f := zq) (l := m.codes) (M' := ⟨1, m.hasStart, m.start, m.types, m.imports, m.functions, m.tables, m.memories, m.elements, m.globals, m.exports, m.codes, [], [], [], [], []⟩) (by omega) (by decide) (fun x _ => zfj x) (by show (zD 10 zq m.codes).length < _; omega) (fun s h => by show ((⟨1, m.hasStart, m.start, m.types, m.imports, m.functions, m.tables, m.memories, m.elements, m.globals, m.exports, (zR y7 s).1, [], [], [], [], []⟩ : Mod), (zR y7 s).2) = _; rw [h]) (fun e => by rw [e]) fun Et tQ => ?_
  refine j9 (rd := rDat) (id := 11) (f := wDat) (l := m.datas) (M' := ⟨1, m.hasStart, m.start, m.types, m.imports, m.functions, m.tables, m.memories, m.elements, m.globals, m.exports, m.codes, m.datas, [], [], [], []⟩) (by omega) (by decide) (fun x hx => zju (Ja wR x hx)) (by show (zD 11 wDat m.datas).length < _; omega) (fun s h => by show ((⟨1, m.hasStart, m.start, m.types, m.imports, m.functions, m.tables, m.memories, m.elements, m.globals, m.exports, m.codes, (zR rDat s).1, [], [], [], []⟩ : Mod), (zR rDat s).2) = _; rw [h]) (fun e => by rw [e]) fun Ez pL => ?_
  exact zhO B8 D3 hG sn (by omega) (ai _)
 obtain ⟨h1, h2⟩ := mu (wMod m gs).length (by show ((wMod m gs).drop 8).length ≤ _; rw [ldQ]; omega)
 unfold yl
 rw [if_neg (fun q => q Co)]
 simp only [h1, h2]
 rw [if_neg (show ¬ (0 : Nat) = 3 by decide), if_neg (fun q => q.2 Br)]
theorem zhR (hG : jU m.locals gs) : yn { m with locals := gs.flatMap (·.2) } = yn m := by
 unfold yn j7
 simp only [zeV hG]
section
variable {P : Program} {ar : Array Oper} {Q : Exit → Act → World → Prop} {R : Frm}
theorem zd9 {o : Oper} {rest : List Item} {a : Act} {w : World} {d : Tmp} (g : Nat) (cs : Array Value) (T ty : TypeId) (x : Operand) (ho : o.op = .load ty x) (hx : a.eval x = .pointer (some ⟨g, 0, none⟩)) (hB : ∀ W, R.E w W → Blk W g cs T) (du : TypeDesc)
 (hu : P.underlying ty = some du) (gd : du.isRow = true) (hi : (P.info? ty).map (·.size) = some cs.size) (hd : o.dst = some d) (ah : Nat.blt d a.tmps.size = true) (hw : Region.wanted o (yielded ar a.tmps) = true)
 (hQ : ∀ v c a w, Q (.panic c) (a.put o.dst v) w → Q (.panic c) a w) (h : yk P ar Q R rest (a.put o.dst (.agg cs)) w) : yk P ar Q R (.take o :: rest) a w :=
 item_take (by rw [ho]; rfl) hd ah hw hQ (fun W hE K hK => (hB W hE).wp_load ty x ho hx du hu gd hi hK) h
end
theorem zjM (h : WFit m) : BFit m := { h.fit with len_codes := h.codes, ft := h.ft }
variable {n : Nat} {w : World}
theorem zde {v : ModV} (hM : ModAt n (fun k => k < w.heap.size) w m v) (hl : (yn m).length ≤ 2147483648) :
 Calls Tryz.prog 4 #[.agg (zs m v)] w fun e w' => e = .returned (.bool true) ∧ Ext w w' := by
 obtain ⟨aA, o5, aB, nL, aC, oX, aD, oW, aE, ox, aF, oU, aG, oV, aH, nH, aI, oQ, aJ, nI, aK, oR, aL, nV, aM, nS, rfl⟩ := zcn hM
 obtain ⟨W1, g1, fC, iy, H1⟩ : ∃ W1 g1, Hd ((w.alloc (.cells (kmc m aA o5 aB nL aC oX aD oW aE ox aF oU aG oV aH nH aI oQ aJ nI aK oR aL nV aM nS) 37)) = W1) ∧ Hd (w.heap.size = g1) ∧ Hd (Blk W1 g1 (kmc m aA o5 aB nL aC oX aD oW aE ox aF oU aG oV aH nH aI oQ aJ nI aK oR aL nV aM nS) 37 ∧ Ext w W1 ∧ ModAt n (fun k => k < g1) W1 m ⟨.slice aA m.types.length o5, .slice aB m.imports.length nL, .slice aC m.functions.length oX, .slice aD m.tables.length oW, .slice aE m.memories.length ox, .slice aF m.elements.length oU, .slice aG m.globals.length oV, .slice aH m.exports.length nH, .slice aI m.codes.length oQ, .slice aJ m.datas.length nI, .slice aK m.customs.length oR, .slice aL m.funcs.length nV, .slice aM m.locals.length nS⟩ ∧ w.heap.size ≤ g1) :=
  ⟨_, _, rfl, rfl, zk _ _ _, za _ _, hM.fr (za _ _) (fun k hk => ⟨hk, fun h => h⟩), Nat.le_refl _⟩
 have HZ := qh (fun W (h : Ext W1 W) => zc9 (H1.o.2.2.1.fr h (fun k hk => ⟨Nat.lt_trans hk H1.o.1.lt, fun h => h⟩)) (fun k hk => nqQ (Nat.lt_trans hk H1.o.1.lt) h.size))
 have HS := qh (fun W (h : Ext W1 W) => zdV (H1.o.2.2.1.fr h (fun k hk => ⟨Nat.lt_trans hk H1.o.1.lt, fun h => h⟩)) (fun k hk => nqQ (Nat.lt_trans hk H1.o.1.lt) h.size) hl)
 have HL := qh (fun W (h : Ext W1 W) => zeL (H1.o.2.2.1.fr h (fun k hk => ⟨Nat.lt_trans hk H1.o.1.lt, fun h => h⟩)) (fun k hk => nqQ (Nat.lt_trans hk H1.o.1.lt) h.size))
 have HG := qh (fun W (h : Ext W1 W) => zdW (H1.o.2.2.1.fr h (fun k hk => ⟨Nat.lt_trans hk H1.o.1.lt, fun h => h⟩)) (fun k hk => nqQ (Nat.lt_trans hk H1.o.1.lt) h.size))
 have HK := qh (fun W (h : Ext W1 W) => zai (H1.o.2.2.1.fr h (fun k hk => ⟨Nat.lt_trans hk H1.o.1.lt, fun h => h⟩)) (fun k hk => nqQ (Nat.lt_trans hk H1.o.1.lt) h.size) hl)
 have qA := qh (fun (h : (yn m).length ≤ 65536) => (show m.tables.length + m.memories.length ≤ 1048576 from by
  have P := (ziY h).all
  have n4 := jY zcY m.tables
  have n5 := jY zcY m.memories
  omega))
 have HF := qh (fun (h : (yn m).length ≤ 65536) => wfit (m := m) h)
 have hl := qh hl
 clear hM
 unfold zs at *
 dsimp only at *
 go_enter Tryz.func4, Tryz.ntmps4
 go_upto_region 1 with fail
 rw [fC.o, iy.o]
 clear fC iy
 have ek := H1.o.1.cell
 go_wp2_with fail
 refine (HZ.o W1 (Fr.refl _ _)).mono ?_
 rintro e w2 ⟨b, rfl, x2⟩
 have X2 := qh x2
 clear x2 ek HZ
 cases b with
 | false =>
  as_aux_lemma =>
  have hx := qh (Ext.trans H1.o.2.1 X2.o)
  go_wp2
  go_ret
  exact ⟨rfl, hx.o⟩
 | true =>
 as_aux_lemma =>
 have ek := (H1.o.1.ext X2.o).cell
 go_wp2_with fail
 refine (HS.o w2 X2.o).mono ?_
 rintro e w3 ⟨b, rfl, k3, x3⟩
 have X3 := qh (Ext.trans X2.o x3)
 have k3 := qh k3
 clear x3 ek HS X2
 cases b with
 | false =>
  as_aux_lemma =>
  have hx := qh (Ext.trans H1.o.2.1 X3.o)
  clear k3
  go_wp2
  go_ret
  exact ⟨rfl, hx.o⟩
 | true =>
 as_aux_lemma =>
 have AH := qh (k3.o rfl)
 clear k3
 have ek := (H1.o.1.ext X3.o).cell
 go_wp2_with fail
 refine (HL.o w3 X3.o (qA.o AH.o)).mono ?_
 rintro e w4 ⟨b, rfl, k4, x4⟩
 have X4 := qh (Ext.trans X3.o x4)
 have k4 := qh k4
 clear x4 ek HL X3
 cases b with
 | false =>
  as_aux_lemma =>
  have hx := qh (Ext.trans H1.o.2.1 X4.o)
  clear k4
  go_wp2
  go_ret
  exact ⟨rfl, hx.o⟩
 | true =>
 as_aux_lemma =>
 have A5 := qh (k4.o rfl)
 have F := qh (HF.o AH.o A5.o)
 clear k4 HF
 have ek := (H1.o.1.ext X4.o).cell
 go_wp2_with fail
 refine (HG.o w4 X4.o F.o.fit).mono ?_
 rintro e w5 ⟨v5, rfl, iP, x5⟩
 have X5 := qh (Ext.trans X4.o x5)
 have iP := qh iP
 clear x5 ek HG X4
 as_aux_lemma =>
 go_wp2_with fail
 refine (zdX iP.o (fun k hk => hk) (zjM F.o) F.o.ok).mono ?_
 rintro e w6 ⟨bv, gs, rfl, hG, hO, x6⟩
 obtain ⟨aa, cap, rfl, fV, Cn⟩ := hO.form
 have X6 := qh (Ext.trans X5.o x6)
 have HO := qh (anQ hG hO)
 clear x6 hG hO X5 iP fV Cn
 have HR := qh (zaZ 0 _ (wMod m gs) aa (wMod m gs).length cap w6 HO.o.2.slice (fun k hk => hk.2) (F.o.size gs HO.o.1))
 rw [zhQ A5.o HO.o.1 (by have := F.o.size gs HO.o.1; omega)] at HR
 have AG := qh (zhR HO.o.1)
 obtain ⟨M, Cg⟩ : ∃ M : Mod, { m with locals := gs.flatMap (·.2) } = M := ⟨_, rfl⟩
 rw [Cg] at HR AG
 clear Cg
 as_aux_lemma =>
 go_wp2_with fail
 refine HR.o.mono ?_
 rintro e w7 ⟨v7, rfl, wz, x7⟩
 obtain ⟨bA, tp, bB, tq, bC, ui, bD, tM, bE, ud, bF, tn, bG, uu, bH, tV, bI, sM, bJ, um, bK, tH, bL, sH, bM, sD, rfl⟩ := zcn wz
 obtain ⟨W8, g8, rQ, AP, H8⟩ : ∃ W8 g8, Hd ((w7.alloc (.cells (kmc M bA tp bB tq bC ui bD tM bE ud bF tn bG uu bH tV bI sM bJ um bK tH bL sH bM sD) 37)) = W8) ∧ Hd (w7.heap.size = g8) ∧ Hd (Blk W8 g8 (kmc M bA tp bB tq bC ui bD tM bE ud bF tn bG uu bH tV bI sM bJ um bK tH bL sH bM sD) 37 ∧ ModAt 1 (fun k => k < g8) W8 M ⟨.slice bA M.types.length tp, .slice bB M.imports.length tq, .slice bC M.functions.length ui, .slice bD M.tables.length tM, .slice bE M.memories.length ud, .slice bF M.elements.length tn, .slice bG M.globals.length uu, .slice bH M.exports.length tV, .slice bI M.codes.length sM, .slice bJ M.datas.length um, .slice bK M.customs.length tH, .slice bL M.funcs.length sH, .slice bM M.locals.length sD⟩ ∧ Ext W1 W8) :=
  ⟨_, _, rfl, rfl, zk _ _ _, wz.fr (za _ _) (fun k hk => ⟨hk, fun h => h⟩), Ext.trans X6.o (Ext.trans x7 (za _ _))⟩
 have H8 := qh (anQ H8.o.1 (anQ H8.o.2.1 (anQ H8.o.2.2 (H1.o.1.ext H8.o.2.2))))
 clear wz x7 HR X6 HO
 as_aux_lemma =>
 unfold zs
 dsimp only
 go_upto_region 7 with fail
 rw [rQ.o, AP.o]
 clear rQ AP
 as_aux_lemma =>
 refine zi JS [kT 0, kT 1, kT 2, kT 3, kT 4, kT 5, kT 6, kT 8, kR 7, kR 9, kT 10, kT 11, kT 12] (by kernel_rfl) (by kernel_rfl) ?_
 simp only [zy, gzQ, gsQ]
 have bQ := qh (zb W8)
 generalize W8.drew = W9 at *
 as_aux_lemma =>
 repeat (apply item_take; rfl; rfl; rfl; rfl; exact fun _ _ _ _ h => h; (intro _ _ _ k; go_simp; exact k))
 apply zd9 g8 (kmc M bA tp bB tq bC ui bD tM bE ud bF tn bG uu bH tV bI sM bJ um bK tH bL sH bM sD) 37 37 (.tmp 5) rfl rfl (fun W hE => H8.o.1.ext (Ext.trans bQ.o hE)) _ Tryz.underlying37 rfl (by kernel_rfl)
 ·rfl
 ·rfl
 ·rfl
 ·exact fun _ _ _ _ h => h
 apply zd9 g1 (kmc m aA o5 aB nL aC oX aD oW aE ox aF oU aG oV aH nH aI oQ aJ nI aK oR aL nV aM nS) 37 37 (.tmp 1) rfl rfl (fun W hE => H8.o.2.2.2.ext (Ext.trans bQ.o hE)) _ Tryz.underlying37 rfl (by kernel_rfl)
 ·rfl
 ·rfl
 ·rfl
 ·exact fun _ _ _ _ h => h
 as_aux_lemma =>
 apply ze; rfl; intro K hK; go_simp
 refine (zai (H8.o.2.1.fr bQ.o (fun k hk => ⟨Nat.lt_trans hk H8.o.1.lt, fun h => h⟩)) (fun k hk => nqQ (Nat.lt_trans hk H8.o.1.lt) bQ.o.size) (by rw [AG.o]; exact hl.o)).mono ?_
 rintro e pK ⟨rfl, vT⟩
 refine hK _ _ vT ?_
 have xS := qh (Ext.trans H8.o.2.2.1 (Ext.trans bQ.o vT))
 clear hK K vT
 apply ze; rfl; intro K hK; go_simp
 refine (HK.o pK xS.o).mono ?_
 rintro e pE ⟨rfl, xr⟩
 refine hK _ _ xr ?_
 rw [AG.o]
 have DO := qh (Ext.trans H1.o.2.1 (Ext.trans xS.o xr))
 clear hK K xr xS HK
 repeat (apply item_take; rfl; rfl; rfl; rfl; exact fun _ _ _ _ h => h; (intro _ _ _ k; go_simp; exact k))
 apply zl
 go_wp2
 go_ret
 exact ⟨rfl, DO.o⟩
def zeW {α : Type} (P : Program) (t : TypeId) (l : Lay α) : Prop :=
 P.cellsOf t = l.size ∧ ∀ {H : Type} {enc : TypeId × Value → H} {w : World} {base : Nat} {spare : Nat → Bool} {held : Bool} {fuel : Nat} {cs : List Value} {x : DataW H × List MemPlace},
  DataW.trod enc P w base spare held fuel t cs = some x → ∃ a, l.rd (fun k => k < w.heap.size) w cs a
variable {P : Program} {t e : TypeId} {α β : Type}
theorem zhS (ht : P.underlying t = some (.int .i64)) (hc : P.cellsOf t = 1) : zeW P t Lay.int := ⟨hc, fun h => by
 obtain ⟨n, rfl, -, hw⟩ := DataW.trod_int ht h
 exact ⟨n, rfl, bounds_i64 hw⟩⟩
theorem ziG (ht : P.underlying t = some (.int .u8)) (hc : P.cellsOf t = 1) : zeW P t Lay.u8 := ⟨hc, fun h => by
 obtain ⟨n, rfl, -, hw⟩ := DataW.trod_int ht h
 have hb : 0 ≤ n ∧ n ≤ 255 := bounds_u8 hw
 refine ⟨UInt8.ofNat n.toNat, ?_⟩
 show [Value.int .u8 n] = [Value.int .u8 _]
 rw [UInt8.toNat_ofNat', Nat.mod_eq_of_lt (by omega), Int.toNat_of_nonneg hb.1]⟩
theorem zhT (ht : P.underlying t = some (.int .u32)) (hc : P.cellsOf t = 1) : zeW P t Lay.u32 := ⟨hc, fun h => by
 obtain ⟨n, rfl, -, hw⟩ := DataW.trod_int ht h
 have hb : 0 ≤ n ∧ n ≤ 4294967295 := bounds_u32 hw
 refine ⟨UInt32.ofNat n.toNat, ?_⟩
 show [Value.int .u32 n] = [Value.int .u32 _]
 rw [UInt32.toNat_ofNat', Nat.mod_eq_of_lt (by omega), Int.toNat_of_nonneg hb.1]⟩
theorem zhU (ht : P.underlying t = some (.int .u64)) (hc : P.cellsOf t = 1) : zeW P t Lay.u64 := ⟨hc, fun h => by
 obtain ⟨n, rfl, -, hw⟩ := DataW.trod_int ht h
 have hb : 0 ≤ n ∧ n ≤ 18446744073709551615 := bounds_u64 hw
 refine ⟨UInt64.ofNat n.toNat, ?_⟩
 show [Value.int .u64 n] = [Value.int .u64 _]
 rw [UInt64.toNat_ofNat', Nat.mod_eq_of_lt (by omega), Int.toNat_of_nonneg hb.1]⟩
theorem zgc (ht : P.underlying t = some .bool) (hc : P.cellsOf t = 1) : zeW P t Lay.bool := ⟨hc, fun h => by
 obtain ⟨n, rfl, -⟩ := DataW.trod_bool ht h
 exact ⟨n, rfl⟩⟩
theorem zfp {H : Type} (d : DataW H) : 1 ≤ Rows.uptoBulk d := by
 cases d with
 | lit l => cases l <;> simp [Rows.uptoBulk]
 | _ => simp [Rows.uptoBulk]
theorem zeX {H : Type} (l r : List (DataW H)) : Rows.uptoBulkAll (l ++ r) = Rows.uptoBulkAll l + Rows.uptoBulkAll r := by
 induction l with
 | nil => simp [Rows.uptoBulkAll]
 | cons x l ih => simp only [List.cons_append, Rows.uptoBulkAll, ih]; omega
theorem ziH {H : Type} {d : DataW H} {l : List (DataW H)} (h : d ∈ l) : Rows.uptoBulk d ≤ Rows.uptoBulkAll l := by
 induction l with
 | nil => cases h
 | cons x r ih =>
  simp only [Rows.uptoBulkAll]
  rcases List.mem_cons.1 h with rfl | e
  ·omega
  ·have := ih e; omega
def wRow {α : Type} (wt : α → Nat) (xs : List α) : Nat := (xs.map wt).sum + 1
def zL {α : Type} (P : Program) (t : TypeId) (l : Lay α) (wt : α → Nat) (kk : Nat) : Prop :=
 P.cellsOf t = l.size ∧ ∀ {H : Type} {enc : TypeId × Value → H} {w : World} {base : Nat} {spare : Nat → Bool} {held : Bool} {fuel : Nat} {cs : List Value} {x : DataW H × List MemPlace},
  Rows.uptoBulk x.1 < kk → DataW.trod enc P w base spare held fuel t cs = some x → ∃ a, l.rd (fun k => k < w.heap.size) w cs a ∧ wt a ≤ Rows.uptoBulk x.1
variable {P : Program} {t e : TypeId} {α β : Type}
theorem zeW.b {l : Lay α} (h : zeW P t l) (kk : Nat) : zL P t l (fun _ => 1) kk := ⟨h.1, fun _ hx => by
 obtain ⟨a, ha⟩ := h.2 hx
 exact ⟨a, ha, zfp _⟩⟩
theorem zgd (ht : P.underlying t = some .string) (hc : P.cellsOf t = 1) (kk : Nat) : zL P t Lay.str (fun s => s.size + 1) kk := ⟨hc, fun {H enc w base spare held fuel cs x} _ h => by
 obtain ⟨n, rfl, e, hn⟩ := DataW.trod_string ht h
 refine ⟨n, ⟨rfl, hn⟩, ?_⟩
 subst e
 have e : n.data.toList.length = n.size := by rw [Array.length_toList]; rfl
 simp only [Rows.uptoBulk]
 omega⟩
theorem zL.le {l : Lay α} {wt sI : α → Nat} {k m : Nat} (h : zL P t l wt k) (hm : m ≤ k) (hw : ∀ a, sI a ≤ wt a) : zL P t l sI m := ⟨h.1, fun hs hx => by
 obtain ⟨a, ha, hb⟩ := h.2 (by omega) hx
 exact ⟨a, ha, nlQ (hw a) hb⟩⟩
theorem zP {l : Lay α} {wt : α → Nat} {kk : Nat} (ht : P.underlying t = some (.slice e)) (hc : P.cellsOf t = 1) (he : zL P e l wt kk) (h0 : 0 < l.size) : zL P t l.slice (wRow wt) (kk + 1) := ⟨hc, fun {H enc w base spare held fuel cs x} hk h => by
 rcases open_slice ht h with ⟨rfl, rfl⟩ | ⟨a, len, cap, m, n, D, Pl, rfl, hb, hl, hm, dR, it, hx⟩
 ·exact ⟨[], ⟨none, 0, rfl, Nat.le_refl _, by decide, fun h => absurd h (by simp)⟩, by simp [wRow, Rows.uptoBulk]⟩
 have mv : len ≤ m := by rw [dR]; split <;> omega
 have Eu : Rows.uptoBulkAll ((List.range len).map D) + 1 ≤ Rows.uptoBulk x.1 := by rw [it]; simp only [Rows.uptoBulk]; omega
 have cl : ∀ i, i < len → Rows.uptoBulk (D i) < kk := fun i hi => by
  have h1 := ziH (List.mem_map.2 ⟨i, List.mem_range.2 hi, rfl⟩ : D i ∈ (List.range len).map D)
  omega
 rcases Nat.eq_zero_or_pos len with hz | ov
 ·subst hz
  exact ⟨[], ⟨some a, cap, rfl, hl, hm, fun h => absurd h (by simp)⟩, by have := zfp x.1; simpa [wRow] using this⟩
 rw [he.1] at hx
 have first : ∃ b o bO T fz, a = ⟨b, o, none⟩ ∧ w.heap[b]? = some (.cells bO T fz) := by
  obtain ⟨gV, h1, -⟩ := hx 0 (by omega)
  obtain ⟨-, h2, h3⟩ := World.cells?_some h1
  have h4 := h3 0 h0
  rw [List.getElem?_eq_getElem (by omega), Nat.zero_mul] at h4
  obtain ⟨b, o, sp⟩ := a
  simp only [Addr.add, if_true, World.cell?] at h4
  cases hh : w.heap[b]? with
  | none => rw [hh] at h4; cases h4
  | some obj =>
   rw [hh] at h4
   cases obj with
   | cells bO T fz =>
    cases sp with
    | none => exact ⟨b, o, bO, T, fz, rfl, hh⟩
    | some _ => simp at h4
   | _ => cases h4
 obtain ⟨b, o, bO, T, fz, rfl, hh⟩ := first
 have build : ∀ k, k ≤ len → ∃ (flat : List Value) (xs : List α), xs.length = k ∧ flat.length = k * l.size ∧ l.all (fun k => k < w.heap.size) w flat xs ∧ (xs.map wt).sum ≤ Rows.uptoBulkAll ((List.range k).map D) ∧ ∀ j, j < flat.length → bO[o + j]? = flat[j]? := by
  intro k
  induction k with
  | zero => exact fun _ => ⟨[], [], rfl, by simp, rfl, by simp [Rows.uptoBulkAll], by simp⟩
  | succ k ih =>
   intro hk
   obtain ⟨flat, xs, e1, e2, e3, e5, e4⟩ := ih (by omega)
   obtain ⟨gV, h1, h2⟩ := hx k (by omega)
   obtain ⟨y, hy, hw⟩ := he.2 (cl k (by omega)) h2
   obtain ⟨-, h3, h4⟩ := World.cells?_some h1
   refine ⟨flat ++ gV, xs ++ [y], by simp [e1], by rw [laQ, e2, h3, Nat.succ_mul], Lay.all_append e3 (Lay.all_single hy), ?_, fun j hj => ?_⟩
   ·rw [List.range_succ, List.map_append, List.map_append, List.sum_append, zeX]
    simp only [List.map_cons, List.map_nil, List.sum_cons, List.sum_nil, Rows.uptoBulkAll]
    have CU : wt y ≤ Rows.uptoBulk (D k) := hw
    omega
   rcases Nat.lt_or_ge j flat.length with rL | rL
   ·rw [List.getElem?_append_left rL, e4 j rL]
   ·rw [List.getElem?_append_right rL]
    have h5 := h4 (j - flat.length) (by rw [laQ] at hj; omega)
    rw [← h5, jL, jL, Lib.cell_of_heap hh]
    congr 1
    omega
 obtain ⟨flat, xs, e1, e2, e3, e5, e4⟩ := build len (Nat.le_refl _)
 subst e1
 exact ⟨xs, ⟨some ⟨b, o, none⟩, cap, rfl, hl, hm, fun _ => ⟨b, o, bO, T, fz, flat, rfl, Zw hh, hh, e3, e4⟩⟩, by unfold wRow; omega⟩⟩
structure OpensBF {α : Type} (P : Program) (fs : List Field) (off : Nat) (l : Lay α) (wt : α → Nat) (kk : Nat) : Prop where
 rd : ∀ {H : Type} {enc : TypeId × Value → H} {w : World} {base : Nat} {spare : Nat → Bool} {held : Bool} {fuel : Nat} {cs : List Value} {xs : List (DataW H × List MemPlace)},
  cs.length = off + l.size → xs.length = fs.length → Rows.uptoBulkAll (xs.map (·.1)) < kk → (∀ (i : Nat) (f : Field), fs[i]? = some f → DataW.trod enc P w base spare held fuel f.type ((cs.drop f.offset).take (P.cellsOf f.type)) = xs[i]?) →
   ∃ a, l.rd (fun k => k < w.heap.size) w (cs.drop off) a ∧ wt a ≤ Rows.uptoBulkAll (xs.map (·.1))
theorem yt {f : Field} {off kk : Nat} {l : Lay α} {wt : α → Nat} (h : zL P f.type l wt kk) (ho : f.offset = off) : OpensBF P [f] off l wt kk := ⟨fun {H enc w base spare held fuel cs xs} hl hx hk hf => by
 match xs, hx with
 | [x], _ =>
  have h1 := hf 0 f rfl
  rw [ho, h.1, List.take_of_length_le (by rw [ldQ]; omega)] at h1
  simp only [List.map_cons, List.map_nil, Rows.uptoBulkAll] at hk ⊢
  exact h.2 (by omega) h1⟩
theorem zo {f : Field} {fs : List Field} {off kk : Nat} {l : Lay α} {m : Lay β} {wt : α → Nat} {wu : β → Nat} (h : zL P f.type l wt kk) (ho : f.offset = off) (k : OpensBF P fs (off + l.size) m wu kk) :
 OpensBF P (f :: fs) off (l.pair m) (fun x => wt x.1 + wu x.2) kk := ⟨fun {H enc w base spare held fuel cs xs} hl hx hk hf => by
  match xs, hx with
  | x :: xs, hx =>
   have h1 := hf 0 f rfl
   rw [ho, h.1] at h1
   simp only [List.map_cons, Rows.uptoBulkAll] at hk ⊢
   obtain ⟨a, ha, Dy⟩ := h.2 (by omega) h1
   have Ce : cs.length = off + (l.size + m.size) := hl
   obtain ⟨b, hb, EF⟩ := k.rd (enc := enc) (w := w) (base := base) (spare := spare) (held := held) (fuel := fuel) (cs := cs) (xs := xs) (by omega) (by simpa using hx) (by omega) (fun i g hg => by simpa using hf (i + 1) g (by simpa using hg))
   refine ⟨(a, b), ⟨_, _, ?_, ha, hb⟩, by show wt a + wu b ≤ _; omega⟩
   rw [← List.drop_drop, List.take_append_drop]⟩
theorem z8 {fs : Array Field} {l : Lay α} {kk : Nat} {wt : α → Nat} (ht : P.underlying t = some (.struct fs)) (hc : P.cellsOf t = l.size) (h : OpensBF P fs.toList 0 l wt kk) : zL P t l (fun a => wt a + 1) (kk + 1) := ⟨hc, fun {H enc w base spare held fuel cs x} hk hx => by
 obtain ⟨xs, n, rfl, rfl, hl, ao, hf⟩ := DataW.trod_struct ht hx
 simp only [Rows.uptoBulk] at hk ⊢
 obtain ⟨a, ha, hw⟩ := h.rd (enc := enc) (w := w) (base := base) (spare := spare) (held := held) (fuel := n) (cs := cs) (xs := xs) (by omega) (by simpa using ao) (by omega) (fun i f hi => hf i f (by simpa using hi))
 exact ⟨a, ha, by omega⟩⟩
theorem zL.via {l : Lay α} {kk : Nat} {wt : α → Nat} (h : zL P t l wt kk) (f : β → α) (g : α → β) (fx : ∀ a, f (g a) = a) : zL P t (l.via f) (fun b => wt (f b)) kk := ⟨h.1, fun hs hx => by
 obtain ⟨a, ha, hw⟩ := h.2 hs hx
 exact ⟨g a, by show l.rd _ _ _ (f (g a)); rw [fx]; exact ha, by show wt (f (g a)) ≤ _; rw [fx]; exact hw⟩⟩
theorem zjN {α : Type} (l : List α) : (l.map fun _ => 1).sum = l.length := by
 induction l with
 | nil => rfl
 | cons x xs ih => simp only [List.map_cons, List.sum_cons, List.length_cons, ih]; omega
mutual
def hIns : Ins → Nat
 | .mk _ args _ _ body => 1 + args.length + zan body
def zan : List Ins → Nat
 | [] => 0
 | x :: xs => hIns x + zan xs
end
def hRow {α : Type} (wt : α → Nat) (xs : List α) : Nat := (xs.map wt).sum + 1
theorem zea : ∀ l : List Ins, zan l = (l.map hIns).sum
 | [] => rfl
 | x :: xs => by rw [zan, zea xs]; simp
def hFT (t : FT) : Nat := t.ps.length + t.rs.length + 3
def hImp (x : Imp) : Nat := x.mdl.length + x.name.length + 11
def zge (x : Elem) : Nat := zan x.off + x.ids.length + 4
def zgf (x : Glob) : Nat := zan x.init + 4
def zgg (x : Expo) : Nat := x.name.length + 4
def hDat (x : Dat) : Nat := zan x.off + x.init.length + 4
def hCus (x : Cus) : Nat := x.name.length + x.data.length + 3
def hNam (x : Nam) : Nat := x.name.length + 4
def hMod (m : Mod) : Nat := 3 + hRow hFT m.types + hRow hImp m.imports + hRow (fun _ => 1) m.functions + hRow (fun _ => 4) m.tables + hRow (fun _ => 4) m.memories + hRow zge m.elements + hRow zgf m.globals + hRow zgg m.exports +
 hRow (fun c => c.length + 1) m.codes + hRow hDat m.datas + hRow hCus m.customs + (m.named.length + 1) + hRow hNam m.funcs + hRow hNam m.locals
theorem ul1 (n : Nat) : (uleb n).length ≤ n + 1 := by
 induction n using Nat.strongRecOn with
 | ind n ih =>
  by_cases h : n < 128
  ·rw [jF h]; simp
  ·rw [Zy (by omega), List.length_cons]
   have := ih (n / 128) (by omega)
   omega
theorem YY {k : α → List UInt8} {g : α → Nat} (h : ∀ x, (k x).length + 1 ≤ 32 * g x) (l : List α) : (uleb l.length).length + (l.flatMap k).length ≤ 32 * hRow g l := by
 have h1 : l.length + (l.flatMap k).length ≤ 32 * (l.map g).sum := by
  induction l with
  | nil => simp
  | cons x l ih =>
   have := h x
   rw [List.length_cons, List.flatMap_cons, laQ, List.map_cons, List.sum_cons]; omega
 have h2 := ul1 l.length
 unfold hRow
 omega
theorem zky (l : List (Int × UInt64)) : (l.flatMap jH).length ≤ 20 * l.length := by
 induction l with
 | nil => simp
 | cons a l ih =>
  have h1 := Jd a.1
  have h2 := zI a.2.toNat a.2.toNat_lt
  have h3 : (jH a).length = (Jc a.1).length + (uleb a.2.toNat).length := by unfold jH; rw [laQ]
  rw [List.flatMap_cons, laQ, List.length_cons]; omega
mutual
theorem ins_w : ∀ x : Ins, (zcO x).length + 1 ≤ 32 * hIns x
 | .mk op args st ty body => by
  have h1 := Jd op
  have h2 := Jd (ty + 1)
  have h3 := ul1 args.length
  have h4 := ul1 body.length
  have h5 := zky args
  have h6 := zhV body
  have h7 : (uleb 1).length ≤ 2 := ul1 1
  have h8 : (uleb 0).length ≤ 1 := ul1 0
  unfold zcO hIns
  split <;> simp only [laQ] <;> omega
theorem zhV : ∀ l : List Ins, (Je l).length + l.length ≤ 32 * zan l
 | [] => by simp [Je, zan]
 | x :: l => by
  have h1 := ins_w x
  have h2 := zhV l
  unfold Je zan
  rw [laQ, List.length_cons]; omega
end
theorem zeY (l : List Ins) : (zby l).length ≤ 32 * zan l + 1 := by
 have h1 := zhV l
 have h2 := ul1 l.length
 unfold zby
 rw [laQ]; omega
theorem Yp (s : List UInt8) : (zw s).length ≤ 2 * s.length + 1 := by rw [Jg]; have := ul1 s.length; omega
theorem zfq (b : Bool) : (j0 b).length ≤ 2 := by
 unfold j0
 cases b
 ·have := ul1 0; simp only [Bool.false_eq_true, if_false]; omega
 ·have := ul1 1; simp only [if_true]; omega
theorem zjO (x : Lim) : (yQ x).length + 1 ≤ 32 * 4 := by
 have h1 := u5 x.min; have h2 := u5 x.max; have h3 := zfq x.bounded
 unfold yQ
 split <;> simp only [laQ, List.length_nil] <;> omega
theorem zkz (x : UInt32) : (jW x).length + 1 ≤ 32 * 1 := by have h1 := u5 x; unfold jW; omega
theorem ft_w (x : FT) : (JI x).length + 1 ≤ 32 * hFT x := by
 have h1 := Yp (J4 (x.ps, x.rs))
 have h2 := za3 x.ps; have h3 := za3 x.rs; have h4 := ul1 x.ps.length; have h5 := ul1 x.rs.length
 have h6 : (J4 (x.ps, x.rs)).length = ((uleb x.ps.length).length + (x.ps.flatMap Jc).length) + ((uleb x.rs.length).length + (x.rs.flatMap Jc).length) := by
  unfold J4 Z3; simp only [laQ]
 unfold JI hFT
 omega
theorem imp_w (x : Imp) : (yR x).length + 1 ≤ 32 * hImp x := by
 have h1 := Yp x.mdl; have h2 := Yp x.name; have h3 := Jd x.kind; have h4 := u5 x.index; have h5 := zjO x.lim; have h6 := Jd x.ty; have h7 := zfq x.mtb
 have h8 : (jD [x.lim]).length ≤ 2 + (yQ x.lim).length := by
  have := ul1 1
  show (uleb 1 ++ (yQ x.lim ++ [])).length ≤ _
  rw [laQ, List.append_nil]; omega
 unfold yR hImp
 simp only [laQ]
 omega
theorem zkA (x : Elem) : (yF x).length + 1 ≤ 32 * zge x := by
 have h1 := u5 x.index; have h2 := zeY x.off; have h3 := YY zkz x.ids
 have h4 : (Zl x.ids).length = (uleb x.ids.length).length + (x.ids.flatMap jW).length := by unfold Zl; rw [laQ]
 have h5 : hRow (fun _ : UInt32 => 1) x.ids = x.ids.length + 1 := by
  unfold hRow
  have : ∀ l : List UInt32, (l.map fun _ => 1).sum = l.length := fun l => by
   induction l with
   | nil => rfl
   | cons x l ih => rw [List.map_cons, List.sum_cons, ih, List.length_cons]; omega
  rw [this]
 unfold yF zge
 simp only [laQ]
 omega
theorem zkB (x : Glob) : (yG x).length + 1 ≤ 32 * zgf x := by
 have h1 := Jd x.ty; have h2 := zeY x.init; have h3 := zfq x.mtb
 unfold yG zgf
 simp only [laQ]
 omega
theorem zkC (x : Expo) : (ym x).length + 1 ≤ 32 * zgg x := by
 have h1 := Yp x.name; have h2 := Jd x.kind; have h3 := u5 x.index
 unfold ym zgg
 simp only [laQ]
 omega
theorem dat_w (x : Dat) : (jf x).length + 1 ≤ 32 * hDat x := by
 have h1 := u5 x.index; have h2 := zeY x.off; have h3 := Yp x.init
 unfold jf hDat
 simp only [laQ]
 omega
theorem cus_w (x : Cus) : (y8 x).length + 1 ≤ 32 * hCus x := by
 have h1 := Yp x.name; have h2 := Yp x.data
 unfold y8 hCus
 simp only [laQ]
 omega
theorem zkD (x : Nam) : (yM x).length + 1 ≤ 32 * hNam x := by
 have h1 := Yp x.name; have h2 := u5 x.fn; have h3 := u5 x.idx
 unfold yM hNam
 simp only [laQ]
 omega
theorem zkE (x : List UInt8) : (zw x).length + 1 ≤ 32 * (x.length + 1) := by have := Yp x; omega
theorem zkF (l : List Nam) : (uleb (Jw l).length).length + ((Jw l).flatMap yM).length ≤ 32 * hRow hNam l := by
 have h1 := YY zkD l
 have h2 : ((Jw l).map fun _ => 1).sum = (l.map fun _ => 1).sum := by
  have := zbE (fun _ => [0]) l
  have e : ∀ q : List Nam, (q.flatMap fun _ => [(0 : UInt8)]).length = (q.map fun _ => 1).sum := fun q => by
   induction q with
   | nil => rfl
   | cons x q ih => rw [List.flatMap_cons, laQ, ih, List.map_cons, List.sum_cons]; rfl
  rw [e, e] at this
  exact this
 have h3 : ∀ q : List Nam, (q.map fun _ => 1).sum = q.length := fun l => by
  induction l with
  | nil => rfl
  | cons x l ih => rw [List.map_cons, List.sum_cons, ih, List.length_cons]; omega
 rw [h3, h3] at h2
 rw [h2, zbE]
 exact h1
theorem key_w (m : Mod) : (yn m).length ≤ 32 * hMod m := by
 have a1 := YY ft_w m.types
 have a2 := YY imp_w m.imports
 have a3 := YY zkz m.functions
 have a4 := YY zjO m.tables
 have a5 := YY zjO m.memories
 have a6 := YY zkA m.elements
 have a7 := YY zkB m.globals
 have a8 := YY zkC m.exports
 have a9 := YY zkE m.codes
 have a10 := YY dat_w m.datas
 have kZ := YY cus_w m.customs
 have BF := YY zkD m.funcs
 have BZ := zkF m.locals
 have Fd := Yp m.named
 have fL : (j7 m).length ≤ 12 := by
  have h1 := zfq m.hasStart; have h2 := u5 m.start
  unfold j7
  split <;> simp only [laQ, List.length_nil] <;> omega
 simp only [yn, Zl, jD, jX, laQ]
 unfold hMod
 omega
theorem zL.dn {P : Program} {t : TypeId} {l : Lay α} {wt sI : α → Nat} (h : zL P t l wt (k + 1)) (hw : ∀ a, sI a ≤ wt a) : zL P t l sI k := h.le (Nat.le_succ k) hw
theorem row1 (l : List α) : wRow (fun _ => 1) l = l.length + 1 := by unfold wRow; rw [zjN]
theorem oI (k : Nat) : zL Tryz.prog 3 Lay.int (fun _ => 1) k := (zhS Tryz.underlying3 (by kernel_rfl)).b k
theorem oU8 (k : Nat) : zL Tryz.prog 5 Lay.u8 (fun _ => 1) k := (ziG Tryz.underlying5 (by kernel_rfl)).b k
theorem oU32 (k : Nat) : zL Tryz.prog 24 Lay.u32 (fun _ => 1) k := (zhT Tryz.underlying24 (by kernel_rfl)).b k
theorem oU64 (k : Nat) : zL Tryz.prog 89 Lay.u64 (fun _ => 1) k := (zhU Tryz.underlying89 (by kernel_rfl)).b k
theorem oB (k : Nat) : zL Tryz.prog 4 Lay.bool (fun _ => 1) k := (zgc Tryz.underlying4 (by kernel_rfl)).b k
theorem zeb (b : ByteArray) : zc b.data.toList = b := by
 cases b; simp [zc]
theorem zhW (l : List UInt8) : (zc l).size = l.length := by
 simp [zc, ByteArray.size]
theorem oS (k : Nat) : zL Tryz.prog 9 Lay.strB (fun s => s.length + 1) k :=
 (zL.via (β := List UInt8) (zgd Tryz.underlying9 (by kernel_rfl) k) zc (fun b => b.data.toList) zeb).le (Nat.le_refl _) (fun s => by rw [zhW]; exact Nat.le_refl _)
theorem oIs (k : Nat) : zL Tryz.prog 23 Lay.int.slice (fun l => l.length + 1) k := (zP Tryz.underlying23 (by kernel_rfl) (oI k) (by decide)).dn (fun l => by rw [row1]; exact Nat.le_refl _)
theorem oU8s (k : Nat) : zL Tryz.prog 22 Lay.u8.slice (fun l => l.length + 1) k := (zP Tryz.underlying22 (by kernel_rfl) (oU8 k) (by decide)).dn (fun l => by rw [row1]; exact Nat.le_refl _)
theorem oU32s (k : Nat) : zL Tryz.prog 27 Lay.u32.slice (fun l => l.length + 1) k := (zP Tryz.underlying27 (by kernel_rfl) (oU32 k) (by decide)).dn (fun l => by rw [row1]; exact Nat.le_refl _)
theorem oArg (k : Nat) : zL Tryz.prog 239 Lay.arg (fun _ => 1) k :=
 (z8 Tryz.underlying239 (by kernel_rfl) (zo (oI k) rfl (yt (oU64 k) rfl))).dn (fun _ => by omega)
theorem oArgs (k : Nat) : zL Tryz.prog 74 Lay.arg.slice (fun l => l.length + 1) k := (zP Tryz.underlying74 (by kernel_rfl) (oArg k) (by decide)).dn (fun l => by rw [row1]; exact Nat.le_refl _)
theorem zfr (l : List Ins) : wRow hIns l = zan l + 1 := by unfold wRow; rw [zea]
theorem oIns : ∀ k, zL Tryz.prog 76 (Lay.ins k) hIns k
 | 0 => ⟨by kernel_rfl, fun h => absurd h (Nat.not_lt_zero _)⟩
 | k + 1 => (zL.via (β := Ins) (z8 Tryz.underlying76 (by show _ = 1 + (1 + (1 + (1 + 1))); kernel_rfl)
  (zo (oI k) rfl (zo (oArgs k) rfl (zo (oB k) rfl (zo (oI k) rfl
   (yt ((zP Tryz.underlying67 (by kernel_rfl) (oIns k) (by rw [Lay.ins_size]; decide)).dn (fun l => Nat.le_of_eq (zfr l).symm)) rfl))))))
  (fun i : Ins => (i.op, i.args, i.st, i.ty, i.body)) (fun x => Ins.mk x.1 x.2.1 x.2.2.1 x.2.2.2.1 x.2.2.2.2) (fun _ => rfl)).le (Nat.le_refl _) (fun i => by
   obtain ⟨op, args, st, ty, body⟩ := i
   show hIns (.mk op args st ty body) ≤ _
   unfold hIns
   simp only [Ins.args, Ins.body]
   omega)
theorem zjP (k : Nat) : zL Tryz.prog 67 (Lay.ins k).slice (fun l => zan l + 1) k := (zP Tryz.underlying67 (by kernel_rfl) (oIns k) (by rw [Lay.ins_size]; decide)).dn (fun l => Nat.le_of_eq (zfr l).symm)
theorem oLim (k : Nat) : zL Tryz.prog 63 Lay.lim (fun _ => 4) k :=
 (zL.via (β := Lim) (z8 Tryz.underlying63 (by show _ = _; kernel_rfl) (zo (oU32 k) rfl (zo (oB k) rfl (yt (oU32 k) rfl)))) (fun x : Lim => (x.min, x.bounded, x.max)) (fun x => ⟨x.1, x.2.1, x.2.2⟩) (fun _ => rfl)).dn (fun x => by first | omega | (dsimp only; omega))
theorem zkG (k : Nat) : zL Tryz.prog 28 Lay.lim.slice (hRow (fun _ => 4)) k := (zP Tryz.underlying28 (by kernel_rfl) (oLim k) (by show 0 < _; first | decide | exact Nat.succ_pos _)).dn (fun _ => Nat.le_refl _)
theorem oFT (k : Nat) : zL Tryz.prog 91 Lay.ft hFT k :=
 (zL.via (β := FT) (z8 Tryz.underlying91 (by show _ = _; kernel_rfl) (zo (oIs k) rfl (yt (oIs k) rfl))) (fun x : FT => (x.ps, x.rs)) (fun x => ⟨x.1, x.2⟩) (fun _ => rfl)).dn (fun x => by unfold hFT; first | omega | (dsimp only; omega))
theorem oFTs (k : Nat) : zL Tryz.prog 25 Lay.ft.slice (hRow hFT) k := (zP Tryz.underlying25 (by kernel_rfl) (oFT k) (by show 0 < _; first | decide | exact Nat.succ_pos _)).dn (fun _ => Nat.le_refl _)
theorem oImp (k : Nat) : zL Tryz.prog 65 Lay.imp hImp k :=
 (zL.via (β := Imp) (z8 Tryz.underlying65 (by show _ = _; kernel_rfl) (zo (oS k) rfl (zo (oS k) rfl (zo (oI k) rfl (zo (oU32 k) rfl (zo (oLim k) rfl (zo (oI k) rfl (yt (oB k) rfl)))))))) (fun x : Imp => (x.mdl, x.name, x.kind, x.index, x.lim, x.ty, x.mtb)) (fun x => ⟨x.1, x.2.1, x.2.2.1, x.2.2.2.1, x.2.2.2.2.1, x.2.2.2.2.2.1, x.2.2.2.2.2.2⟩) (fun _ => rfl)).dn (fun x => by unfold hImp; first | omega | (dsimp only; omega))
theorem oImps (k : Nat) : zL Tryz.prog 26 Lay.imp.slice (hRow hImp) k := (zP Tryz.underlying26 (by kernel_rfl) (oImp k) (by show 0 < _; first | decide | exact Nat.succ_pos _)).dn (fun _ => Nat.le_refl _)
theorem oElem (k : Nat) : zL Tryz.prog 71 (Lay.elem k) zge k :=
 (zL.via (β := Elem) (z8 Tryz.underlying71 (by show _ = _; kernel_rfl) (zo (oU32 k) rfl (zo (zjP k) rfl (yt (oU32s k) rfl)))) (fun x : Elem => (x.index, x.off, x.ids)) (fun x => ⟨x.1, x.2.1, x.2.2⟩) (fun _ => rfl)).dn (fun x => by unfold zge; first | omega | (dsimp only; omega))
theorem zkH (k : Nat) : zL Tryz.prog 29 (Lay.elem k).slice (hRow zge) k := (zP Tryz.underlying29 (by kernel_rfl) (oElem k) (by show 0 < _; first | decide | exact Nat.succ_pos _)).dn (fun _ => Nat.le_refl _)
theorem oGlob (k : Nat) : zL Tryz.prog 69 (Lay.glob k) zgf k :=
 (zL.via (β := Glob) (z8 Tryz.underlying69 (by show _ = _; kernel_rfl) (zo (oI k) rfl (zo (oB k) rfl (yt (zjP k) rfl)))) (fun x : Glob => (x.ty, x.mtb, x.init)) (fun x => ⟨x.1, x.2.1, x.2.2⟩) (fun _ => rfl)).dn (fun x => by unfold zgf; first | omega | (dsimp only; omega))
theorem zkI (k : Nat) : zL Tryz.prog 30 (Lay.glob k).slice (hRow zgf) k := (zP Tryz.underlying30 (by kernel_rfl) (oGlob k) (by show 0 < _; first | decide | exact Nat.succ_pos _)).dn (fun _ => Nat.le_refl _)
theorem oExpo (k : Nat) : zL Tryz.prog 98 Lay.expo zgg k :=
 (zL.via (β := Expo) (z8 Tryz.underlying98 (by show _ = _; kernel_rfl) (zo (oS k) rfl (zo (oI k) rfl (yt (oU32 k) rfl)))) (fun x : Expo => (x.name, x.kind, x.index)) (fun x => ⟨x.1, x.2.1, x.2.2⟩) (fun _ => rfl)).dn (fun x => by unfold zgg; first | omega | (dsimp only; omega))
theorem zkJ (k : Nat) : zL Tryz.prog 31 Lay.expo.slice (hRow zgg) k := (zP Tryz.underlying31 (by kernel_rfl) (oExpo k) (by show 0 < _; first | decide | exact Nat.succ_pos _)).dn (fun _ => Nat.le_refl _)
theorem oDat (k : Nat) : zL Tryz.prog 73 (Lay.dat k) hDat k :=
 (zL.via (β := Dat) (z8 Tryz.underlying73 (by show _ = _; kernel_rfl) (zo (oU32 k) rfl (zo (zjP k) rfl (yt (oU8s k) rfl)))) (fun x : Dat => (x.index, x.off, x.init)) (fun x => ⟨x.1, x.2.1, x.2.2⟩) (fun _ => rfl)).dn (fun x => by unfold hDat; first | omega | (dsimp only; omega))
theorem oDats (k : Nat) : zL Tryz.prog 33 (Lay.dat k).slice (hRow hDat) k := (zP Tryz.underlying33 (by kernel_rfl) (oDat k) (by show 0 < _; first | decide | exact Nat.succ_pos _)).dn (fun _ => Nat.le_refl _)
theorem oCus (k : Nat) : zL Tryz.prog 100 Lay.cus hCus k :=
 (zL.via (β := Cus) (z8 Tryz.underlying100 (by show _ = _; kernel_rfl) (zo (oS k) rfl (yt (oU8s k) rfl))) (fun x : Cus => (x.name, x.data)) (fun x => ⟨x.1, x.2⟩) (fun _ => rfl)).dn (fun x => by unfold hCus; first | omega | (dsimp only; omega))
theorem oCuss (k : Nat) : zL Tryz.prog 34 Lay.cus.slice (hRow hCus) k := (zP Tryz.underlying34 (by kernel_rfl) (oCus k) (by show 0 < _; first | decide | exact Nat.succ_pos _)).dn (fun _ => Nat.le_refl _)
theorem oNam (k : Nat) : zL Tryz.prog 120 Lay.nam hNam k :=
 (zL.via (β := Nam) (z8 Tryz.underlying120 (by show _ = _; kernel_rfl) (zo (oU32 k) rfl (zo (oU32 k) rfl (yt (oS k) rfl)))) (fun x : Nam => (x.fn, x.idx, x.name)) (fun x => ⟨x.1, x.2.1, x.2.2⟩) (fun _ => rfl)).dn (fun x => by unfold hNam; first | omega | (dsimp only; omega))
theorem zkK (k : Nat) : zL Tryz.prog 35 Lay.nam.slice (hRow hNam) k := (zP Tryz.underlying35 (by kernel_rfl) (oNam k) (by show 0 < _; first | decide | exact Nat.succ_pos _)).dn (fun _ => Nat.le_refl _)
theorem zkL (k : Nat) : zL Tryz.prog 32 Lay.u8.slice.slice (hRow fun c => c.length + 1) k := (zP Tryz.underlying32 (by kernel_rfl) (oU8s k) (by decide)).dn (fun _ => Nat.le_refl _)
theorem oFns (k : Nat) : zL Tryz.prog 27 Lay.u32.slice (hRow fun _ => 1) k := (zP Tryz.underlying27 (by kernel_rfl) (oU32 k) (by decide)).dn (fun _ => Nat.le_refl _)
def modL (k : Nat) : Lay Mod := (Lay.pair Lay.u32 (Lay.pair Lay.bool (Lay.pair Lay.u32 (Lay.pair Lay.ft.slice (Lay.pair Lay.imp.slice (Lay.pair Lay.u32.slice (Lay.pair Lay.lim.slice (Lay.pair Lay.lim.slice (Lay.pair (Lay.elem k).slice (Lay.pair (Lay.glob k).slice (Lay.pair Lay.expo.slice (Lay.pair Lay.u8.slice.slice (Lay.pair (Lay.dat k).slice (Lay.pair Lay.cus.slice (Lay.pair Lay.strB (Lay.pair Lay.nam.slice Lay.nam.slice)))))))))))))))).via (fun x => (x.version, x.hasStart, x.start, x.types, x.imports, x.functions, x.tables, x.memories, x.elements, x.globals, x.exports, x.codes, x.datas, x.customs, x.named, x.funcs, x.locals))
theorem oMod (k : Nat) : zL Tryz.prog 37 (modL k) hMod k :=
 (zL.via (β := Mod) (z8 Tryz.underlying37 (by show _ = _; kernel_rfl) (zo (oU32 k) rfl (zo (oB k) rfl (zo (oU32 k) rfl (zo (oFTs k) rfl (zo (oImps k) rfl (zo (oFns k) rfl (zo (zkG k) rfl (zo (zkG k) rfl (zo (zkH k) rfl (zo (zkI k) rfl (zo (zkJ k) rfl (zo (zkL k) rfl (zo (oDats k) rfl (zo (oCuss k) rfl (zo (oS k) rfl (zo (zkK k) rfl (yt (zkK k) rfl)))))))))))))))))) (fun x : Mod => (x.version, x.hasStart, x.start, x.types, x.imports, x.functions, x.tables, x.memories, x.elements, x.globals, x.exports, x.codes, x.datas, x.customs, x.named, x.funcs, x.locals)) (fun x => ⟨x.1, x.2.1, x.2.2.1, x.2.2.2.1, x.2.2.2.2.1, x.2.2.2.2.2.1, x.2.2.2.2.2.2.1, x.2.2.2.2.2.2.2.1, x.2.2.2.2.2.2.2.2.1, x.2.2.2.2.2.2.2.2.2.1, x.2.2.2.2.2.2.2.2.2.2.1, x.2.2.2.2.2.2.2.2.2.2.2.1, x.2.2.2.2.2.2.2.2.2.2.2.2.1, x.2.2.2.2.2.2.2.2.2.2.2.2.2.1, x.2.2.2.2.2.2.2.2.2.2.2.2.2.2.1, x.2.2.2.2.2.2.2.2.2.2.2.2.2.2.2.1, x.2.2.2.2.2.2.2.2.2.2.2.2.2.2.2.2⟩) (fun _ => rfl)).dn (fun x => by unfold hMod; first | omega | (dsimp only; omega))
theorem zjQ {A : Nat → Prop} {cs : List Value} (h : (modL n).rd A w cs m) : ∃ v, cs = (zs m v).toList ∧ ModAt n A w m v := by
 obtain ⟨_, _, rfl, rfl, ⟨_, _, rfl, rfl, ⟨_, _, rfl, rfl, ⟨_, _, rfl, kE, ⟨_, _, rfl, gT, ⟨_, _, rfl, fm, ⟨_, _, rfl, iD, ⟨_, _, rfl, fP, ⟨_, _, rfl, fW, ⟨_, _, rfl, gU, ⟨_, _, rfl, gS, ⟨_, _, rfl, kC, ⟨_, _, rfl, kO, ⟨_, _, rfl, gW, ⟨_, _, rfl, ⟨rfl, oo⟩, ⟨_, _, rfl, kz, iN⟩⟩⟩⟩⟩⟩⟩⟩⟩⟩⟩⟩⟩⟩⟩⟩ := h
 obtain ⟨aA, cA, rfl, -, -⟩ := Lay.slice_form2 kE
 obtain ⟨aB, cB, rfl, -, -⟩ := Lay.slice_form2 gT
 obtain ⟨aC, cC, rfl, -, -⟩ := Lay.slice_form2 fm
 obtain ⟨aD, cD, rfl, -, -⟩ := Lay.slice_form2 iD
 obtain ⟨aE, cE, rfl, -, -⟩ := Lay.slice_form2 fP
 obtain ⟨aF, cF, rfl, -, -⟩ := Lay.slice_form2 fW
 obtain ⟨aG, cG, rfl, -, -⟩ := Lay.slice_form2 gU
 obtain ⟨aH, cH, rfl, -, -⟩ := Lay.slice_form2 gS
 obtain ⟨aI, cI, rfl, -, -⟩ := Lay.slice_form2 kC
 obtain ⟨aJ, cJ, rfl, -, -⟩ := Lay.slice_form2 kO
 obtain ⟨aK, cK, rfl, -, -⟩ := Lay.slice_form2 gW
 obtain ⟨aL, cL, rfl, -, -⟩ := Lay.slice_form2 kz
 obtain ⟨aM, cM, rfl, -, -⟩ := Lay.slice_form2 iN
 exact ⟨⟨.slice aA m.types.length cA, .slice aB m.imports.length cB, .slice aC m.functions.length cC, .slice aD m.tables.length cD, .slice aE m.memories.length cE, .slice aF m.elements.length cF, .slice aG m.globals.length cG, .slice aH m.exports.length cH, .slice aI m.codes.length cI, .slice aJ m.datas.length cJ, .slice aK m.customs.length cK, .slice aL m.funcs.length cL, .slice aM m.locals.length cM⟩, rfl, ⟨kE, gT, fm, iD, fP, fW, gU, gS, kC, kO, gW, kz, iN, oo⟩⟩
end Go.Proofs.YtejgninpjhcgnaaGreatDoor
