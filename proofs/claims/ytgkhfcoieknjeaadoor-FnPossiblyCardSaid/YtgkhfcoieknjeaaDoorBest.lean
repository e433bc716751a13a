/-
  Proved, in plain words of lists: of good patterns no two of which conflict the search through their tree finds the one that takes a request and is more special than all others that do, and finds none only if none takes it; there is at most one such pattern, and spec.Best's way over the list finds it too.
-/
import Derived.Test.YtgkhfcoieknjeaaDoorBase
import Derived.Test.YtgkhfcoieknjeaaDoorGoodKind
import Derived.Test.YtgkhfcoieknjeaaDoorTakes
namespace Go.Proofs.YtgkhfcoieknjeaaDoor
open Go.RowKit Kd

/-- A pattern. -/
structure Pt where
  m : List UInt8
  h : List UInt8
  l : List Seg

theorem hk_inj {a b : List UInt8} (h : hk a = hk b) : a = b := by
  unfold hk at h
  by_cases ha : a = []
  · by_cases hb : b = []
    · rw [ha, hb]
    · rw [if_pos ha, if_neg hb] at h; cases h
  · by_cases hb : b = []
    · rw [if_neg ha, if_pos hb] at h; cases h
    · rw [if_neg ha, if_neg hb] at h
      simpa using h

def Pt.key (p : Pt) : List Kd := hk p.h :: hk p.m :: kinds p.l
def Pt.good (p : Pt) : Prop := GoodP p.m p.h p.l
def Pt.takes (p : Pt) (rm rh : List UInt8) (its : List (List UInt8)) : Bool := takesB p.m p.h p.l rm rh its
def Pt.conf (p q : Pt) : Bool := confB p.m q.m p.h q.h p.l q.l
def Pt.rel (p q : Pt) : Rel := byBoth p.m q.m p.l q.l

/-- No two conflict. -/
def PeaceP (ps : List Pt) : Prop := ∀ (i j : Nat) (p q : Pt), ps[i]? = some p → ps[j]? = some q → i ≠ j → p.conf q = false
def AllGoodP (ps : List Pt) : Prop := ∀ (i : Nat) (p : Pt), ps[i]? = some p → p.good

/-- The tree holds the patterns. -/
def LeafOf (ps : List Pt) (leaf : List Kd → Option Nat) : Prop := ∀ (k : List Kd) (i : Nat), leaf k = some i ↔ ∃ p : Pt, ps[i]? = some p ∧ p.key = k

/-- One pattern goes ahead of another one. -/
def Beats (p q : Pt) : Prop := (p.h ≠ [] ∧ q.h = []) ∨ (p.h = q.h ∧ p.rel q = .spc)
def IsBest (ps : List Pt) (rm rh : List UInt8) (its : List (List UInt8)) (i : Nat) : Prop :=
  ∃ p, ps[i]? = some p ∧ p.takes rm rh its = true ∧ ∀ (j : Nat) (q : Pt), ps[j]? = some q → j ≠ i → q.takes rm rh its = true → Beats p q

def seekM (leaf : List Kd → Option Nat) (its : List (List UInt8)) (rm : List UInt8) (k : Kd) : Option Nat :=
  match seek leaf its [k, hk rm] with
  | some i => some i
  | none => match (if rm = [72, 69, 65, 68] then seek leaf its [k, .lit [71, 69, 84]] else none) with
    | some i => some i
    | none => seek leaf its [k, .one]

def seekAll (leaf : List Kd → Option Nat) (its : List (List UInt8)) (rm rh : List UInt8) : Option Nat :=
  match (if rh = [] then none else seekM leaf its rm (.lit rh)) with
  | some i => some i
  | none => seekM leaf its rm .one

theorem Pt.rel_inv {p q : Pt} (hp : p.good) (hq : q.good) : q.rel p = (p.rel q).inv := by
  unfold Pt.rel byBoth
  rw [byPaths_inv hp hq, byM_inv p.m q.m, inv_comb]

theorem beats_anti {p q : Pt} (hp : p.good) (hq : q.good) (h1 : Beats p q) (h2 : Beats q p) : False := by
  rcases h1 with ⟨a, b⟩ | ⟨a, b⟩
  · rcases h2 with ⟨c, d⟩ | ⟨c, d⟩
    · exact c b
    · exact a (c.symm.trans b)
  · rcases h2 with ⟨c, d⟩ | ⟨c, d⟩
    · exact c (a.symm.trans d)
    · rw [Pt.rel_inv hp hq, b] at d
      cases d

theorem isBest_one {ps : List Pt} {rm rh : List UInt8} {its : List (List UInt8)} (hg : AllGoodP ps) {i j : Nat} (h1 : IsBest ps rm rh its i) (h2 : IsBest ps rm rh its j) : i = j := by
  obtain ⟨p, a1, a2, a3⟩ := h1
  obtain ⟨q, b1, b2, b3⟩ := h2
  apply Decidable.byContradiction
  intro hne
  exact beats_anti (hg i p a1) (hg j q b1) (a3 j q b1 (fun e => hne e.symm) b2) (b3 i p a1 hne a2)

theorem hk_rest (h : List UInt8) : hk h ≠ .rest := by
  unfold hk
  split <;> simp

theorem key_rest {ps : List Pt} {leaf : List Kd → Option Nat} (hg : AllGoodP ps) (hl : LeafOf ps leaf) (k t : List Kd) (i : Nat) (h : leaf (k ++ Kd.rest :: t) = some i) : t = [] := by
  obtain ⟨p, hp, he⟩ := (hl _ i).1 h
  have hok := kinds_ok (hg i p hp)
  unfold Pt.key at he
  match k, he with
  | [], he => simp only [List.nil_append, List.cons.injEq] at he; exact absurd he.1 (hk_rest _)
  | [_], he => simp only [List.cons_append, List.nil_append, List.cons.injEq] at he; exact absurd he.2.1 (hk_rest _)
  | _ :: _ :: k, he =>
    simp only [List.cons_append, List.cons.injEq] at he
    rw [he.2.2] at hok
    clear he h hp
    induction k with
    | nil => exact okL_rest hok
    | cons x k ih => exact ih (okL_tail hok)

theorem hk_nil {h : List UInt8} (e : hk h = .one) : h = [] := by
  unfold hk at e
  split at e
  · assumption
  · cases e
theorem hk_lit {h s : List UInt8} (e : hk h = .lit s) : h = s := by
  unfold hk at e
  split at e
  · cases e
  · simpa using e

section
variable {ps : List Pt} {leaf : List Kd → Option Nat} (hg : AllGoodP ps) (hl : LeafOf ps leaf) (its : List (List UInt8))
include hg hl

/-- The leaves under a host and a method. -/
theorem seek2_none (a b : Kd) (h : seek leaf its [a, b] = none) (q : Pt) (j : Nat) (hq : ps[j]? = some q) (ha : hk q.h = a) (hb : hk q.m = b) : Kd.mt (kinds q.l) its = false :=
  seek_none leaf (key_rest hg hl) its [a, b] h (kinds q.l) j ((hl _ _).2 ⟨q, hq, by unfold Pt.key; rw [ha, hb]; rfl⟩)

theorem seek2_some (a b : Kd) (i : Nat) (h : seek leaf its [a, b] = some i) : ∃ p, ps[i]? = some p ∧ hk p.h = a ∧ hk p.m = b ∧ Kd.mt (kinds p.l) its = true ∧
    ∀ (j : Nat) (q : Pt), ps[j]? = some q → hk q.h = a → hk q.m = b → Kd.mt (kinds q.l) its = true → byR (kinds p.l) (kinds q.l) ≠ .gen := by
  obtain ⟨ks, h1, h2, h3⟩ := seek_some leaf (key_rest hg hl) its [a, b] i h
  obtain ⟨p, hp, he⟩ := (hl _ i).1 h1
  unfold Pt.key at he
  simp only [List.cons_append, List.nil_append, List.cons.injEq] at he
  obtain ⟨e1, e2, rfl⟩ := he
  refine ⟨p, hp, e1, e2, h2, fun j q hq ha hb hm => h3 (kinds q.l) j ((hl _ _).2 ⟨q, hq, ?_⟩) hm⟩
  unfold Pt.key
  rw [ha, hb]; rfl

theorem seekM_none (rm : List UInt8) (k : Kd) (h : seekM leaf its rm k = none) (q : Pt) (j : Nat) (hq : ps[j]? = some q) (ha : hk q.h = k) (hs : servesB q.m rm = true) : Kd.mt (kinds q.l) its = false := by
  unfold seekM at h
  split at h
  · cases h
  · rename_i h1
    split at h
    · cases h
    · rename_i h2
      simp only [servesB, Bool.or_eq_true, decide_eq_true_eq, Bool.and_eq_true] at hs
      rcases hs with (e | e) | ⟨e, e'⟩
      · exact seek2_none hg hl its k .one h q j hq ha (by rw [e]; rfl)
      · exact seek2_none hg hl its k _ h1 q j hq ha (by rw [e])
      · rw [if_pos e'] at h2
        exact seek2_none hg hl its k _ h2 q j hq ha (by rw [e]; rfl)

/-- The pattern found under a host: it matches, and none that matches under that host is more special. -/
theorem seekM_some (rm : List UInt8) (k : Kd) (i : Nat) (h : seekM leaf its rm k = some i) : ∃ p, ps[i]? = some p ∧ hk p.h = k ∧ Kd.mt (kinds p.l) its = true ∧ servesB p.m rm = true ∧
    ∀ (j : Nat) (q : Pt), ps[j]? = some q → hk q.h = k → servesB q.m rm = true → Kd.mt (kinds q.l) its = true → (byM p.m q.m).comb (byR (kinds p.l) (kinds q.l)) ≠ .gen := by
  unfold seekM at h
  split at h
  · rename_i i' h1
    cases h
    obtain ⟨p, hp, e1, e2, hm, hb⟩ := seek2_some hg hl its k _ i h1
    have e3 := hk_inj e2
    refine ⟨p, hp, e1, hm, by simp [servesB, e3], fun j q hq ha hs hmq => ?_⟩
    by_cases he : p.m = q.m
    · have : byM p.m q.m = .eqv := by unfold byM; rw [if_pos he]
      rw [this, eqv_comb]
      exact hb j q hq ha (by rw [← he]; exact e2) hmq
    · have : byM p.m q.m ≠ .gen ∧ byM p.m q.m ≠ .eqv := by
        simp only [servesB, Bool.or_eq_true, decide_eq_true_eq, Bool.and_eq_true] at hs
        rcases hs with (e | e) | ⟨e, e'⟩
        · have hn : ¬ p.m = [] := fun x => he (x.trans e.symm)
          unfold byM; rw [if_neg he, if_neg hn, if_pos e]; simp
        · exact absurd (e3.trans e.symm) he
        · rw [e, e3, e']
          refine ⟨?_, ?_⟩ <;> simp [byM]
      revert this
      cases byM p.m q.m <;> cases byR (kinds p.l) (kinds q.l) <;> simp [Rel.comb]
  · rename_i h1
    split at h
    · rename_i i' h2
      cases h
      split at h2
      · rename_i hrm
        obtain ⟨p, hp, e1, e2, hm, hb⟩ := seek2_some hg hl its k _ i h2
        have e3 := hk_lit e2
        refine ⟨p, hp, e1, hm, by simp [servesB, e3, hrm], fun j q hq ha hs hmq => ?_⟩
        simp only [servesB, Bool.or_eq_true, decide_eq_true_eq, Bool.and_eq_true] at hs
        rcases hs with (e | e) | ⟨e, e'⟩
        · rw [e3, e, show byM [71, 69, 84] [] = .spc from rfl]
          exact comb_spc_ne _
        · have := seek2_none hg hl its k _ h1 q j hq ha (by rw [e])
          rw [this] at hmq; cases hmq
        · rw [e3, e, show byM [71, 69, 84] [71, 69, 84] = .eqv from rfl, eqv_comb]
          exact hb j q hq ha (by rw [e]; rfl) hmq
      · cases h2
    · rename_i h2
      obtain ⟨p, hp, e1, e2, hm, hb⟩ := seek2_some hg hl its k _ i h
      have e3 := hk_nil e2
      refine ⟨p, hp, e1, hm, by simp [servesB, e3], fun j q hq ha hs hmq => ?_⟩
      simp only [servesB, Bool.or_eq_true, decide_eq_true_eq, Bool.and_eq_true] at hs
      rcases hs with (e | e) | ⟨e, e'⟩
      · rw [e3, e, show byM [] [] = .eqv from rfl, eqv_comb]
        exact hb j q hq ha (by rw [e]; rfl) hmq
      · have := seek2_none hg hl its k _ h1 q j hq ha (by rw [e])
        rw [this] at hmq; cases hmq
      · rw [if_pos e'] at h2
        have := seek2_none hg hl its k _ h2 q j hq ha (by rw [e]; rfl)
        rw [this] at hmq; cases hmq

omit hl in
theorem beats_of (hpe : PeaceP ps) (rm : List UInt8) {i j : Nat} {p q : Pt} (hp : ps[i]? = some p) (hq : ps[j]? = some q) (hne : j ≠ i) (he : p.h = q.h)
    (m1 : Kd.mt (kinds p.l) its = true) (s1 : servesB p.m rm = true) (m2 : Kd.mt (kinds q.l) its = true) (s2 : servesB q.m rm = true)
    (hn : (byM p.m q.m).comb (byR (kinds p.l) (kinds q.l)) ≠ .gen) : Beats p q := by
  refine .inr ⟨he, ?_⟩
  have hc := hpe i j p q hp hq (fun e => hne e.symm)
  have hm := byM_meet p.m q.m rm s1 s2
  have hr := (Kd.says_byR (kinds p.l) (kinds q.l) its).2.2.2
  have hr2 : byR (kinds p.l) (kinds q.l) ≠ .dis := fun e => hr e ⟨m1, m2⟩
  unfold Pt.conf confB at hc
  rw [decide_eq_true he, Bool.true_and] at hc
  unfold Pt.rel
  unfold byBoth at hc ⊢
  rw [byPaths_good (hg i p hp) (hg j q hq)] at hc ⊢
  revert hc hm hr2 hn
  cases byM p.m q.m <;> cases byR (kinds p.l) (kinds q.l) <;> simp [Rel.comb, isConf]

theorem seekAll_some (hpe : PeaceP ps) (rm rh : List UInt8) (i : Nat) (h : seekAll leaf its rm rh = some i) : IsBest ps rm rh its i := by
  unfold seekAll at h
  have tk : ∀ q : Pt, q.takes rm rh its = true → Kd.mt (kinds q.l) its = true ∧ (q.h = [] ∨ q.h = rh) ∧ servesB q.m rm = true := by
    intro q hq
    simpa [Pt.takes, takesB, and_assoc] using hq
  split at h
  · rename_i i' h1
    cases h
    split at h1
    · cases h1
    · rename_i hrh
      obtain ⟨p, hp, e1, hm, hs, hb⟩ := seekM_some hg hl its rm _ i h1
      have e2 := hk_lit e1
      refine ⟨p, hp, by simp [Pt.takes, takesB, hm, hs, e2], fun j q hq hne ht => ?_⟩
      obtain ⟨q1, q2, q3⟩ := tk q ht
      rcases q2 with q2 | q2
      · exact .inl ⟨by rw [e2]; exact hrh, q2⟩
      · exact beats_of hg its hpe rm hp hq hne (e2.trans q2.symm) hm hs q1 q3 (hb j q hq (by rw [q2, ← e2, e1, e2]) q3 q1)
  · rename_i h1
    obtain ⟨p, hp, e1, hm, hs, hb⟩ := seekM_some hg hl its rm _ i h
    have e2 := hk_nil e1
    refine ⟨p, hp, by simp [Pt.takes, takesB, hm, hs, e2], fun j q hq hne ht => ?_⟩
    obtain ⟨q1, q2, q3⟩ := tk q ht
    by_cases hq0 : q.h = []
    · exact beats_of hg its hpe rm hp hq hne (e2.trans hq0.symm) hm hs q1 q3 (hb j q hq (by rw [hq0]; rfl) q3 q1)
    · exfalso
      have hqr : q.h = rh := q2.resolve_left hq0
      have hr0 : ¬ rh = [] := fun e => hq0 (hqr.trans e)
      rw [if_neg hr0] at h1
      have := seekM_none hg hl its rm _ h1 q j hq (by unfold hk; rw [hqr, if_neg hr0]) q3
      rw [this] at q1; cases q1

theorem seekAll_none (rm rh : List UInt8) (h : seekAll leaf its rm rh = none) (j : Nat) (q : Pt) (hq : ps[j]? = some q) : q.takes rm rh its = false := by
  cases ht : q.takes rm rh its
  · rfl
  · exfalso
    have tk : Kd.mt (kinds q.l) its = true ∧ (q.h = [] ∨ q.h = rh) ∧ servesB q.m rm = true := by
      simpa [Pt.takes, takesB, and_assoc] using ht
    obtain ⟨q1, q2, q3⟩ := tk
    unfold seekAll at h
    split at h
    · cases h
    · rename_i h1
      by_cases hq0 : q.h = []
      · have := seekM_none hg hl its rm _ h q j hq (by rw [hq0]; rfl) q3
        rw [this] at q1; cases q1
      · have hqr : q.h = rh := q2.resolve_left hq0
        have hr0 : ¬ rh = [] := fun e => hq0 (hqr.trans e)
        rw [if_neg hr0] at h1
        have := seekM_none hg hl its rm _ h1 q j hq (by unfold hk; rw [hqr, if_neg hr0]) q3
        rw [this] at q1; cases q1
end

/-! ### The way over the list -/

def isSpc : Rel → Bool
  | .spc => true
  | _ => false
theorem isSpc_iff (r : Rel) : isSpc r = true ↔ r = .spc := by cases r <;> simp [isSpc]

/-- spec.Best's test: p goes ahead of the best so far. -/
def aheadB (p b : Pt) : Bool := (!decide (p.h = []) && decide (b.h = [])) || (decide (p.h = b.h) && isSpc (p.rel b))

theorem aheadB_iff (p b : Pt) : aheadB p b = true ↔ Beats p b := by
  simp [aheadB, Beats, isSpc_iff]

/-- One round of spec.Best. -/
def bestStep (ps : List Pt) (rm rh : List UInt8) (its : List (List UInt8)) (best : Option Nat) (i : Nat) : Option Nat :=
  match ps[i]? with
  | none => best
  | some p => if p.takes rm rh its = false then best else
    match best with
    | none => some i
    | some b => match ps[b]? with
      | none => some b
      | some q => if aheadB p q = true then some i else some b

def bestL (ps : List Pt) (rm rh : List UInt8) (its : List (List UInt8)) (n : Nat) : Option Nat := (List.range n).foldl (bestStep ps rm rh its) none

theorem bestL_succ (ps : List Pt) (rm rh : List UInt8) (its : List (List UInt8)) (n : Nat) : bestL ps rm rh its (n + 1) = bestStep ps rm rh its (bestL ps rm rh its n) n := by
  unfold bestL
  rw [List.range_succ, List.foldl_append]; rfl

theorem bestL_taken (ps : List Pt) (rm rh : List UInt8) (its : List (List UInt8)) : ∀ n b, bestL ps rm rh its n = some b → b < n ∧ ∃ q, ps[b]? = some q ∧ q.takes rm rh its = true
  | 0, b, h => by cases h
  | n + 1, b, h => by
    rw [bestL_succ] at h
    unfold bestStep at h
    split at h
    · obtain ⟨x, y⟩ := bestL_taken ps rm rh its n b h; exact ⟨by omega, y⟩
    · rename_i p hp
      split at h
      · obtain ⟨x, y⟩ := bestL_taken ps rm rh its n b h; exact ⟨by omega, y⟩
      · rename_i ht
        have ht' : p.takes rm rh its = true := by simpa using ht
        split at h
        · cases h; exact ⟨by omega, p, hp, ht'⟩
        · rename_i b' hb'
          split at h
          · cases h
            obtain ⟨x, y⟩ := bestL_taken ps rm rh its n b hb'; exact ⟨by omega, y⟩
          · split at h
            · cases h; exact ⟨by omega, p, hp, ht'⟩
            · cases h
              obtain ⟨x, y⟩ := bestL_taken ps rm rh its n b hb'; exact ⟨by omega, y⟩

theorem bestL_found {ps : List Pt} {rm rh : List UInt8} {its : List (List UInt8)} (hg : AllGoodP ps) {i : Nat} (hb : IsBest ps rm rh its i) : ∀ n, i < n → bestL ps rm rh its n = some i
  | 0, h => by omega
  | n + 1, h => by
    obtain ⟨p, hp, ht, hall⟩ := hb
    rw [bestL_succ]
    by_cases hin : i = n
    · subst hin
      unfold bestStep
      rw [hp]
      simp only [ht]
      cases hbb : bestL ps rm rh its i with
      | none => rfl
      | some b =>
        obtain ⟨hlt, q, hq, hqt⟩ := bestL_taken ps rm rh its i b hbb
        have hbt := (aheadB_iff p q).2 (hall b q hq (by omega) hqt)
        simp [hq, hbt]
    · have ih := bestL_found hg ⟨p, hp, ht, hall⟩ n (by omega)
      rw [ih]
      unfold bestStep
      cases hn : ps[n]? with
      | none => rfl
      | some q =>
        simp only
        cases hqt : q.takes rm rh its
        · rfl
        · have hnb : aheadB q p = false := by
            cases hx : aheadB q p
            · rfl
            · exact (beats_anti (hg i p hp) (hg n q hn) (hall n q hn (fun e => hin e.symm) hqt) ((aheadB_iff q p).1 hx)).elim
          simp [hp, hnb]

theorem bestL_none {ps : List Pt} {rm rh : List UInt8} {its : List (List UInt8)} (h : ∀ (j : Nat) (q : Pt), ps[j]? = some q → q.takes rm rh its = false) : ∀ n, bestL ps rm rh its n = none
  | 0 => rfl
  | n + 1 => by
    rw [bestL_succ, bestL_none h n]
    unfold bestStep
    cases hn : ps[n]? with
    | none => rfl
    | some q => simp [h n q hn]
end Go.Proofs.YtgkhfcoieknjeaaDoor
