/-
  Proved, in plain words of lists: the relationship of two patterns' pieces, piece by piece and in its recursive form, is symmetric, transitive and sound for the paths that the patterns match.
-/
import Derived.Test.YtkfokofccakagaaDoorRel
namespace Go.Proofs.YtkfokofccakagaaDoor

/-- What a piece of a pattern stands for. -/
inductive Kd where
  | lit (s : List UInt8)
  | one
  | rest

namespace Kd
/-- The relationship of two pieces. -/
def by2 : Kd → Kd → Rel
  | rest, rest => .eqv
  | rest, _ => .gen
  | _, rest => .spc
  | one, one => .eqv
  | one, lit s => if s = [47] then .dis else .gen
  | lit s, one => if s = [47] then .dis else .spc
  | lit a, lit b => if a = b then .eqv else .dis

def isRest : Kd → Bool
  | rest => true
  | _ => false

/-- The last piece stands for all that is left. -/
def lastRest (l : List Kd) : Bool := match l.getLast? with
  | some k => k.isRest
  | none => false

/-- The pieces that stand side by side. -/
def fold2 : List Kd → List Kd → Rel
  | a :: p, b :: q => (by2 a b).comb (fold2 p q)
  | _, _ => .eqv

/-- The relationship of two lists of pieces. -/
def byPaths (p q : List Kd) : Rel :=
  if p.length = q.length then fold2 p q
  else if p.length < q.length then (if lastRest p then (fold2 p q).comb .gen else .dis)
  else (if lastRest q then (fold2 p q).comb .spc else .dis)

/-- The same, in its recursive form. -/
def byR : List Kd → List Kd → Rel
  | [], [] => .eqv
  | [], _ :: _ => .dis
  | _ :: _, [] => .dis
  | rest :: _, rest :: _ => .eqv
  | rest :: _, _ :: _ => .gen
  | _ :: _, rest :: _ => .spc
  | a :: p, b :: q => (by2 a b).comb (byR p q)

/-- What stands for all that is left is the last piece. -/
def okL : List Kd → Prop
  | [] => True
  | [_] => True
  | rest :: _ :: _ => False
  | _ :: r => okL r

theorem okL_tail {a : Kd} {p : List Kd} (h : okL (a :: p)) : okL p := by
  cases p with
  | nil => trivial
  | cons b r => cases a <;> first | exact h | exact h.elim

theorem okL_rest {p : List Kd} (h : okL (rest :: p)) : p = [] := by
  cases p with
  | nil => rfl
  | cons b r => exact h.elim

theorem comb_gen_dis (a : Rel) : a.comb .dis = .dis := by cases a <;> rfl
theorem comb_eqv (a : Rel) : a.comb .eqv = a := by cases a <;> rfl
theorem eqv_comb (a : Rel) : Rel.eqv.comb a = a := by cases a <;> rfl
theorem lastRest_cons (a b : Kd) (p : List Kd) : lastRest (a :: b :: p) = lastRest (b :: p) := by
  unfold lastRest
  rw [List.getLast?_cons_cons]

theorem fold2_nil_right (p : List Kd) : fold2 p [] = .eqv := by cases p <;> rfl
theorem fold2_nil_left (q : List Kd) : fold2 [] q = .eqv := by cases q <;> rfl

theorem byPaths_step (a b : Kd) (p q : List Kd) (h1 : okL (a :: p)) (h2 : okL (b :: q)) (ha : a ≠ rest) (hb : b ≠ rest) : byPaths (a :: p) (b :: q) = (by2 a b).comb (byPaths p q) := by
  have hf : fold2 (a :: p) (b :: q) = (by2 a b).comb (fold2 p q) := rfl
  have hlp : lastRest (a :: p) = lastRest p := by
    cases p with
    | nil => cases a <;> first | rfl | exact absurd rfl ha
    | cons x r => exact lastRest_cons a x r
  have hlq : lastRest (b :: q) = lastRest q := by
    cases q with
    | nil => cases b <;> first | rfl | exact absurd rfl hb
    | cons x r => exact lastRest_cons b x r
  unfold byPaths
  simp only [List.length_cons, Nat.add_right_cancel_iff, Nat.add_lt_add_iff_right, hf, hlp, hlq]
  split
  · rfl
  · split
    · split
      · exact Rel.comb_assoc _ _ _
      · exact (comb_gen_dis _).symm
    · split
      · exact Rel.comb_assoc _ _ _
      · exact (comb_gen_dis _).symm

theorem byPaths_byR : ∀ (p q : List Kd), okL p → okL q → p ≠ [] → q ≠ [] → byPaths p q = byR p q ∧ byR p.tail q.tail = byPaths p.tail q.tail
  | [], _, _, _, h, _ => absurd rfl h
  | _, [], _, _, _, h => absurd rfl h
  | a :: p, b :: q, h1, h2, _, _ => by
    have hnil : ∀ l : List Kd, okL l → l ≠ [] → byPaths [] l = .dis := by
      intro l _ hl
      unfold byPaths
      have : l.length ≠ 0 := fun e => hl (List.eq_nil_of_length_eq_zero e)
      rw [if_neg (by simp; omega), if_pos (by simp; omega)]
      rfl
    have hnil2 : ∀ l : List Kd, okL l → l ≠ [] → byPaths l [] = .dis := by
      intro l _ hl
      unfold byPaths
      have : l.length ≠ 0 := fun e => hl (List.eq_nil_of_length_eq_zero e)
      rw [if_neg (by simpa using this), if_neg (by simp)]
      rfl
    have ht : byR p q = byPaths p q := by
      cases p with
      | nil => cases q with
        | nil => rfl
        | cons y s => rw [hnil _ (okL_tail h2) (by simp)]; rfl
      | cons x r => cases q with
        | nil => rw [hnil2 _ (okL_tail h1) (by simp)]; cases x <;> rfl
        | cons y s => exact (byPaths_byR (x :: r) (y :: s) (okL_tail h1) (okL_tail h2) (by simp) (by simp)).1.symm
    refine ⟨?_, ht⟩
    by_cases ha : a = rest
    · subst ha
      have hp := okL_rest h1
      subst hp
      by_cases hb : b = rest
      · subst hb
        have hq := okL_rest h2
        subst hq
        rfl
      · have e1 : byR [rest] (b :: q) = .gen := by cases b <;> first | rfl | exact absurd rfl hb
        have e2 : by2 rest b = .gen := by cases b <;> first | rfl | exact absurd rfl hb
        rw [e1]
        unfold byPaths
        cases q with
        | nil => simp [fold2, e2]; rfl
        | cons y s =>
          rw [if_neg (by simp), if_pos (by simp)]
          simp [fold2, e2, lastRest, isRest]
          rfl
    · by_cases hb : b = rest
      · subst hb
        have hq := okL_rest h2
        subst hq
        have e1 : byR (a :: p) [rest] = .spc := by cases a <;> first | rfl | exact absurd rfl ha
        have e2 : by2 a rest = .spc := by cases a <;> first | rfl | exact absurd rfl ha
        rw [e1]
        unfold byPaths
        cases p with
        | nil => simp [fold2, e2]; rfl
        | cons y s =>
          rw [if_neg (by simp), if_neg (by simp)]
          simp [fold2, e2, lastRest, isRest]
          rfl
      · rw [byPaths_step a b p q h1 h2 ha hb, ← ht]
        cases a <;> cases b <;> first | rfl | exact absurd rfl ha | exact absurd rfl hb

theorem byPaths_eq (p q : List Kd) (h1 : okL p) (h2 : okL q) (n1 : p ≠ []) (n2 : q ≠ []) : byPaths p q = byR p q := (byPaths_byR p q h1 h2 n1 n2).1

theorem byR_step (a b : Kd) (p q : List Kd) (ha : a ≠ rest) (hb : b ≠ rest) : byR (a :: p) (b :: q) = (by2 a b).comb (byR p q) := by
  cases a <;> cases b <;> first | rfl | exact absurd rfl ha | exact absurd rfl hb
theorem byR_rest_left (b : Kd) (p q : List Kd) (hb : b ≠ rest) : byR (rest :: p) (b :: q) = .gen := by
  cases b <;> first | rfl | exact absurd rfl hb
theorem byR_rest_right (a : Kd) (p q : List Kd) (ha : a ≠ rest) : byR (a :: p) (rest :: q) = .spc := by
  cases a <;> first | rfl | exact absurd rfl ha

theorem inv_comb (a b : Rel) : (a.comb b).inv = a.inv.comb b.inv := by cases a <;> cases b <;> rfl

theorem by2_inv (a b : Kd) : by2 b a = (by2 a b).inv := by
  cases a <;> cases b <;> try rfl
  · rename_i s t
    show (if t = s then Rel.eqv else Rel.dis) = (if s = t then Rel.eqv else Rel.dis).inv
    by_cases h : s = t
    · rw [if_pos h, if_pos h.symm]; rfl
    · rw [if_neg h, if_neg fun e => h e.symm]; rfl
  · rename_i s
    show (if s = [47] then Rel.dis else Rel.gen) = (if s = [47] then Rel.dis else Rel.spc).inv
    by_cases h : s = [47]
    · rw [if_pos h, if_pos h]; rfl
    · rw [if_neg h, if_neg h]; rfl
  · rename_i s
    show (if s = [47] then Rel.dis else Rel.spc) = (if s = [47] then Rel.dis else Rel.gen).inv
    by_cases h : s = [47]
    · rw [if_pos h, if_pos h]; rfl
    · rw [if_neg h, if_neg h]; rfl

theorem byR_inv : ∀ p q : List Kd, byR q p = (byR p q).inv
  | [], [] => rfl
  | [], b :: q => by cases b <;> rfl
  | a :: p, [] => by cases a <;> rfl
  | a :: p, b :: q => by
    by_cases ha : a = rest
    · subst ha
      by_cases hb : b = rest
      · subst hb; rfl
      · rw [byR_rest_left b p q hb, byR_rest_right b q p hb]; rfl
    · by_cases hb : b = rest
      · subst hb
        rw [byR_rest_left a q p ha, byR_rest_right a p q ha]; rfl
      · rw [byR_step a b p q ha hb, byR_step b a q p hb ha, inv_comb, ← by2_inv, ← byR_inv p q]

theorem by2_self (a : Kd) : by2 a a = .eqv := by cases a <;> simp [by2]

theorem byR_self : ∀ p : List Kd, byR p p = .eqv
  | [] => rfl
  | a :: p => by
    by_cases ha : a = rest
    · subst ha; rfl
    · rw [byR_step a a p p ha ha, by2_self, byR_self p]; rfl

theorem by2_eqv {a b : Kd} (h : by2 a b = .eqv) : a = b := by
  cases a <;> cases b <;> simp [by2] at h <;> first | rfl | (split at h <;> cases h) | simp [h]

theorem comb_eqv_iff {a b : Rel} (h : a.comb b = .eqv) : a = .eqv ∧ b = .eqv := by
  cases a <;> cases b <;> first | exact ⟨rfl, rfl⟩ | cases h

theorem byR_eqv : ∀ p q : List Kd, okL p → okL q → byR p q = .eqv → p = q
  | [], [], _, _, _ => rfl
  | [], b :: q, _, _, h => by cases b <;> cases h
  | a :: p, [], _, _, h => by cases a <;> cases h
  | a :: p, b :: q, h1, h2, h => by
    by_cases ha : a = rest
    · subst ha
      by_cases hb : b = rest
      · subst hb
        rw [okL_rest h1, okL_rest h2]
      · rw [byR_rest_left b p q hb] at h; cases h
    · by_cases hb : b = rest
      · subst hb
        rw [byR_rest_right a p q ha] at h; cases h
      · rw [byR_step a b p q ha hb] at h
        obtain ⟨x, y⟩ := comb_eqv_iff h
        rw [by2_eqv x, byR_eqv p q (okL_tail h1) (okL_tail h2) y]

/-- As special, or more. -/
def le (r : Rel) : Prop := r = .eqv ∨ r = .spc

theorem le_comb {a b : Rel} : le (a.comb b) ↔ le a ∧ le b := by
  unfold le
  cases a <;> cases b <;> simp [Rel.comb]

theorem le_by2 {a b c : Kd} (h1 : le (by2 a b)) (h2 : le (by2 b c)) : le (by2 a c) := by
  unfold le at *
  cases a <;> cases b <;> cases c <;> simp [by2] at h1 h2 ⊢ <;> (try (split at h1 <;> simp at h1)) <;> (try (split at h2 <;> simp at h2)) <;> simp_all

theorem le_byR : ∀ p q z : List Kd, le (byR p q) → le (byR q z) → le (byR p z)
  | [], [], z, _, h => h
  | [], b :: q, z, h, _ => by cases b <;> simp [byR, le] at h
  | a :: p, [], z, h, _ => by cases a <;> simp [byR, le] at h
  | a :: p, b :: q, [], _, h => by cases b <;> simp [byR, le] at h
  | a :: p, b :: q, c :: z, h1, h2 => by
    by_cases hc : c = rest
    · subst hc
      by_cases ha : a = rest
      · subst ha; exact .inl rfl
      · rw [byR_rest_right a p z ha]; exact .inr rfl
    · by_cases hb : b = rest
      · subst hb
        rw [byR_rest_left c q z hc] at h2
        simp [le] at h2
      · by_cases ha : a = rest
        · subst ha
          rw [byR_rest_left b p q hb] at h1
          simp [le] at h1
        · rw [byR_step a b p q ha hb, le_comb] at h1
          rw [byR_step b c q z hb hc, le_comb] at h2
          rw [byR_step a c p z ha hc, le_comb]
          exact ⟨le_by2 h1.1 h2.1, le_byR p q z h1.2 h2.2⟩

theorem byR_trans (p q z : List Kd) (hp : okL p) (hz : okL z) (h1 : byR p q = .spc) (h2 : byR q z = .spc ∨ byR q z = .eqv) : byR p z = .spc := by
  have h := le_byR p q z (.inr h1) (h2.elim .inr .inl)
  rcases h with h | h
  · exfalso
    have e := byR_eqv p z hp hz h
    subst e
    rw [byR_inv p q, h1] at h2
    rcases h2 with h2 | h2 <;> cases h2
  · exact h

/-- Pieces match pieces of a path. -/
def mt : List Kd → List (List UInt8) → Bool
  | [], [] => true
  | [], _ :: _ => false
  | _ :: _, [] => false
  | rest :: _, _ :: _ => true
  | one :: p, x :: r => decide (x ≠ [47]) && mt p r
  | lit s :: p, x :: r => decide (s = x) && mt p r

def mt1 : Kd → List UInt8 → Bool
  | rest, _ => true
  | one, x => decide (x ≠ [47])
  | lit s, x => decide (s = x)

theorem mt_step (a : Kd) (p : List Kd) (x : List UInt8) (r : List (List UInt8)) (ha : a ≠ rest) : mt (a :: p) (x :: r) = (mt1 a x && mt p r) := by
  cases a <;> first | rfl | exact absurd rfl ha

/-- What a relationship says of two tests. -/
def Says (r : Rel) (a b : Bool) : Prop := (r = .eqv → a = b) ∧ (r = .gen → b = true → a = true) ∧ (r = .spc → a = true → b = true) ∧ (r = .dis → ¬ (a = true ∧ b = true))

theorem says_comb {r s : Rel} {a b c d : Bool} (h1 : Says r a b) (h2 : Says s c d) : Says (r.comb s) (a && c) (b && d) := by
  unfold Says at *
  cases r <;> cases s <;> cases a <;> cases b <;> cases c <;> cases d <;> simp [Rel.comb] at h1 h2 ⊢

theorem says_by2 (a b : Kd) (x : List UInt8) : Says (by2 a b) (mt1 a x) (mt1 b x) := by
  unfold Says
  cases a <;> cases b <;> simp [by2, mt1]
  · rename_i s t
    by_cases h : s = t
    · simp [h]
    · simp [h]
      intro h1 h2
      exact h (h1.trans h2.symm)
  · rename_i s
    by_cases h : s = [47]
    · simp [h]
      intro e; exact e.symm
    · simp [h]
      rintro rfl; exact h
  · rename_i s
    by_cases h : s = [47]
    · simp [h]
      intro e e2; exact e e2.symm
    · simp [h]
      rintro rfl; exact h

theorem says_byR : ∀ (p q : List Kd) (it : List (List UInt8)), Says (byR p q) (mt p it) (mt q it)
  | [], [], it => by simp [Says, byR]
  | [], b :: q, it => by cases it <;> cases b <;> simp [Says, byR, mt]
  | a :: p, [], it => by cases it <;> cases a <;> simp [Says, byR, mt]
  | a :: p, b :: q, [] => by
    have e1 : mt (a :: p) [] = false := by cases a <;> rfl
    have e2 : mt (b :: q) [] = false := by cases b <;> rfl
    simp [Says, e1, e2]
  | a :: p, b :: q, x :: r => by
    by_cases ha : a = rest
    · subst ha
      by_cases hb : b = rest
      · subst hb; simp [Says, byR, mt]
      · rw [byR_rest_left b p q hb]; simp [Says, mt]
    · by_cases hb : b = rest
      · subst hb
        rw [byR_rest_right a p q ha]; simp [Says, mt]
      · rw [byR_step a b p q ha hb, mt_step a p x r ha, mt_step b q x r hb]
        exact says_comb (says_by2 a b x) (says_byR p q r)
end Kd
end Go.Proofs.YtkfokofccakagaaDoor
