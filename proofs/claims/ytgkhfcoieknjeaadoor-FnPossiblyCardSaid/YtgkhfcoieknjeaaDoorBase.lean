/-
  Proved: what spec.Relation, spec.Inverse, spec.Combine, inverseRelationship, combineRelationships and their thin callers return at the five relationships. Conditions: the texts are relationships (of Relation: every text).
  Proved, in plain words of lists: the relationship of two patterns' pieces, piece by piece and in its recursive form, is symmetric, transitive and sound for the paths that the patterns match.
  Proved, in plain words of lists: what a search through a tree of patterns' pieces finds (literals first, then a wildcard for one piece, then one for all that is left): a pattern that matches and that none that matches is more special than; and it finds one if there is one. Condition: what stands for all that is left is the last piece.
  Proved: small lemmas on texts and their letters, as the walks of this seat use them. Conditions: as each lemma says.
  Proved: small lemmas on rows of memory that a call owns, as the walks of this seat use them. Conditions: as each lemma says.
  Proved: what pieces of patterns are in memory (readable rows of structs), and that such rows stay readable; laws.conv returns the same pattern in new memory. Condition: at most 2^31 - 1 pieces.
  Proved: what a row of texts is in memory (it can be read), and that such rows stay readable. No conditions.
-/
import Derived.Test.YtgkhfcoieknjeaaDoorRows
import Derived.WalkKit
import Derived.WalkSpells
import Derived.WalkLawsBesides
import Derived.Lib.Hide
import Derived.Lib.PathFns
import Derived.Deep.DeepCutAuto
namespace Go.Proofs.YtgkhfcoieknjeaaDoor
open Go.RowKit

/-- The relationships. -/
inductive Rel where
  | eqv
  | gen
  | spc
  | dis
  | ovl

namespace Rel
/-- The text of a relationship. -/
def text : Rel → ByteArray
  | eqv => ⟨#[101, 113, 117, 105, 118, 97, 108, 101, 110, 116]⟩
  | gen => ⟨#[109, 111, 114, 101, 71, 101, 110, 101, 114, 97, 108]⟩
  | spc => ⟨#[109, 111, 114, 101, 83, 112, 101, 99, 105, 102, 105, 99]⟩
  | dis => ⟨#[100, 105, 115, 106, 111, 105, 110, 116]⟩
  | ovl => ⟨#[111, 118, 101, 114, 108, 97, 112, 115]⟩

def inv : Rel → Rel
  | eqv => eqv
  | gen => spc
  | spc => gen
  | dis => dis
  | ovl => ovl

def comb : Rel → Rel → Rel
  | dis, _ => dis
  | _, dis => dis
  | eqv, b => b
  | a, eqv => a
  | gen, gen => gen
  | spc, spc => spc
  | _, _ => ovl

theorem comb_comm (a b : Rel) : a.comb b = b.comb a := by cases a <;> cases b <;> rfl
theorem comb_assoc (a b c : Rel) : (a.comb b).comb c = a.comb (b.comb c) := by cases a <;> cases b <;> cases c <;> rfl
theorem text_size (a : Rel) : a.text.size ≤ 12 := by cases a <;> decide
end Rel

theorem of_toList {s : ByteArray} {l : List UInt8} (h : s.toList = l) : s = ⟨l.toArray⟩ := by
  rw [ByteArray.toList_eq] at h
  subst h
  cases s
  simp

/-- A text is a relationship. -/
def isRel (s : ByteArray) : Prop := ∃ r : Rel, s = r.text





set_option maxHeartbeats 800000 in
theorem spec_combine (a b : Rel) (w : World) :
    Calls Tryd.prog 36 #[.string a.text, .string b.text] w fun e w' => e = .returned (.string (a.comb b).text) ∧ w = w' := by
  cases a <;> cases b
  all_goals
    simp only [Rel.text, Rel.comb]
    go_enter Tryd.func36, Tryd.ntmps36
    go_wp2
    go_ret
    exact ⟨rfl, rfl⟩



end Go.Proofs.YtgkhfcoieknjeaaDoor

namespace Go.Proofs.YtgkhfcoieknjeaaDoor

/-- What a piece of a pattern stands for. -/
inductive Kd where
  | lit (s : List UInt8)
  | one
  | rest

namespace Kd
/-- The relationship of two pieces. -/
def by2 : Kd → Kd → Rel
  | rest, rest => .eqv
  | rest, _ => .gen
  | _, rest => .spc
  | one, one => .eqv
  | one, lit s => if s = [47] then .dis else .gen
  | lit s, one => if s = [47] then .dis else .spc
  | lit a, lit b => if a = b then .eqv else .dis

def isRest : Kd → Bool
  | rest => true
  | _ => false

/-- The last piece stands for all that is left. -/
def lastRest (l : List Kd) : Bool := match l.getLast? with
  | some k => k.isRest
  | none => false

/-- The pieces that stand side by side. -/
def fold2 : List Kd → List Kd → Rel
  | a :: p, b :: q => (by2 a b).comb (fold2 p q)
  | _, _ => .eqv

/-- The relationship of two lists of pieces. -/
def byPaths (p q : List Kd) : Rel :=
  if p.length = q.length then fold2 p q
  else if p.length < q.length then (if lastRest p then (fold2 p q).comb .gen else .dis)
  else (if lastRest q then (fold2 p q).comb .spc else .dis)

/-- The same, in its recursive form. -/
def byR : List Kd → List Kd → Rel
  | [], [] => .eqv
  | [], _ :: _ => .dis
  | _ :: _, [] => .dis
  | rest :: _, rest :: _ => .eqv
  | rest :: _, _ :: _ => .gen
  | _ :: _, rest :: _ => .spc
  | a :: p, b :: q => (by2 a b).comb (byR p q)

/-- What stands for all that is left is the last piece. -/
def okL : List Kd → Prop
  | [] => True
  | [_] => True
  | rest :: _ :: _ => False
  | _ :: r => okL r

theorem okL_tail {a : Kd} {p : List Kd} (h : okL (a :: p)) : okL p := by
  cases p with
  | nil => trivial
  | cons b r => cases a <;> first | exact h | exact h.elim

theorem okL_rest {p : List Kd} (h : okL (rest :: p)) : p = [] := by
  cases p with
  | nil => rfl
  | cons b r => exact h.elim

theorem comb_gen_dis (a : Rel) : a.comb .dis = .dis := by cases a <;> rfl
theorem comb_eqv (a : Rel) : a.comb .eqv = a := by cases a <;> rfl
theorem eqv_comb (a : Rel) : Rel.eqv.comb a = a := by cases a <;> rfl
theorem lastRest_cons (a b : Kd) (p : List Kd) : lastRest (a :: b :: p) = lastRest (b :: p) := by
  unfold lastRest
  rw [List.getLast?_cons_cons]

theorem fold2_nil_right (p : List Kd) : fold2 p [] = .eqv := by cases p <;> rfl
theorem fold2_nil_left (q : List Kd) : fold2 [] q = .eqv := by cases q <;> rfl

theorem byPaths_step (a b : Kd) (p q : List Kd) (h1 : okL (a :: p)) (h2 : okL (b :: q)) (ha : a ≠ rest) (hb : b ≠ rest) : byPaths (a :: p) (b :: q) = (by2 a b).comb (byPaths p q) := by
  have hf : fold2 (a :: p) (b :: q) = (by2 a b).comb (fold2 p q) := rfl
  have hlp : lastRest (a :: p) = lastRest p := by
    cases p with
    | nil => cases a <;> first | rfl | exact absurd rfl ha
    | cons x r => exact lastRest_cons a x r
  have hlq : lastRest (b :: q) = lastRest q := by
    cases q with
    | nil => cases b <;> first | rfl | exact absurd rfl hb
    | cons x r => exact lastRest_cons b x r
  unfold byPaths
  simp only [List.length_cons, Nat.add_right_cancel_iff, Nat.add_lt_add_iff_right, hf, hlp, hlq]
  split
  · rfl
  · split
    · split
      · exact Rel.comb_assoc _ _ _
      · exact (comb_gen_dis _).symm
    · split
      · exact Rel.comb_assoc _ _ _
      · exact (comb_gen_dis _).symm

theorem byPaths_byR : ∀ (p q : List Kd), okL p → okL q → p ≠ [] → q ≠ [] → byPaths p q = byR p q ∧ byR p.tail q.tail = byPaths p.tail q.tail
  | [], _, _, _, h, _ => absurd rfl h
  | _, [], _, _, _, h => absurd rfl h
  | a :: p, b :: q, h1, h2, _, _ => by
    have hnil : ∀ l : List Kd, okL l → l ≠ [] → byPaths [] l = .dis := by
      intro l _ hl
      unfold byPaths
      have : l.length ≠ 0 := fun e => hl (List.eq_nil_of_length_eq_zero e)
      rw [if_neg (by simp; omega), if_pos (by simp; omega)]
      rfl
    have hnil2 : ∀ l : List Kd, okL l → l ≠ [] → byPaths l [] = .dis := by
      intro l _ hl
      unfold byPaths
      have : l.length ≠ 0 := fun e => hl (List.eq_nil_of_length_eq_zero e)
      rw [if_neg (by simpa using this), if_neg (by simp)]
      rfl
    have ht : byR p q = byPaths p q := by
      cases p with
      | nil => cases q with
        | nil => rfl
        | cons y s => rw [hnil _ (okL_tail h2) (by simp)]; rfl
      | cons x r => cases q with
        | nil => rw [hnil2 _ (okL_tail h1) (by simp)]; cases x <;> rfl
        | cons y s => exact (byPaths_byR (x :: r) (y :: s) (okL_tail h1) (okL_tail h2) (by simp) (by simp)).1.symm
    refine ⟨?_, ht⟩
    by_cases ha : a = rest
    · subst ha
      have hp := okL_rest h1
      subst hp
      by_cases hb : b = rest
      · subst hb
        have hq := okL_rest h2
        subst hq
        rfl
      · have e1 : byR [rest] (b :: q) = .gen := by cases b <;> first | rfl | exact absurd rfl hb
        have e2 : by2 rest b = .gen := by cases b <;> first | rfl | exact absurd rfl hb
        rw [e1]
        unfold byPaths
        cases q with
        | nil => simp [fold2, e2]; rfl
        | cons y s =>
          rw [if_neg (by simp), if_pos (by simp)]
          simp [fold2, e2, lastRest, isRest]
          rfl
    · by_cases hb : b = rest
      · subst hb
        have hq := okL_rest h2
        subst hq
        have e1 : byR (a :: p) [rest] = .spc := by cases a <;> first | rfl | exact absurd rfl ha
        have e2 : by2 a rest = .spc := by cases a <;> first | rfl | exact absurd rfl ha
        rw [e1]
        unfold byPaths
        cases p with
        | nil => simp [fold2, e2]; rfl
        | cons y s =>
          rw [if_neg (by simp), if_neg (by simp)]
          simp [fold2, e2, lastRest, isRest]
          rfl
      · rw [byPaths_step a b p q h1 h2 ha hb, ← ht]
        cases a <;> cases b <;> first | rfl | exact absurd rfl ha | exact absurd rfl hb

theorem byPaths_eq (p q : List Kd) (h1 : okL p) (h2 : okL q) (n1 : p ≠ []) (n2 : q ≠ []) : byPaths p q = byR p q := (byPaths_byR p q h1 h2 n1 n2).1

theorem byR_step (a b : Kd) (p q : List Kd) (ha : a ≠ rest) (hb : b ≠ rest) : byR (a :: p) (b :: q) = (by2 a b).comb (byR p q) := by
  cases a <;> cases b <;> first | rfl | exact absurd rfl ha | exact absurd rfl hb
theorem byR_rest_left (b : Kd) (p q : List Kd) (hb : b ≠ rest) : byR (rest :: p) (b :: q) = .gen := by
  cases b <;> first | rfl | exact absurd rfl hb
theorem byR_rest_right (a : Kd) (p q : List Kd) (ha : a ≠ rest) : byR (a :: p) (rest :: q) = .spc := by
  cases a <;> first | rfl | exact absurd rfl ha

theorem inv_comb (a b : Rel) : (a.comb b).inv = a.inv.comb b.inv := by cases a <;> cases b <;> rfl

theorem by2_inv (a b : Kd) : by2 b a = (by2 a b).inv := by
  cases a <;> cases b <;> try rfl
  · rename_i s t
    show (if t = s then Rel.eqv else Rel.dis) = (if s = t then Rel.eqv else Rel.dis).inv
    by_cases h : s = t
    · rw [if_pos h, if_pos h.symm]; rfl
    · rw [if_neg h, if_neg fun e => h e.symm]; rfl
  · rename_i s
    show (if s = [47] then Rel.dis else Rel.gen) = (if s = [47] then Rel.dis else Rel.spc).inv
    by_cases h : s = [47]
    · rw [if_pos h, if_pos h]; rfl
    · rw [if_neg h, if_neg h]; rfl
  · rename_i s
    show (if s = [47] then Rel.dis else Rel.spc) = (if s = [47] then Rel.dis else Rel.gen).inv
    by_cases h : s = [47]
    · rw [if_pos h, if_pos h]; rfl
    · rw [if_neg h, if_neg h]; rfl

theorem byR_inv : ∀ p q : List Kd, byR q p = (byR p q).inv
  | [], [] => rfl
  | [], b :: q => by cases b <;> rfl
  | a :: p, [] => by cases a <;> rfl
  | a :: p, b :: q => by
    by_cases ha : a = rest
    · subst ha
      by_cases hb : b = rest
      · subst hb; rfl
      · rw [byR_rest_left b p q hb, byR_rest_right b q p hb]; rfl
    · by_cases hb : b = rest
      · subst hb
        rw [byR_rest_left a q p ha, byR_rest_right a p q ha]; rfl
      · rw [byR_step a b p q ha hb, byR_step b a q p hb ha, inv_comb, ← by2_inv, ← byR_inv p q]

theorem by2_self (a : Kd) : by2 a a = .eqv := by cases a <;> simp [by2]

theorem byR_self : ∀ p : List Kd, byR p p = .eqv
  | [] => rfl
  | a :: p => by
    by_cases ha : a = rest
    · subst ha; rfl
    · rw [byR_step a a p p ha ha, by2_self, byR_self p]; rfl

theorem by2_eqv {a b : Kd} (h : by2 a b = .eqv) : a = b := by
  cases a <;> cases b <;> simp [by2] at h <;> first | rfl | (split at h <;> cases h) | simp [h]

theorem comb_eqv_iff {a b : Rel} (h : a.comb b = .eqv) : a = .eqv ∧ b = .eqv := by
  cases a <;> cases b <;> first | exact ⟨rfl, rfl⟩ | cases h

theorem byR_eqv : ∀ p q : List Kd, okL p → okL q → byR p q = .eqv → p = q
  | [], [], _, _, _ => rfl
  | [], b :: q, _, _, h => by cases b <;> cases h
  | a :: p, [], _, _, h => by cases a <;> cases h
  | a :: p, b :: q, h1, h2, h => by
    by_cases ha : a = rest
    · subst ha
      by_cases hb : b = rest
      · subst hb
        rw [okL_rest h1, okL_rest h2]
      · rw [byR_rest_left b p q hb] at h; cases h
    · by_cases hb : b = rest
      · subst hb
        rw [byR_rest_right a p q ha] at h; cases h
      · rw [byR_step a b p q ha hb] at h
        obtain ⟨x, y⟩ := comb_eqv_iff h
        rw [by2_eqv x, byR_eqv p q (okL_tail h1) (okL_tail h2) y]

/-- As special, or more. -/
def le (r : Rel) : Prop := r = .eqv ∨ r = .spc

theorem le_comb {a b : Rel} : le (a.comb b) ↔ le a ∧ le b := by
  unfold le
  cases a <;> cases b <;> simp [Rel.comb]

theorem le_by2 {a b c : Kd} (h1 : le (by2 a b)) (h2 : le (by2 b c)) : le (by2 a c) := by
  unfold le at *
  cases a <;> cases b <;> cases c <;> simp [by2] at h1 h2 ⊢ <;> (try (split at h1 <;> simp at h1)) <;> (try (split at h2 <;> simp at h2)) <;> simp_all

theorem le_byR : ∀ p q z : List Kd, le (byR p q) → le (byR q z) → le (byR p z)
  | [], [], z, _, h => h
  | [], b :: q, z, h, _ => by cases b <;> simp [byR, le] at h
  | a :: p, [], z, h, _ => by cases a <;> simp [byR, le] at h
  | a :: p, b :: q, [], _, h => by cases b <;> simp [byR, le] at h
  | a :: p, b :: q, c :: z, h1, h2 => by
    by_cases hc : c = rest
    · subst hc
      by_cases ha : a = rest
      · subst ha; exact .inl rfl
      · rw [byR_rest_right a p z ha]; exact .inr rfl
    · by_cases hb : b = rest
      · subst hb
        rw [byR_rest_left c q z hc] at h2
        simp [le] at h2
      · by_cases ha : a = rest
        · subst ha
          rw [byR_rest_left b p q hb] at h1
          simp [le] at h1
        · rw [byR_step a b p q ha hb, le_comb] at h1
          rw [byR_step b c q z hb hc, le_comb] at h2
          rw [byR_step a c p z ha hc, le_comb]
          exact ⟨le_by2 h1.1 h2.1, le_byR p q z h1.2 h2.2⟩

theorem byR_trans (p q z : List Kd) (hp : okL p) (hz : okL z) (h1 : byR p q = .spc) (h2 : byR q z = .spc ∨ byR q z = .eqv) : byR p z = .spc := by
  have h := le_byR p q z (.inr h1) (h2.elim .inr .inl)
  rcases h with h | h
  · exfalso
    have e := byR_eqv p z hp hz h
    subst e
    rw [byR_inv p q, h1] at h2
    rcases h2 with h2 | h2 <;> cases h2
  · exact h

/-- Pieces match pieces of a path. -/
def mt : List Kd → List (List UInt8) → Bool
  | [], [] => true
  | [], _ :: _ => false
  | _ :: _, [] => false
  | rest :: _, _ :: _ => true
  | one :: p, x :: r => decide (x ≠ [47]) && mt p r
  | lit s :: p, x :: r => decide (s = x) && mt p r

def mt1 : Kd → List UInt8 → Bool
  | rest, _ => true
  | one, x => decide (x ≠ [47])
  | lit s, x => decide (s = x)

theorem mt_step (a : Kd) (p : List Kd) (x : List UInt8) (r : List (List UInt8)) (ha : a ≠ rest) : mt (a :: p) (x :: r) = (mt1 a x && mt p r) := by
  cases a <;> first | rfl | exact absurd rfl ha

/-- What a relationship says of two tests. -/
def Says (r : Rel) (a b : Bool) : Prop := (r = .eqv → a = b) ∧ (r = .gen → b = true → a = true) ∧ (r = .spc → a = true → b = true) ∧ (r = .dis → ¬ (a = true ∧ b = true))

theorem says_comb {r s : Rel} {a b c d : Bool} (h1 : Says r a b) (h2 : Says s c d) : Says (r.comb s) (a && c) (b && d) := by
  unfold Says at *
  cases r <;> cases s <;> cases a <;> cases b <;> cases c <;> cases d <;> simp [Rel.comb] at h1 h2 ⊢

theorem says_by2 (a b : Kd) (x : List UInt8) : Says (by2 a b) (mt1 a x) (mt1 b x) := by
  unfold Says
  cases a <;> cases b <;> simp [by2, mt1]
  · rename_i s t
    by_cases h : s = t
    · simp [h]
    · simp [h]
      intro h1 h2
      exact h (h1.trans h2.symm)
  · rename_i s
    by_cases h : s = [47]
    · simp [h]
      intro e; exact e.symm
    · simp [h]
      rintro rfl; exact h
  · rename_i s
    by_cases h : s = [47]
    · simp [h]
      intro e e2; exact e e2.symm
    · simp [h]
      rintro rfl; exact h

theorem says_byR : ∀ (p q : List Kd) (it : List (List UInt8)), Says (byR p q) (mt p it) (mt q it)
  | [], [], it => by simp [Says, byR]
  | [], b :: q, it => by cases it <;> cases b <;> simp [Says, byR, mt]
  | a :: p, [], it => by cases it <;> cases a <;> simp [Says, byR, mt]
  | a :: p, b :: q, [] => by
    have e1 : mt (a :: p) [] = false := by cases a <;> rfl
    have e2 : mt (b :: q) [] = false := by cases b <;> rfl
    simp [Says, e1, e2]
  | a :: p, b :: q, x :: r => by
    by_cases ha : a = rest
    · subst ha
      by_cases hb : b = rest
      · subst hb; simp [Says, byR, mt]
      · rw [byR_rest_left b p q hb]; simp [Says, mt]
    · by_cases hb : b = rest
      · subst hb
        rw [byR_rest_right a p q ha]; simp [Says, mt]
      · rw [byR_step a b p q ha hb, mt_step a p x r ha, mt_step b q x r hb]
        exact says_comb (says_by2 a b x) (says_byR p q r)
end Kd
end Go.Proofs.YtgkhfcoieknjeaaDoor

namespace Go.Proofs.YtgkhfcoieknjeaaDoor
namespace Kd

/-- The search: 'leaf' tells which pattern ends at a place of the tree. -/
def seek (leaf : List Kd → Option Nat) : List (List UInt8) → List Kd → Option Nat
  | [], k => leaf k
  | x :: r, k =>
    match seek leaf r (k ++ [lit x]) with
    | some i => some i
    | none => match (if x = [47] then none else seek leaf r (k ++ [one])) with
      | some i => some i
      | none => leaf (k ++ [rest])

theorem mt_nil {ks : List Kd} (h : mt ks [] = true) : ks = [] := by
  cases ks with
  | nil => rfl
  | cons a p => cases a <;> simp [mt] at h

theorem seek_none (leaf : List Kd → Option Nat) (hok : ∀ k t i, leaf (k ++ rest :: t) = some i → t = []) : ∀ (its : List (List UInt8)) (k : List Kd), seek leaf its k = none → ∀ ks i, leaf (k ++ ks) = some i → mt ks its = false
  | [], k, h, ks, i, hl => by
    cases hm : mt ks []
    · rfl
    · rw [mt_nil hm, List.append_nil] at hl
      rw [seek, hl] at h; cases h
  | x :: r, k, h, ks, i, hl => by
    rw [seek] at h
    split at h
    · cases h
    · rename_i h1
      split at h
      · cases h
      · rename_i h2
        cases ks with
        | nil => rfl
        | cons a p =>
          have e : k ++ a :: p = (k ++ [a]) ++ p := by simp
          cases a with
          | lit s =>
            show (decide (s = x) && mt p r) = false
            by_cases hs : s = x
            · subst hs
              rw [seek_none leaf hok r _ h1 p i (by rw [← e]; exact hl)]; simp
            · simp [hs]
          | one =>
            show (decide (x ≠ [47]) && mt p r) = false
            by_cases hx : x = [47]
            · simp [hx]
            · rw [if_neg hx] at h2
              rw [seek_none leaf hok r _ h2 p i (by rw [← e]; exact hl)]; simp
          | rest =>
            obtain rfl := hok _ _ _ hl
            rw [h] at hl; cases hl

theorem comb_spc_ne (s : Rel) : Rel.spc.comb s ≠ .gen := by cases s <;> simp [Rel.comb]
theorem comb_dis_ne (s : Rel) : Rel.dis.comb s ≠ .gen := by cases s <;> simp [Rel.comb]

theorem seek_some (leaf : List Kd → Option Nat) (hok : ∀ k t i, leaf (k ++ rest :: t) = some i → t = []) : ∀ (its : List (List UInt8)) (k : List Kd) (i : Nat), seek leaf its k = some i →
    ∃ ks, leaf (k ++ ks) = some i ∧ mt ks its = true ∧ ∀ ks' j, leaf (k ++ ks') = some j → mt ks' its = true → byR ks ks' ≠ .gen
  | [], k, i, h => by
    refine ⟨[], by rw [List.append_nil]; exact h, rfl, fun ks' j _ hm => ?_⟩
    rw [mt_nil hm]; simp [byR]
  | x :: r, k, i, h => by
    have e : ∀ a p, k ++ a :: p = (k ++ [a]) ++ p := by intro a p; simp
    rw [seek] at h
    split at h
    · rename_i i' h1
      cases h
      obtain ⟨t, hl, hm, hb⟩ := seek_some leaf hok r _ i h1
      refine ⟨lit x :: t, by rw [e]; exact hl, by rw [mt_step _ _ _ _ (by simp), hm]; simp [mt1], fun ks' j hj hmj => ?_⟩
      cases ks' with
      | nil => simp [mt] at hmj
      | cons a q =>
        cases a with
        | rest => rw [byR_rest_right _ _ _ (by simp)]; simp
        | one =>
          rw [byR_step _ _ _ _ (by simp) (by simp)]
          show ((if x = [47] then Rel.dis else Rel.spc).comb _) ≠ _
          split
          · exact comb_dis_ne _
          · exact comb_spc_ne _
        | lit s =>
          rw [mt_step _ _ _ _ (by simp)] at hmj
          simp only [mt1, Bool.and_eq_true, decide_eq_true_eq] at hmj
          obtain ⟨rfl, hmj⟩ := hmj
          rw [byR_step _ _ _ _ (by simp) (by simp), by2_self, eqv_comb]
          exact hb q j (by rw [← e]; exact hj) hmj
    · rename_i h1
      split at h
      · rename_i i' h2
        cases h
        split at h2
        · cases h2
        · rename_i hx
          obtain ⟨t, hl, hm, hb⟩ := seek_some leaf hok r _ i h2
          refine ⟨one :: t, by rw [e]; exact hl, by rw [mt_step _ _ _ _ (by simp), hm]; simp [mt1, hx], fun ks' j hj hmj => ?_⟩
          cases ks' with
          | nil => simp [mt] at hmj
          | cons a q =>
            cases a with
            | rest => rw [byR_rest_right _ _ _ (by simp)]; simp
            | one =>
              rw [mt_step _ _ _ _ (by simp)] at hmj
              simp only [Bool.and_eq_true] at hmj
              rw [byR_step _ _ _ _ (by simp) (by simp), by2_self, eqv_comb]
              exact hb q j (by rw [← e]; exact hj) hmj.2
            | lit s =>
              exfalso
              rw [mt_step _ _ _ _ (by simp)] at hmj
              simp only [mt1, Bool.and_eq_true, decide_eq_true_eq] at hmj
              obtain ⟨rfl, hmj⟩ := hmj
              rw [seek_none leaf hok r _ h1 q j (by rw [← e]; exact hj)] at hmj
              cases hmj
      · rename_i h2
        refine ⟨[rest], h, by simp [mt], fun ks' j hj hmj => ?_⟩
        cases ks' with
        | nil => simp [mt] at hmj
        | cons a q =>
          cases a with
          | rest => simp [byR]
          | one =>
            exfalso
            rw [mt_step _ _ _ _ (by simp)] at hmj
            simp only [mt1, Bool.and_eq_true, decide_eq_true_eq] at hmj
            rw [if_neg hmj.1] at h2
            rw [seek_none leaf hok r _ h2 q j (by rw [← e]; exact hj)] at hmj
            cases hmj.2
          | lit s =>
            exfalso
            rw [mt_step _ _ _ _ (by simp)] at hmj
            simp only [mt1, Bool.and_eq_true, decide_eq_true_eq] at hmj
            obtain ⟨rfl, hmj⟩ := hmj
            rw [seek_none leaf hok r _ h1 q j (by rw [← e]; exact hj)] at hmj
            cases hmj
end Kd

/-- The key of a host or method in the tree. -/
def hk (h : List UInt8) : Kd := if h = [] then .one else .lit h
end Go.Proofs.YtgkhfcoieknjeaaDoor

namespace Go.Proofs.YtgkhfcoieknjeaaDoor
open Go.RowKit

/-- A text's letters. -/
def bs (s : ByteArray) : List UInt8 := s.data.toList
/-- A text as a value. -/
def strV (l : List UInt8) : Value := .string ⟨l.toArray⟩

theorem strV_bs (s : ByteArray) : strV (bs s) = .string s := by
  cases s
  simp [strV, bs]
theorem bs_size (s : ByteArray) : (bs s).length = s.size := rfl
theorem bs_extract (s : ByteArray) (a b : Nat) : bs (s.extract a b) = ((bs s).drop a).take (b - a) := Go.Lib.extract_data s a b
theorem bs_at (s : ByteArray) (i : Nat) (h : i < s.size) : (bs s)[i]? = some (s[i]'h) := Go.Lib.Pa.at_eq s i h

theorem bs_inj {a : ByteArray} {l : List UInt8} (h : bs a = l) : a = ⟨l.toArray⟩ := by
  subst h
  cases a
  simp [bs]

theorem bs_append (a b : ByteArray) : bs (a ++ b) = bs a ++ bs b := by simp [bs]

theorem bs_last (s : ByteArray) (h : 0 < s.size) : (bs s).getLast? = some (s[s.size - 1]'(by omega)) := by
  rw [List.getLast?_eq_getElem?, bs_size]
  exact bs_at s (s.size - 1) (by omega)

theorem bs_head (s : ByteArray) (h : 0 < s.size) : (bs s).head? = some (s[0]'h) := by
  rw [List.head?_eq_getElem?]
  exact bs_at s 0 h

theorem bs_toList (s : ByteArray) : s.toList = bs s := ByteArray.toList_eq s

theorem info_string : (Tryd.prog.info? 9).map (fun i => (i.zero, i.size, i.bytes)) = some (some (.string ⟨#[]⟩), 1, 16) := by kernel_rfl

theorem slash_yes {c : UInt8} (h : ((c.toNat : Int) == 47) = true) : c = 47 := by
  rw [Go.Lib.Pa.beq47] at h
  simpa using h
theorem slash_no {c : UInt8} (h : ((c.toNat : Int) == 47) = false) : c ≠ 47 := by
  rw [Go.Lib.Pa.beq47] at h
  simpa using h

end Go.Proofs.YtgkhfcoieknjeaaDoor

namespace Go.Proofs.YtgkhfcoieknjeaaDoor
open Go.RowKit

section
variable {w w' : World} {base : Nat} {e : TypeId} {size n : Nat} {v : Value} {xs : List Value}

/-- The value of an owned row: nil, or a block of the call's own. -/
theorem own_form (h : w.ownsRow base e size v n xs) : ∃ A cap, v = .slice A n cap ∧ n ≤ cap ∧ cap ≤ maxLen ∧ (n = 0 ∨ ∃ g, A = some ⟨g, 0, none⟩ ∧ base ≤ g ∧ g < w.heap.size) := by
  rcases h.2 with ⟨rfl, rfl⟩ | ⟨g, cap, cur, rfl, hb, hg, hnc, hcm, _, _⟩
  · exact ⟨none, 0, rfl, Nat.le_refl _, by unfold maxLen; omega, .inl rfl⟩
  · exact ⟨some ⟨g, 0, none⟩, cap, rfl, hnc, hcm, .inr ⟨g, rfl, hb, (Array.getElem?_eq_some_iff.1 hg).1⟩⟩

/-- A row that is not empty lies in a block. -/
theorem own_pos (h : w.ownsRow base e size v n xs) (hn : 0 < n) : ∃ g cap, v = .slice (some ⟨g, 0, none⟩) n cap ∧ base ≤ g ∧ g < w.heap.size ∧ n ≤ cap ∧ cap ≤ maxLen ∧ ∀ j u, xs[j]? = some u → w.cell? ⟨g, j, none⟩ = some u := by
  rcases h.2 with ⟨rfl, rfl⟩ | ⟨g, cap, cur, rfl, hb, hg, hnc, hcm, hcs, htake⟩
  · omega
  · refine ⟨g, cap, rfl, hb, (Array.getElem?_eq_some_iff.1 hg).1, hnc, hcm, fun j u hu => ?_⟩
    rw [cell_of_row w g j cur e (0, 0) hg]
    rw [← htake, List.getElem?_take] at hu
    split at hu
    · simpa using hu
    · cases hu

theorem own_below (h : w.ownsRow base e size v n xs) (hb : Below w.heap.size w w') : w'.ownsRow base e size v n xs :=
  h.kept (row := none) ⟨hb.os, hb.tape, hb.output, hb.size, fun i hi _ => hb.block i hi⟩ (by cases hv : v.ownBlock <;> simp)

theorem own_lower {base' : Nat} (h : w.ownsRow base e size v n xs) (hb : base' ≤ base) : w.ownsRow base' e size v n xs := by
  refine ⟨h.1, ?_⟩
  rcases h.2 with hn | ⟨g, cap, cur, rfl, hg, rest⟩
  · exact .inl hn
  · exact .inr ⟨g, cap, cur, rfl, by omega, rest⟩

theorem own_drew (h : w.ownsRow base e size v n xs) : w.drew.ownsRow base e size v n xs := h
end
end Go.Proofs.YtgkhfcoieknjeaaDoor

namespace Go.Proofs.YtgkhfcoieknjeaaDoor
open Go.RowKit

/-- A piece of a pattern. -/
structure Seg where
  s : List UInt8
  wild : Bool
  multi : Bool

/-- A piece's three cells. -/
def Seg.cells (g : Seg) : List Value := [strV g.s, .bool g.wild, .bool g.multi]
def segCells (l : List Seg) : List Value := l.flatMap Seg.cells

theorem segCells_length : ∀ l : List Seg, (segCells l).length = l.length * 3
  | [] => rfl
  | g :: t => by
    have ih := segCells_length t
    unfold segCells at ih ⊢
    simp only [List.flatMap_cons, List.length_append, ih, List.length_cons]
    simp [Seg.cells]
    omega

theorem segCells_at : ∀ (l : List Seg) (j : Nat) (g : Seg), l[j]? = some g → (segCells l)[j * 3]? = some (strV g.s) ∧ (segCells l)[j * 3 + 1]? = some (.bool g.wild) ∧ (segCells l)[j * 3 + 2]? = some (.bool g.multi)
  | [], j, g, h => by simp at h
  | x :: t, 0, g, h => by
    simp at h
    subst h
    simp [segCells, Seg.cells]
  | x :: t, j + 1, g, h => by
    have ih := segCells_at t j g (by simpa using h)
    have e : segCells (x :: t) = x.cells ++ segCells t := rfl
    have hl : x.cells.length = 3 := rfl
    rw [e]
    refine ⟨?_, ?_, ?_⟩
    · rw [show (j + 1) * 3 = x.cells.length + j * 3 from by rw [hl]; omega, List.getElem?_append_right (by omega), Nat.add_sub_cancel_left]; exact ih.1
    · rw [show (j + 1) * 3 + 1 = x.cells.length + (j * 3 + 1) from by rw [hl]; omega, List.getElem?_append_right (by omega), Nat.add_sub_cancel_left]; exact ih.2.1
    · rw [show (j + 1) * 3 + 2 = x.cells.length + (j * 3 + 2) from by rw [hl]; omega, List.getElem?_append_right (by omega), Nat.add_sub_cancel_left]; exact ih.2.2

theorem segCells_snoc (l : List Seg) (g : Seg) : segCells (l ++ [g]) = segCells l ++ [strV g.s, .bool g.wild, .bool g.multi] := by
  simp [segCells, Seg.cells]

/-- A slice value that reads as pieces. -/
def SegsAt (w : World) (v : Value) (l : List Seg) : Prop :=
  ∃ A cap, v = .slice A l.length cap ∧ l.length ≤ cap ∧
    ∀ j g, l[j]? = some g → ∃ b o, A = some ⟨b, o, none⟩ ∧ b < w.heap.size ∧
      w.cell? ⟨b, o + j * 3, none⟩ = some (strV g.s) ∧ w.cell? ⟨b, o + j * 3 + 1, none⟩ = some (.bool g.wild) ∧ w.cell? ⟨b, o + j * 3 + 2, none⟩ = some (.bool g.multi)

theorem SegsAt.keep {w w' : World} {v : Value} {l : List Seg} (h : SegsAt w v l) (hb : Below w.heap.size w w') : SegsAt w' v l := by
  obtain ⟨A, cap, hv, hc, hf⟩ := h
  refine ⟨A, cap, hv, hc, fun j g hj => ?_⟩
  obtain ⟨b, o, hA, hlt, h1, h2, h3⟩ := hf j g hj
  exact ⟨b, o, hA, Nat.lt_of_lt_of_le hlt hb.size, (hb.cell hlt).trans h1, (hb.cell hlt).trans h2, (hb.cell hlt).trans h3⟩

theorem SegsAt.of_own {w : World} {base : Nat} {e : TypeId} {v : Value} {l : List Seg} (h : w.ownsRow base e 3 v l.length (segCells l)) : SegsAt w v l := by
  obtain ⟨A, cap, hv, hnc, _, _⟩ := own_form h
  refine ⟨A, cap, hv, hnc, fun j g hj => ?_⟩
  have hjl : j < l.length := (List.getElem?_eq_some_iff.1 hj).1
  obtain ⟨b, c, hv2, _, hlt, _, _, hc⟩ := own_pos h (by omega)
  rw [hv] at hv2
  simp only [Value.slice.injEq] at hv2
  obtain ⟨h1, h2, h3⟩ := segCells_at l j g hj
  exact ⟨b, 0, hv2.1, hlt, by simpa using hc _ _ h1, by simpa using hc _ _ h2, by simpa using hc _ _ h3⟩

theorem segCells_take (l : List Seg) (k : Nat) (g : Seg) (h : l[k]? = some g) : segCells (l.take (k + 1)) = segCells (l.take k) ++ [strV g.s, .bool g.wild, .bool g.multi] := by
  rw [List.take_add_one, h]
  exact segCells_snoc _ g

theorem info_specSeg : (Tryd.prog.info? 64).map (fun i => (i.zero, i.size, i.bytes)) = some (some (.agg #[.string ⟨#[]⟩, .bool false, .bool false]), 3, 24) := by kernel_rfl

theorem cells3_new (w : World) (a b c : Value) (t : TypeId) (n : Nat) (hn : n = w.heap.size) :
    ∀ j u, [a, b, c][j]? = some u → (w.alloc (.cells #[a, b, c] t)).cell? ((⟨n, 0, none⟩ : Addr).add j) = some u := by
  subst hn
  intro j u hj
  rw [Addr.add_lit, World.cell?_alloc_new]
  match j, hj with
  | 0, hj => simpa using hj
  | 1, hj => simpa using hj
  | 2, hj => simpa using hj
  | j + 3, hj => simp at hj

theorem blk_cell {w : World} {g : Nat} {cs : Array Value} {t : TypeId} (h : w.heap[g]? = some (.cells cs t (0, 0))) (i : Nat) : w.cell? ⟨g, i, none⟩ = cs[i]? := cell_of_row w g i cs t (0, 0) h
theorem blk_free {w : World} {g : Nat} {cs : Array Value} {t : TypeId} (h : w.heap[g]? = some (.cells cs t (0, 0))) (i : Nat) : w.frozen? ⟨g, i, none⟩ = false := by
  simp [World.frozen?, h]
theorem blk_lt {w : World} {g : Nat} {o : Obj} (h : w.heap[g]? = some o) : g < w.heap.size := (Array.getElem?_eq_some_iff.1 h).1
theorem blk_set {w : World} {g : Nat} {cs : Array Value} {t : TypeId} (h : w.heap[g]? = some (.cells cs t (0, 0))) (i : Nat) (u : Value) : (w.setCell ⟨g, i, none⟩ u).heap[g]? = some (.cells (cs.setIfInBounds i u) t (0, 0)) := by
  simp [World.setCell, Array.getElem?_modify, h]
theorem blk_alloc {w : World} {g : Nat} {o : Obj} (h : w.heap[g]? = some o) (o' : Obj) : (w.alloc o').heap[g]? = some o := (Below.heap_alloc w o' g (blk_lt h)).trans h
theorem blk_far {w : World} {g : Nat} {o : Obj} (h : w.heap[g]? = some o) {p : Addr} (hp : g ≠ p.block) (u : Value) : (w.setCell p u).heap[g]? = some o := (Below.heap_setCell w p u g hp).trans h
theorem blk_grown {w w' : World} {g : Nat} {o : Obj} {row : Option Nat} (h : w.heap[g]? = some o) (hb : w.grownBy w' row) (hg : some g ≠ row) : w'.heap[g]? = some o := (hb.block g (blk_lt h) hg).trans h
theorem blk_below {w w' : World} {g : Nat} {o : Obj} (h : w.heap[g]? = some o) (hb : Below w.heap.size w w') : w'.heap[g]? = some o := (hb.block g (blk_lt h)).trans h

theorem new0 (w : World) (X : Obj) : (w.alloc X).heap[w.heap.size]? = some X := heap_alloc_new w X
theorem new1 (w : World) (X Y : Obj) : ((w.alloc X).alloc Y).heap[w.heap.size + 1]? = some Y := by simpa using heap_alloc_new (w.alloc X) Y
theorem new2 (w : World) (X Y Z : Obj) : (((w.alloc X).alloc Y).alloc Z).heap[w.heap.size + 2]? = some Z := by simpa using heap_alloc_new ((w.alloc X).alloc Y) Z

set_option maxRecDepth 100000 in
set_option maxHeartbeats 1600000 in
theorem conv_any (m h : ByteArray) (sv : Value) (l : List Seg) (w : World) (hsv : SegsAt w sv l) (hl : l.length ≤ 2147483647) :
    Calls Tryd.prog 19 #[.agg #[.string m, .string h, sv]] w fun e w' => ∃ sv', e = .returned (.agg #[.string m, .string h, sv']) ∧ w'.ownsRow w.heap.size 64 3 sv' l.length (segCells l) ∧ Below w.heap.size w w' := by
  obtain ⟨i0, hi, hz0, hz1, hz2⟩ := info_parts info_specSeg
  obtain ⟨A, cap, rfl, hlc, hf⟩ := hsv
  have HF := Lib.hid hf
  clear hf
  go_enter Tryd.func19, Tryd.ntmps19
  go_wp2_with fail
  go_loopw [14] (fun iv wr => ∃ (k : Nat) (cur : Value), k ≤ l.length ∧ iv = .int .i64 k ∧
      wr.heap[w.heap.size + 1]? = some (.cells #[.string ⟨#[]⟩, .string ⟨#[]⟩, .slice none 0 0] 45 (0, 0)) ∧
      wr.heap[w.heap.size + 2]? = some (.cells #[.string m, .string h, cur] 45 (0, 0)) ∧
      wr.ownsRow (w.heap.size + 3) 64 3 cur k (segCells (l.take k)) ∧ Below w.heap.size w wr)
    (fun iv _ => l.length - (intOf iv).toNat)
  case atStart =>
    exact ⟨0, _, Nat.zero_le _, rfl, blk_alloc (new1 _ _ _) _, new2 _ _ _ _, World.ownsRow_nil _ _ _ _, (((Below.refl _ _).alloc (Nat.le_refl _) _).alloc (by simp) _).alloc (by simp; omega) _⟩
  case round =>
    obtain ⟨k, cur, hk, rfl, hB1, hB2, hown, hb⟩ := hrel
    have HB1 := Lib.hid hB1
    have HB2 := Lib.hid hB2
    have hsz := blk_lt hB2
    have hc2 : wr.cell? ⟨w.heap.size + 2, 2, none⟩ = some cur := blk_cell hB2 2
    clear hB1 hB2
    by_cases hlt : k < l.length
    · obtain ⟨g, hg⟩ : ∃ g, l[k]? = some g := ⟨_, List.getElem?_eq_getElem hlt⟩
      obtain ⟨b, o, rfl, hbl, h1, h2, h3⟩ := HF.out k g hg
      have g1 : wr.cell? ⟨b, o + k * 3, none⟩ = some (.string ⟨g.s.toArray⟩) := (hb.cell hbl).trans h1
      have g2 : wr.cell? ⟨b, o + k * 3 + 1, none⟩ = some (.bool g.wild) := (hb.cell hbl).trans h2
      have g3 : wr.cell? ⟨b, o + k * 3 + 2, none⟩ = some (.bool g.multi) := (hb.cell hbl).trans h3
      have HG := Lib.hid hg
      clear h1 h2 h3 hg
      go_wp2_with (at_builtin; refine wpList_append_own _ rfl _ _ 43 rfl (w.heap.size + 3) 64 i0 (.agg #[.string ⟨#[]⟩, .bool false, .bool false]) 3 24 Tryd.underlying43 hi hz0 hz1 hz2 rfl (by decide) _ _ _ rfl ((hown.alloc _).alloc _) ⟨wr.heap.size + 1, 0, none⟩ 1 1 [_, _, _] rfl rfl (cells3_new _ _ _ _ _ _ (by simp)) (by simp [Value.oneCell']) (by unfold maxLen; omega) (by omega) (by simp; omega) ?_; intro v' w1 hown' hgrow _; obtain ⟨A', cap', rfl, hnc', hcm', hA'⟩ := own_form hown'; have hB2' := blk_grown (blk_alloc (blk_alloc HB2.out _) _) hgrow (fun e => by have := (hown.lt _ e.symm).1; omega); have hB1' := blk_grown (blk_alloc (blk_alloc HB1.out _) _) hgrow (fun e => by have := (hown.lt _ e.symm).1; omega); have hb' : Below w.heap.size w w1 := ((hb.alloc hb.size _).alloc (by have := hb.size; simp; omega) _).grown hgrow (by have := hb.size; simp; omega) (fun g hg => by have := (hown.lt g hg).1; omega); have HB1' := Lib.hid hB1'; have HB2' := Lib.hid hB2'; have c2' := blk_cell hB2' 2; have f2' := blk_free hB2' 2; clear hgrow hB1' hB2' hown hc2)
      go_roundw
      case rel => exact ⟨k + 1, _, by omega, by go_num, blk_far HB1'.out (by simp) _, blk_set HB2'.out 2 _, ownsRow_setCell_below (by rw [segCells_take l k g HG.out]; exact hown') (by simp) _, hb'.setCell (by simp; omega) _⟩
      case measure => simp [intOf]; omega
    · have hke : k = l.length := by omega
      have c20 : wr.cell? ⟨w.heap.size + 2, 0, none⟩ = some (.string m) := blk_cell HB2.out 0
      have c21 : wr.cell? ⟨w.heap.size + 2, 1, none⟩ = some (.string h) := blk_cell HB2.out 1
      have c10 : wr.cell? ⟨w.heap.size + 1, 0, none⟩ = some (.string ⟨#[]⟩) := blk_cell HB1.out 0
      have c11 : wr.cell? ⟨w.heap.size + 1, 1, none⟩ = some (.string ⟨#[]⟩) := blk_cell HB1.out 1
      have c12 : wr.cell? ⟨w.heap.size + 1, 2, none⟩ = some (.slice none 0 0) := blk_cell HB1.out 2
      have f10 : wr.frozen? ⟨w.heap.size + 1, 0, none⟩ = false := blk_free HB1.out 0
      have f11 : wr.frozen? ⟨w.heap.size + 1, 1, none⟩ = false := blk_free HB1.out 1
      have f12 : wr.frozen? ⟨w.heap.size + 1, 2, none⟩ = false := blk_free HB1.out 2
      obtain ⟨A', cap', rfl, _, _, _⟩ := own_form hown
      rw [hke, List.take_of_length_le (Nat.le_refl _)] at hown
      go_wp2_with fail
      refine bodyPost_ret (v := .agg #[.string m, .string h, .slice A' l.length cap']) (by simp [results, Tryd.results19, go_sem, c10, c11, c12]) rfl ⟨_, rfl, ?_, ?_⟩
      · exact own_lower (ownsRow_setCell_below (ownsRow_setCell_below (ownsRow_setCell_below hown (by simp) _) (by simp) _) (by simp) _) (by omega)
      · exact ((hb.setCell (by simp) _).setCell (by simp) _).setCell (by simp) _
end Go.Proofs.YtgkhfcoieknjeaaDoor

namespace Go.Proofs.YtgkhfcoieknjeaaDoor
open Go.RowKit

/-- A slice value that reads as texts. -/
def StrsAt (w : World) (v : Value) (l : List (List UInt8)) : Prop :=
  ∃ A cap, v = .slice A l.length cap ∧ l.length ≤ cap ∧ cap ≤ maxLen ∧
    ∀ j x, l[j]? = some x → ∃ b o, A = some ⟨b, o, none⟩ ∧ b < w.heap.size ∧ w.cell? ⟨b, o + j, none⟩ = some (strV x)

theorem StrsAt.keep {w w' : World} {v : Value} {l : List (List UInt8)} (h : StrsAt w v l) (hb : Below w.heap.size w w') : StrsAt w' v l := by
  obtain ⟨A, cap, hv, hc, hcm, hf⟩ := h
  refine ⟨A, cap, hv, hc, hcm, fun j x hj => ?_⟩
  obtain ⟨b, o, hA, hlt, h1⟩ := hf j x hj
  exact ⟨b, o, hA, Nat.lt_of_lt_of_le hlt hb.size, (hb.cell hlt).trans h1⟩

theorem StrsAt.of_own {w : World} {base : Nat} {e : TypeId} {v : Value} {l : List (List UInt8)} (h : w.ownsRow base e 1 v l.length (l.map strV)) : StrsAt w v l := by
  obtain ⟨A, cap, hv, hnc, hcm, _⟩ := own_form h
  refine ⟨A, cap, hv, hnc, hcm, fun j x hj => ?_⟩
  have hjl : j < l.length := (List.getElem?_eq_some_iff.1 hj).1
  obtain ⟨b, c, hv2, _, hlt, _, _, hc⟩ := own_pos h (by omega)
  rw [hv] at hv2
  simp only [Value.slice.injEq] at hv2
  exact ⟨b, 0, hv2.1, hlt, by simpa using hc j _ (by simp [hj])⟩
end Go.Proofs.YtgkhfcoieknjeaaDoor
