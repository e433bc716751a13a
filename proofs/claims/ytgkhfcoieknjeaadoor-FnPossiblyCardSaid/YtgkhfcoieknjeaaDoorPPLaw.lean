/-
  Proved, in plain words of lists: how a pattern's text parts into method, host and pieces ('parseL': the mirror of parsePattern), and small lemmas on the first place of a byte.
-/
import Derived.Test.YtgkhfcoieknjeaaDoorBlank
import Derived.Test.YtgkhfcoieknjeaaDoorParseL
import Derived.Test.YtgkhfcoieknjeaaDoorUnesc
import Derived.Test.YtgkhfcoieknjeaaDoorPathLaw
import Derived.Test.YtgkhfcoieknjeaaDoorClasses
namespace Go.Proofs.YtgkhfcoieknjeaaDoor
open Go.RowKit
open Go.Lib.Pa (els)

/-- How a text parts into a method and the rest. -/
def methodOf (l : List UInt8) : List UInt8 := if blankIdx l < 0 then [] else l.takeWhile darkB
def restOf (l : List UInt8) : List UInt8 := if blankIdx l < 0 then l else ((l.dropWhile darkB).drop 1).dropWhile blankB
def hostOf (r : List UInt8) : List UInt8 := r.takeWhile (· != 47)
def pathOf (r : List UInt8) : List UInt8 := r.dropWhile (· != 47)

/-- The mirror of parsePattern. -/
def parseL (l : List UInt8) : Option (List UInt8 × List UInt8 × List Seg) :=
  if (restOf l).contains 47 = false then none
  else if (hostOf (restOf l)).contains 123 then none
  else (piecesL (els (pathOf (restOf l)).tail) []).map fun g => (methodOf l, hostOf (restOf l), g)

theorem indexByte_any (c : UInt8) : ∀ l : List UInt8, (Go.Lib.indexByte l c = -1 ∧ l.contains c = false ∧ l.takeWhile (· != c) = l) ∨ (Go.Lib.indexByte l c = ((l.takeWhile (· != c)).length : Int) ∧ l.contains c = true ∧ (l.takeWhile (· != c)).length < l.length)
  | [] => .inl ⟨rfl, rfl, rfl⟩
  | b :: l => by
    by_cases h : b = c
    · subst h
      right
      simp [Go.Lib.indexByte]
    · have hb : (b == c) = false := by simpa using h
      have hcb : ¬ c = b := fun e => h e.symm
      rcases indexByte_any c l with ⟨h1, h2, h3⟩ | ⟨h1, h2, h3⟩
      · left
        have h2' : ¬ c ∈ l := by simpa using h2
        refine ⟨by simp [Go.Lib.indexByte, hb, h1], by simpa [hcb] using h2', ?_⟩
        rw [List.takeWhile_cons_of_pos (by simpa using h), h3]
      · right
        have h2' : c ∈ l := by simpa using h2
        refine ⟨?_, by simp [h2'], ?_⟩
        · rw [List.takeWhile_cons_of_pos (by simpa using h)]
          simp [Go.Lib.indexByte, hb, h1]
        · rw [List.takeWhile_cons_of_pos (by simpa using h)]
          simp only [List.length_cons]
          omega

theorem take_tw (p : UInt8 → Bool) (l : List UInt8) : l.take (l.takeWhile p).length = l.takeWhile p := (List.prefix_iff_eq_take.1 (List.takeWhile_prefix p)).symm
theorem drop_tw (p : UInt8 → Bool) (l : List UInt8) : l.drop (l.takeWhile p).length = l.dropWhile p := by
  have h := List.takeWhile_append_dropWhile (p := p) (l := l)
  have h2 := List.take_append_drop (l.takeWhile p).length l
  rw [take_tw] at h2
  exact List.append_cancel_left (h2.trans h.symm)

theorem pathOf_head (r : List UInt8) (h : r.contains 47 = true) : ∃ t, pathOf r = 47 :: t := by
  have hm : (47 : UInt8) ∈ r := by simpa using h
  unfold pathOf
  cases hd : r.dropWhile (· != 47) with
  | nil =>
    exfalso
    have : ∀ x ∈ r, x ≠ 47 := by
      intro x hx e
      have h1 := List.takeWhile_append_dropWhile (p := (· != 47)) (l := r)
      rw [hd, List.append_nil] at h1
      rw [← h1] at hx
      have := List.all_eq_true.1 (List.all_takeWhile (p := (· != 47)) (l := r)) x hx
      simp [e] at this
    exact this 47 hm rfl
  | cons x t =>
    have := List.head_dropWhile_not (p := (· != 47)) (l := r) (by rw [hd]; simp)
    simp [hd] at this
    exact ⟨t, by rw [this]⟩

theorem slashed_snoc : ∀ ks : List (List UInt8), slashed (ks ++ [[]]) = slashed ks ++ [47]
  | [] => rfl
  | x :: r => by
    have ih := slashed_snoc r
    simp only [List.cons_append, slashed, ih, List.append_assoc]

/-- The texts for which parsePattern is walked. -/
structure PPText (l : List UInt8) : Prop where
  ne : l ≠ []
  asc : ∀ b ∈ l, b.toNat < 128
  letters : ∀ c ∈ methodOf l, letterB c = true
  pct : ∀ c ∈ restOf l, c ≠ 37
  pieces : (restOf l).contains 47 = true → (hostOf (restOf l)).contains 123 = false →
    ∃ ks, (∀ x ∈ ks, Kept x) ∧ (els (pathOf (restOf l)).tail = ks ∨ els (pathOf (restOf l)).tail = ks ++ [[]])
end Go.Proofs.YtgkhfcoieknjeaaDoor
