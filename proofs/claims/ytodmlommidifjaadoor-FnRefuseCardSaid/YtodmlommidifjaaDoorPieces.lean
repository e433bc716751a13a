/-
  Proved, in plain words of lists: a path and its pieces, one put ahead of the other. No conditions.
-/
import Derived.Test.YtodmlommidifjaaDoorPathLaw
namespace Go.Proofs.YtodmlommidifjaaDoor
open Go.RowKit Go.Lib.Pa

theorem slashed_els : ∀ r : List UInt8, slashed (els r) = 47 :: r
  | [] => rfl
  | c :: t => by
    have ih := slashed_els t
    have hn := els_ne t
    by_cases hc : c = 47
    · subst hc
      rw [els_slash]
      show 47 :: ([] ++ slashed (els t)) = _
      rw [ih]; rfl
    · cases he : els t with
      | nil => exact (hn he).elim
      | cons e rest =>
        rw [he] at ih
        simp only [slashed, List.cons.injEq, true_and] at ih
        simp [els, he, hc, slashed, ih]

theorem take_piece (x : List UInt8) (qs : List (List UInt8)) (hx : ∀ c ∈ x, c ≠ 47) : (x ++ slashed qs).takeWhile (· != 47) = x ∧ (x ++ slashed qs).dropWhile (· != 47) = slashed qs := by
  have hall : ∀ c ∈ x, (c != 47) = true := fun c hc => by simpa using hx c hc
  have h2 : (slashed qs).takeWhile (· != 47) = [] ∧ (slashed qs).dropWhile (· != 47) = slashed qs := by
    cases qs <;> simp [slashed]
  constructor
  · rw [List.takeWhile_append_of_pos hall, h2.1, List.append_nil]
  · rw [List.dropWhile_append_of_pos hall, h2.2]

theorem slashed_noPct : ∀ qs : List (List UInt8), (∀ q ∈ qs, ∀ c ∈ q, c ≠ 37) → ∀ c ∈ slashed qs, c ≠ 37
  | [], _, c, hc => by simp [slashed] at hc
  | y :: ys, h, c, hc => by
    simp only [slashed, List.mem_cons, List.mem_append] at hc
    rcases hc with rfl | hc | hc
    · decide
    · exact h y List.mem_cons_self c hc
    · exact slashed_noPct ys (fun q hq => h q (List.mem_cons_of_mem _ hq)) c hc

end Go.Proofs.YtodmlommidifjaaDoor
