/-
  Proved, in plain words of lists: a path whose pieces are not empty and no dots alone, with or without a slash at its end, is clean.
-/
import Derived.Test.YtodmlommidifjaaDoorPathLaw
namespace Go.Proofs.YtodmlommidifjaaDoor
open Go.RowKit

theorem clean_slashed (ks : List (List UInt8)) (hne : ks ≠ []) (h : ∀ x ∈ ks, Kept x) : cleanPathL (slashed ks) = slashed ks := by
  rw [cleanPath_spec]
  unfold specCleanL
  rw [(keptL_slashed ks h).1, if_neg]
  rintro (h1 | h1)
  · cases ks with
    | nil => exact hne rfl
    | cons x r => exact slashed_ne x r h1
  · exact slashed_last ks hne h h1

theorem clean_slashed_end (ks : List (List UInt8)) (h : ∀ x ∈ ks, Kept x) : cleanPathL (slashed ks ++ [47]) = slashed ks ++ [47] := by
  rw [cleanPath_spec]
  unfold specCleanL
  rw [(keptL_slashed ks h).2, if_pos]
  exact .inr (by simp)
end Go.Proofs.YtodmlommidifjaaDoor
