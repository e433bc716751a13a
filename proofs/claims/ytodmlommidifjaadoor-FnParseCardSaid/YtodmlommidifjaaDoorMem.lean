/-
  Proved: small lemmas on rows of memory that a call owns, as the walks of this seat use them. Conditions: as each lemma says.
-/
import Derived.Test.YtodmlommidifjaaDoorRows
import Derived.WalkKit
import Derived.WalkSpells
import Derived.WalkLawsBesides
import Derived.Lib.Hide
namespace Go.Proofs.YtodmlommidifjaaDoor
open Go.RowKit

section
variable {w w' : World} {base : Nat} {e : TypeId} {size n : Nat} {v : Value} {xs : List Value}

/-- The value of an owned row: nil, or a block of the call's own. -/
theorem own_form (h : w.ownsRow base e size v n xs) : ∃ A cap, v = .slice A n cap ∧ n ≤ cap ∧ cap ≤ maxLen ∧ (n = 0 ∨ ∃ g, A = some ⟨g, 0, none⟩ ∧ base ≤ g ∧ g < w.heap.size) := by
  rcases h.2 with ⟨rfl, rfl⟩ | ⟨g, cap, cur, rfl, hb, hg, hnc, hcm, _, _⟩
  · exact ⟨none, 0, rfl, Nat.le_refl _, by unfold maxLen; omega, .inl rfl⟩
  · exact ⟨some ⟨g, 0, none⟩, cap, rfl, hnc, hcm, .inr ⟨g, rfl, hb, (Array.getElem?_eq_some_iff.1 hg).1⟩⟩

/-- A row that is not empty lies in a block. -/
theorem own_pos (h : w.ownsRow base e size v n xs) (hn : 0 < n) : ∃ g cap, v = .slice (some ⟨g, 0, none⟩) n cap ∧ base ≤ g ∧ g < w.heap.size ∧ n ≤ cap ∧ cap ≤ maxLen ∧ ∀ j u, xs[j]? = some u → w.cell? ⟨g, j, none⟩ = some u := by
  rcases h.2 with ⟨rfl, rfl⟩ | ⟨g, cap, cur, rfl, hb, hg, hnc, hcm, hcs, htake⟩
  · omega
  · refine ⟨g, cap, rfl, hb, (Array.getElem?_eq_some_iff.1 hg).1, hnc, hcm, fun j u hu => ?_⟩
    rw [cell_of_row w g j cur e (0, 0) hg]
    rw [← htake, List.getElem?_take] at hu
    split at hu
    · simpa using hu
    · cases hu

theorem own_below (h : w.ownsRow base e size v n xs) (hb : Below w.heap.size w w') : w'.ownsRow base e size v n xs :=
  h.kept (row := none) ⟨hb.os, hb.tape, hb.output, hb.size, fun i hi _ => hb.block i hi⟩ (by cases hv : v.ownBlock <;> simp)

theorem own_lower {base' : Nat} (h : w.ownsRow base e size v n xs) (hb : base' ≤ base) : w.ownsRow base' e size v n xs := by
  refine ⟨h.1, ?_⟩
  rcases h.2 with hn | ⟨g, cap, cur, rfl, hg, rest⟩
  · exact .inl hn
  · exact .inr ⟨g, cap, cur, rfl, by omega, rest⟩

theorem own_drew (h : w.ownsRow base e size v n xs) : w.drew.ownsRow base e size v n xs := h
end
end Go.Proofs.YtodmlommidifjaaDoor
