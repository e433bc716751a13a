/-
  What a pattern in memory is, what its pieces stand for, and the relationship of two methods (definitions), and that a pattern stays readable.
-/
import Derived.Test.YtgkhfcoieknjeaaDoorPPDefs
import Derived.Test.YtgkhfcoieknjeaaDoorBase
namespace Go.Proofs.YtgkhfcoieknjeaaDoor
open Go.RowKit

/-- A pattern in memory. -/
def PatAt (w : World) (b : Nat) (m h : ByteArray) (l : List Seg) : Prop :=
  b < w.heap.size ∧ w.cell? ⟨b, 1, none⟩ = some (.string m) ∧ w.cell? ⟨b, 2, none⟩ = some (.string h) ∧ ∃ sv, w.cell? ⟨b, 3, none⟩ = some sv ∧ SegsAt w sv l

theorem PatAt.keep {w w' : World} {b : Nat} {m h : ByteArray} {l : List Seg} (H : PatAt w b m h l) (hb : Below w.heap.size w w') : PatAt w' b m h l := by
  obtain ⟨h1, h2, h3, sv, h4, h5⟩ := H
  exact ⟨Nat.lt_of_lt_of_le h1 hb.size, (hb.cell (p := ⟨b, 1, none⟩) h1).trans h2, (hb.cell (p := ⟨b, 2, none⟩) h1).trans h3, sv, (hb.cell (p := ⟨b, 3, none⟩) h1).trans h4, h5.keep hb⟩

/-- What a piece stands for. -/
def kindOf (g : Seg) : Kd := if g.multi then .rest else if g.wild then .one else .lit g.s

/-- The relationship of two methods. -/
def byM (a b : List UInt8) : Rel :=
  if a = b then .eqv else if a = [] then .gen else if b = [] then .spc else if a = [71, 69, 84] ∧ b = [72, 69, 65, 68] then .gen else if b = [71, 69, 84] ∧ a = [72, 69, 65, 68] then .spc else .dis

theorem lastRest_kinds (l : List Seg) (g : Seg) (h : l.getLast? = some g) : Kd.lastRest (l.map kindOf) = g.multi := by
  unfold Kd.lastRest
  rw [List.getLast?_map, h]
  obtain ⟨s, w, m⟩ := g
  cases m <;> cases w <;> rfl

theorem drop_map_step (l : List Seg) (k : Nat) (g : Seg) (h : l[k]? = some g) : (l.map kindOf).drop k = kindOf g :: (l.map kindOf).drop (k + 1) := by
  obtain ⟨hk, rfl⟩ := List.getElem?_eq_some_iff.1 h
  rw [List.drop_eq_getElem_cons (by simpa using hk)]
  simp

def sliceLen : Value → Nat
  | .slice _ n _ => n
  | _ => 0

end Go.Proofs.YtgkhfcoieknjeaaDoor
