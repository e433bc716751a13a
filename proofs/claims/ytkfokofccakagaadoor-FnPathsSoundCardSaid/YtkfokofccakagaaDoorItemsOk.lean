/-
  Proved: spec.Items answers true only with the pieces of the path, which can be read. Condition: the text has at most 2^63 - 1 bytes.
-/
import Derived.Test.YtkfokofccakagaaDoorItemsWalk
import Derived.Test.YtkfokofccakagaaDoorItemsSmall
namespace Go.Proofs.YtkfokofccakagaaDoor
open Go.RowKit

/-- What Items answers. -/
def ItemsOk (l : List UInt8) (w : World) (e : Ending) (w' : World) : Prop :=
  ∃ v b its, e = .returned (.tuple #[v, .bool b]) ∧ (b = true → itemsL l = some its ∧ StrsAt w' v its) ∧ Below w.heap.size w w'

theorem items_ok (s : ByteArray) (w : World) (hs : s.size ≤ 9223372036854775807) : Calls Tryd.prog 29 #[.string s] w (ItemsOk (bs s) w) := by
  refine (items_any s w hs).mono ?_
  rintro e w' ⟨hb, ⟨h, rfl⟩ | ⟨its, v, h, rfl, hown⟩⟩
  · exact ⟨_, false, [], rfl, (fun h => by cases h), hb⟩
  · exact ⟨_, true, its, rfl, fun _ => ⟨h, StrsAt.of_own hown⟩, hb⟩
end Go.Proofs.YtkfokofccakagaaDoor
