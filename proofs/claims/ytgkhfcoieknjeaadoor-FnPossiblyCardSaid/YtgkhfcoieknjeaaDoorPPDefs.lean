/-
  What parsePattern answers, in words on memory (definitions), and a lemma on draws.
-/
import Derived.Test.YtgkhfcoieknjeaaDoorBase
namespace Go.Proofs.YtgkhfcoieknjeaaDoor
open Go.RowKit

/-- What parsePattern answers at a text that it takes. -/
def PPGood (w w' : World) (e : Ending) (m h : ByteArray) (l : List Seg) : Prop :=
  ∃ b sv, e = .returned (.tuple #[.pointer (some ⟨b, 0, none⟩), .nilIface]) ∧ b < w'.heap.size ∧
    w'.cell? ⟨b, 1, none⟩ = some (.string m) ∧ w'.cell? ⟨b, 2, none⟩ = some (.string h) ∧ w'.cell? ⟨b, 3, none⟩ = some sv ∧ SegsAt w' sv l ∧ Below w.heap.size w w' ∧ w.heap.size ≤ b ∧ ∀ g, sv.ownBlock = some g → w.heap.size ≤ g

/-- What parsePattern answers at a text that it refuses. -/
def PPBad (w w' : World) (e : Ending) : Prop := ∃ t v, e = .returned (.tuple #[.pointer none, .iface t v]) ∧ Below w.heap.size w w'

theorem below_drew3 {B : Nat} {a w : World} (h : Below B a w) (n : Nat) : Below B a (w.drewN n) := ⟨h.os, h.tape, h.output, h.size, h.block⟩

end Go.Proofs.YtgkhfcoieknjeaaDoor
