/-
  Proved: what a row of texts is in memory (it can be read), and that such rows stay readable. No conditions.
-/
import Derived.Test.YtkfokofccakagaaDoorBytes
import Derived.Test.YtkfokofccakagaaDoorMem
namespace Go.Proofs.YtkfokofccakagaaDoor
open Go.RowKit

/-- A slice value that reads as texts. -/
def StrsAt (w : World) (v : Value) (l : List (List UInt8)) : Prop :=
  ∃ A cap, v = .slice A l.length cap ∧ l.length ≤ cap ∧ cap ≤ maxLen ∧
    ∀ j x, l[j]? = some x → ∃ b o, A = some ⟨b, o, none⟩ ∧ b < w.heap.size ∧ w.cell? ⟨b, o + j, none⟩ = some (strV x)

theorem StrsAt.keep {w w' : World} {v : Value} {l : List (List UInt8)} (h : StrsAt w v l) (hb : Below w.heap.size w w') : StrsAt w' v l := by
  obtain ⟨A, cap, hv, hc, hcm, hf⟩ := h
  refine ⟨A, cap, hv, hc, hcm, fun j x hj => ?_⟩
  obtain ⟨b, o, hA, hlt, h1⟩ := hf j x hj
  exact ⟨b, o, hA, Nat.lt_of_lt_of_le hlt hb.size, (hb.cell hlt).trans h1⟩

theorem StrsAt.of_own {w : World} {base : Nat} {e : TypeId} {v : Value} {l : List (List UInt8)} (h : w.ownsRow base e 1 v l.length (l.map strV)) : StrsAt w v l := by
  obtain ⟨A, cap, hv, hnc, hcm, _⟩ := own_form h
  refine ⟨A, cap, hv, hnc, hcm, fun j x hj => ?_⟩
  have hjl : j < l.length := (List.getElem?_eq_some_iff.1 hj).1
  obtain ⟨b, c, hv2, _, hlt, _, _, hc⟩ := own_pos h (by omega)
  rw [hv] at hv2
  simp only [Value.slice.injEq] at hv2
  exact ⟨b, 0, hv2.1, hlt, by simpa using hc j _ (by simp [hj])⟩
end Go.Proofs.YtkfokofccakagaaDoor
