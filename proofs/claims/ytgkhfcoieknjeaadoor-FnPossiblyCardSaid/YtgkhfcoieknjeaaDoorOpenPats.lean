/-
  Proved: what an argument that is a row of patterns holds in memory when it can be read as data. No conditions besides.
-/
import Derived.Test.YtgkhfcoieknjeaaDoorPats
namespace Go.Proofs.YtgkhfcoieknjeaaDoor
open Go.RowKit Go.ChangeShapes Go.WideShapes Go.Deep Go.Joins

section
variable {H : Type} {enc : TypeId × Value → H} {w : World} {base : Nat} {spare : Nat → Bool} {held : Bool}
set_option maxRecDepth 100000 in
theorem open_patterns {r : Reach} {b0 : Nat} {v : Value} {d : DataW H} {p : List MemPlace} (hv : Value.okWide Tryd.prog w r b0 22 v) (h : DataW.Trod enc Tryd.prog w base spare held 22 v d p) :
    ∃ (sv : Value) (ps : List PtB), v = sv ∧ (PatsAt w sv ps ∧ SizesP ps) := by
  obtain ⟨a0, len0, cap0, rfl⟩ := okWide_slice Tryd.underlying22 hv
  obtain ⟨fuel, h⟩ := h
  have h' : DataW.trod enc Tryd.prog w base spare held fuel 22 [.slice a0 len0 cap0] = some (d, p) := h
  rcases open_slice_fields Tryd.underlying22 Tryd.underlying36 (by kernel_rfl) (by kernel_rfl) h' with ⟨hcs, _⟩ | ⟨a, len, cap, m, D, Pl, hcs, _, hlc, hcm, hm, _, hf⟩
  · refine ⟨_, [], rfl, ?_, fun p hp => by simp at hp⟩
    simp only [List.cons.injEq, and_true] at hcs
    rw [hcs]
    exact ⟨none, 0, rfl, Nat.le_refl _, by unfold maxLen; omega, fun j p hj => by simp at hj⟩
  · simp only [List.cons.injEq, and_true, Value.slice.injEq] at hcs
    obtain ⟨rfl, rfl, rfl⟩ := hcs
    have hlm : len0 ≤ m := by rw [hm]; split <;> omega
    have hg : ∀ i, i < len0 → ∃ q : PtB × Value, (w.cell? (a.add (i * 3 + 0)) = some (.string q.1.m) ∧ w.cell? (a.add (i * 3 + 1)) = some (.string q.1.h) ∧ w.cell? (a.add (i * 3 + 2)) = some q.2 ∧ SegsAt w q.2 q.1.l) ∧
        q.1.m.size ≤ 9223372036854775807 ∧ q.1.h.size ≤ 9223372036854775807 ∧ Short q.1.l ∧ q.1.l.length ≤ 9223372036854775807 := by
      intro i hi
      obtain ⟨ys, n, _, _, _, hj⟩ := hf i (by omega)
      obtain ⟨v0, y0, c0, _, t0⟩ := hj 0 _ rfl
      obtain ⟨v1, y1, c1, _, t1⟩ := hj 1 _ rfl
      obtain ⟨v2, y2, c2, _, t2⟩ := hj 2 _ rfl
      obtain ⟨s0, hs0, _, z0⟩ := DataW.trod_string Tryd.underlying9 t0
      obtain ⟨s1, hs1, _, z1⟩ := DataW.trod_string Tryd.underlying9 t1
      obtain ⟨sv, l, hs2, g1, g2, g3⟩ := open_segs t2
      simp only [List.cons.injEq, and_true] at hs0 hs1 hs2
      subst hs0 hs1 hs2
      unfold maxLen at z0 z1
      exact ⟨(⟨s0, s1, l⟩, _), ⟨c0, c1, c2, g1⟩, z0, z1, g2, g3⟩
    obtain ⟨qs, hql, hq⟩ : ∃ qs : List PtB, qs.length = len0 ∧ ∀ i q, qs[i]? = some q → ∃ sv, (w.cell? (a.add (i * 3 + 0)) = some (.string q.m) ∧ w.cell? (a.add (i * 3 + 1)) = some (.string q.h) ∧ w.cell? (a.add (i * 3 + 2)) = some sv ∧ SegsAt w sv q.l) ∧
        q.m.size ≤ 9223372036854775807 ∧ q.h.size ≤ 9223372036854775807 ∧ Short q.l ∧ q.l.length ≤ 9223372036854775807 := by
      refine ⟨(List.range len0).pmap (fun i hi => (hg i hi).choose.1) (fun i hi => by simpa using hi), by simp, ?_⟩
      intro i q hi
      have hil : i < len0 := by
        have := (List.getElem?_eq_some_iff.1 hi).1
        simpa using this
      rw [List.getElem?_pmap] at hi
      simp [hil] at hi
      rw [← hi]
      exact ⟨_, (hg i hil).choose_spec⟩
    subst hql
    refine ⟨_, qs, rfl, ⟨some a, cap0, rfl, hlc, hcm, ?_⟩, ?_⟩
    · intro j q hj
      obtain ⟨sv, ⟨c0, c1, c2, g1⟩, _⟩ := hq j q hj
      have hsp : a.spot = none := by
        have h0 : 0 < qs.length := by have := (List.getElem?_eq_some_iff.1 hj).1; omega
        obtain ⟨_, ⟨c0, _⟩, _⟩ := hq 0 _ (List.getElem?_eq_getElem h0)
        simpa [Addr.add] using World.cell?_spot c0
      obtain ⟨b, o, sp⟩ := a
      simp only at hsp
      subst hsp
      rw [add_row] at c0 c1 c2
      exact ⟨b, o, sv, rfl, cell_lt c0, c0, c1, c2, g1⟩
    · intro q hqm
      obtain ⟨i, hi⟩ := List.mem_iff_getElem?.1 hqm
      obtain ⟨sv, _, g⟩ := hq i q hi
      exact g
end
end Go.Proofs.YtgkhfcoieknjeaaDoor
