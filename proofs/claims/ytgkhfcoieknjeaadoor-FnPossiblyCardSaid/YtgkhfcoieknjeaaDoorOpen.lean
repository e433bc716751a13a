/-
  Proved: what an argument that is a pattern, or a row of patterns, holds in memory when it can be read as data. (open_slice_fields: the guide's lemma on slices of structs.)
-/
import Derived.Test.YtgkhfcoieknjeaaDoorFits
import Derived.Deep.Slices
import Derived.Deep.Fields
import Derived.ChangeSame
import Derived.Lib.SmallJoins
namespace Go.Proofs.YtgkhfcoieknjeaaDoor
open Go.RowKit Go.ChangeShapes Go.WideShapes Go.Deep Go.Joins

section
variable {H : Type} {enc : TypeId × Value → H} {P : Program} {w : World} {base : Nat} {spare : Nat → Bool} {held : Bool}
theorem open_slice_fields {t e : TypeId} {fs : Array Field} {fuel : Nat} {cs : List Value} {x : DataW H × List MemPlace} (ht : P.underlying t = some (.slice e)) (he : P.underlying e = some (.struct fs))
    (hone : oneCellFields P fs = true) (hC : P.cellsOf e = fs.size) (h : DataW.trod enc P w base spare held fuel t cs = some x) :
    (cs = [.slice none 0 0] ∧ x = (.nil, [])) ∨
    ∃ (a : Addr) (len cap m : Nat) (D : Nat → DataW H) (Pl : Nat → List MemPlace), cs = [.slice (some a) len cap] ∧ base ≤ a.block ∧ len ≤ cap ∧ cap ≤ maxLen ∧ m = (if spare a.block then cap else len) ∧
      x = (.slice ((List.range len).map D) ((List.range (m - len)).map fun j => D (len + j)), MemPlace.row a (m * fs.size) ++ (List.range m).flatMap Pl) ∧
      ∀ i, i < m → ∃ (ys : List (DataW H × List MemPlace)) (n : Nat), D i = .agg (ys.map (·.1)) ∧ Pl i = ys.flatMap (·.2) ∧ ys.length = fs.size ∧
        ∀ (j : Nat) (f : Field), fs[j]? = some f → ∃ (v : Value) (y : DataW H × List MemPlace), w.cell? (a.add (i * fs.size + j)) = some v ∧ ys[j]? = some y ∧ DataW.trod enc P w base spare held n f.type [v] = some y := by
  rcases open_slice ht h with h0 | ⟨a, len, cap, m, n, D, Pl, hcs, hb, hl, hm, hmm, hx, hi⟩
  · exact .inl h0
  · refine .inr ⟨a, len, cap, m, D, Pl, hcs, hb, hl, hm, hmm, by rw [hC] at hx; exact hx, fun i him => ?_⟩
    obtain ⟨cs', hc, ht'⟩ := hi i him
    rw [hC] at hc
    obtain ⟨ys, n', hn', hy, hlen, hyl, hf⟩ := DataW.trod_struct he ht'
    obtain ⟨_, hcl, hat⟩ := World.cells?_some hc
    simp only [Prod.mk.injEq] at hy
    refine ⟨ys, n', hy.1, hy.2, hyl, fun j f hj => ?_⟩
    obtain ⟨ho, hk⟩ := hone_of hone j f hj
    have hjl : j < fs.size := (Array.getElem?_eq_some_iff.1 hj).1
    have hcell := hat j hjl
    have hv : cs'[j]? = some (cs'[j]'(by omega)) := List.getElem?_eq_getElem (by omega)
    have h1 := hf j f hj
    rw [ho, hk] at h1
    have hone' : (cs'.drop j).take 1 = [cs'[j]'(by omega)] := by
      rw [List.drop_eq_getElem_cons (by omega)]
      rfl
    rw [hone'] at h1
    have hys : ys[j]? = some (ys[j]'(by omega)) := List.getElem?_eq_getElem (by omega)
    refine ⟨_, _, ?_, hys, h1.trans hys⟩
    rw [← Go.Deep.add_add, hcell, hv]
end

theorem cell_lt {w : World} {a : Addr} {v : Value} (h : w.cell? a = some v) : a.block < w.heap.size := by
  apply Decidable.byContradiction
  intro hn
  have : w.heap[a.block]? = none := Array.getElem?_eq_none (by omega)
  simp [World.cell?, this] at h

theorem add_row (b o i j : Nat) : (⟨b, o, none⟩ : Addr).add (i + j) = ⟨b, o + i + j, none⟩ := by
  rw [Addr.add_lit, Nat.add_assoc]

section
variable {H : Type} {enc : TypeId × Value → H} {w : World} {base : Nat} {spare : Nat → Bool} {held : Bool}

/-- A row of pieces. -/
theorem open_segs {fuel : Nat} {cs : List Value} {x : DataW H × List MemPlace} (h : DataW.trod enc Tryd.prog w base spare held fuel 34 cs = some x) :
    ∃ sv l, cs = [sv] ∧ SegsAt w sv l ∧ Short l ∧ l.length ≤ 9223372036854775807 := by
  rcases open_slice_fields Tryd.underlying34 Tryd.underlying65 (by kernel_rfl) (by kernel_rfl) h with ⟨rfl, _⟩ | ⟨a, len, cap, m, D, Pl, rfl, _, hlc, hcm, hm, _, hf⟩
  · exact ⟨_, [], rfl, ⟨none, 0, rfl, Nat.le_refl _, fun j g hj => by simp at hj⟩, fun g hg => by simp at hg, by simp⟩
  · unfold maxLen at hcm
    have hlm : len ≤ m := by rw [hm]; split <;> omega
    have hg : ∀ i, i < len → ∃ g : Seg, g.s.length ≤ 9223372036854775807 ∧ w.cell? (a.add (i * 3 + 0)) = some (strV g.s) ∧ w.cell? (a.add (i * 3 + 1)) = some (.bool g.wild) ∧ w.cell? (a.add (i * 3 + 2)) = some (.bool g.multi) := by
      intro i hi
      obtain ⟨ys, n, _, _, _, hj⟩ := hf i (by omega)
      obtain ⟨v0, y0, c0, _, t0⟩ := hj 0 _ rfl
      obtain ⟨v1, y1, c1, _, t1⟩ := hj 1 _ rfl
      obtain ⟨v2, y2, c2, _, t2⟩ := hj 2 _ rfl
      obtain ⟨s, hs, _, hsz⟩ := DataW.trod_string Tryd.underlying9 t0
      obtain ⟨b1, hb1, _⟩ := DataW.trod_bool Tryd.underlying4 t1
      obtain ⟨b2, hb2, _⟩ := DataW.trod_bool Tryd.underlying4 t2
      simp only [List.cons.injEq, and_true] at hs hb1 hb2
      subst hs hb1 hb2
      unfold maxLen at hsz
      exact ⟨⟨bs s, b1, b2⟩, hsz, by rw [strV_bs]; exact c0, c1, c2⟩
    obtain ⟨l, hl, hlg⟩ : ∃ l : List Seg, l.length = len ∧ ∀ i g, l[i]? = some g → g.s.length ≤ 9223372036854775807 ∧ w.cell? (a.add (i * 3 + 0)) = some (strV g.s) ∧ w.cell? (a.add (i * 3 + 1)) = some (.bool g.wild) ∧ w.cell? (a.add (i * 3 + 2)) = some (.bool g.multi) := by
      refine ⟨(List.range len).pmap (fun i hi => (hg i hi).choose) (fun i hi => by simpa using hi), by simp, ?_⟩
      intro i g hi
      have hil : i < len := by
        have := (List.getElem?_eq_some_iff.1 hi).1
        simpa using this
      rw [List.getElem?_pmap] at hi
      simp [hil] at hi
      rw [← hi]
      exact (hg i hil).choose_spec
    subst hl
    refine ⟨_, l, rfl, ⟨some a, cap, rfl, hlc, ?_⟩, ?_, by omega⟩
    · intro j g hj
      have h0 : 0 < l.length := by have := (List.getElem?_eq_some_iff.1 hj).1; omega
      obtain ⟨_, c0, _, _⟩ := hlg 0 _ (List.getElem?_eq_getElem h0)
      have hsp : a.spot = none := by simpa [Addr.add] using World.cell?_spot c0
      obtain ⟨b, o, sp⟩ := a
      simp only at hsp
      subst hsp
      obtain ⟨_, d0, d1, d2⟩ := hlg j g hj
      rw [add_row] at d0 d1 d2
      exact ⟨b, o, rfl, cell_lt d0, d0, d1, d2⟩
    · intro g hgm
      obtain ⟨i, hi⟩ := List.mem_iff_getElem?.1 hgm
      exact (hlg i g hi).1

set_option maxRecDepth 100000 in
/-- A pattern. -/
theorem open_pattern {r : Reach} {b0 : Nat} {v : Value} {d : DataW H} {p : List MemPlace} (hv : Value.okWide Tryd.prog w r b0 36 v) (h : DataW.Trod enc Tryd.prog w base spare held 36 v d p) :
    ∃ (m hst : ByteArray) (sv : Value) (l : List Seg), v = .agg #[.string m, .string hst, sv] ∧ m.size ≤ 9223372036854775807 ∧ hst.size ≤ 9223372036854775807 ∧ SegsAt w sv l ∧ Short l ∧ l.length ≤ 9223372036854775807 := by
  obtain ⟨v0, v1, v2, y0, y1, y2, n, rfl, _, _, t0, t1, t2⟩ := open_agg3 Tryd.underlying36 (by kernel_rfl) (by kernel_rfl) hv h
  obtain ⟨s0, hs0, _, z0⟩ := DataW.trod_string Tryd.underlying9 t0
  obtain ⟨s1, hs1, _, z1⟩ := DataW.trod_string Tryd.underlying9 t1
  obtain ⟨sv, l, hs2, h1, h2, h3⟩ := open_segs t2
  simp only [List.cons.injEq, and_true] at hs0 hs1 hs2
  subst hs0 hs1 hs2
  unfold maxLen at z0 z1
  exact ⟨s0, s1, _, l, rfl, z0, z1, h1, h2, h3⟩
end
end Go.Proofs.YtgkhfcoieknjeaaDoor
