/-
  Proved, in plain words of lists: what the laws say of the relationships of good patterns.
-/
import Derived.Test.YtgkhfcoieknjeaaDoorPair
namespace Go.Proofs.YtgkhfcoieknjeaaDoor
open Go.RowKit

theorem okL_of : ∀ ks : List Kd, (∀ i : Nat, ks[i]? = some Kd.rest → i + 1 = ks.length) → Kd.okL ks
  | [], _ => trivial
  | [_], _ => trivial
  | a :: b :: r, h => by
    have h0 : a ≠ .rest := by
      intro e
      have := h 0 (by rw [e]; rfl)
      simp at this
    have ih := okL_of (b :: r) (fun i hi => by
      have := h (i + 1) (by simpa using hi)
      simpa using this)
    cases a <;> first | exact ih | exact absurd rfl h0

theorem kindOf_rest {g : Seg} (h : kindOf g = .rest) : g.multi = true := by
  obtain ⟨s, w, m⟩ := g
  cases m
  · cases w <;> simp [kindOf] at h
  · rfl

theorem kinds_ok {m h : List UInt8} {l : List Seg} (G : GoodP m h l) : Kd.okL (kinds l) := by
  refine okL_of _ fun i hi => ?_
  unfold kinds at hi ⊢
  rw [List.getElem?_map] at hi
  cases hg : l[i]? with
  | none => rw [hg] at hi; simp at hi
  | some g =>
    rw [hg] at hi
    simp at hi
    have h1 := (G.seg i g hg).2.1 (kindOf_rest hi)
    simpa using h1.2.1

theorem kinds_ne {m h : List UInt8} {l : List Seg} (G : GoodP m h l) : kinds l ≠ [] := by
  unfold kinds
  simpa using G.some_

variable {m1 h1 m2 h2 m3 h3 : List UInt8} {l1 l2 l3 : List Seg}

theorem byPaths_good (G1 : GoodP m1 h1 l1) (G2 : GoodP m2 h2 l2) : Kd.byPaths (kinds l1) (kinds l2) = Kd.byR (kinds l1) (kinds l2) :=
  Kd.byPaths_eq _ _ (kinds_ok G1) (kinds_ok G2) (kinds_ne G1) (kinds_ne G2)

theorem byPaths_inv (G1 : GoodP m1 h1 l1) (G2 : GoodP m2 h2 l2) : Kd.byPaths (kinds l2) (kinds l1) = (Kd.byPaths (kinds l1) (kinds l2)).inv := by
  rw [byPaths_good G1 G2, byPaths_good G2 G1, Kd.byR_inv]

theorem byPaths_self (G1 : GoodP m1 h1 l1) : Kd.byPaths (kinds l1) (kinds l1) = .eqv := by
  rw [byPaths_good G1 G1, Kd.byR_self]

theorem conf_self (G1 : GoodP m1 h1 l1) : confB m1 m1 h1 h1 l1 l1 = true := by
  unfold confB byBoth
  rw [byPaths_self G1]
  have : byM m1 m1 = .eqv := by unfold byM; rw [if_pos rfl]
  rw [this]
  simp [isConf, Rel.comb]

theorem byM_inv (a b : List UInt8) : byM b a = (byM a b).inv := by
  by_cases h : a = b
  · subst h
    unfold byM
    rw [if_pos rfl]
    rfl
  · have h' : ¬ b = a := fun e => h e.symm
    unfold byM
    rw [if_neg h, if_neg h']
    by_cases ha : a = []
    · have hb : ¬ b = [] := fun e => h (ha.trans e.symm)
      simp only [ha, hb, if_true, if_false]
      rfl
    · by_cases hb : b = []
      · simp only [ha, hb, if_true, if_false]
        rfl
      · simp only [ha, hb, if_false]
        by_cases h1 : a = [71, 69, 84] ∧ b = [72, 69, 65, 68]
        · obtain ⟨e1, e2⟩ := h1
          rw [e1, e2]
          rfl
        · by_cases h2 : b = [71, 69, 84] ∧ a = [72, 69, 65, 68]
          · obtain ⟨e1, e2⟩ := h2
            rw [e1, e2]
            rfl
          · simp only [h1, h2, if_false]
            rfl

theorem conf_swap (G1 : GoodP m1 h1 l1) (G2 : GoodP m2 h2 l2) : confB m2 m1 h2 h1 l2 l1 = confB m1 m2 h1 h2 l1 l2 := by
  unfold confB byBoth
  rw [byPaths_inv G1 G2, byM_inv m1 m2]
  have e : decide (h2 = h1) = decide (h1 = h2) := by
    by_cases h : h1 = h2
    · subst h; rfl
    · rw [decide_eq_false h, decide_eq_false fun e => h e.symm]
  rw [e]
  congr 1
  cases byM m1 m2 <;> cases Kd.byPaths (kinds l1) (kinds l2) <;> rfl

/-- What is more special than what is more special .. -/
theorem byPaths_three (G1 : GoodP m1 h1 l1) (G2 : GoodP m2 h2 l2) (G3 : GoodP m3 h3 l3) :
    (Kd.byPaths (kinds l1) (kinds l2) = .eqv → Kd.byPaths (kinds l2) (kinds l3) = Kd.byPaths (kinds l1) (kinds l3)) ∧
    (Kd.byPaths (kinds l1) (kinds l2) = .spc → (Kd.byPaths (kinds l2) (kinds l3) = .spc ∨ Kd.byPaths (kinds l2) (kinds l3) = .eqv) → Kd.byPaths (kinds l1) (kinds l3) = .spc) := by
  rw [byPaths_good G1 G2, byPaths_good G2 G3, byPaths_good G1 G3]
  refine ⟨fun h => ?_, fun h h' => Kd.byR_trans _ _ _ (kinds_ok G1) (kinds_ok G3) h h'⟩
  rw [Kd.byR_eqv _ _ (kinds_ok G1) (kinds_ok G2) h]
end Go.Proofs.YtgkhfcoieknjeaaDoor
