/-
  Proved, in plain words of lists: a pattern that conflicts with another one, and does not end in a wildcard for all that is left, stands in the index under each key at which the other one may look.
-/
import Derived.Test.YtgkhfcoieknjeaaDoorGoodKind
namespace Go.Proofs.YtgkhfcoieknjeaaDoor
open Go.RowKit Kd

/-- The word under which the index holds a piece. -/
def keyS (g : Seg) : List UInt8 := if g.wild then [] else g.s

/-- The last piece stands for all that is left. -/
def multiL (l : List Seg) : Bool := match l.getLast? with
  | some g => g.multi
  | none => false

def NoRest (l : List Kd) : Prop := ∀ k ∈ l, k ≠ Kd.rest

theorem byR_at : ∀ (p q : List Kd) (i : Nat) (s : List UInt8), okL p → NoRest q → byR p q ≠ .dis → p[i]? = some (.lit s) → q[i]? = some (.lit s) ∨ (q[i]? = some .one ∧ s ≠ [47])
  | [], _, i, s, _, _, _, h => by simp at h
  | a :: p, [], i, s, _, _, hd, h => by cases a <;> exact absurd rfl hd
  | a :: p, b :: q, i, s, ho, hq, hd, h => by
    have hb : b ≠ .rest := hq b (by simp)
    by_cases ha : a = .rest
    · subst ha
      have := okL_rest ho
      subst this
      cases i <;> simp at h
    · rw [byR_step a b p q ha hb] at hd
      have hd1 : by2 a b ≠ .dis := fun e => hd (by rw [e]; cases byR p q <;> rfl)
      have hd2 : byR p q ≠ .dis := fun e => hd (by rw [e]; exact comb_gen_dis _)
      cases i with
      | succ i =>
        have := byR_at p q i s (okL_tail ho) (fun k hk => hq k (by simp [hk])) hd2 (by simpa using h)
        simpa using this
      | zero =>
        simp only [List.getElem?_cons_zero, Option.some.injEq] at h
        subst h
        cases b with
        | lit t =>
          by_cases e : s = t
          · left; simp [e]
          · exact absurd (by simp [by2, e]) hd1
        | one => exact .inr ⟨by simp, fun e => hd1 (by simp [by2, e])⟩
        | rest => exact absurd rfl hb

theorem byR_len : ∀ (p q : List Kd), NoRest p → NoRest q → byR p q ≠ .dis → p.length = q.length
  | [], [], _, _, _ => rfl
  | [], b :: q, _, _, hd => by cases b <;> exact absurd rfl hd
  | a :: p, [], _, _, hd => by cases a <;> exact absurd rfl hd
  | a :: p, b :: q, hp, hq, hd => by
    rw [byR_step a b p q (hp a (by simp)) (hq b (by simp))] at hd
    have hd2 : byR p q ≠ .dis := fun e => hd (by rw [e]; exact comb_gen_dis _)
    have := byR_len p q (fun k hk => hp k (by simp [hk])) (fun k hk => hq k (by simp [hk])) hd2
    simp [this]

theorem noRest_of {m h : List UInt8} {l : List Seg} (G : GoodP m h l) (hm : multiL l = false) : NoRest (kinds l) := by
  intro k hk e
  subst e
  unfold kinds at hk
  obtain ⟨g, hg, hkg⟩ := List.mem_map.1 hk
  obtain ⟨i, hi⟩ := List.mem_iff_getElem?.1 hg
  have h1 := (G.seg i g hi).2.1 (kindOf_rest hkg)
  have h2 : i + 1 = l.length := by simpa using h1.2.1
  have h3 : l.getLast? = some g := by
    rw [List.getLast?_eq_getElem?, ← h2]
    simpa using hi
  unfold multiL at hm
  rw [h3] at hm
  simp only [kindOf_rest hkg] at hm
  cases hm

theorem keyS_lit {g : Seg} {s : List UInt8} (h : kindOf g = .lit s) : g.wild = false ∧ g.s = s ∧ keyS g = s := by
  obtain ⟨s', w, m⟩ := g
  cases m
  · cases w
    · simp only [kindOf, keyS] at h ⊢
      simp at h
      simp [h]
    · simp [kindOf] at h
  · simp [kindOf] at h

theorem keyS_one {g : Seg} (h : kindOf g = .one) : keyS g = [] := by
  obtain ⟨s', w, m⟩ := g
  cases m
  · cases w
    · simp [kindOf] at h
    · rfl
  · simp [kindOf] at h

theorem keyS_kind {m h : List UInt8} {l : List Seg} (G : GoodP m h l) {i : Nat} {g : Seg} (hg : l[i]? = some g) (hw : g.wild = false) : kindOf g = .lit g.s := by
  have hm : g.multi = false := by
    cases hm : g.multi
    · rfl
    · have := ((G.seg i g hg).2.1 hm).1
      rw [hw] at this
      cases this
  obtain ⟨s, w, mu⟩ := g
  simp only at hw hm
  subst hw hm
  rfl

theorem conf_byR {m1 m2 h1 h2 : List UInt8} {l1 l2 : List Seg} (G1 : GoodP m1 h1 l1) (G2 : GoodP m2 h2 l2) (hc : confB m1 m2 h1 h2 l1 l2 = true) : byR (kinds l1) (kinds l2) ≠ .dis := by
  intro e
  unfold confB byBoth at hc
  rw [byPaths_good G1 G2, e, comb_gen_dis] at hc
  simp [isConf] at hc

section
variable {m1 m2 h1 h2 : List UInt8} {l1 l2 : List Seg} (G1 : GoodP m1 h1 l1) (G2 : GoodP m2 h2 l2) (hc : confB m1 m2 h1 h2 l1 l2 = true) (hm : multiL l2 = false)
include G1 G2 hc hm

/-- At a piece that stands for itself the other pattern has the same piece, or a wildcard. -/
theorem conf_lit {i : Nat} {g : Seg} (hg : l1[i]? = some g) (hw : g.wild = false) : ∃ g', l2[i]? = some g' ∧ (keyS g' = g.s ∨ keyS g' = []) := by
  have hk : (kinds l1)[i]? = some (.lit g.s) := by
    unfold kinds
    rw [List.getElem?_map, hg, ← keyS_kind G1 hg hw]; rfl
  rcases byR_at _ _ i g.s (kinds_ok G1) (noRest_of G2 hm) (conf_byR G1 G2 hc) hk with h | ⟨h, _⟩
  · unfold kinds at h
    rw [List.getElem?_map] at h
    obtain ⟨g', h3, h4⟩ := Option.map_eq_some_iff.1 h
    exact ⟨g', h3, .inl (keyS_lit h4).2.2⟩
  · unfold kinds at h
    rw [List.getElem?_map] at h
    obtain ⟨g', h3, h4⟩ := Option.map_eq_some_iff.1 h
    exact ⟨g', h3, .inr (keyS_one h4)⟩

/-- Where the pattern ends in the end itself, the other one ends there in the end, too. -/
theorem conf_dollar {g : Seg} (hg : l1.getLast? = some g) (hs : g.s = [47]) (hw : g.wild = false) : ∃ g', l2[l1.length - 1]? = some g' ∧ keyS g' = [47] := by
  rw [List.getLast?_eq_getElem?] at hg
  have hk : (kinds l1)[l1.length - 1]? = some (.lit [47]) := by
    unfold kinds
    rw [List.getElem?_map, hg, ← hs, ← keyS_kind G1 hg hw]; rfl
  rcases byR_at _ _ _ [47] (kinds_ok G1) (noRest_of G2 hm) (conf_byR G1 G2 hc) hk with h | ⟨_, h⟩
  · unfold kinds at h
    rw [List.getElem?_map] at h
    obtain ⟨g', h3, h4⟩ := Option.map_eq_some_iff.1 h
    exact ⟨g', h3, (keyS_lit h4).2.2⟩
  · exact absurd rfl h
end

/-- A last piece '/' stands for the end itself. -/
theorem slash_lit {m h : List UInt8} {l : List Seg} (G : GoodP m h l) {g : Seg} (hg : l.getLast? = some g) (hs : g.s = [47]) : g.wild = false := by
  rw [List.getLast?_eq_getElem?] at hg
  obtain ⟨_, a1, a2, _, _⟩ := G.seg _ g hg
  have hno : nameB [47] ≠ true := by decide
  cases hw : g.wild
  · rfl
  · exfalso
    cases hm : g.multi
    · have := a2 hw hm
      rw [hs] at this
      exact hno this
    · rcases (a1 hm).2.2 with h1 | h1
      · rw [hs] at h1; cases h1
      · rw [hs] at h1; exact hno h1
end Go.Proofs.YtgkhfcoieknjeaaDoor
