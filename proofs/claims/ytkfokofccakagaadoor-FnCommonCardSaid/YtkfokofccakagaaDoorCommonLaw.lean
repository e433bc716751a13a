/-
  Proved, in plain words of lists: the path in common of two good patterns that are not disjoint, where no wildcard of the first for one piece meets one of the second for all that is left, parts into pieces that both match.
-/
import Derived.Test.YtkfokofccakagaaDoorGoodKind
import Derived.Test.YtkfokofccakagaaDoorItems
import Derived.Test.YtkfokofccakagaaDoorPieces
namespace Go.Proofs.YtkfokofccakagaaDoor
open Go.RowKit Go.Lib.Pa

/-- What is written for a piece. -/
def wtext (g : Seg) : List UInt8 := if !g.multi && !decide (g.s = [47]) then g.s else []

/-- The pieces of the path in common. -/
def ctext : List Seg → List Seg → List (List UInt8)
  | [], q => q.map wtext
  | p, [] => p.map wtext
  | a :: p, b :: q => wtext (if a.wild then b else a) :: ctext p q

/-- A wildcard of the first for one piece stands where the second has one for all that is left. -/
def meetsB : List Seg → List Seg → Bool
  | a :: p, b :: q => (a.wild && !a.multi && b.multi) || meetsB p q
  | _, _ => false

def okSegs : List Seg → Prop
  | [] => True
  | g :: r => okSeg (decide (r = [])) g ∧ okSegs r

theorem okSegs_of : ∀ l : List Seg, (∀ (i : Nat) (g : Seg), l[i]? = some g → okSeg (decide (i + 1 = l.length)) g) → okSegs l
  | [], _ => trivial
  | g :: r, h => by
    refine ⟨?_, okSegs_of r fun i x hx => ?_⟩
    · have h0 := h 0 g rfl
      have e : decide (0 + 1 = (g :: r).length) = decide (r = []) := by
        cases r <;> simp
      rw [e] at h0; exact h0
    · have h1 := h (i + 1) x (by simpa using hx)
      have e : decide (i + 1 + 1 = (g :: r).length) = decide (i + 1 = r.length) := by simp
      rw [e] at h1; exact h1

theorem itemsOf_cons (x : List UInt8) (t : List (List UInt8)) (its : List (List UInt8)) (hx : x ≠ []) (ht : t ≠ []) (h : itemsOf t = some its) : itemsOf (x :: t) = some (x :: its) := by
  cases t with
  | nil => exact (ht rfl).elim
  | cons y t => rw [itemsOf, if_neg hx, h]; rfl

theorem itemsOf_ne (t its : List (List UInt8)) (h : itemsOf t = some its) : its ≠ [] := by
  rintro rfl
  cases t with
  | nil => simp [itemsOf] at h
  | cons x t =>
    cases t with
    | nil => simp [itemsOf] at h
    | cons y t =>
      rw [itemsOf] at h
      split at h
      · cases h
      · cases hh : itemsOf (y :: t) <;> rw [hh] at h <;> simp at h

theorem name_ne (s : List UInt8) (h : nameB s = true) : s ≠ [] ∧ s ≠ [47] := by
  constructor
  · rintro rfl; simp [nameB] at h
  · rintro rfl; revert h; decide

theorem lit_ne (s : List UInt8) (h : literalB s = true) : s ≠ [] := by
  simp only [literalB, Bool.and_eq_true, decide_eq_true_eq] at h
  exact h.1.1.1.2

/-- A piece that is not the last one, or stands for one piece: its text is a piece of a path that it matches. -/
theorem wtext_one (g : Seg) (last : Bool) (h : okSeg last g) (hm : g.multi = false) (hs : g.wild = true ∨ g.s ≠ [47]) : wtext g = g.s ∧ g.s ≠ [] ∧ g.s ≠ [47] ∧ Kd.mt1 (kindOf g) g.s = true := by
  obtain ⟨s, wd, m⟩ := g
  simp only at hm hs
  subst hm
  obtain ⟨_, _, h2, _, h4⟩ := h
  cases wd
  · have h47 : s ≠ [47] := hs.elim (fun e => by cases e) id
    have hl := h4 rfl h47
    exact ⟨by simp [wtext, h47], lit_ne s hl, h47, by simp [kindOf, Kd.mt1]⟩
  · have hn := name_ne s (h2 rfl rfl)
    exact ⟨by simp [wtext, hn.2], hn.1, hn.2, by simp [kindOf, Kd.mt1, hn.2]⟩

theorem kinds_cons (g : Seg) (l : List Seg) : kinds (g :: l) = kindOf g :: kinds l := rfl

theorem kindOf_ne (g : Seg) (hm : g.multi = false) : kindOf g ≠ .rest := by
  obtain ⟨s, wd, m⟩ := g
  simp only at hm
  subst hm
  cases wd <;> simp [kindOf]

/-- The pieces of one pattern alone. -/
theorem own_items : ∀ l : List Seg, l ≠ [] → okSegs l → ∃ its, itemsOf (l.map wtext) = some its ∧ Kd.mt (kinds l) its = true
  | [], h, _ => (h rfl).elim
  | [g], _, h => by
    have h0 : okSeg true g := by simpa using h.1
    cases hm : g.multi
    · by_cases hs : g.wild = true ∨ g.s ≠ [47]
      · obtain ⟨e, h1, h2, h3⟩ := wtext_one g true h0 hm hs
        refine ⟨[g.s], by simp [itemsOf, e, h1], ?_⟩
        rw [kinds_cons, Kd.mt_step _ _ _ _ (kindOf_ne g hm), h3]; rfl
      · have hw : g.wild = false := by cases h : g.wild <;> simp_all
        have h47 : g.s = [47] := Decidable.byContradiction fun e => hs (.inr e)
        refine ⟨[[47]], by simp [itemsOf, wtext, h47], ?_⟩
        rw [kinds_cons, Kd.mt_step _ _ _ _ (kindOf_ne g hm)]
        simp [kindOf, hm, hw, h47, Kd.mt1, kinds, Kd.mt]
    · refine ⟨[[47]], by simp [itemsOf, wtext, hm], ?_⟩
      rw [kinds_cons]
      simp [kindOf, hm, Kd.mt]
  | g :: y :: r, _, h => by
    obtain ⟨its, i1, i2⟩ := own_items (y :: r) (by simp) h.2
    have h0 : okSeg false g := by simpa using h.1
    have hm : g.multi = false := by
      cases hm : g.multi
      · rfl
      · have := (h0.2.1 hm).2.1; cases this
    have hs : g.wild = true ∨ g.s ≠ [47] := by
      cases hw : g.wild
      · right
        intro e
        have := h0.2.2.2.1 hw e
        cases this
      · exact .inl rfl
    obtain ⟨e, h1, h2, h3⟩ := wtext_one g false h0 hm hs
    refine ⟨g.s :: its, ?_, ?_⟩
    · rw [List.map_cons, e]
      exact itemsOf_cons _ _ _ h1 (by simp) i1
    · rw [kinds_cons, Kd.mt_step _ _ _ _ (kindOf_ne g hm), h3, i2]; rfl

theorem ctext_right (p : List Seg) : ctext p [] = p.map wtext := by cases p <;> rfl

theorem rest_mt (its : List (List UInt8)) (h : its ≠ []) : Kd.mt [.rest] its = true := by
  cases its with
  | nil => exact (h rfl).elim
  | cons x r => rfl

theorem comb_dis {a b : Rel} (h : a.comb b ≠ .dis) : a ≠ .dis ∧ b ≠ .dis := by
  cases a <;> cases b <;> simp [Rel.comb] at h ⊢

theorem multi_last {g : Seg} {r : List Seg} (h : okSegs (g :: r)) (hm : g.multi = true) : r = [] ∧ g.wild = true := by
  have h0 := (h.1.2.1 hm)
  exact ⟨by simpa using h0.2.1, h0.1⟩

theorem slash_last {g : Seg} {r : List Seg} (h : okSegs (g :: r)) (hw : g.wild = false) (hs : g.s = [47]) : r = [] := by
  have h0 := h.1.2.2.2.1 hw hs
  simpa using h0

/-- The pieces in common. -/
theorem common_items : ∀ p q : List Seg, p ≠ [] → q ≠ [] → okSegs p → okSegs q → Kd.byR (kinds p) (kinds q) ≠ .dis → meetsB p q = false →
    ∃ its, itemsOf (ctext p q) = some its ∧ Kd.mt (kinds p) its = true ∧ Kd.mt (kinds q) its = true
  | [], _, h, _, _, _, _, _ => (h rfl).elim
  | _, [], _, h, _, _, _, _ => (h rfl).elim
  | a :: p, b :: q, _, _, ha, hb, hr, hx => by
    cases hma : a.multi
    · cases hmb : b.multi
      · have hka := kindOf_ne a hma
        have hkb := kindOf_ne b hmb
        rw [kinds_cons, kinds_cons, Kd.byR_step _ _ _ _ hka hkb] at hr
        obtain ⟨hr1, hr2⟩ := comb_dis hr
        have hx2 : meetsB p q = false := by
          simp only [meetsB, Bool.or_eq_false_iff] at hx
          exact hx.2
        -- the text that is written for both
        have key : (p = [] ∧ q = [] ∧ a.wild = false ∧ b.wild = false ∧ a.s = [47] ∧ b.s = [47]) ∨
            ∃ x, wtext (if a.wild then b else a) = x ∧ x ≠ [] ∧ Kd.mt1 (kindOf a) x = true ∧ Kd.mt1 (kindOf b) x = true := by
          cases hwa : a.wild
          · have hk1 : kindOf a = .lit a.s := by simp [kindOf, hma, hwa]
            by_cases hs : a.s = [47]
            · cases hwb : b.wild
              · have hk2 : kindOf b = .lit b.s := by simp [kindOf, hmb, hwb]
                have he : a.s = b.s := by
                  rw [hk1, hk2] at hr1
                  apply Decidable.byContradiction
                  intro hn
                  exact hr1 (by simp [Kd.by2, hn])
                exact .inl ⟨slash_last ha hwa hs, slash_last hb hwb (he ▸ hs), rfl, rfl, hs, he ▸ hs⟩
              · exfalso
                have hk2 : kindOf b = .one := by simp [kindOf, hmb, hwb]
                rw [hk1, hk2] at hr1
                exact hr1 (by simp [Kd.by2, hs])
            · right
              obtain ⟨e, h1, h2, h3⟩ := wtext_one a _ ha.1 hma (.inr hs)
              refine ⟨a.s, by simpa using e, h1, h3, ?_⟩
              cases hwb : b.wild
              · have hk2 : kindOf b = .lit b.s := by simp [kindOf, hmb, hwb]
                have he : a.s = b.s := by
                  rw [hk1, hk2] at hr1
                  apply Decidable.byContradiction
                  intro hn
                  exact hr1 (by simp [Kd.by2, hn])
                rw [hk2, he]; simp [Kd.mt1]
              · have hk2 : kindOf b = .one := by simp [kindOf, hmb, hwb]
                rw [hk2]; simp [Kd.mt1, hs]
          · right
            have hk1 : kindOf a = .one := by simp [kindOf, hma, hwa]
            have hsb : b.wild = true ∨ b.s ≠ [47] := by
              cases hwb : b.wild
              · right
                intro e
                have hk2 : kindOf b = .lit b.s := by simp [kindOf, hmb, hwb]
                rw [hk1, hk2] at hr1
                exact hr1 (by simp [Kd.by2, e])
              · exact .inl rfl
            obtain ⟨e, h1, h2, h3⟩ := wtext_one b _ hb.1 hmb hsb
            exact ⟨b.s, by simpa using e, h1, by rw [hk1]; simp [Kd.mt1, h2], h3⟩
        rcases key with ⟨rfl, rfl, w1, w2, s1, s2⟩ | ⟨x, ex, h1, h2, h3⟩
        · refine ⟨[[47]], by simp [ctext, itemsOf, w1, wtext, s1], ?_, ?_⟩
          · rw [kinds_cons, Kd.mt_step _ _ _ _ hka]; simp [kindOf, hma, w1, s1, Kd.mt1, kinds, Kd.mt]
          · rw [kinds_cons, Kd.mt_step _ _ _ _ hkb]; simp [kindOf, hmb, w2, s2, Kd.mt1, kinds, Kd.mt]
        · by_cases hp : p = []
          · by_cases hq : q = []
            · subst hp; subst hq
              refine ⟨[x], by simp [ctext, itemsOf, ex, h1], ?_, ?_⟩
              · rw [kinds_cons, Kd.mt_step _ _ _ _ hka, h2]; rfl
              · rw [kinds_cons, Kd.mt_step _ _ _ _ hkb, h3]; rfl
            · exfalso
              subst hp
              cases q with
              | nil => exact hq rfl
              | cons y q => exact hr2 (by cases h : kindOf y <;> simp [kinds, Kd.byR])
          · by_cases hq : q = []
            · exfalso
              subst hq
              cases p with
              | nil => exact hp rfl
              | cons y p => exact hr2 (by cases h : kindOf y <;> simp [kinds, Kd.byR])
            · obtain ⟨its, i1, i2, i3⟩ := common_items p q hp hq ha.2 hb.2 hr2 hx2
              refine ⟨x :: its, ?_, ?_, ?_⟩
              · rw [ctext, ex]
                refine itemsOf_cons _ _ _ h1 ?_ i1
                intro e
                rw [e] at i1; simp [itemsOf] at i1
              · rw [kinds_cons, Kd.mt_step _ _ _ _ hka, h2, i2]; rfl
              · rw [kinds_cons, Kd.mt_step _ _ _ _ hkb, h3, i3]; rfl
      · obtain ⟨rfl, hwb⟩ := multi_last hb hmb
        have hwa : a.wild = false := by
          cases h : a.wild
          · rfl
          · simp [meetsB, h, hma, hmb] at hx
        obtain ⟨its, i1, i2⟩ := own_items (a :: p) (by simp) ha
        refine ⟨its, ?_, i2, ?_⟩
        · rw [ctext, hwa, ctext_right]; exact i1
        · have : kinds [b] = [.rest] := by simp [kinds, kindOf, hmb]
          rw [this]; exact rest_mt _ (itemsOf_ne _ _ i1)
    · obtain ⟨rfl, hwa⟩ := multi_last ha hma
      obtain ⟨its, i1, i2⟩ := own_items (b :: q) (by simp) hb
      refine ⟨its, ?_, ?_, i2⟩
      · rw [ctext, hwa]; exact i1
      · have : kinds [a] = [.rest] := by simp [kinds, kindOf, hma]
        rw [this]; exact rest_mt _ (itemsOf_ne _ _ i1)

/-! ### The path itself -/

theorem nameB_ch (s : List UInt8) (h : nameB s = true) : ∀ c ∈ s, c ≠ 47 ∧ c ≠ 37 := by
  intro c hc
  have hw : wordB c = true := by
    cases s with
    | nil => simp at hc
    | cons d t =>
      simp only [nameB, Bool.and_eq_true, List.all_eq_true] at h
      rcases List.mem_cons.1 hc with rfl | hc
      · simp [wordB, h.1]
      · exact h.2 c hc
  constructor
  · rintro rfl; revert hw; decide
  · rintro rfl; revert hw; decide

theorem wtext_ch (g : Seg) (last : Bool) (h : okSeg last g) : (wtext g).length ≤ 16 ∧ ∀ c ∈ wtext g, c ≠ 47 ∧ c ≠ 37 := by
  unfold wtext
  split
  · rename_i hc
    simp only [Bool.and_eq_true, Bool.not_eq_true', decide_eq_false_iff_not] at hc
    refine ⟨h.1, ?_⟩
    cases hw : g.wild
    · have hl := h.2.2.2.2 hw hc.2
      intro c hm
      simp only [literalB, Bool.and_eq_true, List.all_eq_true] at hl
      have := hl.1.1.1.1 c hm
      constructor
      · rintro rfl; revert this; decide
      · rintro rfl; revert this; decide
    · exact nameB_ch _ (h.2.2.1 hw hc.1)
  · exact ⟨by simp, by simp⟩

theorem map_ch : ∀ l : List Seg, okSegs l → ∀ x ∈ l.map wtext, x.length ≤ 16 ∧ ∀ c ∈ x, c ≠ 47 ∧ c ≠ 37
  | [], _, x, hx => by simp at hx
  | g :: r, h, x, hx => by
    rw [List.map_cons] at hx
    rcases List.mem_cons.1 hx with rfl | hx
    · exact wtext_ch g _ h.1
    · exact map_ch r h.2 x hx

theorem ctext_ch : ∀ p q : List Seg, okSegs p → okSegs q → ∀ x ∈ ctext p q, x.length ≤ 16 ∧ ∀ c ∈ x, c ≠ 47 ∧ c ≠ 37
  | [], q, _, hq, x, hx => map_ch q hq x (by simpa [ctext] using hx)
  | a :: p, [], hp, _, x, hx => map_ch (a :: p) hp x (by simpa [ctext] using hx)
  | a :: p, b :: q, hp, hq, x, hx => by
    rw [ctext] at hx
    rcases List.mem_cons.1 hx with rfl | hx
    · cases a.wild
      · exact wtext_ch a _ hp.1
      · exact wtext_ch b _ hq.1
    · exact ctext_ch p q hp.2 hq.2 x hx

theorem ctext_len : ∀ p q : List Seg, (ctext p q).length = max p.length q.length
  | [], q => by simp [ctext]
  | a :: p, [] => by simp [ctext]
  | a :: p, b :: q => by
    have := ctext_len p q
    simp only [ctext, List.length_cons, this]
    omega

theorem slashed_length : ∀ ts : List (List UInt8), (∀ x ∈ ts, x.length ≤ 16) → (slashed ts).length ≤ ts.length * 17
  | [], _ => by simp [slashed]
  | x :: r, h => by
    have h1 := h x List.mem_cons_self
    have ih := slashed_length r fun y hy => h y (List.mem_cons_of_mem _ hy)
    simp only [slashed, List.length_cons, List.length_append]
    omega

theorem items_slashed (ts : List (List UInt8)) (hne : ts ≠ []) (hl : ts.length ≤ 6) (h : ∀ x ∈ ts, x.length ≤ 16 ∧ ∀ c ∈ x, c ≠ 47 ∧ c ≠ 37) : itemsL (slashed ts) = itemsOf ts := by
  have hz := slashed_length ts fun x hx => (h x hx).1
  have hp : hasB (slashed ts) 37 = false := by
    cases hc : hasB (slashed ts) 37
    · rfl
    · have hm := (hasB_iff (slashed ts) 37).1 (by simpa using hc)
      exact absurd rfl (slashed_noPct ts (fun q hq c hc => ((h q hq).2 c hc).2) 37 hm)
  have hh : (slashed ts).head? = some 47 := by
    cases ts with
    | nil => exact (hne rfl).elim
    | cons x r => rfl
  have he := els_slashed ts hne fun x hx c hc => ((h x hx).2 c hc).1
  unfold itemsL
  rw [if_pos ⟨hh, by omega, hp⟩]
  cases hs : slashed ts with
  | nil => rw [hs] at hh; simp at hh
  | cons c t =>
    rw [hs] at hh he
    simp at hh
    subst hh
    rw [els_slash] at he
    simp only [List.cons.injEq, true_and] at he
    rw [List.tail_cons, he]

/-- The law: the path in common. -/
theorem common_law {m1 h1 m2 h2 : List UInt8} {p q : List Seg} (G1 : GoodP m1 h1 p) (G2 : GoodP m2 h2 q) (hr : Kd.byPaths (kinds p) (kinds q) ≠ .dis) (hx : meetsB p q = false) :
    ∃ its, itemsL (slashed (ctext p q)) = some its ∧ Kd.mt (kinds p) its = true ∧ Kd.mt (kinds q) its = true := by
  have o1 := okSegs_of p G1.seg
  have o2 := okSegs_of q G2.seg
  rw [byPaths_good G1 G2] at hr
  obtain ⟨its, i1, i2, i3⟩ := common_items p q G1.some_ G2.some_ o1 o2 hr hx
  refine ⟨its, ?_, i2, i3⟩
  have h1 := G1.six
  have h2 := G2.six
  have hl := ctext_len p q
  rw [items_slashed _ (fun e => by rw [e] at i1; simp [itemsOf] at i1) (by omega) (ctext_ch p q o1 o2)]
  exact i1
end Go.Proofs.YtkfokofccakagaaDoor
