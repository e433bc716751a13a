/-
  Proved, in plain words of lists: what the pieces that spec.Read has read so far say of parsePattern's mirror. No conditions but those stated.
-/
import Derived.Test.YtodmlommidifjaaDoorPPLaw
namespace Go.Proofs.YtodmlommidifjaaDoor
open Go.RowKit
open Go.Lib.Pa (els)

/-- The names of the wildcards, the last one first. -/
def seenOf (l : List Seg) : List (List UInt8) := l.foldl (fun s g => if g.wild then g.s :: s else s) []

theorem seenOf_snoc (l : List Seg) (g : Seg) : seenOf (l ++ [g]) = if g.wild then g.s :: seenOf l else seenOf l := by
  simp [seenOf, List.foldl_append]

theorem seenOf_mem_aux : ∀ (l : List Seg) (acc : List (List UInt8)) (s : List UInt8), s ∈ l.foldl (fun s g => if g.wild then g.s :: s else s) acc ↔ (∃ t ∈ l, t.wild = true ∧ t.s = s) ∨ s ∈ acc
  | [], acc, s => by simp
  | g :: l, acc, s => by
    rw [List.foldl_cons, seenOf_mem_aux l]
    cases hw : g.wild
    · simp [hw]
    · simp [hw]
      constructor
      · rintro (h | h | h)
        · exact .inl (.inr h)
        · exact .inl (.inl h.symm)
        · exact .inr h
      · rintro ((h | h) | h)
        · exact .inr (.inl h.symm)
        · exact .inl h
        · exact .inr (.inr h)

theorem seenOf_mem (l : List Seg) (s : List UInt8) : s ∈ seenOf l ↔ ∃ t ∈ l, t.wild = true ∧ t.s = s := by
  have := seenOf_mem_aux l [] s
  simpa [seenOf] using this

/-- A piece may stand behind others. -/
def freeB (l0 : List Seg) (g : Seg) : Bool := l0.all fun t => !t.wild || !g.wild || !decide (t.s = g.s)

theorem freeB_iff (l0 : List Seg) (g : Seg) : freeB l0 g = !(g.wild && (seenOf l0).contains g.s) := by
  cases hw : g.wild
  · simp [freeB, hw]
  · cases hc : (seenOf l0).contains g.s
    · have hn : ¬ g.s ∈ seenOf l0 := by simpa using hc
      rw [seenOf_mem] at hn
      simp only [freeB, hw, Bool.not_true, Bool.or_false, Bool.true_and, Bool.not_false, List.all_eq_true, Bool.or_eq_true, Bool.not_eq_true', decide_eq_false_iff_not]
      intro t ht
      cases h : t.wild
      · exact .inl rfl
      · exact .inr fun e => hn ⟨t, ht, h, e⟩
    · have hm : g.s ∈ seenOf l0 := by simpa using hc
      obtain ⟨t, ht, h1, h2⟩ := (seenOf_mem _ _).1 hm
      simp only [freeB, hw, Bool.not_true, Bool.or_false, Bool.true_and, List.all_eq_false]
      exact ⟨t, ht, by simp [h1, h2]⟩

/-- The pieces read so far are those that the mirror finds. -/
def ReadSo (ks : List (List UInt8)) (i : Nat) (l0 : List Seg) : Prop := piecesL ks [] = (piecesL (ks.drop i) (seenOf l0)).map (l0 ++ ·)

theorem readSo_zero (ks : List (List UInt8)) : ReadSo ks 0 [] := by
  unfold ReadSo
  cases h : piecesL ks [] <;> simp [seenOf, h]

theorem drop_at {α : Type} (ks : List α) (i : Nat) (x : α) (h : ks[i]? = some x) : ks.drop i = x :: ks.drop (i + 1) := by
  obtain ⟨hl, rfl⟩ := List.getElem?_eq_some_iff.1 h
  exact List.drop_eq_getElem_cons hl

theorem drop_empty {α : Type} (ks : List α) (i : Nat) (h : i < ks.length) : (ks.drop (i + 1)).isEmpty = decide (i + 1 = ks.length) := by
  by_cases he : i + 1 = ks.length
  · rw [List.drop_of_length_le (by omega), decide_eq_true he]; rfl
  · rw [decide_eq_false he]
    have : (ks.drop (i + 1)).length ≠ 0 := by rw [List.length_drop]; omega
    cases hd : ks.drop (i + 1) with
    | nil => rw [hd] at this; exact (this rfl).elim
    | cons a b => rfl

theorem readSo_step (ks : List (List UInt8)) (i : Nat) (l0 : List Seg) (x : List UInt8) (g : Seg) (h : ReadSo ks i l0) (hx : ks[i]? = some x) (hp : pieceL x (decide (i + 1 = ks.length)) = some g) :
    (freeB l0 g = true → ReadSo ks (i + 1) (l0 ++ [g])) ∧ (freeB l0 g = false → piecesL ks [] = none) := by
  have hl := (List.getElem?_eq_some_iff.1 hx).1
  unfold ReadSo at h ⊢
  rw [drop_at ks i x hx, piecesL, drop_empty ks i hl, hp] at h
  simp only at h
  rw [freeB_iff]
  constructor
  · intro hf
    have hf' : (g.wild && (seenOf l0).contains g.s) = false := by
      cases h : (g.wild && (seenOf l0).contains g.s)
      · rfl
      · rw [h] at hf; cases hf
    rw [if_neg (by rw [hf']; simp)] at h
    rw [h, seenOf_snoc]
    cases piecesL (ks.drop (i + 1)) (if g.wild = true then g.s :: seenOf l0 else seenOf l0) <;> simp
  · intro hf
    have hf' : (g.wild && (seenOf l0).contains g.s) = true := by
      cases h : (g.wild && (seenOf l0).contains g.s)
      · rw [h] at hf; cases hf
      · rfl
    rw [if_pos hf'] at h
    rw [h]; rfl

theorem readSo_bad (ks : List (List UInt8)) (i : Nat) (l0 : List Seg) (x : List UInt8) (h : ReadSo ks i l0) (hx : ks[i]? = some x) (hp : pieceL x (decide (i + 1 = ks.length)) = none) : piecesL ks [] = none := by
  have hl := (List.getElem?_eq_some_iff.1 hx).1
  unfold ReadSo at h
  rw [drop_at ks i x hx, piecesL, drop_empty ks i hl, hp] at h
  rw [h]; rfl

theorem readSo_end (ks : List (List UInt8)) (l0 : List Seg) (h : ReadSo ks ks.length l0) : piecesL ks [] = some l0 := by
  unfold ReadSo at h
  rw [List.drop_of_length_le (Nat.le_refl _)] at h
  rw [h]; simp [piecesL]

/-! ### One piece -/

theorem pieceL_last : pieceL [] true = some ⟨[], true, true⟩ := by simp [pieceL]

theorem litCB_no (x : List UInt8) (h : literalB x = true) (c : UInt8) (hc : litCB c = false) : c ∉ x := by
  intro hm
  simp only [literalB, Bool.and_eq_true, List.all_eq_true] at h
  have := h.1.1.1.1 c hm
  rw [hc] at this; cases this

theorem pieceL_lit (x : List UInt8) (last : Bool) (h : literalB x = true) : pieceL x last = some ⟨x, false, false⟩ := by
  have h0 : x ≠ [] := by
    simp only [literalB, Bool.and_eq_true, decide_eq_true_eq] at h
    exact h.1.1.1.2
  have h1 : x.contains 123 = false := by
    have := litCB_no x h 123 (by decide)
    simpa using this
  unfold pieceL
  rw [if_neg fun e => h0 e.1, if_pos h1]

theorem kept_lit (x : List UInt8) (h : literalB x = true) : Kept x := by
  have h2 := h
  simp only [literalB, Bool.and_eq_true, decide_eq_true_eq] at h2
  obtain ⟨⟨⟨⟨h0, h1⟩, h3⟩, h4⟩, h5⟩ := h2
  have hns : ∀ c ∈ x, c ≠ 47 := fun c hc e => litCB_no x h 47 (by decide) (e ▸ hc)
  exact ⟨h1, h3, h4, hns⟩

theorem kept_brace (x : List UInt8) (h : (123 : UInt8) ∈ x) (hns : ∀ c ∈ x, c ≠ 47) : Kept x := by
  have h1 : x ≠ [] := by rintro rfl; simp at h
  have h3 : x ≠ [46] := by rintro rfl; simp at h
  have h4 : x ≠ [46, 46] := by rintro rfl; simp at h
  exact ⟨h1, h3, h4, hns⟩

/-! ### Host and path -/

theorem els_host : ∀ r : List UInt8, r.contains 47 = true → els r = hostOf r :: els (pathOf r).tail
  | [], h => by simp at h
  | c :: t, h => by
    by_cases hc : c = 47
    · subst hc
      rw [els_slash]
      simp [hostOf, pathOf]
    · have hcb : ¬ (47 : UInt8) = c := fun e => hc e.symm
      have ht : t.contains 47 = true := by simpa [hcb] using h
      have ih := els_host t ht
      have h1 : hostOf (c :: t) = c :: hostOf t := by simp [hostOf, hc]
      have h2 : pathOf (c :: t) = pathOf t := by simp [pathOf, hc]
      rw [h1, h2]
      simp [els, hc, ih]

theorem els_none : ∀ r : List UInt8, r.contains 47 = false → els r = [r]
  | [], _ => rfl
  | c :: t, h => by
    have hc : ¬ c = 47 := by
      rintro rfl
      simp at h
    have hcb : ¬ (47 : UInt8) = c := fun e => hc e.symm
    have ht : t.contains 47 = false := by simpa [hcb] using h
    simp [els, hc, els_none t ht]

/-- Every piece is one that stays, or is the last one and empty. -/
theorem pieces_kept (ks : List (List UInt8)) (h : ∀ (i : Nat) (x : List UInt8), ks[i]? = some x → Kept x ∨ (x = [] ∧ i + 1 = ks.length)) :
    ∃ js, (∀ x ∈ js, Kept x) ∧ (ks = js ∨ ks = js ++ [[]]) := by
  by_cases hn : ks = []
  · exact ⟨[], by simp, .inl hn⟩
  have hd : ks.dropLast ++ [ks.getLast hn] = ks := List.dropLast_concat_getLast hn
  have hk : ∀ x ∈ ks.dropLast, Kept x := by
    intro x hx
    obtain ⟨i, hi⟩ := List.mem_iff_getElem?.1 hx
    have hil : i < ks.dropLast.length := (List.getElem?_eq_some_iff.1 hi).1
    have hi2 : ks[i]? = some x := by
      rw [← hd, List.getElem?_append_left hil]; exact hi
    rcases h i x hi2 with h | ⟨_, h⟩
    · exact h
    · rw [List.length_dropLast] at hil; omega
  rcases h (ks.length - 1) (ks.getLast hn) (by rw [List.getLast_eq_getElem]; exact List.getElem?_eq_getElem _) with hl | ⟨hl, _⟩
  · refine ⟨ks, fun x hx => ?_, .inl rfl⟩
    rw [← hd] at hx
    rcases List.mem_append.1 hx with hx | hx
    · exact hk x hx
    · simp at hx; rw [hx]; exact hl
  · exact ⟨ks.dropLast, hk, .inr (by rw [← hl]; exact hd.symm)⟩

/-- A text that spec.Read does not leave open. -/
def ByteOk (c : UInt8) : Prop := (32 ≤ c.toNat ∨ c = 9) ∧ c.toNat ≤ 126 ∧ c ≠ 37

theorem mem_restOf (l : List UInt8) : ∀ c ∈ restOf l, c ∈ l := by
  intro c hc
  unfold restOf at hc
  split at hc
  · exact hc
  · exact (List.dropWhile_suffix _).subset (List.drop_subset _ _ ((List.dropWhile_suffix _).subset hc))

theorem ppText_of (l : List UInt8) (hne : l ≠ []) (hb : ∀ c ∈ l, ByteOk c) (hm : methodB (methodOf l) = true)
    (hk : (restOf l).contains 47 = true → (hostOf (restOf l)).contains 123 = false → ∀ (i : Nat) (x : List UInt8), (els (pathOf (restOf l)).tail)[i]? = some x → Kept x ∨ (x = [] ∧ i + 1 = (els (pathOf (restOf l)).tail).length)) : PPText l := by
  refine ⟨hne, fun b h => ?_, ?_, fun c h => (hb c (mem_restOf l c h)).2.2, fun h1 h2 => pieces_kept _ (hk h1 h2)⟩
  · have := (hb b h).2.1; omega
  · simp only [methodB, Bool.and_eq_true, List.all_eq_true] at hm
    exact hm.1

/-- What spec.Read answers: open, fine, or wrong. -/
def ReadOut (l m h : List UInt8) (sg : List Seg) (st : Nat) : Prop :=
  st = 0 ∨ (st = 1 ∧ PPText l ∧ parseL l = some (m, h, sg)) ∨ (st = 2 ∧ (l = [] ∨ (PPText l ∧ parseL l = none)))

theorem parseL_noSlash (l : List UInt8) (h : (restOf l).contains 47 = false) : parseL l = none := by
  unfold parseL; rw [if_pos h]
theorem parseL_host (l : List UInt8) (h : (hostOf (restOf l)).contains 123 = true) : parseL l = none := by
  unfold parseL
  split
  · rfl
  · simp
theorem parseL_path (l : List UInt8) (h1 : (restOf l).contains 47 = true) (h2 : (hostOf (restOf l)).contains 123 = false) :
    parseL l = (piecesL (els (pathOf (restOf l)).tail) []).map fun g => (methodOf l, hostOf (restOf l), g) := by
  unfold parseL
  rw [if_neg (by rw [h1]; simp), if_neg (by rw [h2]; simp)]
end Go.Proofs.YtodmlommidifjaaDoor
