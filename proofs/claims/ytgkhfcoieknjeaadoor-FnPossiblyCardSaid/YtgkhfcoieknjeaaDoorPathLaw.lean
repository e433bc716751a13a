/-
  Proved: plain laws on lists of bytes: what cleanPath computes (by path.Clean's four rules) is what spec.Clean computes, and it stays as it is when cleaned again. No conditions.
  Proved, in plain words of lists: a path and its pieces, one put ahead of the other. No conditions.
  Proved, in plain words of lists: a path whose pieces are not empty and no dots alone, with or without a slash at its end, is clean.
-/
import Derived.Lib.CleanSame
namespace Go.Proofs.YtgkhfcoieknjeaaDoor
open Go.Lib.Pa

/-- What cleanPath computes. -/
def cleanPathL (p : List UInt8) : List UInt8 :=
  if p = [] then [47] else
    let q := if p.head? = some 47 then p else 47 :: p
    let np := cleanEls q
    if q.getLast? = some 47 ∧ np ≠ [47] then np ++ [47] else np

/-- The pieces that spec.Clean keeps. -/
def keptL (p : List UInt8) : List (List UInt8) := ((els p).foldl (cleanStep true) []).reverse

/-- Each piece behind a slash. -/
def slashed : List (List UInt8) → List UInt8
  | [] => []
  | x :: r => 47 :: (x ++ slashed r)

/-- What spec.Clean computes. -/
def specCleanL (p : List UInt8) : List UInt8 :=
  if slashed (keptL p) = [] ∨ p.getLast? = some 47 then slashed (keptL p) ++ [47] else slashed (keptL p)

theorem slashed_inter : ∀ ks : List (List UInt8), ks ≠ [] → slashed ks = 47 :: ([47] : List UInt8).intercalate ks
  | [], h => (h rfl).elim
  | [x], _ => by simp [slashed, List.intercalate]
  | x :: y :: r, _ => by
    have := slashed_inter (y :: r) (by simp)
    rw [slashed, this]
    simp [List.intercalate]

/-- What is kept: no piece is empty, a dot or two dots, and none holds a slash. -/
def Kept (x : List UInt8) : Prop := x ≠ [] ∧ x ≠ [46] ∧ x ≠ [46, 46] ∧ ∀ c ∈ x, c ≠ 47

theorem els_noSlash : ∀ (l : List UInt8), ∀ e ∈ els l, ∀ c ∈ e, c ≠ 47
  | [], e, he, c, hc => by simp [els] at he; subst he; simp at hc
  | b :: t, e, he, c, hc => by
    have ih := els_noSlash t
    unfold els at he
    split at he
    · rcases List.mem_cons.1 he with rfl | he
      · simp at hc
      · exact ih e he c hc
    · rename_i hb
      split at he
      · rename_i e' r hr
        rcases List.mem_cons.1 he with rfl | he
        · rcases List.mem_cons.1 hc with rfl | hc
          · exact hb
          · exact ih e' (by rw [hr]; exact List.mem_cons_self) c hc
        · exact ih e (by rw [hr]; exact List.mem_cons_of_mem _ he) c hc
      · simp only [List.mem_singleton] at he
        subst he
        simp only [List.mem_singleton] at hc
        subst hc
        exact hb

theorem step_kept (st : List (List UInt8)) (e : List UInt8) (hst : ∀ x ∈ st, Kept x) (he : ∀ c ∈ e, c ≠ 47) : ∀ x ∈ cleanStep true st e, Kept x := by
  intro x hx
  unfold cleanStep at hx
  split at hx
  · exact hst x hx
  · rename_i h1
    split at hx
    · split at hx
      · rename_i y r
        split at hx
        · rename_i hy
          exact absurd hy (hst y List.mem_cons_self).2.2.1
        · exact hst x (List.mem_cons_of_mem _ hx)
      · simp at hx
    · rename_i h2
      rcases List.mem_cons.1 hx with rfl | hx
      · exact ⟨fun h => h1 (.inl h), fun h => h1 (.inr h), h2, he⟩
      · exact hst x hx

theorem fold_kept : ∀ (es st : List (List UInt8)), (∀ x ∈ st, Kept x) → (∀ e ∈ es, ∀ c ∈ e, c ≠ 47) → ∀ x ∈ es.foldl (cleanStep true) st, Kept x
  | [], st, hst, _ => hst
  | e :: es, st, hst, hes => by
    simp only [List.foldl_cons]
    exact fold_kept es _ (step_kept st e hst (hes e List.mem_cons_self)) fun e' he' => hes e' (List.mem_cons_of_mem _ he')

theorem keptL_kept (p : List UInt8) : ∀ x ∈ keptL p, Kept x := by
  intro x hx
  exact fold_kept (els p) [] (by simp) (els_noSlash p) x (by simpa [keptL] using hx)

theorem step_of_kept (st : List (List UInt8)) (x : List UInt8) (hx : Kept x) : cleanStep true st x = x :: st := by
  unfold cleanStep
  rw [if_neg (fun h => h.elim hx.1 hx.2.1), if_neg hx.2.2.1]

theorem fold_of_kept : ∀ (ks st : List (List UInt8)), (∀ x ∈ ks, Kept x) → ks.foldl (cleanStep true) st = ks.reverse ++ st
  | [], st, _ => by simp
  | x :: ks, st, h => by
    simp only [List.foldl_cons]
    rw [step_of_kept st x (h x List.mem_cons_self), fold_of_kept ks _ fun y hy => h y (List.mem_cons_of_mem _ hy)]
    simp

theorem els_slash (l : List UInt8) : els (47 :: l) = [] :: els l := by simp [els]

theorem keptL_slash (l : List UInt8) : keptL (47 :: l) = keptL l := by simp [keptL, els_slash, cleanStep]

theorem els_ne : ∀ l : List UInt8, els l ≠ []
  | [] => by simp [els]
  | c :: t => by
    unfold els
    split
    · simp
    · split <;> simp

theorem els_piece : ∀ (x l : List UInt8), (∀ c ∈ x, c ≠ 47) → els (x ++ 47 :: l) = x :: els l
  | [], l, _ => by simp [els]
  | c :: x, l, h => by
    have ih := els_piece x l fun d hd => h d (List.mem_cons_of_mem _ hd)
    have hc := h c List.mem_cons_self
    simp [els, ih, hc]

theorem els_last : ∀ (x : List UInt8), (∀ c ∈ x, c ≠ 47) → els x = [x]
  | [], _ => by simp [els]
  | c :: x, h => by
    have ih := els_last x fun d hd => h d (List.mem_cons_of_mem _ hd)
    have hc := h c List.mem_cons_self
    simp [els, ih, hc]

/-- The pieces of what was put together. -/
theorem els_slashed : ∀ ks : List (List UInt8), ks ≠ [] → (∀ x ∈ ks, ∀ c ∈ x, c ≠ 47) → els (slashed ks) = [] :: ks
  | [], h, _ => (h rfl).elim
  | [x], _, h => by simp [slashed, els_slash, els_last x (h x List.mem_cons_self)]
  | x :: y :: r, _, h => by
    have ih := els_slashed (y :: r) (by simp) fun z hz => h z (List.mem_cons_of_mem _ hz)
    have hx := h x List.mem_cons_self
    rw [slashed, els_slash]
    rw [show slashed (y :: r) = 47 :: (y ++ slashed r) from rfl] at ih ⊢
    rw [els_slash] at ih
    rw [els_piece x _ hx]
    simp only [List.cons.injEq, true_and] at ih
    rw [ih]

theorem els_slashed_end : ∀ ks : List (List UInt8), (∀ x ∈ ks, ∀ c ∈ x, c ≠ 47) → els (slashed ks ++ [47]) = [] :: (ks ++ [[]])
  | [], _ => by simp [slashed, els]
  | x :: r, h => by
    have ih := els_slashed_end r fun z hz => h z (List.mem_cons_of_mem _ hz)
    have hx := h x List.mem_cons_self
    rw [slashed, List.cons_append, els_slash, List.append_assoc]
    match r, ih with
    | [], _ => simp [slashed, els_piece x [] hx, els]
    | y :: r', ih =>
      rw [show slashed (y :: r') = 47 :: (y ++ slashed r') from rfl] at ih ⊢
      rw [List.cons_append, els_slash] at ih
      rw [List.cons_append, els_piece x _ hx]
      simp only [List.cons.injEq, true_and] at ih
      rw [ih]
      simp

theorem cleanEls_rooted (p : List UInt8) : cleanEls (47 :: p) = 47 :: ([47] : List UInt8).intercalate (keptL p) := by
  rw [cleanEls_abs (47 :: p) (by simp) (by simp)]
  have := keptL_slash p
  unfold keptL at this ⊢
  rw [this]

theorem slashed_ne (x : List UInt8) (r : List (List UInt8)) : slashed (x :: r) ≠ [] := by simp [slashed]

theorem getLast_cons_slash (p : List UInt8) (h : p ≠ []) : (47 :: p).getLast? = p.getLast? := by
  cases p with
  | nil => exact (h rfl).elim
  | cons a t => simp [List.getLast?_cons_cons]

/-- cleanPath is spec.Clean. -/
theorem cleanPath_spec (p : List UInt8) : cleanPathL p = specCleanL p := by
  have core : ∀ (q : List UInt8), q ≠ [] → (47 :: q).getLast? = p.getLast? → keptL q = keptL p →
      (if (47 :: q).getLast? = some 47 ∧ cleanEls (47 :: q) ≠ [47] then cleanEls (47 :: q) ++ [47] else cleanEls (47 :: q)) = specCleanL p := by
    intro q _ hl hk
    rw [cleanEls_rooted, hl, hk]
    unfold specCleanL
    cases hks : keptL p with
    | nil => simp [slashed, List.intercalate]
    | cons x r =>
      have hx : Kept x := keptL_kept p x (by rw [hks]; exact List.mem_cons_self)
      have hi := slashed_inter (x :: r) (by simp)
      rw [← hi]
      have h1 : slashed (x :: r) ≠ [47] := by
        rw [slashed]
        intro h
        simp only [List.cons.injEq, true_and, List.append_eq_nil_iff] at h
        exact hx.1 h.1
      simp only [slashed_ne, false_or, h1, ne_eq, not_false_eq_true, and_true]
  unfold cleanPathL
  cases p with
  | nil => simp [specCleanL, keptL, els, cleanStep, slashed]
  | cons c t =>
    simp only [List.head?_cons, Option.some.injEq, reduceCtorEq, if_false]
    by_cases hc : c = 47
    · subst hc
      simp only [if_true]
      cases t with
      | nil => decide
      | cons d t' => exact core (d :: t') (by simp) rfl (by rw [keptL_slash])
    · simp only [hc, if_false]
      exact core (c :: t) (by simp) (getLast_cons_slash _ (by simp)) rfl

theorem specClean_head (p : List UInt8) : (specCleanL p).head? = some 47 := by
  unfold specCleanL
  cases keptL p with
  | nil => simp [slashed]
  | cons x r => split <;> simp [slashed]

theorem keptL_slashed (ks : List (List UInt8)) (h : ∀ x ∈ ks, Kept x) : keptL (slashed ks) = ks ∧ keptL (slashed ks ++ [47]) = ks := by
  have h' : ∀ x ∈ ks, ∀ c ∈ x, c ≠ 47 := fun x hx => (h x hx).2.2.2
  constructor
  · cases ks with
    | nil => simp [slashed, keptL, els, cleanStep]
    | cons x r =>
      unfold keptL
      rw [els_slashed _ (by simp) h', List.foldl_cons, show cleanStep true [] [] = [] from by simp [cleanStep], fold_of_kept _ _ h]
      simp
  · unfold keptL
    rw [els_slashed_end _ h', List.foldl_cons, show cleanStep true [] [] = [] from by simp [cleanStep], List.foldl_append, fold_of_kept _ _ h]
    simp [cleanStep]

theorem slashed_last : ∀ ks : List (List UInt8), ks ≠ [] → (∀ x ∈ ks, Kept x) → (slashed ks).getLast? ≠ some 47
  | [], h, _ => (h rfl).elim
  | [x], _, h => by
    have hx := h x List.mem_cons_self
    rw [slashed, show slashed [] = ([] : List UInt8) from rfl, List.append_nil, getLast_cons_slash x hx.1]
    intro e
    exact hx.2.2.2 47 (List.mem_of_getLast? e) rfl
  | x :: y :: r, _, h => by
    have ih := slashed_last (y :: r) (by simp) fun z hz => h z (List.mem_cons_of_mem _ hz)
    rw [slashed]
    have hne : slashed (y :: r) ≠ [] := slashed_ne y r
    rw [getLast_cons_slash _ (by simp [hne]), List.getLast?_append]
    cases hg : (slashed (y :: r)).getLast? with
    | none => exact absurd (List.getLast?_eq_none_iff.1 hg) hne
    | some c => rw [hg] at ih; simpa using ih

/-- A clean path stays as it is. -/
theorem specClean_twice (p : List UInt8) : specCleanL (specCleanL p) = specCleanL p := by
  have hk := keptL_kept p
  obtain ⟨h1, h2⟩ := keptL_slashed _ hk
  by_cases h : slashed (keptL p) = [] ∨ p.getLast? = some 47
  · have e : specCleanL p = slashed (keptL p) ++ [47] := by unfold specCleanL; rw [if_pos h]
    rw [e]
    unfold specCleanL
    rw [h2, if_pos (.inr (by simp))]
  · have e : specCleanL p = slashed (keptL p) := by unfold specCleanL; rw [if_neg h]
    rw [e]
    have hks : keptL p ≠ [] := by
      intro h0
      exact h (.inl (by rw [h0]; rfl))
    unfold specCleanL
    rw [h1, if_neg]
    rintro (h3 | h3)
    · exact h (.inl h3)
    · exact slashed_last _ hks hk h3
end Go.Proofs.YtgkhfcoieknjeaaDoor

namespace Go.Proofs.YtgkhfcoieknjeaaDoor
open Go.RowKit Go.Lib.Pa

theorem slashed_els : ∀ r : List UInt8, slashed (els r) = 47 :: r
  | [] => rfl
  | c :: t => by
    have ih := slashed_els t
    have hn := els_ne t
    by_cases hc : c = 47
    · subst hc
      rw [els_slash]
      show 47 :: ([] ++ slashed (els t)) = _
      rw [ih]; rfl
    · cases he : els t with
      | nil => exact (hn he).elim
      | cons e rest =>
        rw [he] at ih
        simp only [slashed, List.cons.injEq, true_and] at ih
        simp [els, he, hc, slashed, ih]

theorem take_piece (x : List UInt8) (qs : List (List UInt8)) (hx : ∀ c ∈ x, c ≠ 47) : (x ++ slashed qs).takeWhile (· != 47) = x ∧ (x ++ slashed qs).dropWhile (· != 47) = slashed qs := by
  have hall : ∀ c ∈ x, (c != 47) = true := fun c hc => by simpa using hx c hc
  have h2 : (slashed qs).takeWhile (· != 47) = [] ∧ (slashed qs).dropWhile (· != 47) = slashed qs := by
    cases qs <;> simp [slashed]
  constructor
  · rw [List.takeWhile_append_of_pos hall, h2.1, List.append_nil]
  · rw [List.dropWhile_append_of_pos hall, h2.2]

theorem slashed_noPct : ∀ qs : List (List UInt8), (∀ q ∈ qs, ∀ c ∈ q, c ≠ 37) → ∀ c ∈ slashed qs, c ≠ 37
  | [], _, c, hc => by simp [slashed] at hc
  | y :: ys, h, c, hc => by
    simp only [slashed, List.mem_cons, List.mem_append] at hc
    rcases hc with rfl | hc | hc
    · decide
    · exact h y List.mem_cons_self c hc
    · exact slashed_noPct ys (fun q hq => h q (List.mem_cons_of_mem _ hq)) c hc

end Go.Proofs.YtgkhfcoieknjeaaDoor

namespace Go.Proofs.YtgkhfcoieknjeaaDoor
open Go.RowKit

theorem clean_slashed (ks : List (List UInt8)) (hne : ks ≠ []) (h : ∀ x ∈ ks, Kept x) : cleanPathL (slashed ks) = slashed ks := by
  rw [cleanPath_spec]
  unfold specCleanL
  rw [(keptL_slashed ks h).1, if_neg]
  rintro (h1 | h1)
  · cases ks with
    | nil => exact hne rfl
    | cons x r => exact slashed_ne x r h1
  · exact slashed_last ks hne h h1

theorem clean_slashed_end (ks : List (List UInt8)) (h : ∀ x ∈ ks, Kept x) : cleanPathL (slashed ks ++ [47]) = slashed ks ++ [47] := by
  rw [cleanPath_spec]
  unfold specCleanL
  rw [(keptL_slashed ks h).2, if_pos]
  exact .inr (by simp)
end Go.Proofs.YtgkhfcoieknjeaaDoor
