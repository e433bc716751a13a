/-
  Proved, in plain words of lists: what spec.Write writes of a good pattern, the mirror of parsePattern reads as that pattern.
-/
import Derived.Test.YtgkhfcoieknjeaaDoorPPLaw
import Derived.Test.YtgkhfcoieknjeaaDoorGood
import Derived.Test.YtgkhfcoieknjeaaDoorWrite
namespace Go.Proofs.YtgkhfcoieknjeaaDoor
open Go.RowKit
open Go.Lib.Pa (els)

/-- A piece as it is written, without its slash. -/
def body (g : Seg) : List UInt8 :=
  if g.multi then (if g.s = [] then [] else 123 :: (g.s ++ [46, 46, 46, 125])) else if g.wild then 123 :: (g.s ++ [125]) else if g.s = [47] then [123, 36, 125] else g.s

theorem segsText_slashed : ∀ l : List Seg, segsText l = slashed (l.map body)
  | [] => rfl
  | g :: t => by
    have ih := segsText_slashed t
    have e : segsText (g :: t) = segText g ++ segsText t := rfl
    rw [e, ih]
    rfl

/-- Letters of names, of hosts, of literals. -/
theorem word_facts (c : UInt8) (h : wordB c = true) : c.toNat < 128 ∧ c ≠ 47 ∧ c ≠ 37 ∧ c ≠ 123 ∧ c ≠ 46 ∧ c ≠ 36 ∧ blankB c = false := by
  have e : ∀ d : UInt8, c = d → c.toNat = d.toNat := fun d h => by rw [h]
  simp only [wordB, letB, digB, Bool.or_eq_true, Bool.and_eq_true, decide_eq_true_eq] at h
  refine ⟨by omega, ?_, ?_, ?_, ?_, ?_, ?_⟩
  · intro h1; have := e _ h1; simp at this; omega
  · intro h1; have := e _ h1; simp at this; omega
  · intro h1; have := e _ h1; simp at this; omega
  · intro h1; have := e _ h1; simp at this; omega
  · intro h1; have := e _ h1; simp at this; omega
  · simp only [blankB, blankN, Bool.or_eq_false_iff, decide_eq_false_iff_not]; omega

theorem lit_facts (c : UInt8) (h : litCB c = true) : c.toNat < 128 ∧ c ≠ 47 ∧ c ≠ 37 ∧ c ≠ 123 ∧ blankB c = false := by
  have e : ∀ d : UInt8, c = d → c.toNat = d.toNat := fun d h => by rw [h]
  simp only [litCB, Bool.and_eq_true, decide_eq_true_eq] at h
  refine ⟨by omega, ?_, ?_, ?_, ?_⟩
  · intro h1; have := e _ h1; simp at this; omega
  · intro h1; have := e _ h1; simp at this; omega
  · intro h1; have := e _ h1; simp at this; omega
  · simp only [blankB, blankN, Bool.or_eq_false_iff, decide_eq_false_iff_not]; omega

theorem host_facts (c : UInt8) (h : hostCB c = true) : c.toNat < 128 ∧ c ≠ 47 ∧ c ≠ 37 ∧ c ≠ 123 ∧ blankB c = false := by
  have e : ∀ d : UInt8, c = d → c.toNat = d.toNat := fun d h => by rw [h]
  simp only [hostCB, Bool.or_eq_true, Bool.and_eq_true, decide_eq_true_eq] at h
  refine ⟨by omega, ?_, ?_, ?_, ?_⟩
  · intro h1; have := e _ h1; simp at this; omega
  · intro h1; have := e _ h1; simp at this; omega
  · intro h1; have := e _ h1; simp at this; omega
  · simp only [blankB, blankN, Bool.or_eq_false_iff, decide_eq_false_iff_not]; omega

theorem letter_facts (c : UInt8) (h : letterB c = true) : c.toNat < 128 ∧ blankB c = false := by
  simp only [letterB, Bool.or_eq_true, Bool.and_eq_true, decide_eq_true_eq] at h
  exact ⟨by omega, by simp only [blankB, blankN, Bool.or_eq_false_iff, decide_eq_false_iff_not]; omega⟩

theorem name_word (s : List UInt8) (h : nameB s = true) : s ≠ [] ∧ ∀ c ∈ s, wordB c = true := by
  cases s with
  | nil => simp [nameB] at h
  | cons c t =>
    refine ⟨by simp, ?_⟩
    simp only [nameB, Bool.and_eq_true, List.all_eq_true] at h
    intro x hx
    rcases List.mem_cons.1 hx with rfl | hx
    · simp only [wordB, h.1, Bool.true_or]
    · exact h.2 x hx

theorem literal_of (s : List UInt8) (h : literalB s = true) : s ≠ [] ∧ s ≠ [46] ∧ s ≠ [46, 46] ∧ ∀ c ∈ s, litCB c = true := by
  simp only [literalB, Bool.and_eq_true, decide_eq_true_eq, List.all_eq_true] at h
  exact ⟨h.1.1.1.2, h.1.1.2, h.1.2, h.1.1.1.1⟩

/-- A letter of a piece that is written. -/
def TextB (c : UInt8) : Prop := c.toNat < 128 ∧ c ≠ 47 ∧ c ≠ 37 ∧ blankB c = false

theorem body_text (last : Bool) (g : Seg) (h : okSeg last g) : ∀ c ∈ body g, TextB c := by
  obtain ⟨_, h2, h3, h4, h5⟩ := h
  have hw : ∀ s : List UInt8, nameB s = true → ∀ c ∈ s, TextB c := fun s hs c hc => by
    have := word_facts c ((name_word s hs).2 c hc)
    exact ⟨this.1, this.2.1, this.2.2.1, this.2.2.2.2.2.2⟩
  have h123 : TextB 123 := ⟨by decide, by decide, by decide, by decide⟩
  have h125 : TextB 125 := ⟨by decide, by decide, by decide, by decide⟩
  have h46 : TextB 46 := ⟨by decide, by decide, by decide, by decide⟩
  have h36 : TextB 36 := ⟨by decide, by decide, by decide, by decide⟩
  intro c hc
  unfold body at hc
  split at hc
  · rename_i hm
    obtain ⟨_, _, hs | hs⟩ := h2 hm
    · rw [if_pos hs] at hc; simp at hc
    · rw [if_neg (name_word _ hs).1] at hc
      simp only [List.mem_cons, List.mem_append, List.not_mem_nil, or_false] at hc
      rcases hc with rfl | hc | rfl | rfl | rfl | rfl
      · exact h123
      · exact hw _ hs c hc
      · exact h46
      · exact h46
      · exact h46
      · exact h125
  · split at hc
    · rename_i hm hwd
      have hs := h3 hwd (by simpa using hm)
      simp only [List.mem_cons, List.mem_append, List.not_mem_nil, or_false] at hc
      rcases hc with rfl | hc | rfl
      · exact h123
      · exact hw _ hs c hc
      · exact h125
    · split at hc
      · simp only [List.mem_cons, List.not_mem_nil, or_false] at hc
        rcases hc with rfl | rfl | rfl
        · exact h123
        · exact h36
        · exact h125
      · rename_i hm hwd hs
        have := lit_facts c ((literal_of _ (h5 (by simpa using hwd) hs)).2.2.2 c hc)
        exact ⟨this.1, this.2.1, this.2.2.1, this.2.2.2.2⟩

theorem body_kept (last : Bool) (g : Seg) (h : okSeg last g) : Kept (body g) ∨ (body g = [] ∧ last = true) := by
  have ht : ∀ c ∈ body g, c ≠ 47 := fun c hc => (body_text last g h c hc).2.1
  obtain ⟨_, h2, h3, h4, h5⟩ := h
  by_cases hm : g.multi = true
  · obtain ⟨_, hl, hs⟩ := h2 hm
    by_cases hs0 : g.s = []
    · right
      exact ⟨by unfold body; rw [if_pos hm, if_pos hs0], hl⟩
    · left
      have e : body g = 123 :: (g.s ++ [46, 46, 46, 125]) := by unfold body; rw [if_pos hm, if_neg hs0]
      refine ⟨by rw [e]; simp, by rw [e]; simp, by rw [e]; simp, ht⟩
  · left
    by_cases hw : g.wild = true
    · have e : body g = 123 :: (g.s ++ [125]) := by unfold body; rw [if_neg hm, if_pos hw]
      exact ⟨by rw [e]; simp, by rw [e]; simp, by rw [e]; simp, ht⟩
    · by_cases hs : g.s = [47]
      · have e : body g = [123, 36, 125] := by unfold body; rw [if_neg hm, if_neg hw, if_pos hs]
        exact ⟨by rw [e]; simp, by rw [e]; simp, by rw [e]; simp, ht⟩
      · have e : body g = g.s := by unfold body; rw [if_neg hm, if_neg hw, if_neg hs]
        have hl := literal_of _ (h5 (by simpa using hw) hs)
        rw [e] at ht ⊢
        exact ⟨hl.1, hl.2.1, hl.2.2.1, ht⟩

theorem brace_name (x : List UInt8) : braceName (123 :: (x ++ [125])) = x ∧ (123 :: (x ++ [125]) : List UInt8).getLast? = some 125 := by
  refine ⟨by simp [braceName], ?_⟩
  rw [← List.cons_append, List.getLast?_concat]

theorem dots_word (s : List UInt8) (h : ∀ c ∈ s, c ≠ 46) : dotsB s = false := by
  unfold dotsB
  by_cases h3 : 3 ≤ s.length
  · have : s.drop (s.length - 3) ≠ [46, 46, 46] := by
      intro e
      have hm : (46 : UInt8) ∈ s.drop (s.length - 3) := by rw [e]; simp
      exact h 46 (List.mem_of_mem_drop hm) rfl
    simp [this]
  · simp [h3]

theorem dots_dots (s : List UInt8) : dotsB (s ++ [46, 46, 46]) = true ∧ undot (s ++ [46, 46, 46]) = s := by
  have h : dotsB (s ++ [46, 46, 46]) = true := by simp [dotsB]
  refine ⟨h, ?_⟩
  unfold undot
  rw [if_pos h]
  simp

theorem piece_body (last : Bool) (g : Seg) (h : okSeg last g) : pieceL (body g) last = some g := by
  obtain ⟨gs, gw, gm⟩ := g
  obtain ⟨_, h2, h3, h4, h5⟩ := h
  simp only at h2 h3 h4 h5
  cases gm
  · cases gw
    · by_cases hs : gs = [47]
      · have hl := h4 rfl hs
        subst hs hl
        rfl
      · have hl := literal_of _ (h5 rfl hs)
        have e : body ⟨gs, false, false⟩ = gs := by simp [body, hs]
        rw [e]
        unfold pieceL
        rw [if_neg (fun e => hl.1 e.1), if_pos]
        have : ¬ (123 : UInt8) ∈ gs := fun hm => (lit_facts 123 (hl.2.2.2 123 hm)).2.2.2.1 rfl
        simpa using this
    · have hs := h3 rfl rfl
      have hw := name_word _ hs
      have e : body ⟨gs, true, false⟩ = 123 :: (gs ++ [125]) := by simp [body]
      obtain ⟨b1, b2⟩ := brace_name gs
      have hd := dots_word gs fun c hc => (word_facts c (hw.2 c hc)).2.2.2.2.1
      have hu : undot gs = gs := by unfold undot; rw [hd]; rfl
      rw [e]
      unfold pieceL
      rw [if_neg (by simp), if_neg (by simp), if_neg (by rw [b2]; simp), b1, if_neg, hd, hu, hs]
      · rfl
      · rintro rfl
        exact absurd hs (by decide)
  · obtain ⟨hw, hl, hs⟩ := h2 rfl
    subst hw hl
    by_cases hs0 : gs = []
    · subst hs0; rfl
    · have hs' : nameB gs = true := hs.resolve_left hs0
      have e : body ⟨gs, true, true⟩ = 123 :: ((gs ++ [46, 46, 46]) ++ [125]) := by simp [body, hs0]
      obtain ⟨b1, b2⟩ := brace_name (gs ++ [46, 46, 46])
      obtain ⟨hd, hu⟩ := dots_dots gs
      rw [e]
      unfold pieceL
      rw [if_neg (by simp), if_neg (by simp), if_neg (by rw [b2]; simp), b1, if_neg, hd, hu, hs']
      · rfl
      · intro h
        have := congrArg List.length h
        simp at this

theorem pieces_body : ∀ (l : List Seg) (seen : List (List UInt8)), (∀ (i : Nat) (g : Seg), l[i]? = some g → okSeg (decide (i + 1 = l.length)) g) → (∀ g ∈ l, g.wild = true → seen.contains g.s = false) → l.Pairwise (fun a b => Apart b a) → piecesL (l.map body) seen = some l
  | [], _, _, _, _ => rfl
  | g :: t, seen, hok, hseen, hap => by
    have h0 : okSeg (t.map body).isEmpty g := by
      have := hok 0 g rfl
      have e : decide (0 + 1 = (g :: t).length) = (t.map body).isEmpty := by cases t <;> simp
      rwa [e] at this
    have hp := piece_body _ g h0
    have hn : (g.wild && seen.contains g.s) = false := by
      cases hw : g.wild
      · rfl
      · rw [hseen g List.mem_cons_self hw]; rfl
    have ih := pieces_body t (if g.wild then g.s :: seen else seen) (fun i x hx => by
        have := hok (i + 1) x (by simpa using hx)
        have e : decide (i + 1 + 1 = (g :: t).length) = decide (i + 1 = t.length) := by simp
        rwa [e] at this)
      (fun x hx hw => by
        have ha := (List.pairwise_cons.1 hap).1 x hx
        have hs := hseen x (List.mem_cons_of_mem _ hx) hw
        cases hg : g.wild
        · exact hs
        · simp only [if_true, List.contains_cons, hs, Bool.or_false]
          rw [beq_eq_false_iff_ne]
          intro e
          exact ha ⟨hw, hg, e⟩)
      (List.pairwise_cons.1 hap).2
    simp only [List.map_cons, piecesL, hp, hn, ih]
    rfl

theorem apart_pairwise (l : List Seg) (h : ∀ (i j : Nat) (g g' : Seg), l[i]? = some g → l[j]? = some g' → j < i → Apart g g') : l.Pairwise (fun a b => Apart b a) := by
  rw [List.pairwise_iff_getElem]
  intro i j hi hj hij
  exact h j i _ _ (List.getElem?_eq_getElem hj) (List.getElem?_eq_getElem hi) hij

theorem takeWhile_all_append (p : UInt8 → Bool) (a b : List UInt8) (h : ∀ c ∈ a, p c = true) : (a ++ b).takeWhile p = a ++ b.takeWhile p ∧ (a ++ b).dropWhile p = b.dropWhile p :=
  ⟨List.takeWhile_append_of_pos h, List.dropWhile_append_of_pos h⟩

theorem good_host {m h : List UInt8} {l : List Seg} (G : GoodP m h l) : ∀ c ∈ h, c.toNat < 128 ∧ c ≠ 47 ∧ c ≠ 37 ∧ c ≠ 123 ∧ blankB c = false := by
  have := G.host
  simp only [hostB, Bool.and_eq_true, List.all_eq_true] at this
  exact fun c hc => host_facts c (this.1 c hc)

theorem good_method {m h : List UInt8} {l : List Seg} (G : GoodP m h l) : ∀ c ∈ m, letterB c = true := by
  have := G.method
  simp only [methodB, Bool.and_eq_true, List.all_eq_true] at this
  exact this.1

theorem good_seg {m h : List UInt8} {l : List Seg} (G : GoodP m h l) : ∀ x ∈ l.map body, ∀ c ∈ x, TextB c := by
  intro x hx c hc
  obtain ⟨g, hg, rfl⟩ := List.mem_map.1 hx
  obtain ⟨i, hi⟩ := List.mem_iff_getElem?.1 hg
  exact body_text _ g (G.seg i g hi) c hc

theorem slashed_mem : ∀ (ks : List (List UInt8)) (c : UInt8), c ∈ slashed ks → c = 47 ∨ ∃ x ∈ ks, c ∈ x
  | [], c, h => by simp [slashed] at h
  | x :: r, c, h => by
    simp only [slashed, List.mem_cons, List.mem_append] at h
    rcases h with h | h | h
    · exact .inl h
    · exact .inr ⟨x, List.mem_cons_self, h⟩
    · rcases slashed_mem r c h with h | ⟨y, hy, hc⟩
      · exact .inl h
      · exact .inr ⟨y, List.mem_cons_of_mem _ hy, hc⟩

/-- The host and the path: no blanks, no percent signs, ASCII. -/
theorem rest_text {m h : List UInt8} {l : List Seg} (G : GoodP m h l) : ∀ c ∈ h ++ segsText l, c.toNat < 128 ∧ c ≠ 37 ∧ blankB c = false := by
  intro c hc
  rcases List.mem_append.1 hc with hc | hc
  · have := good_host G c hc
    exact ⟨this.1, this.2.2.1, this.2.2.2.2⟩
  · rw [segsText_slashed] at hc
    rcases slashed_mem _ c hc with rfl | ⟨x, hx, hc⟩
    · decide
    · have := good_seg G x hx c hc
      exact ⟨this.1, this.2.2.1, this.2.2.2⟩

theorem blankIdx_no (l : List UInt8) (h : ∀ c ∈ l, blankB c = false) : blankIdx l = -1 :=
  blankIdx_none l fun _ y hy => h y (List.mem_of_getElem? hy)

theorem segs_ne {m h : List UInt8} {l : List Seg} (G : GoodP m h l) : ∃ t, segsText l = 47 :: t := by
  cases hl : l with
  | nil => exact absurd hl G.some_
  | cons g t => exact ⟨_, rfl⟩

/-- How what is written parts. -/
theorem write_parts {m h : List UInt8} {l : List Seg} (G : GoodP m h l) : methodOf (writeL m h l) = m ∧ restOf (writeL m h l) = h ++ segsText l := by
  have hr := rest_text G
  by_cases hm : m = []
  · have e : writeL m h l = h ++ segsText l := by unfold writeL headText; rw [if_pos hm]
    have hb : blankIdx (h ++ segsText l) = -1 := blankIdx_no _ fun c hc => (hr c hc).2.2
    rw [e]
    unfold methodOf restOf
    rw [hb, if_pos (by decide), if_pos (by decide), hm]
    exact ⟨rfl, rfl⟩
  · have e : writeL m h l = m ++ 32 :: (h ++ segsText l) := by unfold writeL headText; rw [if_neg hm]; simp
    have hd : ∀ c ∈ m, darkB c = true := fun c hc => by
      have := (letter_facts c (good_method G c hc)).2
      simp [darkB, this]
    obtain ⟨t1, t2⟩ := takeWhile_all_append darkB m (32 :: (h ++ segsText l)) hd
    have t3 : (32 :: (h ++ segsText l)).takeWhile darkB = [] := by rw [List.takeWhile_cons_of_neg (by decide)]
    have t4 : (32 :: (h ++ segsText l)).dropWhile darkB = 32 :: (h ++ segsText l) := by rw [List.dropWhile_cons_of_neg (by decide)]
    have hb : ¬ blankIdx (writeL m h l) < 0 := by
      unfold blankIdx
      rw [e, t1, t3, if_pos (by simp)]
      omega
    have hne : ∃ c r, h ++ segsText l = c :: r := by
      obtain ⟨t, ht⟩ := segs_ne G
      cases h with
      | nil => exact ⟨47, t, ht⟩
      | cons c r => exact ⟨c, r ++ segsText l, rfl⟩
    obtain ⟨c, r, hcr⟩ := hne
    unfold methodOf restOf
    rw [if_neg hb, if_neg hb, e, t1, t2, t3, t4, List.append_nil]
    refine ⟨rfl, ?_⟩
    rw [List.drop_succ_cons, List.drop_zero, hcr, List.dropWhile_cons_of_neg]
    have := (hr c (by rw [hcr]; exact List.mem_cons_self)).2.2
    simp [this]

theorem write_host {m h : List UInt8} {l : List Seg} (G : GoodP m h l) : hostOf (h ++ segsText l) = h ∧ pathOf (h ++ segsText l) = segsText l := by
  obtain ⟨t, ht⟩ := segs_ne G
  have hd : ∀ c ∈ h, (c != 47) = true := fun c hc => by simpa using (good_host G c hc).2.1
  obtain ⟨t1, t2⟩ := takeWhile_all_append (· != 47) h (segsText l) hd
  unfold hostOf pathOf
  rw [t1, t2, ht]
  simp

theorem els_tail_slashed (ks : List (List UInt8)) (hne : ks ≠ []) (h : ∀ x ∈ ks, ∀ c ∈ x, c ≠ 47) : els (slashed ks).tail = ks := by
  have h1 := els_slashed ks hne h
  cases ks with
  | nil => exact absurd rfl hne
  | cons x r =>
    have e : slashed (x :: r) = 47 :: (x ++ slashed r) := rfl
    rw [e, els_slash] at h1
    rw [e]
    exact (List.cons.inj h1).2

theorem written_els {m h : List UInt8} {l : List Seg} (G : GoodP m h l) : els (segsText l).tail = l.map body := by
  rw [segsText_slashed]
  refine els_tail_slashed _ (by simpa using G.some_) fun x hx c hc => (good_seg G x hx c hc).2.1

/-- What is written is read as it is. -/
theorem parse_written {m h : List UInt8} {l : List Seg} (G : GoodP m h l) : parseL (writeL m h l) = some (m, h, l) := by
  obtain ⟨p1, p2⟩ := write_parts G
  obtain ⟨q1, q2⟩ := write_host G
  obtain ⟨t, ht⟩ := segs_ne G
  unfold parseL
  rw [p1, p2, q1, q2, if_neg (by rw [ht]; simp), if_neg, written_els G, pieces_body l [] G.seg (fun _ _ _ => rfl) (apart_pairwise l G.apart)]
  · rfl
  · have : ¬ (123 : UInt8) ∈ h := fun hm => (good_host G 123 hm).2.2.2.1 rfl
    simpa using this

theorem pptext_written {m h : List UInt8} {l : List Seg} (G : GoodP m h l) : PPText (writeL m h l) := by
  obtain ⟨p1, p2⟩ := write_parts G
  obtain ⟨q1, q2⟩ := write_host G
  obtain ⟨t, ht⟩ := segs_ne G
  have hr := rest_text G
  refine ⟨?_, ?_, ?_, ?_, ?_⟩
  · intro e
    have := congrArg List.length e
    unfold writeL at this
    rw [ht] at this
    simp at this
  · intro c hc
    have e : c ∈ m ∨ c = 32 ∨ c ∈ h ++ segsText l := by
      unfold writeL headText at hc
      split at hc
      · exact .inr (.inr hc)
      · simp only [List.append_assoc, List.cons_append, List.mem_append, List.mem_cons] at hc
        rcases hc with hc | hc | hc | hc
        · exact .inl hc
        · exact .inr (.inl hc)
        · exact .inr (.inr (List.mem_append_left _ hc))
        · exact .inr (.inr (List.mem_append_right _ hc))
    rcases e with e | rfl | e
    · exact (letter_facts c (good_method G c e)).1
    · decide
    · exact (hr c e).1
  · rw [p1]; exact good_method G
  · rw [p2]; exact fun c hc => (hr c hc).2.1
  · intro _ _
    rw [p2, q2, written_els G]
    have hk : ∀ (i : Nat) (g : Seg), l[i]? = some g → Kept (body g) ∨ (body g = [] ∧ i + 1 = l.length) := by
      intro i g hg
      rcases body_kept _ g (G.seg i g hg) with h | h
      · exact .inl h
      · exact .inr ⟨h.1, by simpa using h.2⟩
    obtain ⟨l0, g0, hlg⟩ : ∃ l0 g0, l = l0 ++ [g0] := ⟨l.dropLast, l.getLast G.some_, (List.dropLast_concat_getLast G.some_).symm⟩
    subst hlg
    have hk0 : ∀ x ∈ l0.map body, Kept x := by
      intro x hx
      obtain ⟨g, hg, rfl⟩ := List.mem_map.1 hx
      obtain ⟨i, hi⟩ := List.mem_iff_getElem?.1 hg
      have hil : i < l0.length := (List.getElem?_eq_some_iff.1 hi).1
      rcases hk i g (by rw [List.getElem?_append_left hil]; exact hi) with h | h
      · exact h
      · simp at h; omega
    rcases hk l0.length g0 (by simp) with h | h
    · refine ⟨(l0 ++ [g0]).map body, ?_, .inl rfl⟩
      intro x hx
      rw [List.map_append, List.mem_append] at hx
      rcases hx with hx | hx
      · exact hk0 x hx
      · simp at hx; rw [hx]; exact h
    · refine ⟨l0.map body, hk0, .inr ?_⟩
      rw [List.map_append]
      simp [h.1]
end Go.Proofs.YtgkhfcoieknjeaaDoor
