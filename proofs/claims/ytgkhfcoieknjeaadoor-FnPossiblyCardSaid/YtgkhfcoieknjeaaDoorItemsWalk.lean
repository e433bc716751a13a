/-
  Proved: spec.has tells whether a letter is in a text, and spec.Items returns the pieces of a path ('itemsL') in new memory, or nothing and false. Condition: the text has at most 2^63 - 1 bytes.
  Proved: spec.Items returns the pieces of a path ('itemsL') in new memory, or nothing and false. Condition: the text has at most 2^63 - 1 bytes.
  Proved, in plain words of lists: the pieces of a path of which something is stated are few and small.
  Proved: spec.Items answers true only with the pieces of the path, which can be read. Condition: the text has at most 2^63 - 1 bytes.
-/
import Derived.Test.YtgkhfcoieknjeaaDoorCut
import Derived.Test.YtgkhfcoieknjeaaDoorBase
import Derived.Test.YtgkhfcoieknjeaaDoorMatches
namespace Go.Proofs.YtgkhfcoieknjeaaDoor
open Go.RowKit Go.Lib.Pa

def hasB (l : List UInt8) (c : Int) : Bool := l.any fun b => (b.toNat : Int) == c

theorem hasB_iff (l : List UInt8) (b : UInt8) : hasB l (b.toNat : Int) = true ↔ b ∈ l := by
  unfold hasB
  rw [List.any_eq_true]
  constructor
  · rintro ⟨x, hx, h⟩
    rw [beq_iff_eq] at h
    have : x = b := UInt8.toNat_inj.1 (by exact_mod_cast h)
    exact this ▸ hx
  · exact fun h => ⟨b, h, by simp⟩

set_option maxHeartbeats 400000 in
theorem has_any (s : ByteArray) (c : Int) (w : World) (hs : s.size ≤ 9223372036854775807) :
    Calls Tryd.prog 47 #[.string s, .int .u8 c] w fun e w' => e = .returned (.bool (hasB (bs s) c)) ∧ w = w' := by
  go_enter Tryd.func47, Tryd.ntmps47
  go_wp2_with fail
  go_loop [8] (fun i => ∃ k : Nat, k ≤ s.size ∧ i = .int .i64 k ∧ Hid (∀ j x, j < k → (bs s)[j]? = some x → ((x.toNat : Int) == c) = false)) (fun i => s.size - (intOf i).toNat)
  case atStart => exact ⟨0, Nat.zero_le _, rfl, fun j x hj => by omega⟩
  case round =>
    obtain ⟨k, hk, rfl, HN⟩ := hrel
    by_cases hlt : k < s.size
    · cases hc : (((s[k]'hlt).toNat : Int) == c)
      · go_wp2_with fail
        go_round
        case rel =>
          refine ⟨k + 1, by omega, by go_num, fun j x hj hx => ?_⟩
          by_cases hjk : j = k
          · subst hjk
            rw [bs_at s j hlt] at hx
            simp only [Option.some.injEq] at hx
            rw [← hx]; exact hc
          · exact HN.out j x (by omega) hx
        case measure => simp [intOf]; omega
      · have hb : hasB (bs s) c = true := by
          unfold hasB
          rw [List.any_eq_true]
          exact ⟨s[k]'hlt, List.mem_of_getElem? (bs_at s k hlt), hc⟩
        have HB := Lib.hid hb
        clear hb
        go_wp2_with fail
        go_ret
        exact ⟨by rw [HB.out]; rfl, rfl⟩
    · have hb : hasB (bs s) c = false := by
        unfold hasB
        rw [List.any_eq_false]
        intro x hx
        obtain ⟨j, hj⟩ := List.getElem?_of_mem hx
        have hjl : j < s.size := by
          rw [← bs_size]
          exact (List.getElem?_eq_some_iff.1 hj).1
        rw [HN.out j x (by omega) hj]; simp
      have HB := Lib.hid hb
      clear hb
      go_wp2_with fail
      go_ret
      exact ⟨by rw [HB.out]; rfl, rfl⟩

/-- The items of the pieces behind the first slash: an empty piece stands at the end alone, for the slash. -/
def itemsOf : List (List UInt8) → Option (List (List UInt8))
  | [] => none
  | [x] => some [if x = [] then [47] else x]
  | x :: y :: t => if x = [] then none else (itemsOf (y :: t)).map (x :: ·)

def itemsL (l : List UInt8) : Option (List (List UInt8)) :=
  if l.head? = some 47 ∧ l.length ≤ 120 ∧ hasB l 37 = false then itemsOf (els l.tail) else none

theorem itemsOf_snoc : ∀ (D : List (List UInt8)) (x : List UInt8), (∀ y ∈ D, y ≠ []) → itemsOf (D ++ [x]) = some (D ++ [if x = [] then [47] else x])
  | [], x, _ => rfl
  | [y], x, h => by simp [itemsOf, h y List.mem_cons_self]
  | y :: z :: D, x, h => by
    have ih := itemsOf_snoc (z :: D) x fun a ha => h a (List.mem_cons_of_mem _ ha)
    have hy := h y List.mem_cons_self
    simp only [List.cons_append] at ih ⊢
    rw [itemsOf, if_neg hy, ih]
    rfl

theorem itemsOf_bad : ∀ (D T : List (List UInt8)), T ≠ [] → itemsOf (D ++ [] :: T) = none
  | [], T, h => by
    cases T with
    | nil => exact (h rfl).elim
    | cons t T => simp [itemsOf]
  | y :: D, T, h => by
    have ih := itemsOf_bad D T h
    cases hD : D ++ [] :: T with
    | nil => simp at hD
    | cons z Z =>
      rw [List.cons_append, hD, itemsOf]
      split
      · rfl
      · rw [← hD, ih]; rfl

theorem fold_prefix : ∀ (t : List UInt8) (st : List (List UInt8) × List UInt8), ∃ X, (t.foldl cutStep st).1 = st.1 ++ X
  | [], st => ⟨[], by simp⟩
  | c :: t, st => by
    obtain ⟨X, h⟩ := fold_prefix t (cutStep st c)
    simp only [List.foldl_cons, h]
    unfold cutStep
    split
    · exact ⟨st.2 :: X, by simp⟩
    · exact ⟨X, rfl⟩

theorem done_prefix (s : ByteArray) (k : Nat) : ∃ X, els (bs s) = doneP s k ++ X ∧ X ≠ [] := by
  obtain ⟨X, h⟩ := fold_prefix ((bs s).drop k) (cutSt ((bs s).take k))
  have e : cutSt (bs s) = ((bs s).drop k).foldl cutStep (cutSt ((bs s).take k)) := by
    unfold cutSt
    rw [← List.foldl_append, List.take_append_drop]
  refine ⟨X ++ [(cutSt (bs s)).2], ?_, by simp⟩
  rw [cutSt_els, e, h, List.append_assoc]
  rfl

theorem done_one (s : ByteArray) (h : 0 < s.size) (h0 : s[0] = 47) : doneP s 1 = [[]] ∧ curP s 1 = [] := by
  have := cut_hit s 0 h h0
  simpa [doneP, curP, cutSt] using this

/-- What the loop of Items holds at place i. -/
def ItRel (s : ByteArray) (base : Nat) (out frm : Value) (i : Nat) (wr : World) : Prop :=
  (1 ≤ i ∧ i ≤ s.size ∧ ∃ D, doneP s i = [] :: D ∧ (∀ y ∈ D, y ≠ []) ∧ frm = .int .i64 ((i - (curP s i).length : Nat) : Int) ∧ wr.ownsRow base 9 1 out D.length (D.map strV)) ∨
  (i = s.size + 1 ∧ ∃ its, itemsOf (els (bs s).tail) = some its ∧ wr.ownsRow base 9 1 out its.length (its.map strV))
end Go.Proofs.YtgkhfcoieknjeaaDoor

namespace Go.Proofs.YtgkhfcoieknjeaaDoor
open Go.RowKit Go.Lib.Pa

/-- How Items ends. -/
def ItemsEnd (l : List UInt8) (w : World) (e : Ending) (w' : World) : Prop :=
  Below w.heap.size w w' ∧
    ((itemsL l = none ∧ e = .returned (.tuple #[.slice none 0 0, .bool false])) ∨
     (∃ its v, itemsL l = some its ∧ e = .returned (.tuple #[v, .bool true]) ∧ w'.ownsRow w.heap.size 9 1 v its.length (its.map strV)))

theorem items_none (l : List UInt8) (h : ¬ (l.head? = some 47 ∧ l.length ≤ 120 ∧ hasB l 37 = false)) : itemsL l = none := by
  unfold itemsL
  rw [if_neg h]

theorem els_tail (l : List UInt8) (h : l.head? = some 47) : els l = [] :: els l.tail := by
  cases l with
  | nil => simp at h
  | cons c t =>
    simp at h
    subst h
    exact els_slash t

set_option maxRecDepth 100000 in
set_option maxHeartbeats 1600000 in
theorem items_any (s : ByteArray) (w : World) (hs : s.size ≤ 9223372036854775807) :
    Calls Tryd.prog 39 #[.string s] w (ItemsEnd (bs s) w) := by
  obtain ⟨i0, hi, hz0, hz1, hz2⟩ := info_parts info_string
  by_cases he : bs s = []
  · have H0 : Hid (itemsL (bs s) = none) := items_none _ (by rw [he]; simp)
    have ht : s.toList.isEmpty = true := by rw [bs_toList, he]; rfl
    clear he
    go_enter Tryd.func39, Tryd.ntmps39
    go_wp2_with fail
    go_ret2
    exact ⟨Below.refl _ _, .inl ⟨H0.out, rfl⟩⟩
  have ht : s.toList.isEmpty = false := by rw [bs_toList]; simpa using he
  have hpos : 0 < s.size := by
    rw [← bs_size]
    exact List.length_pos_iff.2 he
  have hh := bs_head s hpos
  clear he
  by_cases h0 : s[0]'hpos = 47
  case neg =>
    have H0 : Hid (itemsL (bs s) = none) := items_none _ (by rw [hh]; rintro ⟨h, _⟩; exact h0 (by simpa using h))
    have h0' : (((s[0]'hpos).toNat : Int) != 47) = true := by rw [Go.Lib.Pa.bne47]; simpa using h0
    clear h0 hh
    go_enter Tryd.func39, Tryd.ntmps39
    go_wp2_with fail
    go_ret2
    exact ⟨Below.refl _ _, .inl ⟨H0.out, rfl⟩⟩
  have h0' : (((s[0]'hpos).toNat : Int) != 47) = false := by rw [h0]; rfl
  by_cases hl : 120 < s.size
  · have H0 : Hid (itemsL (bs s) = none) := items_none _ (by rw [bs_size]; rintro ⟨_, h, _⟩; omega)
    have hl' : decide ((120 : Int) < s.size) = true := by simp; omega
    clear h0 hh
    go_enter Tryd.func39, Tryd.ntmps39
    go_wp2_with fail
    go_ret2
    exact ⟨Below.refl _ _, .inl ⟨H0.out, rfl⟩⟩
  have hl' : decide ((120 : Int) < s.size) = false := by simp; omega
  have HH : Hid (∀ w, Calls Tryd.prog 47 #[.string s, .int .u8 37] w fun e w' => e = .returned (.bool (hasB (bs s) 37)) ∧ w = w') := fun w => has_any s 37 w hs
  cases hpc : hasB (bs s) 37
  case true =>
    have H0 : Hid (itemsL (bs s) = none) := items_none _ (by rw [hpc]; rintro ⟨_, _, h⟩; cases h)
    clear h0 hh
    go_enter Tryd.func39, Tryd.ntmps39
    go_wp2_with (go_at_call 47; refine (HH.out _).mono ?_; rintro e w' ⟨rfl, rfl⟩)
    go_ret2
    exact ⟨Below.refl _ _, .inl ⟨H0.out, rfl⟩⟩
  case false =>
    have HI : Hid (itemsL (bs s) = itemsOf (els (bs s).tail)) := by
      show _ = _
      unfold itemsL
      rw [if_pos ⟨by rw [hh, h0], by rw [bs_size]; omega, hpc⟩]
    have HE : Hid (els (bs s) = [] :: els (bs s).tail) := els_tail _ (by rw [hh, h0])
    have H1 := Lib.hid (done_one s hpos h0)
    clear h0 hh
    go_enter Tryd.func39, Tryd.ntmps39
    go_wp2_with (go_at_call 47; refine (HH.out _).mono ?_; rintro e w' ⟨rfl, rfl⟩)
    go_loopw [4, 5, 6] (fun out frm iv wr => ∃ i : Nat, i ≤ s.size + 1 ∧ iv = .int .i64 i ∧ ItRel s w.heap.size out frm i wr ∧ Below w.heap.size w wr) (fun _ _ iv _ => s.size + 1 - (intOf iv).toNat)
    case atStart =>
      exact ⟨1, by omega, rfl, .inl ⟨by omega, by omega, [], H1.out.1, by simp, by rw [H1.out.2]; rfl, by simpa using World.ownsRow_made w #[] 0 (Nat.le_refl _) (by decide) (by decide)⟩, (Below.refl _ _).alloc (Nat.le_refl _) _⟩
    case round =>
      obtain ⟨i, hi1, rfl, hrel, hb⟩ := hrel
      rcases hrel with ⟨hi2, hi3, D, hD, hDn, rfl, hown⟩ | ⟨rfl, its, hits, hown⟩
      · obtain ⟨hc1, hc2, hc3⟩ := cut_len s i hi3
        have HC : Hid (curP s i = bs (s.extract (i - (curP s i).length) i)) := hc3
        have HD := Lib.hid hD
        have hDl : D.length ≤ i := by
          have := hc2
          rw [hD] at this
          simp at this
          omega
        clear hc3 hD hc2
        by_cases hlt : i < s.size
        · by_cases hc : s[i]'hlt = 47
          · have hc' : (((s[i]'hlt).toNat : Int) != 47) = false := by rw [hc]; rfl
            have HK := Lib.hid (cut_hit s i hlt hc)
            by_cases hcur : curP s i = []
            · have hz : (curP s i).length = 0 := by rw [hcur]; rfl
              have H0 : Hid (itemsL (bs s) = none) := by
                show _ = _
                rw [HI.out]
                obtain ⟨X, hX1, hX2⟩ := done_prefix s (i + 1)
                rw [HK.out.1, HD.out, hcur, HE.out] at hX1
                simp only [List.cons_append, List.cons.injEq, true_and, List.append_assoc, List.nil_append] at hX1
                rw [hX1]
                exact itemsOf_bad D X hX2
              have hf : ((i - (curP s i).length : Nat) : Int) = i := by omega
              rw [hf]
              clear hcur hc hz hf
              go_wp2_with fail
              go_ret2
              exact ⟨by assumption, .inl ⟨H0.out, rfl⟩⟩
            · have hz : 0 < (curP s i).length := List.length_pos_iff.2 hcur
              have hcn := Lib.hid hcur
              clear hc hcur
              go_wp2_with (at_builtin; refine wpList_append_own _ rfl _ _ 30 rfl w.heap.size 9 i0 (.string ⟨#[]⟩) 1 16 Tryd.underlying30 hi hz0 hz1 hz2 rfl (by decide) _ _ _ rfl (hown.alloc _) ⟨wr.heap.size, 0, none⟩ 1 1 [_] rfl rfl (cell_one_new _ _ _) (by simp [Value.oneCell']) (by unfold maxLen; omega) (by omega) (by have := hb.size; simp; omega) ?_; intro v' w1 hown' hgrow _)
              have hb' : Below w.heap.size w w1 := (hb.alloc hb.size _).grown hgrow (by have := hb.size; simp; omega) fun g hg => (hown.lt g hg).1
              have hs' := strV_bs (s.extract (i - (curP s i).length) i)
              rw [← HC.out] at hs'
              clear hgrow hown hb
              go_roundw
              case rel =>
                refine ⟨i + 1, by omega, by go_num, .inl ⟨by omega, by omega, D ++ [curP s i], ?_, ?_, ?_, ?_⟩, hb'⟩
                · rw [HK.out.1, HD.out]; simp
                · intro y hy
                  rcases List.mem_append.1 hy with h | h
                  · exact hDn y h
                  · simp at h; rw [h]; exact hcn.out
                · rw [HK.out.2]; go_num
                · simpa [hs'] using hown'
              case measure => simp [intOf]; omega
          · have hc' : (((s[i]'hlt).toNat : Int) != 47) = true := by rw [Go.Lib.Pa.bne47]; simpa using hc
            have HK := Lib.hid (cut_miss s i hlt hc)
            clear hc
            go_wp2_with fail
            go_roundw
            case rel =>
              refine ⟨i + 1, by omega, by go_num, .inl ⟨by omega, by omega, D, ?_, hDn, ?_, hown⟩, hb⟩
              · rw [HK.out.1, HD.out]
              · rw [HK.out.2, List.length_append, List.length_singleton, Nat.add_sub_add_right]
            case measure => simp [intOf]; omega
        · have hie : i = s.size := by omega
          have HF : Hid (itemsOf (els (bs s).tail) = some (D ++ [if curP s i = [] then [47] else curP s i])) := by
            show _ = _
            have h1 := HE.out
            rw [cut_end, ← hie, HD.out] at h1
            simp only [List.cons_append, List.cons.injEq, true_and] at h1
            rw [← h1]
            exact itemsOf_snoc D _ hDn
          have heq : ((i : Int) == (s.size : Int)) = true := by rw [hie]; simp
          clear hie
          by_cases hcur : curP s i = []
          · have hz : (curP s i).length = 0 := by rw [hcur]; rfl
            have hf : ((i - (curP s i).length : Nat) : Int) = i := by omega
            have hF := HF.out
            rw [if_pos hcur] at hF
            have HF2 := Lib.hid hF
            rw [hf]
            clear hcur hz hf hF HF
            go_wp2_with (at_builtin; refine wpList_append_own _ rfl _ _ 30 rfl w.heap.size 9 i0 (.string ⟨#[]⟩) 1 16 Tryd.underlying30 hi hz0 hz1 hz2 rfl (by decide) _ _ _ rfl (hown.alloc _) ⟨wr.heap.size, 0, none⟩ 1 1 [_] rfl rfl (cell_one_new _ _ _) (by simp [Value.oneCell']) (by unfold maxLen; omega) (by omega) (by have := hb.size; simp; omega) ?_; intro v' w1 hown' hgrow _)
            have hb' : Below w.heap.size w w1 := (hb.alloc hb.size _).grown hgrow (by have := hb.size; simp; omega) fun g hg => (hown.lt g hg).1
            clear hgrow hown hb
            go_roundw
            case rel => exact ⟨i + 1, by omega, by go_num, .inr ⟨by omega, _, HF2.out, by simpa [strV] using hown'⟩, hb'⟩
            case measure => simp [intOf]; omega
          · have hz : 0 < (curP s i).length := List.length_pos_iff.2 hcur
            have hF := HF.out
            rw [if_neg hcur] at hF
            have HF2 := Lib.hid hF
            clear hcur hF HF
            go_wp2_with (at_builtin; refine wpList_append_own _ rfl _ _ 30 rfl w.heap.size 9 i0 (.string ⟨#[]⟩) 1 16 Tryd.underlying30 hi hz0 hz1 hz2 rfl (by decide) _ _ _ rfl (hown.alloc _) ⟨wr.heap.size, 0, none⟩ 1 1 [_] rfl rfl (cell_one_new _ _ _) (by simp [Value.oneCell']) (by unfold maxLen; omega) (by omega) (by have := hb.size; simp; omega) ?_; intro v' w1 hown' hgrow _)
            have hb' : Below w.heap.size w w1 := (hb.alloc hb.size _).grown hgrow (by have := hb.size; simp; omega) fun g hg => (hown.lt g hg).1
            have hs' := strV_bs (s.extract (i - (curP s i).length) i)
            rw [← HC.out] at hs'
            clear hgrow hown hb
            go_roundw
            case rel => exact ⟨i + 1, by omega, by go_num, .inr ⟨by omega, _, HF2.out, by simpa [hs'] using hown'⟩, hb'⟩
            case measure => simp [intOf]; omega
      · go_wp2_with fail
        go_ret2
        exact ⟨hb, .inr ⟨its, _, by rw [HI.out]; exact hits, rfl, hown⟩⟩
end Go.Proofs.YtgkhfcoieknjeaaDoor

namespace Go.Proofs.YtgkhfcoieknjeaaDoor
open Go.RowKit Go.Lib.Pa

theorem els_small : ∀ l : List UInt8, (els l).length ≤ l.length + 1 ∧ ∀ x ∈ els l, x.length ≤ l.length
  | [] => by simp [els]
  | c :: t => by
    obtain ⟨h1, h2⟩ := els_small t
    by_cases hc : c = 47
    · subst hc
      rw [els_slash]
      refine ⟨by simp only [List.length_cons]; omega, fun x hx => ?_⟩
      rcases List.mem_cons.1 hx with rfl | hx
      · simp
      · have := h2 x hx
        simp only [List.length_cons]; omega
    · cases he : els t with
      | nil => exact ((els_ne t) he).elim
      | cons e r =>
        have e1 : els (c :: t) = (c :: e) :: r := by simp [els, he, hc]
        rw [he] at h1 h2
        rw [e1]
        refine ⟨by simp only [List.length_cons] at h1 ⊢; omega, fun x hx => ?_⟩
        rcases List.mem_cons.1 hx with rfl | hx
        · have := h2 e List.mem_cons_self
          simp only [List.length_cons]; omega
        · have := h2 x (List.mem_cons_of_mem _ hx)
          simp only [List.length_cons]; omega

theorem itemsOf_small : ∀ (ts its : List (List UInt8)) (n : Nat), 1 ≤ n → (∀ x ∈ ts, x.length ≤ n) → itemsOf ts = some its → its.length = ts.length ∧ ∀ x ∈ its, x.length ≤ n
  | [], its, n, _, _, h => by simp [itemsOf] at h
  | [x], its, n, hn, hx, h => by
    simp only [itemsOf, Option.some.injEq] at h
    subst h
    refine ⟨rfl, fun y hy => ?_⟩
    simp only [List.mem_singleton] at hy
    subst hy
    split
    · simpa using hn
    · exact hx x List.mem_cons_self
  | x :: y :: t, its, n, hn, hx, h => by
    rw [itemsOf] at h
    split at h
    · cases h
    · cases hh : itemsOf (y :: t) with
      | none => rw [hh] at h; cases h
      | some js =>
        rw [hh] at h
        simp only [Option.map_some, Option.some.injEq] at h
        subst h
        obtain ⟨i1, i2⟩ := itemsOf_small (y :: t) js n hn (fun z hz => hx z (List.mem_cons_of_mem _ hz)) hh
        refine ⟨by simp only [List.length_cons] at i1 ⊢; omega, fun z hz => ?_⟩
        rcases List.mem_cons.1 hz with rfl | hz
        · exact hx _ List.mem_cons_self
        · exact i2 z hz

theorem items_small (l : List UInt8) (its : List (List UInt8)) (h : itemsL l = some its) : SmallIts its := by
  unfold itemsL at h
  split at h
  · rename_i hc
    obtain ⟨h1, h2⟩ := els_small l.tail
    have hl := hc.2.1
    have ht : l.tail.length + 1 = l.length := by
      cases l with
      | nil => simp at hc
      | cons c t => rfl
    obtain ⟨i1, i2⟩ := itemsOf_small _ its 120 (by omega) (fun x hx => by have := h2 x hx; omega) h
    exact ⟨by omega, i2⟩
  · cases h
end Go.Proofs.YtgkhfcoieknjeaaDoor

namespace Go.Proofs.YtgkhfcoieknjeaaDoor
open Go.RowKit

/-- What Items answers. -/
def ItemsOk (l : List UInt8) (w : World) (e : Ending) (w' : World) : Prop :=
  ∃ v b its, e = .returned (.tuple #[v, .bool b]) ∧ (b = true → itemsL l = some its ∧ StrsAt w' v its) ∧ Below w.heap.size w w'

theorem items_ok (s : ByteArray) (w : World) (hs : s.size ≤ 9223372036854775807) : Calls Tryd.prog 39 #[.string s] w (ItemsOk (bs s) w) := by
  refine (items_any s w hs).mono ?_
  rintro e w' ⟨hb, ⟨h, rfl⟩ | ⟨its, v, h, rfl, hown⟩⟩
  · exact ⟨_, false, [], rfl, (fun h => by cases h), hb⟩
  · exact ⟨_, true, its, rfl, fun _ => ⟨h, StrsAt.of_own hown⟩, hb⟩
end Go.Proofs.YtgkhfcoieknjeaaDoor
