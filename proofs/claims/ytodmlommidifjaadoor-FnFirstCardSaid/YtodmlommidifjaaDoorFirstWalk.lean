/-
  Proved: the walk of laws.FnFirst: it returns true and writes nothing that was there. No conditions but a text's own bound of length.
-/
import Derived.Test.YtodmlommidifjaaDoorItemsWalk
import Derived.Test.YtodmlommidifjaaDoorUnesc
import Derived.Deep.Draws
namespace Go.Proofs.YtodmlommidifjaaDoor
open Go.RowKit Go.Lib.Pa

theorem below_drewN' {B : Nat} {a w : World} (h : Below B a w) (n : Nat) : Below B a (w.drewN n) := ⟨h.os, h.tape, h.output, h.size, h.block⟩

theorem slashed_els : ∀ r : List UInt8, slashed (els r) = 47 :: r
  | [] => rfl
  | c :: t => by
    have ih := slashed_els t
    have hn := els_ne t
    by_cases hc : c = 47
    · subst hc
      rw [els_slash]
      show 47 :: ([] ++ slashed (els t)) = _
      rw [ih]; rfl
    · cases he : els t with
      | nil => exact (hn he).elim
      | cons e rest =>
        rw [he] at ih
        simp only [slashed, List.cons.injEq, true_and] at ih
        simp [els, he, hc, slashed, ih]

/-- What is left of a path and what is left of its items. -/
def Left2 (qs t : List (List UInt8)) : Prop := (qs = [] ∧ t = []) ∨ itemsOf qs = some t

theorem left_step (qs t : List (List UInt8)) (x : List UInt8) (h : Left2 qs (x :: t)) :
    (qs = [[]] ∧ x = [47] ∧ t = []) ∨ ∃ qs', qs = x :: qs' ∧ x ≠ [] ∧ Left2 qs' t := by
  rcases h with ⟨_, h⟩ | h
  · cases h
  · match qs, h with
    | [q], h =>
      simp only [itemsOf, Option.some.injEq, List.cons.injEq] at h
      obtain ⟨h1, h2⟩ := h
      by_cases hq : q = []
      · subst hq
        exact .inl ⟨rfl, h1.symm, h2.symm⟩
      · rw [if_neg hq] at h1
        subst h1
        exact .inr ⟨[], rfl, hq, .inl ⟨rfl, h2.symm⟩⟩
    | q :: y :: r, h =>
      rw [itemsOf] at h
      split at h
      · cases h
      · rename_i hq
        obtain ⟨u, hu, he⟩ := Option.map_eq_some_iff.1 h
        simp only [List.cons.injEq] at he
        obtain ⟨rfl, rfl⟩ := he
        exact .inr ⟨y :: r, rfl, hq, .inr hu⟩

theorem take_piece (x : List UInt8) (qs : List (List UInt8)) (hx : ∀ c ∈ x, c ≠ 47) : (x ++ slashed qs).takeWhile (· != 47) = x ∧ (x ++ slashed qs).dropWhile (· != 47) = slashed qs := by
  have hall : ∀ c ∈ x, (c != 47) = true := fun c hc => by simpa using hx c hc
  have h2 : (slashed qs).takeWhile (· != 47) = [] ∧ (slashed qs).dropWhile (· != 47) = slashed qs := by
    cases qs <;> simp [slashed]
  constructor
  · rw [List.takeWhile_append_of_pos hall, h2.1, List.append_nil]
  · rw [List.dropWhile_append_of_pos hall, h2.2]

theorem slashed_noPct : ∀ qs : List (List UInt8), (∀ q ∈ qs, ∀ c ∈ q, c ≠ 37) → ∀ c ∈ slashed qs, c ≠ 37
  | [], _, c, hc => by simp [slashed] at hc
  | y :: ys, h, c, hc => by
    simp only [slashed, List.mem_cons, List.mem_append] at hc
    rcases hc with rfl | hc | hc
    · decide
    · exact h y List.mem_cons_self c hc
    · exact slashed_noPct ys (fun q hq => h q (List.mem_cons_of_mem _ hq)) c hc

theorem implFirst_end (w : World) :
    Calls Tryd.prog 11 #[.string ⟨#[47]⟩] w fun e w' => ∃ n, e = .returned (.tuple #[.string ⟨#[47]⟩, .string ⟨#[]⟩]) ∧ w' = w.drewN n := by
  go_enter Tryd.func11, Tryd.ntmps11
  go_wp2_with (first
    | (go_at_call 30; refine (firstSegment_end _).mono ?_; rintro e w' ⟨rfl, rfl⟩)
    | (go_at_call 21; go_in))
  go_ret2
  exact ⟨0, rfl, rfl⟩

theorem implFirst_any (s : ByteArray) (w : World) (r : List UInt8) (hs : s.size ≤ 9223372036854775807) (hr : bs s = 47 :: r) (hne : r ≠ []) (hp : ∀ c ∈ r, c ≠ 37) :
    Calls Tryd.prog 11 #[.string s] w fun e w' => ∃ n, e = .returned (.tuple #[.string ⟨(r.takeWhile (· != 47)).toArray⟩, .string ⟨(r.dropWhile (· != 47)).toArray⟩]) ∧ w' = w.drewN n := by
  have H : Hid (∀ w, Calls Tryd.prog 30 #[.string s] w fun e w' => ∃ n, e = .returned (.tuple #[.string ⟨(r.takeWhile (· != 47)).toArray⟩, .string ⟨(r.dropWhile (· != 47)).toArray⟩]) ∧ w' = w.drewN n) :=
    fun w => firstSegment_any s w r hs hr hne hp
  clear hr hne hp
  go_enter Tryd.func11, Tryd.ntmps11
  go_wp2_with (first
    | (go_at_call 30; refine (H.out _).mono ?_; rintro e w' ⟨n, rfl, rfl⟩)
    | (go_at_call 21; go_in))
  go_ret2
  exact ⟨_, rfl, rfl⟩

namespace fnFirst
set_option maxRecDepth 100000 in
set_option maxHeartbeats 800000 in
theorem walk (a0 : ByteArray) (w0 : a0.size ≤ maxLen) (w : World) :
    Calls Tryd.prog 4 #[.string a0] w fun e w' => e = .returned (.bool true) ∧ Below w.heap.size w w' := by
  unfold maxLen at w0
  by_cases hbig : 2147483647 < a0.size
  · go_enter Tryd.func4, Tryd.ntmps4
    go_wp2_with fail
    go_ret
    exact ⟨rfl, Below.refl _ _⟩
  go_enter Tryd.func4, Tryd.ntmps4
  go_wp2_with fail
  refine (items_any a0 _ (by omega)).mono ?_
  rintro e w1 ⟨hb1, ⟨_, rfl⟩ | ⟨its, v, hits, rfl, hown⟩⟩
  · go_wp2_with fail
    go_ret
    exact ⟨rfl, hb1⟩
  · have hok : (bs a0).head? = some 47 ∧ (bs a0).length ≤ 120 ∧ hasB (bs a0) 37 = false := by
      unfold itemsL at hits
      split at hits
      · assumption
      · cases hits
    have hits2 : itemsOf (els (bs a0).tail) = some its := by
      unfold itemsL at hits
      rwa [if_pos hok] at hits
    have hsl : bs a0 = slashed (els (bs a0).tail) := by
      rw [slashed_els]
      cases h : bs a0 with
      | nil => rw [h] at hok; simp at hok
      | cons c t => rw [h] at hok; simp at hok; simp [hok.1]
    have hq : ∀ q ∈ els (bs a0).tail, (∀ c ∈ q, c ≠ 47) ∧ (∀ c ∈ q, c ≠ 37) := by
      intro q hq
      refine ⟨els_noSlash _ q hq, fun c hc h37 => ?_⟩
      have hin : c ∈ slashed (els (bs a0).tail) := by
        clear hits2 hsl
        revert hq
        generalize els (bs a0).tail = qs
        intro hq
        induction qs with
        | nil => simp at hq
        | cons y ys ih =>
          simp only [slashed, List.mem_cons, List.mem_append]
          rcases List.mem_cons.1 hq with rfl | h
          · exact .inr (.inl hc)
          · exact .inr (.inr (ih h))
      rw [← hsl, h37] at hin
      have := (hasB_iff (bs a0) 37).2 hin
      have h3 := hok.2.2
      rw [show ((37 : UInt8).toNat : Int) = 37 from rfl] at this
      rw [this] at h3
      cases h3
    obtain ⟨A, cap, rfl, hnc, hcm, hA⟩ := own_form hown
    have HC : Hid (∀ j u, (its.map strV)[j]? = some u → ∃ g, A = some ⟨g, 0, none⟩ ∧ g < w1.heap.size ∧ w1.cell? ⟨g, j, none⟩ = some u) := by
      intro j u hu
      have hj : j < its.length := by
        have := (List.getElem?_eq_some_iff.1 hu).1
        simpa using this
      obtain ⟨g, c, hv, _, hlt, _, _, hc⟩ := own_pos hown (by omega)
      simp only [Value.slice.injEq] at hv
      exact ⟨g, hv.1, hlt, hc j u hu⟩
    have HI := Lib.hid hits2
    have HS := Lib.hid hsl
    have HQ := Lib.hid hq
    have hil : its.length ≤ 9223372036854775807 := by unfold maxLen at hcm; omega
    clear hits hits2 hok hsl hq hown hA
    go_wp2_with fail
    go_loopw [0, 21] (fun p iv wr => ∃ (j n : Nat) (qs : List (List UInt8)) (b : ByteArray), j ≤ its.length ∧ iv = .int .i64 j ∧ p = .string b ∧ b.size ≤ a0.size ∧
        Hid (bs b = slashed qs ∧ Left2 qs (its.drop j) ∧ ∀ q ∈ qs, (∀ c ∈ q, c ≠ 47) ∧ (∀ c ∈ q, c ≠ 37)) ∧ wr = w1.drewN n)
      (fun _ iv _ => its.length - (intOf iv).toNat)
    case atStart => exact ⟨0, 0, _, a0, Nat.zero_le _, rfl, rfl, Nat.le_refl _, ⟨HS.out, .inr HI.out, HQ.out⟩, rfl⟩
    case round =>
      obtain ⟨j, nd, qs, b, hj, rfl, rfl, hbl, HR, rfl⟩ := hrel
      by_cases hjl : j < its.length
      · obtain ⟨x, hx⟩ : ∃ x, its[j]? = some x := ⟨_, List.getElem?_eq_getElem hjl⟩
        obtain ⟨g, rfl, hgl, hcx⟩ := HC.out j _ (by rw [List.getElem?_map, hx]; rfl)
        have hcx' : (w1.drewN nd).cell? ⟨g, j, none⟩ = some (.string ⟨x.toArray⟩) := hcx
        have hdrop : its.drop j = x :: its.drop (j + 1) := by
          rw [List.drop_eq_getElem_cons hjl]
          congr 1
          have := List.getElem?_eq_getElem hjl
          rw [hx] at this
          exact (Option.some.inj this).symm
        obtain ⟨hb1', hb2, hb3⟩ := HR.out
        rw [hdrop] at hb2
        rcases left_step _ _ _ hb2 with ⟨rfl, rfl, ht⟩ | ⟨qs', rfl, hx0, hl⟩
        · have hbe : b = ⟨#[47]⟩ := bs_inj hb1'
          have H2 : Hid (bs ⟨#[]⟩ = slashed [] ∧ Left2 [] (its.drop (j + 1)) ∧ ∀ q ∈ ([] : List (List UInt8)), (∀ c ∈ q, c ≠ 47) ∧ (∀ c ∈ q, c ≠ 37)) := ⟨rfl, .inl ⟨rfl, ht⟩, by simp⟩
          subst hbe
          clear hb1' hb2 hb3 ht hx hcx hdrop HR
          go_wp2_with (go_at_call 11; refine (implFirst_end _).mono ?_; rintro e w' ⟨n, rfl, rfl⟩)
          go_roundw
          case rel => exact ⟨j + 1, _, [], ⟨#[]⟩, by omega, by go_num, rfl, Nat.zero_le _, H2, rfl⟩
          case measure => simp [intOf]; omega
        · have hr : bs b = 47 :: (x ++ slashed qs') := hb1'
          have hx1 := hb3 x List.mem_cons_self
          have hq' : ∀ q ∈ qs', (∀ c ∈ q, c ≠ 47) ∧ (∀ c ∈ q, c ≠ 37) := fun q hq => hb3 q (List.mem_cons_of_mem _ hq)
          have hpc : ∀ c ∈ x ++ slashed qs', c ≠ 37 := by
            intro c hc
            rcases List.mem_append.1 hc with h | h
            · exact hx1.2 c h
            · exact slashed_noPct qs' (fun q hq => (hq' q hq).2) c h
          obtain ⟨ht1, ht2⟩ := take_piece x qs' hx1.1
          have hc : ∀ wx, Calls Tryd.prog 11 #[.string b] wx fun e w' => ∃ n, e = .returned (.tuple #[.string ⟨x.toArray⟩, .string ⟨(slashed qs').toArray⟩]) ∧ w' = wx.drewN n := by
            intro wx
            have := implFirst_any b wx _ (by omega) hr (by simp [hx0]) hpc
            rwa [ht1, ht2] at this
          have HF := Lib.hid hc
          have hsz : b.size = x.length + (slashed qs').length + 1 := by
            rw [← bs_size, hr]; simp
          have hlt : (slashed qs').length < b.size := by omega
          have hbe : b.toList.isEmpty = false := by rw [bs_toList, hr]; rfl
          have H2 : Hid (bs ⟨(slashed qs').toArray⟩ = slashed qs' ∧ Left2 qs' (its.drop (j + 1)) ∧ ∀ q ∈ qs', (∀ c ∈ q, c ≠ 47) ∧ (∀ c ∈ q, c ≠ 37)) := ⟨by simp [bs], hl, hq'⟩
          clear hb1' hb2 hb3 hr hx1 hq' hpc ht1 ht2 hc hsz hl hx0 hx hcx hdrop HR
          go_wp2_with (go_at_call 11; refine (HF.out _).mono ?_; rintro e w' ⟨n, rfl, rfl⟩)
          go_roundw
          case rel => exact ⟨j + 1, _, qs', _, by omega, by go_num, rfl, by show (slashed qs').length ≤ _; omega, H2, rfl⟩
          case measure => simp [intOf]; omega
      · obtain ⟨h1, h2, _⟩ := HR.out
        have hje : its.drop j = [] := List.drop_of_length_le (by omega)
        rw [hje] at h2
        have hqs : qs = [] := by
          rcases h2 with ⟨h, _⟩ | h
          · exact h
          · exfalso
            match qs, h with
            | [], h => cases h
            | [q], h => simp [itemsOf] at h
            | q :: y :: r, h =>
              rw [itemsOf] at h
              split at h
              · cases h
              · obtain ⟨u, _, he⟩ := Option.map_eq_some_iff.1 h
                cases he
        have hbe : b.toList.isEmpty = true := by rw [bs_toList, h1, hqs]; rfl
        clear h1 h2 hje hqs
        go_wp2_with fail
        go_ret
        exact ⟨rfl, below_drewN' hb1 _⟩
end fnFirst
end Go.Proofs.YtodmlommidifjaaDoor
