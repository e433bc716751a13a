/-
  Proved: spec.Clean returns what 'specCleanL' says of the text, in new memory. Condition: the text has at most 120 bytes.
-/
import Derived.Test.YtekinlgpnbehhaaCut
import Derived.Test.YtekinlgpnbehhaaMem
import Derived.Test.YtekinlgpnbehhaaCleanPath
import Derived.Maps.AppendAt
namespace Go.Proofs.Ytekinlgpnbehhaa
open Go.RowKit Go.Lib.Pa

theorem fold_len : ∀ (xs st : List (List UInt8)), (xs.foldl (cleanStep true) st).length ≤ st.length + xs.length
  | [], st => by simp
  | x :: xs, st => by
    have h1 : (cleanStep true st x).length ≤ st.length + 1 := by
      unfold cleanStep
      split
      · omega
      · split
        · split
          · split <;> simp <;> omega
          · simp
        · simp
    have := fold_len xs (cleanStep true st x)
    simp only [List.foldl_cons, List.length_cons]
    omega

/-- What is kept after k pieces, the last first. -/
def stK (xs : List (List UInt8)) (k : Nat) : List (List UInt8) := (xs.take k).foldl (cleanStep true) []

theorem stK_succ (xs : List (List UInt8)) (k : Nat) (x : List UInt8) (h : xs[k]? = some x) : stK xs (k + 1) = cleanStep true (stK xs k) x := by
  unfold stK
  rw [List.take_add_one, h]
  simp [List.foldl_append]

theorem fold_mem : ∀ (es st : List (List UInt8)), ∀ x ∈ es.foldl (cleanStep true) st, x ∈ st ∨ x ∈ es
  | [], st, x, hx => .inl hx
  | e :: es, st, x, hx => by
    rcases fold_mem es (cleanStep true st e) x hx with h | h
    · unfold cleanStep at h
      split at h
      · exact .inl h
      · split at h
        · split at h
          · split at h
            · rcases List.mem_cons.1 h with rfl | h
              · exact .inr List.mem_cons_self
              · exact .inl h
            · exact .inl (List.mem_cons_of_mem _ h)
          · simp at h
        · rcases List.mem_cons.1 h with rfl | h
          · exact .inr List.mem_cons_self
          · exact .inl h
    · exact .inr (List.mem_cons_of_mem _ h)

theorem els_len : ∀ (l : List UInt8), ∀ e ∈ els l, e.length ≤ l.length
  | [], e, he => by simp [els] at he; subst he; simp
  | b :: t, e, he => by
    have ih := els_len t
    unfold els at he
    split at he
    · rcases List.mem_cons.1 he with rfl | he
      · simp
      · have := ih e he; simp; omega
    · split at he
      · rename_i e' r hr
        rcases List.mem_cons.1 he with rfl | he
        · have := ih e' (by rw [hr]; exact List.mem_cons_self); simpa using this
        · have := ih e (by rw [hr]; exact List.mem_cons_of_mem _ he); simp; omega
      · simp only [List.mem_singleton] at he
        subst he
        simp

theorem keptL_len (l : List UInt8) : ∀ x ∈ keptL l, x.length ≤ l.length := by
  intro x hx
  rcases fold_mem (els l) [] x (by simpa [keptL] using hx) with h | h
  · simp at h
  · exact els_len l x h

theorem slashed_take_succ (ks : List (List UInt8)) (j : Nat) (x : List UInt8) (h : ks[j]? = some x) : slashed (ks.take (j + 1)) = slashed (ks.take j) ++ 47 :: x := by
  have key : ∀ (a : List (List UInt8)), slashed (a ++ [x]) = slashed a ++ 47 :: x := by
    intro a
    induction a with
    | nil => simp [slashed]
    | cons y a ih => simp [slashed, ih]
  rw [List.take_add_one, h]
  exact key _

theorem slashed_len (ks : List (List UInt8)) (m : Nat) (h : ∀ x ∈ ks, x.length ≤ m) : (slashed ks).length ≤ ks.length * (m + 1) := by
  induction ks with
  | nil => simp [slashed]
  | cons y a ih =>
    have h1 := ih fun x hx => h x (List.mem_cons_of_mem _ hx)
    have h2 := h y List.mem_cons_self
    simp only [slashed, List.length_cons, List.length_append, Nat.add_mul]
    omega

set_option maxHeartbeats 1000000 in
theorem clean_any (s : ByteArray) (w : World) (hl : s.size ≤ 120) :
    Calls Try.prog 6 #[.string s] w fun e w' => e = .returned (.string ⟨(specCleanL (bs s)).toArray⟩) ∧ Below w.heap.size w w' := by
  obtain ⟨i0, hi, hz0, hz1, hz2⟩ := info_parts info_string
  obtain ⟨xs, hxs⟩ : ∃ xs, xs = els (bs s) := ⟨_, rfl⟩
  have hx0 : 0 < xs.length := by
    rw [hxs]
    exact List.length_pos_iff.2 (els_ne _)
  have hxl : xs.length ≤ s.size + 1 := by
    have := (cut_len s s.size (Nat.le_refl _)).2.1
    rw [hxs, cut_end, List.length_append, List.length_singleton]
    omega
  have HKept : Hid (∀ k, ∀ x ∈ stK xs k, Kept x) := fun k => fold_kept (xs.take k) [] (by simp) (fun e he => els_noSlash (bs s) e (by rw [← hxs]; exact List.mem_of_mem_take he))
  have HX : Hid (xs = els (bs s)) := hxs
  clear hxs
  go_enter Try.func6, Try.ntmps6
  go_wp2_with fail
  refine (cut_any s _ (by omega)).mono ?_
  rintro e w1 ⟨lv, rfl, hown1, hb1⟩
  rw [← HX.out] at hown1
  obtain ⟨g1, c1, rfl, hg1, hg2, hn1, hm1, hcell⟩ := own_pos hown1 hx0
  have hk0 : w1.ownsRow w.heap.size 9 1 (.slice (some ⟨w.heap.size, 0, none⟩) 0 0) 0 [] :=
    own_below (World.ownsRow_made w #[] 0 (Nat.le_refl _) (by decide) (by decide)) hb1
  have hb0 : Below w.heap.size w w1 := ((Below.refl _ _).alloc (Nat.le_refl _) _).trans (hb1.mono (by simp))
  have hg3 : w.heap.size < g1 := by simp at hg1; omega
  clear hown1 hb1 hg1
  go_wp2_with fail
  go_loopw [3, 13] (fun kv i wr => ∃ k : Nat, k ≤ xs.length ∧ i = .int .i64 k ∧ wr.ownsRow w.heap.size 9 1 kv (stK xs k).length ((stK xs k).reverse.map strV) ∧ kv.ownBlock ≠ some g1 ∧
      g1 < wr.heap.size ∧ (∀ j u, (xs.map strV)[j]? = some u → wr.cell? ⟨g1, j, none⟩ = some u) ∧ Below w.heap.size w wr)
    (fun _ i _ => xs.length - (intOf i).toNat)
  case atStart => exact ⟨0, Nat.zero_le _, rfl, hk0, by simp [Value.ownBlock]; omega, hg2, hcell, hb0⟩
  case round =>
    obtain ⟨k, hk, rfl, hown, hne, hgl, hcl, hb⟩ := hrel
    by_cases hlt : k < xs.length
    · obtain ⟨x, hx⟩ : ∃ x, xs[k]? = some x := ⟨_, List.getElem?_eq_getElem hlt⟩
      have hcx : wr.cell? ⟨g1, k, none⟩ = some (.string ⟨x.toArray⟩) := hcl k _ (by rw [List.getElem?_map, hx]; rfl)
      have HS : Hid (stK xs (k + 1) = cleanStep true (stK xs k) x) := stK_succ xs k x hx
      have HC : Hid (∀ j u, (xs.map strV)[j]? = some u → wr.cell? ⟨g1, j, none⟩ = some u) := hcl
      have hfl : (stK xs k).length ≤ k := by
        have := fold_len (xs.take k) []
        simp only [List.length_nil, Nat.zero_add, List.length_take] at this
        unfold stK
        omega
      clear hx hcl
      obtain ⟨A, cap, rfl, hnc, hcm, hA⟩ := own_form hown
      by_cases h0 : x = []
      · subst h0
        go_wp2_with fail
        have hst := HS.out
        rw [show cleanStep true (stK xs k) [] = stK xs k from by simp [cleanStep]] at hst
        go_roundw
        case rel => exact ⟨k + 1, by omega, by go_num, by rw [hst]; exact hown, hne, hgl, HC.out, hb⟩
        case measure => simp [intOf]; omega
      by_cases h1 : x = [46]
      · subst h1
        go_wp2_with fail
        have hst := HS.out
        rw [show cleanStep true (stK xs k) [46] = stK xs k from by simp [cleanStep]] at hst
        go_roundw
        case rel => exact ⟨k + 1, by omega, by go_num, by rw [hst]; exact hown, hne, hgl, HC.out, hb⟩
        case measure => simp [intOf]; omega
      by_cases h2 : x = [46, 46]
      · subst h2
        by_cases hz : stK xs k = []
        · have hz' : (stK xs k).length = 0 := by rw [hz]; rfl
          have HZ : Hid (stK xs k = []) := hz
          have hn0 : ((stK xs k).length : Int) ≤ 0 := by omega
          clear hz hz'
          go_wp2_with fail
          have hst := HS.out
          rw [HZ.out, show cleanStep true [] [46, 46] = [] from by simp [cleanStep]] at hst
          rw [HZ.out] at hown
          go_roundw
          case rel => exact ⟨k + 1, by omega, by go_num, by rw [hst, HZ.out]; exact hown, hne, hgl, HC.out, hb⟩
          case measure => simp [intOf]; omega
        · have hn1' : 0 < (stK xs k).length := List.length_pos_iff.2 hz
          go_wp2_with fail
          have hst := HS.out
          obtain ⟨y, r, hyr⟩ := List.exists_cons_of_ne_nil hz
          have hy : y ≠ [46, 46] := (HKept.out k y (by rw [hyr]; exact List.mem_cons_self)).2.2.1
          rw [hyr, show cleanStep true (y :: r) [46, 46] = r from by simp [cleanStep, hy]] at hst
          have hA' : ∃ g, A = some ⟨g, 0, none⟩ := by
            rcases hA with h | ⟨g, h, _⟩
            · omega
            · exact ⟨g, h⟩
          obtain ⟨g, rfl⟩ := hA'
          rw [hyr] at hown hne ⊢
          have hpop := ownsRow_pop (size := 1) (xs := r.reverse.map strV) (last := [strV y]) (n := r.length) (by simp) (by simpa using hown)
          go_roundw
          case rel => exact ⟨k + 1, by omega, by go_num, by rw [hst]; simpa using hpop, by simpa [Value.ownBlock] using hne, hgl, HC.out, hb⟩
          case measure => simp [intOf]; omega
      have t0 : x.isEmpty = false := by simpa using h0
      have t1 : (x == [46]) = false := by simpa using h1
      have t2 : (x == [46, 46]) = false := by simpa using h2
      have HN : Hid (¬ (x = [] ∨ x = [46]) ∧ ¬ x = [46, 46]) := ⟨fun h => h.elim h0 h1, h2⟩
      clear h0 h1 h2
      go_wp2_with (at_builtin; refine wpList_append_own_at _ rfl _ _ 24 rfl w.heap.size 9 i0 (.string ⟨#[]⟩) 1 16 Try.underlying24 hi hz0 hz1 hz2 rfl (by decide) _ _ _ rfl (hown.alloc _) ⟨wr.heap.size, 0, none⟩ 1 1 [_] rfl rfl (cell_one_new _ _ _) (by simp [Value.oneCell']) (by unfold maxLen; omega) (by omega) (by have := hb.size; simp; omega) ?_; intro v' w1 hown' hgrow _ hat)
      have hb' : Below w.heap.size w w1 := (hb.alloc hb.size _).grown hgrow (by have := hb.size; simp; omega) fun g hg => (hown.lt g hg).1
      have hst := HS.out
      rw [show cleanStep true (stK xs k) x = x :: stK xs k from by unfold cleanStep; rw [if_neg HN.out.1, if_neg HN.out.2]] at hst
      have hne' : v'.ownBlock ≠ some g1 := by
        rcases hat with h | h
        · rw [h]; exact hne
        · rw [h]; simp; omega
      have hcl' : ∀ j u, (xs.map strV)[j]? = some u → w1.cell? ⟨g1, j, none⟩ = some u := fun j u hu =>
        hgrow.cell (by rw [World.cell?_alloc_lt _ _ _ hgl]; exact HC.out j u hu) (fun h => hne h.symm)
      have hgl' : g1 < w1.heap.size := Nat.lt_of_lt_of_le hgl (Nat.le_trans (by simp) hgrow.size)
      clear hgrow hown hb hat
      go_roundw
      case rel => exact ⟨k + 1, by omega, by go_num, by rw [hst]; simpa [strV] using hown', hne', hgl', hcl', hb'⟩
      case measure => simp [intOf]; omega
    · have hke : k = xs.length := by omega
      obtain ⟨ks, hks⟩ : ∃ ks, ks = (stK xs k).reverse := ⟨_, rfl⟩
      have hlen : (stK xs k).length = ks.length := by rw [hks, List.length_reverse]
      have hks2 : ks = keptL (bs s) := by
        unfold keptL
        rw [hks, ← HX.out, hke]
        unfold stK
        rw [List.take_of_length_le (Nat.le_refl _)]
      have HKs : Hid (ks = keptL (bs s)) := hks2
      have HKl : Hid (∀ x ∈ ks, x.length ≤ 120) := fun x hx => Nat.le_trans (keptL_len (bs s) x (by rw [← hks2]; exact hx)) hl
      clear hks2
      have hfl : ks.length ≤ 121 := by
        have := fold_len (xs.take k) []
        simp only [List.length_nil, Nat.zero_add, List.length_take] at this
        rw [← hlen]
        unfold stK
        omega
      rw [hlen, ← hks] at hown
      obtain ⟨A, cap, rfl, hnc, hcm, hA⟩ := own_form hown
      have HC : Hid (∀ j u, (ks.map strV)[j]? = some u → ∃ g, A = some ⟨g, 0, none⟩ ∧ wr.cell? ⟨g, j, none⟩ = some u) := by
        intro j u hu
        have hj : j < ks.length := by
          have := (List.getElem?_eq_some_iff.1 hu).1
          simpa using this
        obtain ⟨g, c, hv, _, _, _, _, hc⟩ := own_pos hown (by omega)
        simp only [Value.slice.injEq] at hv
        exact ⟨g, hv.1, hc j u hu⟩
      clear hks hlen hke hk hown hA hne hcl
      go_wp2_with fail

      go_loop [6, 47] (fun o i => ∃ (j : Nat) (b : ByteArray), j ≤ ks.length ∧ i = .int .i64 j ∧ o = .string b ∧ bs b = slashed (ks.take j)) (fun _ i => ks.length - (intOf i).toNat)
      case atStart => exact ⟨0, ⟨#[]⟩, Nat.zero_le _, rfl, rfl, rfl⟩
      case round =>
        obtain ⟨j, b, hj, rfl, rfl, hbj⟩ := hrel
        have hbl : b.size ≤ 121 * 121 := by
          have h1 := slashed_len (ks.take j) 120 fun x hx => HKl.out x (List.mem_of_mem_take hx)
          rw [← hbj, bs_size, List.length_take] at h1
          omega
        have HB : Hid (bs b = slashed (ks.take j)) := hbj
        clear hbj
        by_cases hjl : j < ks.length
        · obtain ⟨x, hx⟩ : ∃ x, ks[j]? = some x := ⟨_, List.getElem?_eq_getElem hjl⟩
          obtain ⟨g, rfl, hcx⟩ := HC.out j _ (by rw [List.getElem?_map, hx]; rfl)
          have hcx' : wr.cell? ⟨g, j, none⟩ = some (.string ⟨x.toArray⟩) := hcx
          have HX' : Hid (ks[j]? = some x) := hx
          have hxl : x.length ≤ 120 := HKl.out x (List.mem_of_getElem? hx)
          clear hx hcx
          go_wp2_with fail
          go_round
          case rel => exact ⟨j + 1, _, by omega, by go_num, rfl, by rw [slashed_take_succ ks j x HX'.out, ← HB.out]; simp [bs]⟩
          case measure => simp [intOf]; omega
        · have hjj : j = ks.length := by omega
          have hb1 : bs b = slashed (keptL (bs s)) := by rw [HB.out, hjj, List.take_of_length_le (Nat.le_refl _), HKs.out]
          by_cases hbe : b.toList = []
          · have h1 : specCleanL (bs s) = bs (b ++ ⟨#[47]⟩) := by
              have h2 : bs b = [] := by rw [← hbe, ByteArray.toList_eq]; rfl
              unfold specCleanL
              rw [← hb1, if_pos (.inl h2), bs_append]
              rfl
            have H1 : Hid (specCleanL (bs s) = bs (b ++ ⟨#[47]⟩)) := h1
            have hbe' : b.toList.isEmpty = true := by rw [hbe]; rfl
            clear h1 hb1 hbe
            go_wp2_with fail
            go_ret
            exact ⟨by rw [H1.out]; exact congrArg (fun x => Ending.returned (Value.string x)) (bs_inj rfl), hb⟩
          · have hbe2 : bs b ≠ [] := fun h => hbe (by rw [ByteArray.toList_eq]; exact h)
            have hpos : 0 < s.size := by
              rcases Nat.eq_zero_or_pos s.size with h | h
              · exfalso
                have h2 : bs s = [] := List.length_eq_zero_iff.1 h
                rw [h2] at hb1
                exact hbe2 (by rw [hb1]; rfl)
              · exact h
            have hl2 := bs_last s hpos
            have hbe' : b.toList.isEmpty = false := by simpa using hbe
            by_cases hc : s[s.size - 1]'(by omega) = 47
            · have h1 : specCleanL (bs s) = bs (b ++ ⟨#[47]⟩) := by
                unfold specCleanL
                rw [← hb1, if_pos (.inr (by rw [hl2, hc])), bs_append]
                rfl
              have H1 : Hid (specCleanL (bs s) = bs (b ++ ⟨#[47]⟩)) := h1
              have hc' : (((s[s.size - 1]'(by omega)).toNat : Int) == 47) = true := by rw [hc]; rfl
              clear h1 hb1 hbe hl2 hc
              go_wp2_with fail
              go_ret
              exact ⟨by rw [H1.out]; exact congrArg (fun x => Ending.returned (Value.string x)) (bs_inj rfl), hb⟩
            · have h1 : specCleanL (bs s) = bs b := by
                unfold specCleanL
                rw [← hb1, if_neg]
                rintro (h | h)
                · exact hbe2 h
                · rw [hl2] at h
                  exact hc (by simpa using h)
              have H1 : Hid (specCleanL (bs s) = bs b) := h1
              have hc' : (((s[s.size - 1]'(by omega)).toNat : Int) == 47) = false := by rw [Go.Lib.Pa.beq47]; simpa using hc
              clear h1 hb1 hbe hl2 hc
              go_wp2_with fail
              go_ret
              exact ⟨by rw [H1.out]; exact congrArg (fun x => Ending.returned (Value.string x)) (bs_inj rfl), hb⟩
end Go.Proofs.Ytekinlgpnbehhaa
