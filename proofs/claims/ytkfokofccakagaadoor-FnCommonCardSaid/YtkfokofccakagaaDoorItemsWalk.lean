/-
  Proved: spec.Items returns the pieces of a path ('itemsL') in new memory, or nothing and false. Condition: the text has at most 2^63 - 1 bytes.
-/
import Derived.Test.YtkfokofccakagaaDoorItems
namespace Go.Proofs.YtkfokofccakagaaDoor
open Go.RowKit Go.Lib.Pa

/-- How Items ends. -/
def ItemsEnd (l : List UInt8) (w : World) (e : Ending) (w' : World) : Prop :=
  Below w.heap.size w w' ∧
    ((itemsL l = none ∧ e = .returned (.tuple #[.slice none 0 0, .bool false])) ∨
     (∃ its v, itemsL l = some its ∧ e = .returned (.tuple #[v, .bool true]) ∧ w'.ownsRow w.heap.size 9 1 v its.length (its.map strV)))

theorem items_none (l : List UInt8) (h : ¬ (l.head? = some 47 ∧ l.length ≤ 120 ∧ hasB l 37 = false)) : itemsL l = none := by
  unfold itemsL
  rw [if_neg h]

theorem els_tail (l : List UInt8) (h : l.head? = some 47) : els l = [] :: els l.tail := by
  cases l with
  | nil => simp at h
  | cons c t =>
    simp at h
    subst h
    exact els_slash t

set_option maxRecDepth 100000 in
set_option maxHeartbeats 1600000 in
theorem items_any (s : ByteArray) (w : World) (hs : s.size ≤ 9223372036854775807) :
    Calls Tryd.prog 29 #[.string s] w (ItemsEnd (bs s) w) := by
  obtain ⟨i0, hi, hz0, hz1, hz2⟩ := info_parts info_string
  by_cases he : bs s = []
  · have H0 : Hid (itemsL (bs s) = none) := items_none _ (by rw [he]; simp)
    have ht : s.toList.isEmpty = true := by rw [bs_toList, he]; rfl
    clear he
    go_enter Tryd.func29, Tryd.ntmps29
    go_wp2_with fail
    go_ret2
    exact ⟨Below.refl _ _, .inl ⟨H0.out, rfl⟩⟩
  have ht : s.toList.isEmpty = false := by rw [bs_toList]; simpa using he
  have hpos : 0 < s.size := by
    rw [← bs_size]
    exact List.length_pos_iff.2 he
  have hh := bs_head s hpos
  clear he
  by_cases h0 : s[0]'hpos = 47
  case neg =>
    have H0 : Hid (itemsL (bs s) = none) := items_none _ (by rw [hh]; rintro ⟨h, _⟩; exact h0 (by simpa using h))
    have h0' : (((s[0]'hpos).toNat : Int) != 47) = true := by rw [Go.Lib.Pa.bne47]; simpa using h0
    clear h0 hh
    go_enter Tryd.func29, Tryd.ntmps29
    go_wp2_with fail
    go_ret2
    exact ⟨Below.refl _ _, .inl ⟨H0.out, rfl⟩⟩
  have h0' : (((s[0]'hpos).toNat : Int) != 47) = false := by rw [h0]; rfl
  by_cases hl : 120 < s.size
  · have H0 : Hid (itemsL (bs s) = none) := items_none _ (by rw [bs_size]; rintro ⟨_, h, _⟩; omega)
    have hl' : decide ((120 : Int) < s.size) = true := by simp; omega
    clear h0 hh
    go_enter Tryd.func29, Tryd.ntmps29
    go_wp2_with fail
    go_ret2
    exact ⟨Below.refl _ _, .inl ⟨H0.out, rfl⟩⟩
  have hl' : decide ((120 : Int) < s.size) = false := by simp; omega
  have HH : Hid (∀ w, Calls Tryd.prog 42 #[.string s, .int .u8 37] w fun e w' => e = .returned (.bool (hasB (bs s) 37)) ∧ w = w') := fun w => has_any s 37 w hs
  cases hpc : hasB (bs s) 37
  case true =>
    have H0 : Hid (itemsL (bs s) = none) := items_none _ (by rw [hpc]; rintro ⟨_, _, h⟩; cases h)
    clear h0 hh
    go_enter Tryd.func29, Tryd.ntmps29
    go_wp2_with (go_at_call 42; refine (HH.out _).mono ?_; rintro e w' ⟨rfl, rfl⟩)
    go_ret2
    exact ⟨Below.refl _ _, .inl ⟨H0.out, rfl⟩⟩
  case false =>
    have HI : Hid (itemsL (bs s) = itemsOf (els (bs s).tail)) := by
      show _ = _
      unfold itemsL
      rw [if_pos ⟨by rw [hh, h0], by rw [bs_size]; omega, hpc⟩]
    have HE : Hid (els (bs s) = [] :: els (bs s).tail) := els_tail _ (by rw [hh, h0])
    have H1 := Lib.hid (done_one s hpos h0)
    clear h0 hh
    go_enter Tryd.func29, Tryd.ntmps29
    go_wp2_with (go_at_call 42; refine (HH.out _).mono ?_; rintro e w' ⟨rfl, rfl⟩)
    go_loopw [4, 5, 6] (fun out frm iv wr => ∃ i : Nat, i ≤ s.size + 1 ∧ iv = .int .i64 i ∧ ItRel s w.heap.size out frm i wr ∧ Below w.heap.size w wr) (fun _ _ iv _ => s.size + 1 - (intOf iv).toNat)
    case atStart =>
      exact ⟨1, by omega, rfl, .inl ⟨by omega, by omega, [], H1.out.1, by simp, by rw [H1.out.2]; rfl, by simpa using World.ownsRow_made w #[] 0 (Nat.le_refl _) (by decide) (by decide)⟩, (Below.refl _ _).alloc (Nat.le_refl _) _⟩
    case round =>
      obtain ⟨i, hi1, rfl, hrel, hb⟩ := hrel
      rcases hrel with ⟨hi2, hi3, D, hD, hDn, rfl, hown⟩ | ⟨rfl, its, hits, hown⟩
      · obtain ⟨hc1, hc2, hc3⟩ := cut_len s i hi3
        have HC : Hid (curP s i = bs (s.extract (i - (curP s i).length) i)) := hc3
        have HD := Lib.hid hD
        have hDl : D.length ≤ i := by
          have := hc2
          rw [hD] at this
          simp at this
          omega
        clear hc3 hD hc2
        by_cases hlt : i < s.size
        · by_cases hc : s[i]'hlt = 47
          · have hc' : (((s[i]'hlt).toNat : Int) != 47) = false := by rw [hc]; rfl
            have HK := Lib.hid (cut_hit s i hlt hc)
            by_cases hcur : curP s i = []
            · have hz : (curP s i).length = 0 := by rw [hcur]; rfl
              have H0 : Hid (itemsL (bs s) = none) := by
                show _ = _
                rw [HI.out]
                obtain ⟨X, hX1, hX2⟩ := done_prefix s (i + 1)
                rw [HK.out.1, HD.out, hcur, HE.out] at hX1
                simp only [List.cons_append, List.cons.injEq, true_and, List.append_assoc, List.nil_append] at hX1
                rw [hX1]
                exact itemsOf_bad D X hX2
              have hf : ((i - (curP s i).length : Nat) : Int) = i := by omega
              rw [hf]
              clear hcur hc hz hf
              go_wp2_with fail
              go_ret2
              exact ⟨by assumption, .inl ⟨H0.out, rfl⟩⟩
            · have hz : 0 < (curP s i).length := List.length_pos_iff.2 hcur
              have hcn := Lib.hid hcur
              clear hc hcur
              go_wp2_with (at_builtin; refine wpList_append_own _ rfl _ _ 42 rfl w.heap.size 9 i0 (.string ⟨#[]⟩) 1 16 Tryd.underlying42 hi hz0 hz1 hz2 rfl (by decide) _ _ _ rfl (hown.alloc _) ⟨wr.heap.size, 0, none⟩ 1 1 [_] rfl rfl (cell_one_new _ _ _) (by simp [Value.oneCell']) (by unfold maxLen; omega) (by omega) (by have := hb.size; simp; omega) ?_; intro v' w1 hown' hgrow _)
              have hb' : Below w.heap.size w w1 := (hb.alloc hb.size _).grown hgrow (by have := hb.size; simp; omega) fun g hg => (hown.lt g hg).1
              have hs' := strV_bs (s.extract (i - (curP s i).length) i)
              rw [← HC.out] at hs'
              clear hgrow hown hb
              go_roundw
              case rel =>
                refine ⟨i + 1, by omega, by go_num, .inl ⟨by omega, by omega, D ++ [curP s i], ?_, ?_, ?_, ?_⟩, hb'⟩
                · rw [HK.out.1, HD.out]; simp
                · intro y hy
                  rcases List.mem_append.1 hy with h | h
                  · exact hDn y h
                  · simp at h; rw [h]; exact hcn.out
                · rw [HK.out.2]; go_num
                · simpa [hs'] using hown'
              case measure => simp [intOf]; omega
          · have hc' : (((s[i]'hlt).toNat : Int) != 47) = true := by rw [Go.Lib.Pa.bne47]; simpa using hc
            have HK := Lib.hid (cut_miss s i hlt hc)
            clear hc
            go_wp2_with fail
            go_roundw
            case rel =>
              refine ⟨i + 1, by omega, by go_num, .inl ⟨by omega, by omega, D, ?_, hDn, ?_, hown⟩, hb⟩
              · rw [HK.out.1, HD.out]
              · rw [HK.out.2, List.length_append, List.length_singleton, Nat.add_sub_add_right]
            case measure => simp [intOf]; omega
        · have hie : i = s.size := by omega
          have HF : Hid (itemsOf (els (bs s).tail) = some (D ++ [if curP s i = [] then [47] else curP s i])) := by
            show _ = _
            have h1 := HE.out
            rw [cut_end, ← hie, HD.out] at h1
            simp only [List.cons_append, List.cons.injEq, true_and] at h1
            rw [← h1]
            exact itemsOf_snoc D _ hDn
          have heq : ((i : Int) == (s.size : Int)) = true := by rw [hie]; simp
          clear hie
          by_cases hcur : curP s i = []
          · have hz : (curP s i).length = 0 := by rw [hcur]; rfl
            have hf : ((i - (curP s i).length : Nat) : Int) = i := by omega
            have hF := HF.out
            rw [if_pos hcur] at hF
            have HF2 := Lib.hid hF
            rw [hf]
            clear hcur hz hf hF HF
            go_wp2_with (at_builtin; refine wpList_append_own _ rfl _ _ 42 rfl w.heap.size 9 i0 (.string ⟨#[]⟩) 1 16 Tryd.underlying42 hi hz0 hz1 hz2 rfl (by decide) _ _ _ rfl (hown.alloc _) ⟨wr.heap.size, 0, none⟩ 1 1 [_] rfl rfl (cell_one_new _ _ _) (by simp [Value.oneCell']) (by unfold maxLen; omega) (by omega) (by have := hb.size; simp; omega) ?_; intro v' w1 hown' hgrow _)
            have hb' : Below w.heap.size w w1 := (hb.alloc hb.size _).grown hgrow (by have := hb.size; simp; omega) fun g hg => (hown.lt g hg).1
            clear hgrow hown hb
            go_roundw
            case rel => exact ⟨i + 1, by omega, by go_num, .inr ⟨by omega, _, HF2.out, by simpa [strV] using hown'⟩, hb'⟩
            case measure => simp [intOf]; omega
          · have hz : 0 < (curP s i).length := List.length_pos_iff.2 hcur
            have hF := HF.out
            rw [if_neg hcur] at hF
            have HF2 := Lib.hid hF
            clear hcur hF HF
            go_wp2_with (at_builtin; refine wpList_append_own _ rfl _ _ 42 rfl w.heap.size 9 i0 (.string ⟨#[]⟩) 1 16 Tryd.underlying42 hi hz0 hz1 hz2 rfl (by decide) _ _ _ rfl (hown.alloc _) ⟨wr.heap.size, 0, none⟩ 1 1 [_] rfl rfl (cell_one_new _ _ _) (by simp [Value.oneCell']) (by unfold maxLen; omega) (by omega) (by have := hb.size; simp; omega) ?_; intro v' w1 hown' hgrow _)
            have hb' : Below w.heap.size w w1 := (hb.alloc hb.size _).grown hgrow (by have := hb.size; simp; omega) fun g hg => (hown.lt g hg).1
            have hs' := strV_bs (s.extract (i - (curP s i).length) i)
            rw [← HC.out] at hs'
            clear hgrow hown hb
            go_roundw
            case rel => exact ⟨i + 1, by omega, by go_num, .inr ⟨by omega, _, HF2.out, by simpa [hs'] using hown'⟩, hb'⟩
            case measure => simp [intOf]; omega
      · go_wp2_with fail
        go_ret2
        exact ⟨hb, .inr ⟨its, _, by rw [HI.out]; exact hits, rfl, hown⟩⟩
end Go.Proofs.YtkfokofccakagaaDoor
