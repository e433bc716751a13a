/-
  Proved: the walks of laws.FnClean and laws.FnCleanTwice: both return true, and write nothing that was there. No conditions but a text's own bound of length.
-/
import Derived.Test.YtekinlgpnbehhaaClean
namespace Go.Proofs.Ytekinlgpnbehhaa
open Go.RowKit

theorem implClean_any (s : ByteArray) (w : World) (hl : s.size ≤ 4294967296) :
    Calls Try.prog 5 #[.string s] w fun e w' => e = .returned (.string ⟨(specCleanL (bs s)).toArray⟩) ∧ Below w.heap.size w w' := by
  rw [← cleanPath_spec]
  go_enter Try.func5, Try.ntmps5
  go_wp2_with (first | (go_at_call 9; refine (cleanPath_any s _ hl).mono ?_; rintro e w1 ⟨rfl, hb⟩) | (go_at_call 7; go_in))
  go_ret
  exact ⟨rfl, by assumption⟩

namespace fnClean
theorem walk (a0 : ByteArray) (w0 : a0.size ≤ maxLen) (w : World) :
    Calls Try.prog 3 #[.string a0] w fun e w' => e = .returned (.bool true) ∧ Below w.heap.size w w' := by
  unfold maxLen at w0
  by_cases hs : 120 < a0.size
  · by_cases ht : 2147483647 < a0.size
    all_goals
      go_enter Try.func3, Try.ntmps3
      go_wp2
      go_ret
      exact ⟨rfl, Below.refl _ _⟩
  · go_enter Try.func3, Try.ntmps3
    go_wp2_with fail
    refine (implClean_any a0 _ (by omega)).mono ?_
    rintro e w1 ⟨rfl, hb1⟩
    go_wp2_with fail
    refine (clean_any a0 _ (by omega)).mono ?_
    rintro e w2 ⟨rfl, hb2⟩
    go_wp2_with fail
    go_ret
    exact ⟨by simp, hb1.trans (hb2.mono hb1.size)⟩
end fnClean

namespace fnCleanTwice
theorem walk (a0 : ByteArray) (w0 : a0.size ≤ maxLen) (w : World) :
    Calls Try.prog 4 #[.string a0] w fun e w' => e = .returned (.bool true) ∧ Below w.heap.size w w' := by
  unfold maxLen at w0
  by_cases hs : 120 < a0.size
  · by_cases ht : 2147483647 < a0.size
    all_goals
      go_enter Try.func4, Try.ntmps4
      go_wp2
      go_ret
      exact ⟨rfl, Below.refl _ _⟩
  · obtain ⟨b, hb⟩ : ∃ b : ByteArray, b = ⟨(specCleanL (bs a0)).toArray⟩ := ⟨_, rfl⟩
    have hbb : bs b = specCleanL (bs a0) := by rw [hb]; simp [bs]
    have hne : bs b ≠ [] := by
      intro h
      have := specClean_head (bs a0)
      rw [← hbb, h] at this
      simp at this
    have hpos : 0 < b.size := by
      rw [← bs_size]
      exact List.length_pos_iff.2 hne
    have h47 : b[0]'hpos = 47 := by
      have := specClean_head (bs a0)
      rw [← hbb, bs_head b hpos] at this
      simpa using this
    have hbl : b.size ≤ 20000 := by
      rw [← bs_size, hbb]
      have h1 := slashed_len (keptL (bs a0)) 120 fun x hx => Nat.le_trans (keptL_len (bs a0) x hx) (by rw [bs_size]; omega)
      have h2 : (keptL (bs a0)).length ≤ 121 := by
        have h3 := fold_len (Go.Lib.Pa.els (bs a0)) []
        have h4 := (cut_len a0 a0.size (Nat.le_refl _)).2.1
        rw [cut_end] at h3
        unfold keptL
        rw [cut_end, List.length_reverse]
        simp only [List.length_nil, List.length_append, List.length_singleton] at h3
        omega
      unfold specCleanL
      split
      · simp only [List.length_append, List.length_singleton]; omega
      · omega
    have hc1 : Calls Try.prog 5 #[.string a0] w fun e w' => e = .returned (.string b) ∧ Below w.heap.size w w' := by
      rw [hb]
      exact implClean_any a0 w (by omega)
    have hc2 : ∀ wx, Calls Try.prog 5 #[.string b] wx fun e w' => e = .returned (.string b) ∧ Below wx.heap.size wx w' := by
      intro wx
      have h := implClean_any b wx (by omega)
      rwa [hbb, specClean_twice, ← hb] at h
    have t1 : (!b.toList.isEmpty) = true := by rw [bs_toList]; simpa using hne
    have t2 : (((b[0]'hpos).toNat : Int) == 47) = true := by rw [h47]; rfl
    have HC1 := Lib.hid hc1
    have HC2 := Lib.hid hc2
    clear hb hbb hne h47 hc1 hc2
    go_enter Try.func4, Try.ntmps4
    go_wp2_with fail
    refine HC1.out.mono ?_
    rintro e w1 ⟨rfl, hb1⟩
    go_wp2_with fail
    refine (HC2.out _).mono ?_
    rintro e w2 ⟨rfl, hb2⟩
    go_wp2_with fail
    go_ret
    exact ⟨by simp, hb1.trans (hb2.mono hb1.size)⟩
end fnCleanTwice
end Go.Proofs.Ytekinlgpnbehhaa
