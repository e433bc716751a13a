/-
  Proved: spec.BySegments and spec.ByMethods answer as Kd.by2 and byM. No conditions.
-/
import Derived.Test.YtgkhfcoieknjeaaDoorPat
import Derived.RegionTactic
import Derived.BigRegion
import Derived.Deep.QuietTactic
import Derived.BigQuiet
namespace Go.Proofs.YtgkhfcoieknjeaaDoor
open Go.RowKit

set_option maxRecDepth 100000 in
set_option maxHeartbeats 1600000 in
theorem spec_bySegments (g1 g2 : Seg) (w : World) :
    Calls Tryd.prog 46 #[.agg #[strV g1.s, .bool g1.wild, .bool g1.multi], .agg #[strV g2.s, .bool g2.wild, .bool g2.multi]] w fun e w' => e = .returned (.string (Kd.by2 (kindOf g1) (kindOf g2)).text) ∧ Below w.heap.size w w' := by
  obtain ⟨s1, w1, m1⟩ := g1
  obtain ⟨s2, w2, m2⟩ := g2
  have HB : Hid (Below w.heap.size w ((w.alloc (.cells #[strV s1, .bool w1, .bool m1] 64)).alloc (.cells #[strV s2, .bool w2, .bool m2] 64))) := ((Below.refl _ _).alloc (Nat.le_refl _) _).alloc (by simp) _
  simp only [strV] at HB ⊢
  cases m1
  · cases m2
    · cases w1
      · cases w2
        · by_cases he : s1 = s2
          · have e0 : (s1 == s2) = true := by simpa using he
            have HR : Hid (Kd.by2 (.lit s1) (.lit s2) = .eqv) := by show _ = _; simp [Kd.by2, he]
            clear he
            go_enter Tryd.func46, Tryd.ntmps46
            go_wp2_with fail
            go_ret
            exact ⟨by simp only [kindOf]; exact congrArg (fun x => Ending.returned (Value.string (Rel.text x))) HR.out.symm, HB.out⟩
          · have e0 : (s1 == s2) = false := by simpa using he
            have HR : Hid (Kd.by2 (.lit s1) (.lit s2) = .dis) := by show _ = _; simp [Kd.by2, he]
            clear he
            go_enter Tryd.func46, Tryd.ntmps46
            go_wp2_with fail
            go_ret
            exact ⟨by simp only [kindOf]; exact congrArg (fun x => Ending.returned (Value.string (Rel.text x))) HR.out.symm, HB.out⟩
        · by_cases he : s1 = [47]
          · have e0 : (s1 == [47]) = true := by simpa using he
            have HR : Hid (Kd.by2 (.lit s1) .one = .dis) := by show _ = _; simp [Kd.by2, he]
            clear he
            go_enter Tryd.func46, Tryd.ntmps46
            go_wp2_with fail
            go_ret
            exact ⟨by simp only [kindOf]; exact congrArg (fun x => Ending.returned (Value.string (Rel.text x))) HR.out.symm, HB.out⟩
          · have e0 : (s1 == [47]) = false := by simpa using he
            have HR : Hid (Kd.by2 (.lit s1) .one = .spc) := by show _ = _; simp [Kd.by2, he]
            clear he
            go_enter Tryd.func46, Tryd.ntmps46
            go_wp2_with fail
            go_ret
            exact ⟨by simp only [kindOf]; exact congrArg (fun x => Ending.returned (Value.string (Rel.text x))) HR.out.symm, HB.out⟩
      · cases w2
        · by_cases he : s2 = [47]
          · have e0 : (s2 == [47]) = true := by simpa using he
            have HR : Hid (Kd.by2 .one (.lit s2) = .dis) := by show _ = _; simp [Kd.by2, he]
            clear he
            go_enter Tryd.func46, Tryd.ntmps46
            go_wp2_with fail
            go_ret
            exact ⟨by simp only [kindOf]; exact congrArg (fun x => Ending.returned (Value.string (Rel.text x))) HR.out.symm, HB.out⟩
          · have e0 : (s2 == [47]) = false := by simpa using he
            have HR : Hid (Kd.by2 .one (.lit s2) = .gen) := by show _ = _; simp [Kd.by2, he]
            clear he
            go_enter Tryd.func46, Tryd.ntmps46
            go_wp2_with fail
            go_ret
            exact ⟨by simp only [kindOf]; exact congrArg (fun x => Ending.returned (Value.string (Rel.text x))) HR.out.symm, HB.out⟩
        · go_enter Tryd.func46, Tryd.ntmps46
          go_wp2_with fail
          go_ret
          exact ⟨rfl, HB.out⟩
    · cases w1
      all_goals
        go_enter Tryd.func46, Tryd.ntmps46
        go_wp2_with fail
        go_ret
        exact ⟨rfl, HB.out⟩
  · cases m2
    · cases w2
      all_goals
        go_enter Tryd.func46, Tryd.ntmps46
        go_wp2_with fail
        go_ret
        exact ⟨rfl, HB.out⟩
    · go_enter Tryd.func46, Tryd.ntmps46
      go_wp2_with fail
      go_ret
      exact ⟨rfl, HB.out⟩
set_option maxRecDepth 100000 in
set_option maxHeartbeats 3200000 in
theorem spec_byMethods (m1 m2 : ByteArray) (w : World) :
    Calls Tryd.prog 37 #[.string m1, .string m2] w fun e w' => e = .returned (.string (byM (bs m1) (bs m2)).text) ∧ w = w' := by
  by_cases h0 : bs m1 = bs m2
  · have e0 : (m1.toList == m2.toList) = true := by rw [bs_toList, bs_toList]; simpa using h0
    have HR : Hid (byM (bs m1) (bs m2) = .eqv) := by show _ = _; unfold byM; rw [if_pos h0]
    clear h0
    go_enter Tryd.func37, Tryd.ntmps37
    go_wp2_with fail
    go_ret
    exact ⟨congrArg (fun x => Ending.returned (Value.string (Rel.text x))) HR.out.symm, rfl⟩
  have e0 : (m1.toList == m2.toList) = false := by rw [bs_toList, bs_toList]; simpa using h0
  by_cases h1 : bs m1 = []
  · have e1 : m1.toList.isEmpty = true := by rw [bs_toList]; simpa using h1
    have HR : Hid (byM (bs m1) (bs m2) = .gen) := by show _ = _; unfold byM; rw [if_neg h0, if_pos h1]
    clear h0 h1
    go_enter Tryd.func37, Tryd.ntmps37
    go_wp2_with fail
    go_ret
    exact ⟨congrArg (fun x => Ending.returned (Value.string (Rel.text x))) HR.out.symm, rfl⟩
  have e1 : m1.toList.isEmpty = false := by rw [bs_toList]; simpa using h1
  by_cases h2 : bs m2 = []
  · have e3 : True := trivial
    have e2 : m2.toList.isEmpty = true := by rw [bs_toList]; simpa using h2
    have d0 : (m2.toList == [72, 69, 65, 68]) = false := by rw [bs_toList, h2]; rfl
    have HR : Hid (byM (bs m1) (bs m2) = .spc) := by show _ = _; unfold byM; rw [if_neg h0, if_neg h1, if_pos h2]
    clear h0 h1 h2 e3
    by_cases h3 : bs m1 = [71, 69, 84]
    · have d1 : (m1.toList == [71, 69, 84]) = true := by rw [bs_toList]; simpa using h3
      clear h3
      go_enter Tryd.func37, Tryd.ntmps37
      go_wp2_with fail
      go_ret
      exact ⟨congrArg (fun x => Ending.returned (Value.string (Rel.text x))) HR.out.symm, rfl⟩
    · have d1 : (m1.toList == [71, 69, 84]) = false := by rw [bs_toList]; simpa using h3
      clear h3
      go_enter Tryd.func37, Tryd.ntmps37
      go_wp2_with fail
      go_ret
      exact ⟨congrArg (fun x => Ending.returned (Value.string (Rel.text x))) HR.out.symm, rfl⟩
  have e2 : m2.toList.isEmpty = false := by rw [bs_toList]; simpa using h2
  by_cases h3 : bs m1 = [71, 69, 84]
  · have e3 : (m1.toList == [71, 69, 84]) = true := by rw [bs_toList]; simpa using h3
    have e6 : (m1.toList == [72, 69, 65, 68]) = false := by rw [bs_toList, h3]; rfl
    have e5 : (m2.toList == [71, 69, 84]) = false := by rw [bs_toList, beq_eq_false_iff_ne]; intro e; exact h0 (h3.trans e.symm)
    by_cases h4 : bs m2 = [72, 69, 65, 68]
    · have e4 : (m2.toList == [72, 69, 65, 68]) = true := by rw [bs_toList]; simpa using h4
      have HR : Hid (byM (bs m1) (bs m2) = .gen) := by show _ = _; unfold byM; rw [if_neg h0, if_neg h1, if_neg h2, if_pos ⟨h3, h4⟩]
      clear h0 h1 h2 h3 h4
      go_enter Tryd.func37, Tryd.ntmps37
      go_wp2_with fail
      go_ret
      exact ⟨congrArg (fun x => Ending.returned (Value.string (Rel.text x))) HR.out.symm, rfl⟩
    · have e4 : (m2.toList == [72, 69, 65, 68]) = false := by rw [bs_toList]; simpa using h4
      have h5 : ¬ bs m2 = [71, 69, 84] := by intro e; exact h0 (h3.trans e.symm)
      have HR : Hid (byM (bs m1) (bs m2) = .dis) := by show _ = _; unfold byM; rw [if_neg h0, if_neg h1, if_neg h2, if_neg (fun h => h4 h.2), if_neg (fun h => h5 h.1)]
      clear h0 h1 h2 h3 h4 h5
      go_enter Tryd.func37, Tryd.ntmps37
      go_wp2_with fail
      go_ret
      exact ⟨congrArg (fun x => Ending.returned (Value.string (Rel.text x))) HR.out.symm, rfl⟩
  · have e3 : (m1.toList == [71, 69, 84]) = false := by rw [bs_toList]; simpa using h3
    by_cases h5 : bs m2 = [71, 69, 84]
    · have e5 : (m2.toList == [71, 69, 84]) = true := by rw [bs_toList]; simpa using h5
      have e4 : (m2.toList == [72, 69, 65, 68]) = false := by rw [bs_toList, h5]; rfl
      by_cases h6 : bs m1 = [72, 69, 65, 68]
      · have e6 : (m1.toList == [72, 69, 65, 68]) = true := by rw [bs_toList]; simpa using h6
        have HR : Hid (byM (bs m1) (bs m2) = .spc) := by show _ = _; unfold byM; rw [if_neg h0, if_neg h1, if_neg h2, if_neg (fun h => h3 h.1), if_pos ⟨h5, h6⟩]
        clear h0 h1 h2 h3 h5 h6
        go_enter Tryd.func37, Tryd.ntmps37
        go_wp2_with fail
        go_ret
        exact ⟨congrArg (fun x => Ending.returned (Value.string (Rel.text x))) HR.out.symm, rfl⟩
      · have e6 : (m1.toList == [72, 69, 65, 68]) = false := by rw [bs_toList]; simpa using h6
        have HR : Hid (byM (bs m1) (bs m2) = .dis) := by show _ = _; unfold byM; rw [if_neg h0, if_neg h1, if_neg h2, if_neg (fun h => h3 h.1), if_neg (fun h => h6 h.2)]
        clear h0 h1 h2 h3 h5 h6
        go_enter Tryd.func37, Tryd.ntmps37
        go_wp2_with fail
        go_ret
        exact ⟨congrArg (fun x => Ending.returned (Value.string (Rel.text x))) HR.out.symm, rfl⟩
    · have e5 : (m2.toList == [71, 69, 84]) = false := by rw [bs_toList]; simpa using h5
      have HR : Hid (byM (bs m1) (bs m2) = .dis) := by show _ = _; unfold byM; rw [if_neg h0, if_neg h1, if_neg h2, if_neg (fun h => h3 h.1), if_neg (fun h => h5 h.1)]
      clear h0 h1 h2 h3 h5
      go_enter Tryd.func37, Tryd.ntmps37
      go_wp2_with fail
      go_ret
      exact ⟨congrArg (fun x => Ending.returned (Value.string (Rel.text x))) HR.out.symm, rfl⟩

end Go.Proofs.YtgkhfcoieknjeaaDoor
