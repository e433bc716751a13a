/-
  Proved: spec.Serves answers as servesB, and what the relationship of two methods says of it.
-/
import Derived.Test.YtgkhfcoieknjeaaDoorCmpSpec
namespace Go.Proofs.YtgkhfcoieknjeaaDoor
open Go.RowKit

/-- A pattern's method matches one. -/
def servesB (p m : List UInt8) : Bool := decide (p = []) || decide (p = m) || (decide (p = [71, 69, 84]) && decide (m = [72, 69, 65, 68]))

set_option maxHeartbeats 1600000 in
theorem serves_any (p m : ByteArray) (w : World) :
    Calls Tryd.prog 29 #[.string p, .string m] w fun e w' => e = .returned (.bool (servesB (bs p) (bs m))) ∧ w = w' := by
  by_cases h0 : bs p = []
  · have e0 : p.toList.isEmpty = true := by rw [bs_toList]; simpa using h0
    have HR : Hid (servesB (bs p) (bs m) = true) := by show _ = _; simp [servesB, h0]
    clear h0
    go_enter Tryd.func29, Tryd.ntmps29
    go_wp2_with fail
    go_ret
    exact ⟨congrArg (fun x => Ending.returned (Value.bool x)) HR.out.symm, rfl⟩
  have e0 : p.toList.isEmpty = false := by rw [bs_toList]; simpa using h0
  by_cases h1 : bs p = bs m
  · have e1 : (p.toList == m.toList) = true := by rw [bs_toList, bs_toList]; simpa using h1
    have HR : Hid (servesB (bs p) (bs m) = true) := by show _ = _; simp [servesB, h1]
    clear h0 h1
    go_enter Tryd.func29, Tryd.ntmps29
    go_wp2_with fail
    go_ret
    exact ⟨congrArg (fun x => Ending.returned (Value.bool x)) HR.out.symm, rfl⟩
  have e1 : (p.toList == m.toList) = false := by rw [bs_toList, bs_toList]; simpa using h1
  by_cases h2 : bs p = [71, 69, 84]
  · have e2 : (p.toList == [71, 69, 84]) = true := by rw [bs_toList]; simpa using h2
    by_cases h3 : bs m = [72, 69, 65, 68]
    · have e3 : (m.toList == [72, 69, 65, 68]) = true := by rw [bs_toList]; simpa using h3
      have HR : Hid (servesB (bs p) (bs m) = true) := by show _ = _; simp [servesB, h2, h3]
      clear h0 h1 h2 h3
      go_enter Tryd.func29, Tryd.ntmps29
      go_wp2_with fail
      go_ret
      exact ⟨congrArg (fun x => Ending.returned (Value.bool x)) HR.out.symm, rfl⟩
    · have e3 : (m.toList == [72, 69, 65, 68]) = false := by rw [bs_toList]; simpa using h3
      have HR : Hid (servesB (bs p) (bs m) = false) := by show _ = _; simp [servesB, h0, h1, h3]
      clear h0 h1 h2 h3
      go_enter Tryd.func29, Tryd.ntmps29
      go_wp2_with fail
      go_ret
      exact ⟨congrArg (fun x => Ending.returned (Value.bool x)) HR.out.symm, rfl⟩
  · have e2 : (p.toList == [71, 69, 84]) = false := by rw [bs_toList]; simpa using h2
    have HR : Hid (servesB (bs p) (bs m) = false) := by show _ = _; simp [servesB, h0, h1, h2]
    clear h0 h1 h2
    go_enter Tryd.func29, Tryd.ntmps29
    go_wp2_with fail
    go_ret
    exact ⟨congrArg (fun x => Ending.returned (Value.bool x)) HR.out.symm, rfl⟩

theorem byM_says (a b m : List UInt8) (hm : m ≠ []) : Kd.Says (byM a b) (servesB a m) (servesB b m) ∧ byM a b ≠ .ovl := by
  have hm' : ¬ ([] : List UInt8) = m := fun e => hm e.symm
  unfold byM
  split
  · rename_i h; subst h
    exact ⟨⟨fun _ => rfl, by simp, by simp, by simp⟩, by simp⟩
  · rename_i h
    split
    · rename_i h1; subst h1
      exact ⟨⟨by simp, fun _ _ => by simp [servesB], by simp, by simp⟩, by simp⟩
    · rename_i h1
      split
      · rename_i h2; subst h2
        exact ⟨⟨by simp, by simp, fun _ _ => by simp [servesB], by simp⟩, by simp⟩
      · rename_i h2
        split
        · rename_i h3
          obtain ⟨rfl, rfl⟩ := h3
          refine ⟨⟨by simp, fun _ hb => ?_, by simp, by simp⟩, by simp⟩
          simp [servesB] at hb ⊢
          rw [← hb]; simp
        · rename_i h3
          split
          · rename_i h4
            obtain ⟨rfl, rfl⟩ := h4
            refine ⟨⟨by simp, by simp, fun _ hb => ?_, by simp⟩, by simp⟩
            simp [servesB] at hb ⊢
            rw [← hb]; simp
          · rename_i h4
            refine ⟨⟨by simp, by simp, by simp, fun _ hb => ?_⟩, by simp⟩
            obtain ⟨x, y⟩ := hb
            simp only [servesB, h1, h2, decide_false, Bool.false_or, Bool.or_eq_true, decide_eq_true_eq, Bool.and_eq_true] at x y
            rcases x with x | ⟨x, x'⟩
            · rcases y with y | ⟨y, y'⟩
              · exact h (x.trans y.symm)
              · exact h4 ⟨y, x.trans y'⟩
            · rcases y with y | ⟨y, y'⟩
              · exact h3 ⟨x, y.trans x'⟩
              · exact h (x.trans y.symm)
end Go.Proofs.YtgkhfcoieknjeaaDoor
