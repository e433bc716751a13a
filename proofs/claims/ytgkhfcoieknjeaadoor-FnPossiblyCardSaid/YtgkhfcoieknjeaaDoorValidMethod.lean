/-
  Proved: validMethod returns true at a text of letters alone that is not empty, and writes nothing.
-/
import Derived.Test.YtgkhfcoieknjeaaDoorClasses
namespace Go.Proofs.YtgkhfcoieknjeaaDoor
open Go.RowKit

set_option maxRecDepth 100000 in
set_option maxHeartbeats 6400000 in
theorem validMethod_true (s : ByteArray) (w : World) (hs : s.size ≤ 9223372036854775807) (hall : ∀ c ∈ bs s, letterB c = true) (he : bs s ≠ []) :
    Calls Tryd.prog 60 #[.string s] w fun e w' => e = .returned (.bool true) ∧ w = w' := by
  have HA := Lib.hid hall
  have ht : s.toList.isEmpty = false := by rw [bs_toList]; simpa using he
  have htn : (!s.toList.isEmpty) = true := by rw [ht]; rfl
  clear hall he
  go_enter Tryd.func60, Tryd.ntmps60
  go_wp2_with fail
  go_loop [3] (fun i => ∃ k : Nat, k ≤ s.size ∧ i = .int .i64 k) (fun i => s.size - (intOf i).toNat)
  case atStart => exact ⟨0, Nat.zero_le _, rfl⟩
  case round =>
    obtain ⟨k, hk, rfl⟩ := hrel
    by_cases hlt : k < s.size
    · obtain ⟨n, hn⟩ : ∃ n : Nat, n = (s[k]'hlt).toNat := ⟨_, rfl⟩
      have hok : letterB (s[k]'hlt) = true := HA.out _ (List.mem_of_getElem? (bs_at s k hlt))
      rcases method_cases (s[k]'hlt) n hn with ⟨_, hc⟩ | ⟨hno, _⟩
      · clear hok
        rcases hc with h | h
        · have f0 : decide ((97 : Int) ≤ ((s[k]'hlt).toNat : Int)) = false := by rw [← hn]; exact decide_eq_false (by omega)
          have f2 : decide ((65 : Int) ≤ ((s[k]'hlt).toNat : Int)) = true := by rw [← hn]; exact decide_eq_true (by omega)
          have f3 : decide (((s[k]'hlt).toNat : Int) ≤ 90) = true := by rw [← hn]; exact decide_eq_true (by omega)
          clear hn h
          have hu : undef = Value.tuple #[] := rfl
          go_wp2_with fail
          clear hu
          rw [show (Value.tuple #[]) = undef from rfl]
          go_round
          case rel => exact ⟨k + 1, by omega, by go_num⟩
          case measure => simp [intOf]; omega
        · have f0 : decide ((97 : Int) ≤ ((s[k]'hlt).toNat : Int)) = true := by rw [← hn]; exact decide_eq_true (by omega)
          have f2 : decide (((s[k]'hlt).toNat : Int) ≤ 122) = true := by rw [← hn]; exact decide_eq_true (by omega)
          clear hn h
          have hu : undef = Value.tuple #[] := rfl
          go_wp2_with fail
          clear hu
          rw [show (Value.tuple #[]) = undef from rfl]
          go_round
          case rel => exact ⟨k + 1, by omega, by go_num⟩
          case measure => simp [intOf]; omega
      · rw [hok] at hno; cases hno
    · go_wp2_with fail
      go_ret
      exact ⟨rfl, rfl⟩
end Go.Proofs.YtgkhfcoieknjeaaDoor
