/-
  Proved: pathUnescape gives a text without percent signs back as it is, and firstSegment cuts off the first piece of a path without percent signs. Conditions: no percent sign in the text; for firstSegment the path begins with a slash.
-/
import Derived.Test.YtgkhfcoieknjeaaDoorShelf
import Derived.Test.YtgkhfcoieknjeaaDoorBase
import Derived.Deep.QuietTactic
import Derived.BigQuiet
namespace Go.Proofs.YtgkhfcoieknjeaaDoor
open Go.RowKit

theorem noPct_at (s : ByteArray) (h : ∀ c ∈ bs s, c ≠ 37) (k : Nat) (hk : k < s.size) : (((s[k]'hk).toNat : Int) == 37) = false := by
  have h1 := h (s[k]'hk) (List.mem_of_getElem? (bs_at s k hk))
  rw [beq_eq_false_iff_ne]
  intro e
  apply h1
  apply UInt8.toNat_inj.1
  have : (s[k]'hk).toNat = 37 := by exact_mod_cast e
  rw [this]; rfl

set_option maxRecDepth 100000 in
set_option maxHeartbeats 400000 in
theorem unescape_any (s : ByteArray) (w : World) (hs : s.size ≤ 9223372036854775807) (hp : ∀ c ∈ bs s, c ≠ 37) :
    Calls Tryd.prog 86 #[.string s, .int .u8 2] w fun e w' => e = .returned (.tuple #[.string s, .nilIface]) ∧ w = w' := by
  have HP := Lib.hid (noPct_at s hp)
  clear hp
  go_enter Tryd.func86, Tryd.ntmps86
  go_wp2_with fail
  go_loop [0, 6, 7, 8] (fun t n p i => ∃ k : Nat, k ≤ s.size ∧ t = .string s ∧ n = .int .i64 0 ∧ p = .bool false ∧ i = .int .i64 k) (fun _ _ _ i => s.size - (intOf i).toNat)
  case atStart => exact ⟨0, Nat.zero_le _, rfl, rfl, rfl, rfl⟩
  case round =>
    obtain ⟨k, hk, rfl, rfl, rfl, rfl⟩ := hrel
    by_cases hlt : k < s.size
    · have h1 := HP.out k hlt
      by_cases h2 : (((s[k]'hlt).toNat : Int) == 43) = true
      · go_wp2_with fail
        go_round
        case rel => exact ⟨k + 1, by omega, rfl, rfl, rfl, by go_num⟩
        case measure => simp [intOf]; omega
      · have h3 : (((s[k]'hlt).toNat : Int) == 43) = false := by simpa using h2
        clear h2
        go_wp2_with fail
        go_round
        case rel => exact ⟨k + 1, by omega, rfl, rfl, rfl, by go_num⟩
        case measure => simp [intOf]; omega
    · go_wp2_with fail
      go_ret2
      exact ⟨rfl, rfl⟩

theorem pathUnescape_any (s : ByteArray) (w : World) (hs : s.size ≤ 9223372036854775807) (hp : ∀ c ∈ bs s, c ≠ 37) :
    Calls Tryd.prog 63 #[.string s] w fun e w' => e = .returned (.string s) ∧ w = w' := by
  have HP := Lib.hid hp
  clear hp
  go_enter Tryd.func63, Tryd.ntmps63
  go_wp2_with (first
    | (go_at_call 86; refine (unescape_any s _ hs HP.out).mono ?_; rintro e w' ⟨rfl, rfl⟩)
    | (go_at_call 74; go_in))
  go_ret
  exact ⟨rfl, rfl⟩

/-- The place of the first slash, or the length. -/
def cutAt (l : List UInt8) : Nat := (l.takeWhile (· != 47)).length

theorem indexByte_cut : ∀ l : List UInt8, (Go.Lib.indexByte l 47 = -1 ∧ cutAt l = l.length ∧ (∀ c ∈ l, c ≠ 47)) ∨ (Go.Lib.indexByte l 47 = (cutAt l : Int) ∧ cutAt l < l.length)
  | [] => .inl ⟨rfl, rfl, by simp⟩
  | c :: t => by
    by_cases hc : c = 47
    · subst hc
      exact .inr ⟨by simp [Go.Lib.indexByte, cutAt], by simp [cutAt]⟩
    · have e : cutAt (c :: t) = cutAt t + 1 := by simp [cutAt, hc]
      rcases indexByte_cut t with ⟨h1, h2, h3⟩ | ⟨h1, h2⟩
      · refine .inl ⟨?_, by rw [e, h2, List.length_cons], ?_⟩
        · unfold Go.Lib.indexByte
          rw [if_neg (by simpa using hc), if_pos (by rw [h1]; rfl)]
        · intro d hd
          rcases List.mem_cons.1 hd with rfl | hd
          · exact hc
          · exact h3 d hd
      · refine .inr ⟨?_, by rw [e]; simp; omega⟩
        unfold Go.Lib.indexByte
        rw [if_neg (by simpa using hc), if_neg (by rw [h1]; simp), h1, e]
        omega

theorem take_cutAt (l : List UInt8) : l.take (cutAt l) = l.takeWhile (· != 47) := by
  have h := List.takeWhile_append_dropWhile (p := (· != (47 : UInt8))) (l := l)
  have h2 : (l.takeWhile (· != (47 : UInt8)) ++ l.dropWhile (· != (47 : UInt8))).take (cutAt l) = l.takeWhile (· != 47) := by
    unfold cutAt
    exact List.take_left
  rwa [h] at h2

theorem drop_cutAt (l : List UInt8) : l.drop (cutAt l) = l.dropWhile (· != 47) := by
  have h := List.takeWhile_append_dropWhile (p := (· != (47 : UInt8))) (l := l)
  have h2 : (l.takeWhile (· != (47 : UInt8)) ++ l.dropWhile (· != (47 : UInt8))).drop (cutAt l) = l.dropWhile (· != 47) := by
    unfold cutAt
    exact List.drop_left
  rwa [h] at h2

end Go.Proofs.YtgkhfcoieknjeaaDoor
