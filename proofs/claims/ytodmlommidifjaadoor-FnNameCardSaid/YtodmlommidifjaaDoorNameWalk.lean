/-
  Proved: the walk of laws.FnName: it returns true and writes nothing that was there. Condition: the table unicode.properties holds what the library lays.
-/
import Derived.Test.YtodmlommidifjaaDoorValid
namespace Go.Proofs.YtodmlommidifjaaDoor
open Go.RowKit

theorem implValid_any (s : ByteArray) (w : World) (hs : s.size ≤ 9223372036854775807) (hasc : ∀ b ∈ bs s, b.toNat < 128) (hprops : PropsAt w) :
    Calls Tryd.prog 8 #[.string s] w fun e w' => e = .returned (.bool (nameB (bs s))) ∧ Below w.heap.size w w' := by
  have HA := Lib.hid hasc
  have HP := Lib.hid hprops
  clear hasc hprops
  go_enter Tryd.func8, Tryd.ntmps8
  go_wp2_with (first | (go_at_call 29; refine (valid_any s _ hs HA.out HP.out).mono ?_; rintro e w' ⟨rfl, hb⟩) | (go_at_call 19; go_in))
  go_ret
  exact ⟨rfl, by assumption⟩

namespace fnName
set_option maxHeartbeats 800000 in
theorem walk (a0 : ByteArray) (w0 : a0.size ≤ maxLen) (w : World) (hprops : PropsAt w) :
    Calls Tryd.prog 3 #[.string a0] w fun e w' => e = .returned (.bool true) ∧ Below w.heap.size w w' := by
  unfold maxLen at w0
  have HP := Lib.hid hprops
  clear hprops
  by_cases hbig : 2147483647 < a0.size
  · go_enter Tryd.func3, Tryd.ntmps3
    go_wp2_with fail
    go_ret
    exact ⟨rfl, Below.refl _ _⟩
  go_enter Tryd.func3, Tryd.ntmps3
  go_wp2_with fail
  go_loop [9] (fun i => ∃ k : Nat, k ≤ a0.size ∧ i = .int .i64 k ∧ Hid (∀ j x, j < k → (bs a0)[j]? = some x → x.toNat < 128)) (fun i => a0.size - (intOf i).toNat)
  case atStart => exact ⟨0, Nat.zero_le _, rfl, fun j x hj => by omega⟩
  case round =>
    obtain ⟨k, hk, rfl, HN⟩ := hrel
    by_cases hlt : k < a0.size
    · go_upto_region 6 with fail
      go_cut [15] (fun b wx => ∃ q : Bool, b = .bool q ∧ Hid (q = decide (126 < (a0[k]'hlt).toNat)) ∧ w = wx)
      case first =>
        go_wp2_with fail
        go_meet
        exact ⟨_, rfl, by show _ = _; rw [Bool.eq_iff_iff]; simp; omega, rfl⟩
      case rest =>
        obtain ⟨q, rfl, HQ, rfl⟩ := hcut
        cases q
        · have hq := HQ.out
          have hle : (a0[k]'hlt).toNat < 128 := by
            have := of_decide_eq_false hq.symm
            omega
          have HL : Hid (∀ j x, j < k + 1 → (bs a0)[j]? = some x → x.toNat < 128) := by
            intro j x hj hx
            by_cases hjk : j = k
            · subst hjk
              rw [bs_at a0 j hlt] at hx
              simp only [Option.some.injEq] at hx
              rw [← hx]; exact hle
            · exact HN.out j x (by omega) hx
          clear hle hq
          go_wp2_with fail
          go_round
          case rel => exact ⟨k + 1, by omega, by go_num, HL⟩
          case measure => simp [intOf]; omega
        · go_wp2_with fail
          go_ret
          exact ⟨rfl, Below.refl _ _⟩
    · have HA : Hid (∀ b ∈ bs a0, b.toNat < 128) := by
        intro b hb
        obtain ⟨j, hj⟩ := List.getElem?_of_mem hb
        have hjl : j < a0.size := by
          rw [← bs_size]
          exact (List.getElem?_eq_some_iff.1 hj).1
        exact HN.out j b (by omega) hj
      by_cases hm : 120 < a0.size
      · go_wp2_with fail
        go_ret
        exact ⟨rfl, Below.refl _ _⟩
      · by_cases he : a0.toList = []
        · have he' : a0.toList.isEmpty = true := by rw [he]; rfl
          clear he
          go_wp2_with fail
          go_ret
          exact ⟨rfl, Below.refl _ _⟩
        · have he' : a0.toList.isEmpty = false := by simpa using he
          clear he
          obtain ⟨q, hq⟩ : ∃ q, q = nameB (bs a0) := ⟨_, rfl⟩
          have h1 : ∀ wx, PropsAt wx → Calls Tryd.prog 8 #[.string a0] wx fun e w' => e = .returned (.bool q) ∧ Below wx.heap.size wx w' := fun wx h => by
            rw [hq]; exact implValid_any a0 wx (by omega) HA.out h
          have h2 : ∀ wx, Calls Tryd.prog 9 #[.string a0] wx fun e w' => e = .returned (.bool q) ∧ wx = w' := fun wx => by
            rw [hq]; exact name_any a0 wx (by omega)
          have H1 := Lib.hid h1
          have H2 := Lib.hid h2
          clear h1 h2 hq
          cases q
          all_goals
            go_wp2_with (first
              | (go_at_call 8; refine (H1.out _ HP.out).mono ?_; rintro e w' ⟨rfl, hb⟩)
              | (go_at_call 9; refine (H2.out _).mono ?_; rintro e w' ⟨rfl, rfl⟩))
            go_ret
            exact ⟨rfl, by assumption⟩
end fnName
end Go.Proofs.YtodmlommidifjaaDoor
