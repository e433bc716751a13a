/-
  Proved: pathUnescape gives a text without percent signs back as it is, and firstSegment cuts off the first piece of a path without percent signs. Conditions: no percent sign in the text; for firstSegment the path begins with a slash.
-/
import Derived.Test.YtodmlommidifjaaDoorShelf
import Derived.Test.YtodmlommidifjaaDoorBytes
import Derived.Test.YtodmlommidifjaaDoorMem
import Derived.Deep.QuietTactic
import Derived.BigQuiet
namespace Go.Proofs.YtodmlommidifjaaDoor
open Go.RowKit

theorem noPct_at (s : ByteArray) (h : ∀ c ∈ bs s, c ≠ 37) (k : Nat) (hk : k < s.size) : (((s[k]'hk).toNat : Int) == 37) = false := by
  have h1 := h (s[k]'hk) (List.mem_of_getElem? (bs_at s k hk))
  rw [beq_eq_false_iff_ne]
  intro e
  apply h1
  apply UInt8.toNat_inj.1
  have : (s[k]'hk).toNat = 37 := by exact_mod_cast e
  rw [this]; rfl

set_option maxRecDepth 100000 in
set_option maxHeartbeats 400000 in
theorem unescape_any (s : ByteArray) (w : World) (hs : s.size ≤ 9223372036854775807) (hp : ∀ c ∈ bs s, c ≠ 37) :
    Calls Tryd.prog 54 #[.string s, .int .u8 2] w fun e w' => e = .returned (.tuple #[.string s, .nilIface]) ∧ w = w' := by
  have HP := Lib.hid (noPct_at s hp)
  clear hp
  go_enter Tryd.func54, Tryd.ntmps54
  go_wp2_with fail
  go_loop [0, 6, 7, 8] (fun t n p i => ∃ k : Nat, k ≤ s.size ∧ t = .string s ∧ n = .int .i64 0 ∧ p = .bool false ∧ i = .int .i64 k) (fun _ _ _ i => s.size - (intOf i).toNat)
  case atStart => exact ⟨0, Nat.zero_le _, rfl, rfl, rfl, rfl⟩
  case round =>
    obtain ⟨k, hk, rfl, rfl, rfl, rfl⟩ := hrel
    by_cases hlt : k < s.size
    · have h1 := HP.out k hlt
      by_cases h2 : (((s[k]'hlt).toNat : Int) == 43) = true
      · go_wp2_with fail
        go_round
        case rel => exact ⟨k + 1, by omega, rfl, rfl, rfl, by go_num⟩
        case measure => simp [intOf]; omega
      · have h3 : (((s[k]'hlt).toNat : Int) == 43) = false := by simpa using h2
        clear h2
        go_wp2_with fail
        go_round
        case rel => exact ⟨k + 1, by omega, rfl, rfl, rfl, by go_num⟩
        case measure => simp [intOf]; omega
    · go_wp2_with fail
      go_ret2
      exact ⟨rfl, rfl⟩

theorem pathUnescape_any (s : ByteArray) (w : World) (hs : s.size ≤ 9223372036854775807) (hp : ∀ c ∈ bs s, c ≠ 37) :
    Calls Tryd.prog 36 #[.string s] w fun e w' => e = .returned (.string s) ∧ w = w' := by
  have HP := Lib.hid hp
  clear hp
  go_enter Tryd.func36, Tryd.ntmps36
  go_wp2_with (first
    | (go_at_call 54; refine (unescape_any s _ hs HP.out).mono ?_; rintro e w' ⟨rfl, rfl⟩)
    | (go_at_call 46; go_in))
  go_ret
  exact ⟨rfl, rfl⟩

/-- The place of the first slash, or the length. -/
def cutAt (l : List UInt8) : Nat := (l.takeWhile (· != 47)).length

theorem indexByte_cut : ∀ l : List UInt8, (Go.Lib.indexByte l 47 = -1 ∧ cutAt l = l.length ∧ (∀ c ∈ l, c ≠ 47)) ∨ (Go.Lib.indexByte l 47 = (cutAt l : Int) ∧ cutAt l < l.length)
  | [] => .inl ⟨rfl, rfl, by simp⟩
  | c :: t => by
    by_cases hc : c = 47
    · subst hc
      exact .inr ⟨by simp [Go.Lib.indexByte, cutAt], by simp [cutAt]⟩
    · have e : cutAt (c :: t) = cutAt t + 1 := by simp [cutAt, hc]
      rcases indexByte_cut t with ⟨h1, h2, h3⟩ | ⟨h1, h2⟩
      · refine .inl ⟨?_, by rw [e, h2, List.length_cons], ?_⟩
        · unfold Go.Lib.indexByte
          rw [if_neg (by simpa using hc), if_pos (by rw [h1]; rfl)]
        · intro d hd
          rcases List.mem_cons.1 hd with rfl | hd
          · exact hc
          · exact h3 d hd
      · refine .inr ⟨?_, by rw [e]; simp; omega⟩
        unfold Go.Lib.indexByte
        rw [if_neg (by simpa using hc), if_neg (by rw [h1]; simp), h1, e]
        omega

theorem take_cutAt (l : List UInt8) : l.take (cutAt l) = l.takeWhile (· != 47) := by
  have h := List.takeWhile_append_dropWhile (p := (· != (47 : UInt8))) (l := l)
  have h2 : (l.takeWhile (· != (47 : UInt8)) ++ l.dropWhile (· != (47 : UInt8))).take (cutAt l) = l.takeWhile (· != 47) := by
    unfold cutAt
    exact List.take_left
  rwa [h] at h2

theorem drop_cutAt (l : List UInt8) : l.drop (cutAt l) = l.dropWhile (· != 47) := by
  have h := List.takeWhile_append_dropWhile (p := (· != (47 : UInt8))) (l := l)
  have h2 : (l.takeWhile (· != (47 : UInt8)) ++ l.dropWhile (· != (47 : UInt8))).drop (cutAt l) = l.dropWhile (· != 47) := by
    unfold cutAt
    exact List.drop_left
  rwa [h] at h2

theorem firstSegment_end (w : World) :
    Calls Tryd.prog 30 #[.string ⟨#[47]⟩] w fun e w' => e = .returned (.tuple #[.string ⟨#[47]⟩, .string ⟨#[]⟩]) ∧ w = w' := by
  go_enter Tryd.func30, Tryd.ntmps30
  go_wp2
  go_ret2
  exact ⟨rfl, rfl⟩

set_option maxHeartbeats 400000 in
theorem firstSegment_any (s : ByteArray) (w : World) (r : List UInt8) (hs : s.size ≤ 9223372036854775807) (hr : bs s = 47 :: r) (hne : r ≠ []) (hp : ∀ c ∈ r, c ≠ 37) :
    Calls Tryd.prog 30 #[.string s] w fun e w' => ∃ n, e = .returned (.tuple #[.string ⟨(r.takeWhile (· != 47)).toArray⟩, .string ⟨(r.dropWhile (· != 47)).toArray⟩]) ∧ w' = w.drewN n := by
  have hsz : s.size = r.length + 1 := by rw [← bs_size, hr]; rfl
  have hpos : 0 < r.length := List.length_pos_iff.2 hne
  have h1 : (s.toList == [47]) = false := by
    rw [bs_toList, hr]
    simpa using hne
  have hd : bs (s.extract 1 s.size) = r := by
    rw [bs_extract, hr, hsz]
    simp
  obtain ⟨q, hq⟩ : ∃ q, q = s.extract 1 s.size := ⟨_, rfl⟩
  rw [← hq] at hd
  have hqs : q.size = r.length := by rw [← bs_size, hd]
  have hcl : cutAt r ≤ r.length := by rcases indexByte_cut r with h | h <;> omega
  have hx1 : bs (q.extract 0 (cutAt r)) = r.takeWhile (· != 47) := by rw [bs_extract, hd]; simpa using take_cutAt r
  have hx2 : bs (q.extract (cutAt r) q.size) = r.dropWhile (· != 47) := by
    rw [bs_extract, hd, hqs, ← drop_cutAt, List.take_of_length_le (by simp)]
  have hp1 : ∀ c ∈ bs (q.extract 0 (cutAt r)), c ≠ 37 := by
    rw [hx1]
    exact fun c hc => hp c (List.takeWhile_subset _ hc)
  have hi := indexByte_cut r
  have HI : Hid (∀ w, Calls Tryd.prog 35 #[.string q, .int .u8 47] w fun e w' => e = .returned (.int .i64 (Go.Lib.indexByte r 47)) ∧ w = w') := by
    intro w
    have := Tryd.strings_IndexByte q 47 w
    rw [show q.data.toList = r from hd] at this
    exact this.mono fun e w' ⟨h1, h2⟩ => ⟨h1, h2.symm⟩
  have HU : Hid (∀ w, Calls Tryd.prog 36 #[.string (q.extract 0 (cutAt r))] w fun e w' => e = .returned (.string (q.extract 0 (cutAt r))) ∧ w = w') :=
    fun w => pathUnescape_any _ w (by simp only [ByteArray.size_extract]; omega) hp1
  have HX : Hid (Ending.returned (.tuple #[.string (q.extract 0 (cutAt r)), .string (q.extract (cutAt r) q.size)]) = Ending.returned (.tuple #[.string ⟨(r.takeWhile (· != 47)).toArray⟩, .string ⟨(r.dropWhile (· != 47)).toArray⟩])) := by
    show _ = _
    rw [bs_inj hx1, bs_inj hx2]
  have HQ := Lib.hid hq
  have HS := Lib.hid hsz
  have hsp : 1 ≤ s.size := by omega
  have HX2 : Hid (r.length = q.size) := hqs.symm
  have hcq : cutAt r ≤ q.size := by omega
  have hqb : q.size ≤ 9223372036854775807 := by omega
  clear hd hx1 hx2 hp1 hp hr hne hq hsz hqs hcl
  go_enter Tryd.func30, Tryd.ntmps30
  go_wp2_with fail
  rw [← HQ.out]
  refine (HI.out _).mono ?_
  rintro e w' ⟨rfl, rfl⟩
  have HU2 : Hid (∀ w, Calls Tryd.prog 36 #[.string (q.extract 0 (cutAt r))] w fun e w' => e = .returned (.string (q.extract 0 (cutAt r))) ∧ w' = w) :=
    fun w => (HU.out w).mono fun e w' ⟨h1, h2⟩ => ⟨h1, h2.symm⟩
  clear HU
  rcases hi with ⟨h1, h2, _⟩ | ⟨h1, h2⟩
  · have HC : Hid (cutAt r = q.size) := h2.trans HX2.out
    have hx := HX.out
    have hu := HU2.out
    rw [HC.out] at hx hu
    simp only [ByteArray.extract_zero_size] at hx hu
    rw [show q.extract q.size q.size = ByteArray.empty from by simp] at hx
    have HX3 := Lib.hid hx
    have HU3 := Lib.hid hu
    rw [h1]
    clear h1 h2 hx hu HX HU2
    go_wp2_with fail
    go_quiet ((go_at_call 36; exact Calls.quiet_of_same (HU3.out _)))
    go_wp2_with fail
    go_ret2
    exact ⟨_, HX3.out, rfl⟩
  · rw [h1]
    clear h1
    go_wp2_with fail
    go_quiet ((go_at_call 36; exact Calls.quiet_of_same (HU2.out _)))
    go_wp2_with fail
    go_ret2
    exact ⟨_, HX.out, rfl⟩
end Go.Proofs.YtodmlommidifjaaDoor
