/-
  Proved: firstSegment cuts off the first piece of a path without percent signs. Condition: the path begins with a slash.
-/
import Derived.Test.YtgkhfcoieknjeaaDoorUnesc
namespace Go.Proofs.YtgkhfcoieknjeaaDoor
open Go.RowKit

theorem firstSegment_end (w : World) :
    Calls Tryd.prog 80 #[.string ⟨#[47]⟩] w fun e w' => e = .returned (.tuple #[.string ⟨#[47]⟩, .string ⟨#[]⟩]) ∧ w = w' := by
  go_enter Tryd.func80, Tryd.ntmps80
  go_wp2
  go_ret2
  exact ⟨rfl, rfl⟩

set_option maxHeartbeats 400000 in
theorem firstSegment_any (s : ByteArray) (w : World) (r : List UInt8) (hs : s.size ≤ 9223372036854775807) (hr : bs s = 47 :: r) (hne : r ≠ []) (hp : ∀ c ∈ r, c ≠ 37) :
    Calls Tryd.prog 80 #[.string s] w fun e w' => ∃ n, e = .returned (.tuple #[.string ⟨(r.takeWhile (· != 47)).toArray⟩, .string ⟨(r.dropWhile (· != 47)).toArray⟩]) ∧ w' = w.drewN n := by
  have hsz : s.size = r.length + 1 := by rw [← bs_size, hr]; rfl
  have hpos : 0 < r.length := List.length_pos_iff.2 hne
  have h1 : (s.toList == [47]) = false := by
    rw [bs_toList, hr]
    simpa using hne
  have hd : bs (s.extract 1 s.size) = r := by
    rw [bs_extract, hr, hsz]
    simp
  obtain ⟨q, hq⟩ : ∃ q, q = s.extract 1 s.size := ⟨_, rfl⟩
  rw [← hq] at hd
  have hqs : q.size = r.length := by rw [← bs_size, hd]
  have hcl : cutAt r ≤ r.length := by rcases indexByte_cut r with h | h <;> omega
  have hx1 : bs (q.extract 0 (cutAt r)) = r.takeWhile (· != 47) := by rw [bs_extract, hd]; simpa using take_cutAt r
  have hx2 : bs (q.extract (cutAt r) q.size) = r.dropWhile (· != 47) := by
    rw [bs_extract, hd, hqs, ← drop_cutAt, List.take_of_length_le (by simp)]
  have hp1 : ∀ c ∈ bs (q.extract 0 (cutAt r)), c ≠ 37 := by
    rw [hx1]
    exact fun c hc => hp c (List.takeWhile_subset _ hc)
  have hi := indexByte_cut r
  have HI : Hid (∀ w, Calls Tryd.prog 61 #[.string q, .int .u8 47] w fun e w' => e = .returned (.int .i64 (Go.Lib.indexByte r 47)) ∧ w = w') := by
    intro w
    have := Tryd.strings_IndexByte q 47 w
    rw [show q.data.toList = r from hd] at this
    exact this.mono fun e w' ⟨h1, h2⟩ => ⟨h1, h2.symm⟩
  have HU : Hid (∀ w, Calls Tryd.prog 63 #[.string (q.extract 0 (cutAt r))] w fun e w' => e = .returned (.string (q.extract 0 (cutAt r))) ∧ w = w') :=
    fun w => pathUnescape_any _ w (by simp only [ByteArray.size_extract]; omega) hp1
  have HX : Hid (Ending.returned (.tuple #[.string (q.extract 0 (cutAt r)), .string (q.extract (cutAt r) q.size)]) = Ending.returned (.tuple #[.string ⟨(r.takeWhile (· != 47)).toArray⟩, .string ⟨(r.dropWhile (· != 47)).toArray⟩])) := by
    show _ = _
    rw [bs_inj hx1, bs_inj hx2]
  have HQ := Lib.hid hq
  have HS := Lib.hid hsz
  have hsp : 1 ≤ s.size := by omega
  have HX2 : Hid (r.length = q.size) := hqs.symm
  have hcq : cutAt r ≤ q.size := by omega
  have hqb : q.size ≤ 9223372036854775807 := by omega
  clear hd hx1 hx2 hp1 hp hr hne hq hsz hqs hcl
  go_enter Tryd.func80, Tryd.ntmps80
  go_wp2_with fail
  rw [← HQ.out]
  refine (HI.out _).mono ?_
  rintro e w' ⟨rfl, rfl⟩
  have HU2 : Hid (∀ w, Calls Tryd.prog 63 #[.string (q.extract 0 (cutAt r))] w fun e w' => e = .returned (.string (q.extract 0 (cutAt r))) ∧ w' = w) :=
    fun w => (HU.out w).mono fun e w' ⟨h1, h2⟩ => ⟨h1, h2.symm⟩
  clear HU
  rcases hi with ⟨h1, h2, _⟩ | ⟨h1, h2⟩
  · have HC : Hid (cutAt r = q.size) := h2.trans HX2.out
    have hx := HX.out
    have hu := HU2.out
    rw [HC.out] at hx hu
    simp only [ByteArray.extract_zero_size] at hx hu
    rw [show q.extract q.size q.size = ByteArray.empty from by simp] at hx
    have HX3 := Lib.hid hx
    have HU3 := Lib.hid hu
    rw [h1]
    clear h1 h2 hx hu HX HU2
    go_wp2_with fail
    go_quiet ((go_at_call 63; exact Calls.quiet_of_same (HU3.out _)))
    go_wp2_with fail
    go_ret2
    exact ⟨_, HX3.out, rfl⟩
  · rw [h1]
    clear h1
    go_wp2_with fail
    go_quiet ((go_at_call 63; exact Calls.quiet_of_same (HU2.out _)))
    go_wp2_with fail
    go_ret2
    exact ⟨_, HX.out, rfl⟩
end Go.Proofs.YtgkhfcoieknjeaaDoor
