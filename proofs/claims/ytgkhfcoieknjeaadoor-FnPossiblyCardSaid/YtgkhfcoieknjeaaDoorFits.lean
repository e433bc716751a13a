/-
  Proved: laws.zzFits1 of a pattern returns true only if no text is longer than 2^31 - 1 bytes and there are at most 2^31 - 1 pieces; it writes nothing that was there. Condition: the pattern can be read, its texts are shorter than 2^63 bytes.
-/
import Derived.Test.YtgkhfcoieknjeaaDoorBase
namespace Go.Proofs.YtgkhfcoieknjeaaDoor
open Go.RowKit

/-- How a test of sizes ends. -/
def FitsEnd (p : Prop) (w : World) (e : Ending) (w' : World) : Prop := Below w.heap.size w w' ∧ (e = .returned (.bool false) ∨ (e = .returned (.bool true) ∧ p))

theorem zfThree (s : ByteArray) (a b : Bool) (w : World) (hs : s.size ≤ 9223372036854775807) :
    Calls Tryd.prog 41 #[.agg #[.string s, .bool a, .bool b]] w (FitsEnd (s.size ≤ 2147483647) w) := by
  by_cases h : 2147483647 < s.size
  · go_enter Tryd.func41, Tryd.ntmps41
    go_wp2_with fail
    go_ret
    exact ⟨(Below.refl _ _).alloc (Nat.le_refl _) _, .inl rfl⟩
  · go_enter Tryd.func41, Tryd.ntmps41
    go_wp2_with fail
    go_ret
    exact ⟨(Below.refl _ _).alloc (Nat.le_refl _) _, .inr ⟨rfl, by omega⟩⟩

/-- The texts of the pieces are shorter than 2^63 bytes. -/
def Short (l : List Seg) : Prop := ∀ g ∈ l, g.s.length ≤ 9223372036854775807
def FitsL (l : List Seg) : Prop := l.length ≤ 2147483647 ∧ ∀ g ∈ l, g.s.length ≤ 2147483647

set_option maxRecDepth 100000 in
set_option maxHeartbeats 800000 in
theorem zfTwo (sv : Value) (l : List Seg) (w : World) (hsv : SegsAt w sv l) (hsh : Short l) (hll : l.length ≤ 9223372036854775807) :
    Calls Tryd.prog 30 #[sv] w (FitsEnd (FitsL l) w) := by
  obtain ⟨A, cap, rfl, hlc, hf⟩ := hsv
  have HF := Lib.hid hf
  have HS := Lib.hid hsh
  clear hf hsh
  by_cases hbig : 2147483647 < l.length
  · go_enter Tryd.func30, Tryd.ntmps30
    go_wp2_with fail
    go_ret
    exact ⟨Below.refl _ _, .inl rfl⟩
  go_enter Tryd.func30, Tryd.ntmps30
  go_wp2_with fail
  go_loopw [10] (fun iv wr => ∃ k : Nat, k ≤ l.length ∧ iv = .int .i64 k ∧ Hid (∀ g ∈ l.take k, g.s.length ≤ 2147483647) ∧ Below w.heap.size w wr) (fun iv _ => l.length - (intOf iv).toNat)
  case atStart => exact ⟨0, Nat.zero_le _, rfl, by intro g hg; simp at hg, Below.refl _ _⟩
  case round =>
    obtain ⟨k, hk, rfl, HK, hb⟩ := hrel
    by_cases hlt : k < l.length
    · obtain ⟨g, hg⟩ : ∃ g, l[k]? = some g := ⟨_, List.getElem?_eq_getElem hlt⟩
      obtain ⟨b, o, rfl, hbl, h1, h2, h3⟩ := HF.out k g hg
      have g1 : wr.cell? ⟨b, o + k * 3, none⟩ = some (.string ⟨g.s.toArray⟩) := (hb.cell hbl).trans h1
      have g2 : wr.cell? ⟨b, o + k * 3 + 1, none⟩ = some (.bool g.wild) := (hb.cell hbl).trans h2
      have g3 : wr.cell? ⟨b, o + k * 3 + 2, none⟩ = some (.bool g.multi) := (hb.cell hbl).trans h3
      have HG := Lib.hid hg
      have hgs : g.s.length ≤ 9223372036854775807 := HS.out g (List.mem_of_getElem? hg)
      clear h1 h2 h3 hg
      go_wp2_with fail
      refine (zfThree ⟨g.s.toArray⟩ _ _ _ hgs).mono ?_
      rintro e w2 ⟨hb2, rfl | ⟨rfl, hp⟩⟩
      · go_wp2_with fail
        go_ret
        exact ⟨(hb.alloc hb.size _).trans (hb2.mono (by have := hb.size; simp; omega)), .inl rfl⟩
      · have HP : Hid (∀ g ∈ l.take (k + 1), g.s.length ≤ 2147483647) := by
          intro x hx
          rw [List.take_add_one, HG.out] at hx
          rcases List.mem_append.1 hx with h | h
          · exact HK.out x h
          · simp at h; rw [h]; exact hp
        have hb3 := (hb.alloc hb.size (.cells #[.string ⟨g.s.toArray⟩, .bool g.wild, .bool g.multi] 65)).trans (hb2.mono (by have := hb.size; simp; omega))
        clear hp hb hb2
        go_wp2_with fail
        go_roundw
        case rel => exact ⟨k + 1, by omega, by go_num, HP, hb3⟩
        case measure => simp [intOf]; omega
    · have HP : Hid (∀ g ∈ l, g.s.length ≤ 2147483647) := by
        have := HK.out
        rwa [List.take_of_length_le (by omega)] at this
      go_wp2_with fail
      go_ret
      exact ⟨hb, .inr ⟨rfl, by omega, HP.out⟩⟩

/-- A pattern that fits. -/
def FitsP (m h : ByteArray) (l : List Seg) : Prop := m.size ≤ 2147483647 ∧ h.size ≤ 2147483647 ∧ FitsL l

set_option maxHeartbeats 800000 in
theorem zfOne (m h : ByteArray) (sv : Value) (l : List Seg) (w : World) (hsv : SegsAt w sv l) (hsh : Short l) (hll : l.length ≤ 9223372036854775807) (hm : m.size ≤ 9223372036854775807) (hh : h.size ≤ 9223372036854775807) :
    Calls Tryd.prog 17 #[.agg #[.string m, .string h, sv]] w (FitsEnd (FitsP m h l) w) := by
  have HA : Hid (∀ o, Calls Tryd.prog 30 #[sv] (w.alloc o) (FitsEnd (FitsL l) (w.alloc o))) := fun o => zfTwo sv l _ (hsv.keep ((Below.refl _ _).alloc (Nat.le_refl _) o)) hsh hll
  obtain ⟨A, cap, rfl, _, _⟩ := hsv
  by_cases h1 : 2147483647 < m.size
  · go_enter Tryd.func17, Tryd.ntmps17
    go_wp2_with fail
    go_ret
    exact ⟨(Below.refl _ _).alloc (Nat.le_refl _) _, .inl rfl⟩
  by_cases h2 : 2147483647 < h.size
  · go_enter Tryd.func17, Tryd.ntmps17
    go_wp2_with fail
    go_ret
    exact ⟨(Below.refl _ _).alloc (Nat.le_refl _) _, .inl rfl⟩
  go_enter Tryd.func17, Tryd.ntmps17
  go_wp2_with fail
  refine (HA.out _).mono ?_
  rintro e w2 ⟨hb2, rfl | ⟨rfl, hp⟩⟩
  · go_wp2_with fail
    go_ret
    exact ⟨((Below.refl _ _).alloc (Nat.le_refl _) _).trans (hb2.mono (by simp)), .inl rfl⟩
  · have HP := Lib.hid hp
    clear hp
    go_wp2_with fail
    go_ret
    exact ⟨((Below.refl _ _).alloc (Nat.le_refl _) _).trans (hb2.mono (by simp)), .inr ⟨rfl, by omega, by omega, HP.out⟩⟩
end Go.Proofs.YtgkhfcoieknjeaaDoor
