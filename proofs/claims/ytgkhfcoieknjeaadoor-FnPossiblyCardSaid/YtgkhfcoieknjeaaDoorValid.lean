/-
  Proved: isValidWildcardName returns, at texts of ASCII, what 'nameB' says, and writes nothing that was there. Conditions: the text is ASCII, and the table unicode.properties holds what the library lays.
-/
import Derived.Test.YtgkhfcoieknjeaaDoorName
namespace Go.Proofs.YtgkhfcoieknjeaaDoor
open Go.RowKit

def digN (c : Nat) : Bool := decide (48 ≤ c) && decide (c ≤ 57)

theorem isDigit_n (c : Nat) (hc : c < 128) (w : World) : Calls Tryd.prog 77 #[.int .i32 c] w fun e w' => e = .returned (.bool (digN c)) ∧ w = w' := isDigit_ascii c hc w

theorem okAt_n (k : Nat) (c : UInt8) : okAt k c = (decide (c.toNat = 95) || alphaB c.toNat || (decide (k ≠ 0) && digN c.toNat)) := okAt_of k c

theorem below_iter (w : World) (s : ByteArray) (pos : Nat) : Below w.heap.size w (w.iter s pos) := (Below.refl _ _).alloc (Nat.le_refl _) _

set_option maxRecDepth 1000000 in
set_option maxHeartbeats 1600000 in
theorem valid_any (s : ByteArray) (w : World) (_hs : s.size ≤ 9223372036854775807) (hasc : ∀ b ∈ bs s, b.toNat < 128) (hprops : PropsAt w) :
    Calls Tryd.prog 65 #[.string s] w fun e w' => e = .returned (.bool (nameB (bs s))) ∧ Below w.heap.size w w' := by
  have HA := Lib.hid hasc
  have HP : Hid (∀ pos, PropsAt (w.iter s pos)) := fun pos => hprops.below (below_iter w s pos)
  clear hasc hprops
  by_cases he : bs s = []
  · have HB : Hid (nameB (bs s) = false) := by rw [he]; exact rfl
    have ht : s.toList.isEmpty = true := by rw [bs_toList, he]; rfl
    clear he
    go_enter Tryd.func65, Tryd.ntmps65
    go_wp2_with fail
    go_ret
    exact ⟨by rw [HB.out]; rfl, Below.refl _ _⟩
  have ht : s.toList.isEmpty = false := by rw [bs_toList]; simpa using he
  have HE := Lib.hid he
  clear he
  go_enter Tryd.func65, Tryd.ntmps65
  go_wp2_with fail
  go_loopw [] (fun wr => ∃ k : Nat, k ≤ s.size ∧ wr = w.iter s k ∧ Hid (∀ j x, j < k → (bs s)[j]? = some x → okAt j x = true)) (fun wr => s.size - wr.iterPos w.heap.size)
  case atStart => exact ⟨0, Nat.zero_le _, rfl, fun j x hj => by omega⟩
  case round =>
    obtain ⟨k, hk, rfl, HN⟩ := hrel
    by_cases hlt : k < s.size
    · have hbk := bs_at s k hlt
      have h128 := HA.out _ (List.mem_of_getElem? hbk)
      obtain ⟨n, hn⟩ : ∃ n : Nat, n = (s[k]'hlt).toNat := ⟨_, rfl⟩
      have hd := decode_ascii s k hlt h128
      rw [← hn] at hd h128
      have hnx : ∀ ty, (Instr.next (.pointer (some ⟨w.heap.size, 0, none⟩)) true ty).run Tryd.prog (w.iter s k) = .ok (.tuple #[.bool true, .int .i64 k, .int .i32 n]) (w.iter s (k + 1)) := fun ty => by
        rw [run_next_any w s k ty hlt, hd]
      have hcases : (okAt k (s[k]'hlt) = true ∧ (alphaB n = true ∨ (alphaB n = false ∧ n = 95) ∨ (alphaB n = false ∧ n ≠ 95 ∧ 0 < k ∧ digN n = true))) ∨
          (okAt k (s[k]'hlt) = false ∧ alphaB n = false ∧ n ≠ 95 ∧ (k = 0 ∨ (0 < k ∧ digN n = false))) := by
        rw [okAt_n, ← hn]
        cases h1 : alphaB n
        · by_cases h2 : n = 95
          · exact .inl ⟨by simp [h2], .inr (.inl ⟨rfl, h2⟩)⟩
          · by_cases h3 : k = 0
            · exact .inr ⟨by simp [h2, h3], rfl, h2, .inl h3⟩
            · cases h4 : digN n
              · exact .inr ⟨by simp [h2], rfl, h2, .inr ⟨by omega, rfl⟩⟩
              · exact .inl ⟨by simp [h3], .inr (.inr ⟨rfl, h2, by omega, rfl⟩)⟩
        · exact .inl ⟨by simp, .inl rfl⟩
      have HK := Lib.hid hbk
      clear hbk hn hd
      have HO : Hid (okAt k (s[k]'hlt) = true → ∀ j x, j < k + 1 → (bs s)[j]? = some x → okAt j x = true) := by
        intro hok j x hj hx
        by_cases hjk : j = k
        · subst hjk
          rw [HK.out] at hx
          simp only [Option.some.injEq] at hx
          rw [← hx]; exact hok
        · exact HN.out j x (by omega) hx
      rcases hcases with ⟨hok, hc⟩ | ⟨hok, ha, h95, hc⟩
      · have HOK := Lib.hid (HO.out hok)
        clear hok
        rcases hc with ha | ⟨ha, h95⟩ | ⟨ha, h95, hk0, hd⟩
        · go_wp2_with (first
          | (go_at_call 76; refine (isLetter_ascii n h128 _ (HP.out _)).mono ?_; rintro e w' ⟨rfl, rfl⟩)
          | (go_at_call 77; refine (isDigit_n n h128 _).mono ?_; rintro e w' ⟨rfl, rfl⟩))
          go_roundw
          case rel => exact ⟨k + 1, by omega, rfl, HOK⟩
          case measure => simp [World.iterPos, World.iter_heap]; omega
        · have e1 : ((n : Int) != 95) = false := by rw [h95]; rfl
          clear h95
          go_wp2_with (first
          | (go_at_call 76; refine (isLetter_ascii n h128 _ (HP.out _)).mono ?_; rintro e w' ⟨rfl, rfl⟩)
          | (go_at_call 77; refine (isDigit_n n h128 _).mono ?_; rintro e w' ⟨rfl, rfl⟩))
          go_roundw
          case rel => exact ⟨k + 1, by omega, rfl, HOK⟩
          case measure => simp [World.iterPos, World.iter_heap]; omega
        · have e1 : ((n : Int) != 95) = true := by rw [bne_iff_ne]; omega
          have e2 : ((k : Int) == 0) = false := by rw [beq_eq_false_iff_ne]; omega
          clear h95
          go_wp2_with (first
          | (go_at_call 76; refine (isLetter_ascii n h128 _ (HP.out _)).mono ?_; rintro e w' ⟨rfl, rfl⟩)
          | (go_at_call 77; refine (isDigit_n n h128 _).mono ?_; rintro e w' ⟨rfl, rfl⟩))
          go_roundw
          case rel => exact ⟨k + 1, by omega, rfl, HOK⟩
          case measure => simp [World.iterPos, World.iter_heap]; omega
      · have hb : nameB (bs s) = false := nameB_of_bad _ k _ HK.out hok
        have HB := Lib.hid hb
        have e1 : ((n : Int) != 95) = true := by rw [bne_iff_ne]; omega
        clear hb hok h95
        rcases hc with rfl | ⟨hk0, hd⟩
        · go_wp2_with (first
          | (go_at_call 76; refine (isLetter_ascii n h128 _ (HP.out _)).mono ?_; rintro e w' ⟨rfl, rfl⟩)
          | (go_at_call 77; refine (isDigit_n n h128 _).mono ?_; rintro e w' ⟨rfl, rfl⟩))
          go_ret
          exact ⟨by rw [HB.out]; rfl, below_iter w s _⟩
        · have e2 : ((k : Int) == 0) = false := by rw [beq_eq_false_iff_ne]; omega
          go_wp2_with (first
          | (go_at_call 76; refine (isLetter_ascii n h128 _ (HP.out _)).mono ?_; rintro e w' ⟨rfl, rfl⟩)
          | (go_at_call 77; refine (isDigit_n n h128 _).mono ?_; rintro e w' ⟨rfl, rfl⟩))
          go_ret
          exact ⟨by rw [HB.out]; rfl, below_iter w s _⟩
    · have hnx : ∀ ty, (Instr.next (.pointer (some ⟨w.heap.size, 0, none⟩)) true ty).run Tryd.prog (w.iter s k) = _ := fun ty => run_next_end w s k ty hlt
      have hb : nameB (bs s) = true := nameB_of_all _ HE.out fun j x hj => HN.out j x (by
          have := (List.getElem?_eq_some_iff.1 hj).1
          rw [bs_size] at this
          omega) hj
      have HB := Lib.hid hb
      clear hb
      go_wp2_with fail
      go_ret
      exact ⟨by rw [HB.out]; rfl, below_iter w s k⟩
end Go.Proofs.YtgkhfcoieknjeaaDoor
