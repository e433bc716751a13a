/-
  Proved: spec.Method, spec.Host and spec.Literal, at every text, return what 'methodB', 'hostB', 'literalB' say. Condition: a text's own bound of length.
-/
import Derived.Test.YtgkhfcoieknjeaaDoorBase
namespace Go.Proofs.YtgkhfcoieknjeaaDoor
open Go.RowKit

def letterB (c : UInt8) : Bool := (decide (65 ≤ c.toNat) && decide (c.toNat ≤ 90)) || (decide (97 ≤ c.toNat) && decide (c.toNat ≤ 122))
def hostCB (c : UInt8) : Bool := (decide (97 ≤ c.toNat) && decide (c.toNat ≤ 122)) || decide (c.toNat = 46) || decide (c.toNat = 45) || (decide (48 ≤ c.toNat) && decide (c.toNat ≤ 57))
def litCB (c : UInt8) : Bool := decide (33 ≤ c.toNat) && decide (c.toNat ≤ 126) && decide (c.toNat ≠ 47) && decide (c.toNat ≠ 37) && decide (c.toNat ≠ 123) && decide (c.toNat ≠ 125)

def methodB (l : List UInt8) : Bool := l.all letterB && decide (l.length < 12)
def hostB (l : List UInt8) : Bool := l.all hostCB && decide (l.length < 20)
def literalB (l : List UInt8) : Bool := l.all litCB && decide (l ≠ []) && decide (l ≠ [46]) && decide (l ≠ [46, 46]) && decide (l.length ≤ 16)

theorem all_bad (s : ByteArray) (p : UInt8 → Bool) (k : Nat) (x : UInt8) (h : (bs s)[k]? = some x) (hp : p x = false) : (bs s).all p = false := by
  rw [List.all_eq_false]
  exact ⟨x, List.mem_of_getElem? h, by simp [hp]⟩

theorem method_cases (c : UInt8) (n : Nat) (h : n = c.toNat) : (letterB c = true ∧ ((65 ≤ n ∧ n ≤ 90) ∨ (97 ≤ n ∧ n ≤ 122))) ∨ (letterB c = false ∧ ((n < 65) ∨ (91 ≤ n ∧ n ≤ 96) ∨ (123 ≤ n))) := by
  have hl : n < 256 := by rw [h]; exact c.toNat_lt
  cases hok : letterB c
  · refine .inr ⟨rfl, ?_⟩
    simp [letterB, ← h] at hok
    omega
  · refine .inl ⟨rfl, ?_⟩
    simp [letterB, ← h] at hok
    omega

set_option maxRecDepth 100000 in
set_option maxHeartbeats 3200000 in
theorem method_loop (s : ByteArray) (w : World) (hs : s.size ≤ 9223372036854775807) :
    Calls Tryd.prog 31 #[.string s] w fun e w' => e = .returned (.bool (methodB (bs s))) ∧ w = w' := by
  go_enter Tryd.func31, Tryd.ntmps31
  go_wp2_with fail
  go_loop [6] (fun i => ∃ k : Nat, k ≤ s.size ∧ i = .int .i64 k ∧ Hid (∀ j x, j < k → (bs s)[j]? = some x → letterB x = true)) (fun i => s.size - (intOf i).toNat)
  case atStart => exact ⟨0, Nat.zero_le _, rfl, fun j x hj => by omega⟩
  case round =>
    obtain ⟨k, hk, rfl, HN⟩ := hrel
    by_cases hlt : k < s.size
    · obtain ⟨n, hn⟩ : ∃ n : Nat, n = (s[k]'hlt).toNat := ⟨_, rfl⟩
      have HK := Lib.hid (bs_at s k hlt)
      rcases method_cases (s[k]'hlt) n hn with ⟨hok, hc⟩ | ⟨hok, hc⟩
      · have HO := Lib.hid hok
        clear hok
        rcases hc with h | h
        all_goals
          (first | (have f0 : decide (((s[k]'hlt).toNat : Int) < 65) = true := by rw [← hn]; exact decide_eq_true (by omega)) | (have f0 : decide (((s[k]'hlt).toNat : Int) < 65) = false := by rw [← hn]; exact decide_eq_false (by omega)))
          (first | (have f1 : decide ((90 : Int) < ((s[k]'hlt).toNat : Int)) = true := by rw [← hn]; exact decide_eq_true (by omega)) | (have f1 : decide ((90 : Int) < ((s[k]'hlt).toNat : Int)) = false := by rw [← hn]; exact decide_eq_false (by omega)))
          (first | (have f2 : decide (((s[k]'hlt).toNat : Int) < 97) = true := by rw [← hn]; exact decide_eq_true (by omega)) | (have f2 : decide (((s[k]'hlt).toNat : Int) < 97) = false := by rw [← hn]; exact decide_eq_false (by omega)))
          (first | (have f3 : decide ((122 : Int) < ((s[k]'hlt).toNat : Int)) = true := by rw [← hn]; exact decide_eq_true (by omega)) | (have f3 : decide ((122 : Int) < ((s[k]'hlt).toNat : Int)) = false := by rw [← hn]; exact decide_eq_false (by omega)))
          clear hn h
          go_wp2_with fail
          go_round
          case rel =>
            refine ⟨k + 1, by omega, by go_num, fun j x hj hx => ?_⟩
            by_cases hjk : j = k
            · subst hjk
              rw [HK.out] at hx
              simp only [Option.some.injEq] at hx
              rw [← hx]; exact HO.out
            · exact HN.out j x (by omega) hx
          case measure => simp [intOf]; omega
      · have hb : methodB (bs s) = false := by
          unfold methodB; rw [all_bad s letterB k _ HK.out hok]; rfl
        have HF := Lib.hid hb
        clear hb hok
        rcases hc with h | h | h
        all_goals
          (first | (have f0 : decide (((s[k]'hlt).toNat : Int) < 65) = true := by rw [← hn]; exact decide_eq_true (by omega)) | (have f0 : decide (((s[k]'hlt).toNat : Int) < 65) = false := by rw [← hn]; exact decide_eq_false (by omega)))
          (first | (have f1 : decide ((90 : Int) < ((s[k]'hlt).toNat : Int)) = true := by rw [← hn]; exact decide_eq_true (by omega)) | (have f1 : decide ((90 : Int) < ((s[k]'hlt).toNat : Int)) = false := by rw [← hn]; exact decide_eq_false (by omega)))
          (first | (have f2 : decide (((s[k]'hlt).toNat : Int) < 97) = true := by rw [← hn]; exact decide_eq_true (by omega)) | (have f2 : decide (((s[k]'hlt).toNat : Int) < 97) = false := by rw [← hn]; exact decide_eq_false (by omega)))
          (first | (have f3 : decide ((122 : Int) < ((s[k]'hlt).toNat : Int)) = true := by rw [← hn]; exact decide_eq_true (by omega)) | (have f3 : decide ((122 : Int) < ((s[k]'hlt).toNat : Int)) = false := by rw [← hn]; exact decide_eq_false (by omega)))
          clear hn h
          go_wp2_with fail
          go_ret
          exact ⟨by rw [HF.out]; rfl, rfl⟩
    · have HA : Hid (∀ c ∈ bs s, letterB c = true) := by
        intro c hc
        obtain ⟨j, hj⟩ := List.getElem?_of_mem hc
        have hjl : j < s.size := by
          rw [← bs_size]
          exact (List.getElem?_eq_some_iff.1 hj).1
        exact HN.out j c (by omega) hj
      have hall : (bs s).all letterB = true := List.all_eq_true.2 HA.out
      have HP : Hid (methodB (bs s) = decide ((s.size : Int) < 12)) := by
        show _ = _
        unfold methodB
        rw [hall, bs_size, Bool.true_and, Bool.eq_iff_iff]
        simp
        omega
      clear hall
      go_wp2_with fail
      go_ret
      exact ⟨by rw [HP.out]; rfl, rfl⟩

theorem host_cases (c : UInt8) (n : Nat) (h : n = c.toNat) : (hostCB c = true ∧ ((97 ≤ n ∧ n ≤ 122) ∨ (n = 46) ∨ (n = 45) ∨ (48 ≤ n ∧ n ≤ 57))) ∨ (hostCB c = false ∧ ((n < 45) ∨ (n = 47) ∨ (58 ≤ n ∧ n ≤ 96) ∨ (123 ≤ n))) := by
  have hl : n < 256 := by rw [h]; exact c.toNat_lt
  cases hok : hostCB c
  · refine .inr ⟨rfl, ?_⟩
    simp [hostCB, ← h] at hok
    omega
  · refine .inl ⟨rfl, ?_⟩
    simp [hostCB, ← h] at hok
    omega

set_option maxRecDepth 100000 in
set_option maxHeartbeats 3200000 in
theorem host_loop (s : ByteArray) (w : World) (hs : s.size ≤ 9223372036854775807) :
    Calls Tryd.prog 32 #[.string s] w fun e w' => e = .returned (.bool (hostB (bs s))) ∧ w = w' := by
  go_enter Tryd.func32, Tryd.ntmps32
  go_wp2_with fail
  go_loop [6] (fun i => ∃ k : Nat, k ≤ s.size ∧ i = .int .i64 k ∧ Hid (∀ j x, j < k → (bs s)[j]? = some x → hostCB x = true)) (fun i => s.size - (intOf i).toNat)
  case atStart => exact ⟨0, Nat.zero_le _, rfl, fun j x hj => by omega⟩
  case round =>
    obtain ⟨k, hk, rfl, HN⟩ := hrel
    by_cases hlt : k < s.size
    · obtain ⟨n, hn⟩ : ∃ n : Nat, n = (s[k]'hlt).toNat := ⟨_, rfl⟩
      have HK := Lib.hid (bs_at s k hlt)
      rcases host_cases (s[k]'hlt) n hn with ⟨hok, hc⟩ | ⟨hok, hc⟩
      · have HO := Lib.hid hok
        clear hok
        rcases hc with h | h | h | h
        all_goals
          (first | (have f0 : decide (((s[k]'hlt).toNat : Int) < 97) = true := by rw [← hn]; exact decide_eq_true (by omega)) | (have f0 : decide (((s[k]'hlt).toNat : Int) < 97) = false := by rw [← hn]; exact decide_eq_false (by omega)))
          (first | (have f1 : decide ((122 : Int) < ((s[k]'hlt).toNat : Int)) = true := by rw [← hn]; exact decide_eq_true (by omega)) | (have f1 : decide ((122 : Int) < ((s[k]'hlt).toNat : Int)) = false := by rw [← hn]; exact decide_eq_false (by omega)))
          (first | (have f2 : (((s[k]'hlt).toNat : Int) != 46) = true := by rw [← hn, bne_iff_ne]; omega) | (have f2 : (((s[k]'hlt).toNat : Int) != 46) = false := by rw [← hn, show n = 46 from by omega]; rfl))
          (first | (have f3 : (((s[k]'hlt).toNat : Int) != 45) = true := by rw [← hn, bne_iff_ne]; omega) | (have f3 : (((s[k]'hlt).toNat : Int) != 45) = false := by rw [← hn, show n = 45 from by omega]; rfl))
          (first | (have f4 : decide (((s[k]'hlt).toNat : Int) < 48) = true := by rw [← hn]; exact decide_eq_true (by omega)) | (have f4 : decide (((s[k]'hlt).toNat : Int) < 48) = false := by rw [← hn]; exact decide_eq_false (by omega)))
          (first | (have f5 : decide ((57 : Int) < ((s[k]'hlt).toNat : Int)) = true := by rw [← hn]; exact decide_eq_true (by omega)) | (have f5 : decide ((57 : Int) < ((s[k]'hlt).toNat : Int)) = false := by rw [← hn]; exact decide_eq_false (by omega)))
          clear hn h
          go_wp2_with fail
          go_round
          case rel =>
            refine ⟨k + 1, by omega, by go_num, fun j x hj hx => ?_⟩
            by_cases hjk : j = k
            · subst hjk
              rw [HK.out] at hx
              simp only [Option.some.injEq] at hx
              rw [← hx]; exact HO.out
            · exact HN.out j x (by omega) hx
          case measure => simp [intOf]; omega
      · have hb : hostB (bs s) = false := by
          unfold hostB; rw [all_bad s hostCB k _ HK.out hok]; rfl
        have HF := Lib.hid hb
        clear hb hok
        rcases hc with h | h | h | h
        all_goals
          (first | (have f0 : decide (((s[k]'hlt).toNat : Int) < 97) = true := by rw [← hn]; exact decide_eq_true (by omega)) | (have f0 : decide (((s[k]'hlt).toNat : Int) < 97) = false := by rw [← hn]; exact decide_eq_false (by omega)))
          (first | (have f1 : decide ((122 : Int) < ((s[k]'hlt).toNat : Int)) = true := by rw [← hn]; exact decide_eq_true (by omega)) | (have f1 : decide ((122 : Int) < ((s[k]'hlt).toNat : Int)) = false := by rw [← hn]; exact decide_eq_false (by omega)))
          (first | (have f2 : (((s[k]'hlt).toNat : Int) != 46) = true := by rw [← hn, bne_iff_ne]; omega) | (have f2 : (((s[k]'hlt).toNat : Int) != 46) = false := by rw [← hn, show n = 46 from by omega]; rfl))
          (first | (have f3 : (((s[k]'hlt).toNat : Int) != 45) = true := by rw [← hn, bne_iff_ne]; omega) | (have f3 : (((s[k]'hlt).toNat : Int) != 45) = false := by rw [← hn, show n = 45 from by omega]; rfl))
          (first | (have f4 : decide (((s[k]'hlt).toNat : Int) < 48) = true := by rw [← hn]; exact decide_eq_true (by omega)) | (have f4 : decide (((s[k]'hlt).toNat : Int) < 48) = false := by rw [← hn]; exact decide_eq_false (by omega)))
          (first | (have f5 : decide ((57 : Int) < ((s[k]'hlt).toNat : Int)) = true := by rw [← hn]; exact decide_eq_true (by omega)) | (have f5 : decide ((57 : Int) < ((s[k]'hlt).toNat : Int)) = false := by rw [← hn]; exact decide_eq_false (by omega)))
          clear hn h
          go_wp2_with fail
          go_ret
          exact ⟨by rw [HF.out]; rfl, rfl⟩
    · have HA : Hid (∀ c ∈ bs s, hostCB c = true) := by
        intro c hc
        obtain ⟨j, hj⟩ := List.getElem?_of_mem hc
        have hjl : j < s.size := by
          rw [← bs_size]
          exact (List.getElem?_eq_some_iff.1 hj).1
        exact HN.out j c (by omega) hj
      have hall : (bs s).all hostCB = true := List.all_eq_true.2 HA.out
      have HP : Hid (hostB (bs s) = decide ((s.size : Int) < 20)) := by
        show _ = _
        unfold hostB
        rw [hall, bs_size, Bool.true_and, Bool.eq_iff_iff]
        simp
        omega
      clear hall
      go_wp2_with fail
      go_ret
      exact ⟨by rw [HP.out]; rfl, rfl⟩

theorem literal_cases (c : UInt8) (n : Nat) (h : n = c.toNat) : (litCB c = true ∧ ((33 ≤ n ∧ n ≤ 36) ∨ (38 ≤ n ∧ n ≤ 46) ∨ (48 ≤ n ∧ n ≤ 122) ∨ (n = 124) ∨ (n = 126))) ∨ (litCB c = false ∧ ((n ≤ 32) ∨ (n = 37) ∨ (n = 47) ∨ (n = 123) ∨ (n = 125) ∨ (127 ≤ n))) := by
  have hl : n < 256 := by rw [h]; exact c.toNat_lt
  cases hok : litCB c
  · refine .inr ⟨rfl, ?_⟩
    simp [litCB, ← h] at hok
    omega
  · refine .inl ⟨rfl, ?_⟩
    simp [litCB, ← h] at hok
    omega

set_option maxRecDepth 100000 in
set_option maxHeartbeats 3200000 in
theorem literal_loop (s : ByteArray) (w : World) (hs : s.size ≤ 9223372036854775807) (t0 : s.toList.isEmpty = false) (t1 : (s.toList == [46]) = false) (t2 : (s.toList == [46, 46]) = false) (t3 : decide ((16 : Int) < s.size) = false) :
    Calls Tryd.prog 34 #[.string s] w fun e w' => e = .returned (.bool ((bs s).all litCB)) ∧ w = w' := by
  go_enter Tryd.func34, Tryd.ntmps34
  go_wp2_with fail
  go_loop [21] (fun i => ∃ k : Nat, k ≤ s.size ∧ i = .int .i64 k ∧ Hid (∀ j x, j < k → (bs s)[j]? = some x → litCB x = true)) (fun i => s.size - (intOf i).toNat)
  case atStart => exact ⟨0, Nat.zero_le _, rfl, fun j x hj => by omega⟩
  case round =>
    obtain ⟨k, hk, rfl, HN⟩ := hrel
    by_cases hlt : k < s.size
    · obtain ⟨n, hn⟩ : ∃ n : Nat, n = (s[k]'hlt).toNat := ⟨_, rfl⟩
      have HK := Lib.hid (bs_at s k hlt)
      rcases literal_cases (s[k]'hlt) n hn with ⟨hok, hc⟩ | ⟨hok, hc⟩
      · have HO := Lib.hid hok
        clear hok
        rcases hc with h | h | h | h | h
        all_goals
          (first | (have f0 : decide (((s[k]'hlt).toNat : Int) ≤ 32) = true := by rw [← hn]; exact decide_eq_true (by omega)) | (have f0 : decide (((s[k]'hlt).toNat : Int) ≤ 32) = false := by rw [← hn]; exact decide_eq_false (by omega)))
          (first | (have f1 : decide ((126 : Int) < ((s[k]'hlt).toNat : Int)) = true := by rw [← hn]; exact decide_eq_true (by omega)) | (have f1 : decide ((126 : Int) < ((s[k]'hlt).toNat : Int)) = false := by rw [← hn]; exact decide_eq_false (by omega)))
          (first | (have f2 : (((s[k]'hlt).toNat : Int) == 47) = false := by rw [← hn, beq_eq_false_iff_ne]; omega) | (have f2 : (((s[k]'hlt).toNat : Int) == 47) = true := by rw [← hn, beq_iff_eq]; omega))
          (first | (have f3 : (((s[k]'hlt).toNat : Int) == 37) = false := by rw [← hn, beq_eq_false_iff_ne]; omega) | (have f3 : (((s[k]'hlt).toNat : Int) == 37) = true := by rw [← hn, beq_iff_eq]; omega))
          (first | (have f4 : (((s[k]'hlt).toNat : Int) == 123) = false := by rw [← hn, beq_eq_false_iff_ne]; omega) | (have f4 : (((s[k]'hlt).toNat : Int) == 123) = true := by rw [← hn, beq_iff_eq]; omega))
          (first | (have f5 : (((s[k]'hlt).toNat : Int) == 125) = false := by rw [← hn, beq_eq_false_iff_ne]; omega) | (have f5 : (((s[k]'hlt).toNat : Int) == 125) = true := by rw [← hn, beq_iff_eq]; omega))
          clear hn h
          go_wp2_with fail
          go_round
          case rel =>
            refine ⟨k + 1, by omega, by go_num, fun j x hj hx => ?_⟩
            by_cases hjk : j = k
            · subst hjk
              rw [HK.out] at hx
              simp only [Option.some.injEq] at hx
              rw [← hx]; exact HO.out
            · exact HN.out j x (by omega) hx
          case measure => simp [intOf]; omega
      · have hb : (bs s).all litCB = false := by
          exact all_bad s litCB k _ HK.out hok
        have HF := Lib.hid hb
        clear hb hok
        rcases hc with h | h | h | h | h | h
        all_goals
          (first | (have f0 : decide (((s[k]'hlt).toNat : Int) ≤ 32) = true := by rw [← hn]; exact decide_eq_true (by omega)) | (have f0 : decide (((s[k]'hlt).toNat : Int) ≤ 32) = false := by rw [← hn]; exact decide_eq_false (by omega)))
          (first | (have f1 : decide ((126 : Int) < ((s[k]'hlt).toNat : Int)) = true := by rw [← hn]; exact decide_eq_true (by omega)) | (have f1 : decide ((126 : Int) < ((s[k]'hlt).toNat : Int)) = false := by rw [← hn]; exact decide_eq_false (by omega)))
          (first | (have f2 : (((s[k]'hlt).toNat : Int) == 47) = false := by rw [← hn, beq_eq_false_iff_ne]; omega) | (have f2 : (((s[k]'hlt).toNat : Int) == 47) = true := by rw [← hn, beq_iff_eq]; omega))
          (first | (have f3 : (((s[k]'hlt).toNat : Int) == 37) = false := by rw [← hn, beq_eq_false_iff_ne]; omega) | (have f3 : (((s[k]'hlt).toNat : Int) == 37) = true := by rw [← hn, beq_iff_eq]; omega))
          (first | (have f4 : (((s[k]'hlt).toNat : Int) == 123) = false := by rw [← hn, beq_eq_false_iff_ne]; omega) | (have f4 : (((s[k]'hlt).toNat : Int) == 123) = true := by rw [← hn, beq_iff_eq]; omega))
          (first | (have f5 : (((s[k]'hlt).toNat : Int) == 125) = false := by rw [← hn, beq_eq_false_iff_ne]; omega) | (have f5 : (((s[k]'hlt).toNat : Int) == 125) = true := by rw [← hn, beq_iff_eq]; omega))
          clear hn h
          go_wp2_with fail
          go_ret
          exact ⟨by rw [HF.out]; rfl, rfl⟩
    · have HA : Hid (∀ c ∈ bs s, litCB c = true) := by
        intro c hc
        obtain ⟨j, hj⟩ := List.getElem?_of_mem hc
        have hjl : j < s.size := by
          rw [← bs_size]
          exact (List.getElem?_eq_some_iff.1 hj).1
        exact HN.out j c (by omega) hj
      have hall : (bs s).all litCB = true := List.all_eq_true.2 HA.out
      have HP := Lib.hid hall
      clear hall
      go_wp2_with fail
      go_ret
      exact ⟨by rw [HP.out]; rfl, rfl⟩

set_option maxRecDepth 100000 in
theorem literal_any (s : ByteArray) (w : World) (hs : s.size ≤ 9223372036854775807) :
    Calls Tryd.prog 34 #[.string s] w fun e w' => e = .returned (.bool (literalB (bs s))) ∧ w = w' := by
  by_cases h0 : bs s = []
  · have HF : Hid (literalB (bs s) = false) := by show _ = _; rw [h0]; rfl
    have t0 : s.toList.isEmpty = true := by rw [bs_toList, h0]; rfl
    clear h0
    go_enter Tryd.func34, Tryd.ntmps34
    go_wp2_with fail
    go_ret
    exact ⟨by rw [HF.out]; rfl, rfl⟩
  have t0 : s.toList.isEmpty = false := by rw [bs_toList]; simpa using h0
  by_cases h1 : bs s = [46]
  · have HF : Hid (literalB (bs s) = false) := by show _ = _; rw [h1]; decide
    have t1 : (s.toList == [46]) = true := by rw [bs_toList, h1]; rfl
    clear h0 h1
    go_enter Tryd.func34, Tryd.ntmps34
    go_wp2_with fail
    go_ret
    exact ⟨by rw [HF.out]; rfl, rfl⟩
  have t1 : (s.toList == [46]) = false := by rw [bs_toList]; simpa using h1
  by_cases h2 : bs s = [46, 46]
  · have HF : Hid (literalB (bs s) = false) := by show _ = _; rw [h2]; decide
    have t2 : (s.toList == [46, 46]) = true := by rw [bs_toList, h2]; rfl
    clear h0 h1 h2
    go_enter Tryd.func34, Tryd.ntmps34
    go_wp2_with fail
    go_ret
    exact ⟨by rw [HF.out]; rfl, rfl⟩
  have t2 : (s.toList == [46, 46]) = false := by rw [bs_toList]; simpa using h2
  by_cases h3 : 16 < s.size
  · have HF : Hid (literalB (bs s) = false) := by
      show _ = _
      unfold literalB
      rw [show decide ((bs s).length ≤ 16) = false from decide_eq_false (by rw [bs_size]; omega), Bool.and_false]
    have t3 : decide ((16 : Int) < s.size) = true := by simp; omega
    clear h0 h1 h2 h3
    go_enter Tryd.func34, Tryd.ntmps34
    go_wp2_with fail
    go_ret
    exact ⟨by rw [HF.out]; rfl, rfl⟩
  have t3 : decide ((16 : Int) < s.size) = false := by simp; omega
  have e : literalB (bs s) = (bs s).all litCB := by
    unfold literalB
    rw [decide_eq_true h0, decide_eq_true h1, decide_eq_true h2, show decide ((bs s).length ≤ 16) = true from decide_eq_true (by rw [bs_size]; omega)]
    simp
  rw [e]
  exact literal_loop s w hs t0 t1 t2 t3
end Go.Proofs.YtgkhfcoieknjeaaDoor
