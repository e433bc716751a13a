/-
  Proved: spec.Name, unicode.IsLetter, unicode.IsDigit and isValidWildcardName at texts of ASCII return what 'nameB' says. Conditions: the table unicode.properties holds what the library lays; for isValidWildcardName the text is ASCII.
-/
import Derived.Test.YtgkhfcoieknjeaaDoorRows
import Derived.Test.YtgkhfcoieknjeaaDoorBase
import Derived.Laws.RangeString
import Derived.Laws.RangeAny
import Derived.Deep.DeepCutAuto
namespace Go.Proofs.YtgkhfcoieknjeaaDoor
open Go.RowKit

def letB (c : UInt8) : Bool := decide (c.toNat = 95) || (decide (97 ≤ c.toNat) && decide (c.toNat ≤ 122)) || (decide (65 ≤ c.toNat) && decide (c.toNat ≤ 90))
def digB (c : UInt8) : Bool := decide (48 ≤ c.toNat) && decide (c.toNat ≤ 57)
def wordB (c : UInt8) : Bool := letB c || digB c

/-- Letters, figures and low lines, no figure first. -/
def nameB : List UInt8 → Bool
  | [] => false
  | c :: t => letB c && t.all wordB

/-- May the letter at place k stand there? -/
def okAt (k : Nat) (c : UInt8) : Bool := letB c || (decide (k ≠ 0) && digB c)

theorem nameB_of_all : ∀ (l : List UInt8), l ≠ [] → (∀ k c, l[k]? = some c → okAt k c = true) → nameB l = true
  | [], h, _ => (h rfl).elim
  | c :: t, _, h => by
    have h0 := h 0 c rfl
    simp [okAt] at h0
    simp only [nameB, h0, Bool.true_and, List.all_eq_true]
    intro d hd
    obtain ⟨j, hj, rfl⟩ := List.mem_iff_getElem.1 hd
    have := h (j + 1) t[j] (by simp [hj])
    simpa [okAt, wordB] using this

theorem nameB_of_bad : ∀ (l : List UInt8) (k : Nat) (c : UInt8), l[k]? = some c → okAt k c = false → nameB l = false
  | [], k, c, h, _ => by simp at h
  | d :: t, 0, c, h, hc => by
    simp at h
    subst h
    simp [okAt] at hc
    simp [nameB, hc]
  | d :: t, k + 1, c, h, hc => by
    simp at h
    have hm : c ∈ t := List.mem_of_getElem? h
    have : t.all wordB = false := by
      rw [List.all_eq_false]
      exact ⟨c, hm, by simpa [okAt, wordB] using hc⟩
    simp [nameB, this]

/-- unicode.properties. -/
def propZ : List Int := [1, 1, 1, 1, 1, 1, 1, 1, 1, 1, 1, 1, 1, 1, 1, 1, 1, 1, 1, 1, 1, 1, 1, 1, 1, 1, 1, 1, 1, 1, 1, 1, 144, 130, 130, 130, 136, 130, 130, 130, 130, 130, 130, 136, 130, 130, 130, 130, 132, 132, 132, 132, 132, 132, 132, 132, 132, 132, 130, 130, 136, 136, 136, 130, 130, 160, 160, 160, 160, 160, 160, 160, 160, 160, 160, 160, 160, 160, 160, 160, 160, 160, 160, 160, 160, 160, 160, 160, 160, 160, 160, 130, 130, 130, 136, 130, 136, 192, 192, 192, 192, 192, 192, 192, 192, 192, 192, 192, 192, 192, 192, 192, 192, 192, 192, 192, 192, 192, 192, 192, 192, 192, 192, 130, 136, 130, 136, 1, 1, 1, 1, 1, 1, 1, 1, 1, 1, 1, 1, 1, 1, 1, 1, 1, 1, 1, 1, 1, 1, 1, 1, 1, 1, 1, 1, 1, 1, 1, 1, 1, 16, 130, 136, 136, 136, 136, 136, 130, 136, 136, 224, 130, 136, 0, 136, 136, 136, 136, 132, 132, 136, 192, 130, 130, 136, 132, 224, 130, 132, 132, 132, 130, 160, 160, 160, 160, 160, 160, 160, 160, 160, 160, 160, 160, 160, 160, 160, 160, 160, 160, 160, 160, 160, 160, 160, 136, 160, 160, 160, 160, 160, 160, 160, 192, 192, 192, 192, 192, 192, 192, 192, 192, 192, 192, 192, 192, 192, 192, 192, 192, 192, 192, 192, 192, 192, 192, 192, 136, 192, 192, 192, 192, 192, 192, 192, 192]

/-- The table's cells. -/
def PropsAt (w : World) : Prop := ∀ c, c < 256 → w.cell? ⟨0, c, none⟩ = some (.int .u8 (propZ.getD c 0))

theorem PropsAt.below {w w' : World} (h : PropsAt w) (hb : Below w.heap.size w w') : PropsAt w' := fun c hc =>
  (hb.cell (World.block_lt_of_cell? _ _ (h c hc))).trans (h c hc)

/-- A letter of the alphabet. -/
def alphaB (c : Nat) : Bool := (decide (97 ≤ c) && decide (c ≤ 122)) || (decide (65 ≤ c) && decide (c ≤ 90))

theorem props_all : ((List.range 128).all fun c => (bits BinOp.and IntKind.u8 (propZ.getD c 0) 96 != 0) == alphaB c) = true := by kernel_rfl

theorem isLetter_ascii (c : Nat) (hc : c < 128) (w : World) (hp : PropsAt w) :
    Calls Tryd.prog 76 #[.int .i32 c] w fun e w' => e = .returned (.bool (alphaB c)) ∧ w = w' := by
  have hcell := hp c (by omega)
  have ha : (bits BinOp.and IntKind.u8 (propZ.getD c 0) 96 != 0) = alphaB c := by
    have := List.all_eq_true.1 props_all c (List.mem_range.2 hc)
    simpa using this
  have HA := Lib.hid ha
  generalize propZ.getD c 0 = z at *
  clear ha hp
  go_enter Tryd.func76, Tryd.ntmps76
  go_wp2
  go_ret
  exact ⟨congrArg (fun b => Ending.returned (.bool b)) HA.out, rfl⟩

theorem isDigit_ascii (c : Nat) (hc : c < 128) (w : World) :
    Calls Tryd.prog 77 #[.int .i32 c] w fun e w' => e = .returned (.bool (decide (48 ≤ c) && decide (c ≤ 57))) ∧ w = w' := by
  by_cases h1 : 48 ≤ c
  all_goals
    by_cases h2 : c ≤ 57
    all_goals
      go_enter Tryd.func77, Tryd.ntmps77
      go_wp2
      all_goals (go_ret; exact ⟨by first | (simp [h1, h2]; done) | (simp [h1, h2]; omega), rfl⟩)

theorem byte_lt (c : UInt8) : (c.toNat : Int) < 256 := by have := c.toNat_lt; omega

theorem okAt_of (k : Nat) (c : UInt8) : okAt k c = (decide (c.toNat = 95) || alphaB c.toNat || (decide (k ≠ 0) && (decide (48 ≤ c.toNat) && decide (c.toNat ≤ 57)))) := by
  unfold okAt letB digB alphaB
  simp only [Bool.or_assoc]

set_option maxHeartbeats 1600000 in
theorem name_any (s : ByteArray) (w : World) (hs : s.size ≤ 9223372036854775807) :
    Calls Tryd.prog 33 #[.string s] w fun e w' => e = .returned (.bool (nameB (bs s))) ∧ w = w' := by
  go_enter Tryd.func33, Tryd.ntmps33
  go_wp2_with fail
  go_loop [8] (fun i => ∃ k : Nat, k ≤ s.size ∧ i = .int .i64 k ∧ Hid (∀ j x, j < k → (bs s)[j]? = some x → okAt j x = true)) (fun i => s.size - (intOf i).toNat)
  case atStart => exact ⟨0, Nat.zero_le _, rfl, fun j x hj => by omega⟩
  case round =>
    obtain ⟨k, hk, rfl, HN⟩ := hrel
    by_cases hlt : k < s.size
    · have hbk := bs_at s k hlt
      obtain ⟨b, hb⟩ : ∃ b, b = s[k]'hlt := ⟨_, rfl⟩
      rw [← hb] at hbk
      have HB := Lib.hid hb
      have HK := Lib.hid hbk
      clear hb hbk
      go_upto_region 4 with fail
      go_cut [4] (fun c wx => ∃ n : Nat, c = .int .u8 n ∧ Hid (n = b.toNat) ∧ n < 256 ∧ w = wx)
      case first =>
        go_wp2_with fail
        go_meet
        exact ⟨_, rfl, by rw [HB.out]; exact rfl, (s[k]'hlt).toNat_lt, rfl⟩
      case rest =>
        obtain ⟨n, rfl, HE, hn, rfl⟩ := hcut
        have hcases : (okAt k b = false ∧ (n < 48 ∨ (48 ≤ n ∧ n ≤ 57 ∧ k = 0) ∨ (58 ≤ n ∧ n ≤ 64) ∨ (91 ≤ n ∧ n ≤ 94) ∨ n = 96 ∨ 123 ≤ n)) ∨
            (okAt k b = true ∧ (n = 95 ∨ (97 ≤ n ∧ n ≤ 122) ∨ (65 ≤ n ∧ n ≤ 90) ∨ (48 ≤ n ∧ n ≤ 57 ∧ 0 < k))) := by
          cases hok : okAt k b
          · refine .inl ⟨rfl, ?_⟩
            simp [okAt, letB, digB, ← HE.out] at hok
            omega
          · refine .inr ⟨rfl, ?_⟩
            simp [okAt, letB, digB, ← HE.out] at hok
            omega
        rcases hcases with ⟨hok, hc⟩ | ⟨hok, hc⟩
        · have hb : nameB (bs s) = false := nameB_of_bad _ k _ HK.out hok
          have HF := Lib.hid hb
          clear hb hok
          have e95 : ((n : Int) == 95) = false := by rw [beq_eq_false_iff_ne]; omega
          have ek : ((k : Int) == 0) = decide (k = 0) := by
            rw [Bool.eq_iff_iff]; simp
          by_cases hk0 : k = 0
          · have ek' : ((k : Int) == 0) = true := by rw [ek]; simpa using hk0
            clear ek
            rcases hc with h | ⟨h, h', _⟩ | ⟨h, h'⟩ | ⟨h, h'⟩ | h | h
            all_goals
              (first | (have f0 : decide ((97 : Int) ≤ n) = true := decide_eq_true (by omega)) | (have f0 : decide ((97 : Int) ≤ n) = false := decide_eq_false (by omega)))
              (first | (have f1 : decide ((n : Int) ≤ 122) = true := decide_eq_true (by omega)) | (have f1 : decide ((n : Int) ≤ 122) = false := decide_eq_false (by omega)))
              (first | (have f2 : decide ((65 : Int) ≤ n) = true := decide_eq_true (by omega)) | (have f2 : decide ((65 : Int) ≤ n) = false := decide_eq_false (by omega)))
              (first | (have f3 : decide ((n : Int) ≤ 90) = true := decide_eq_true (by omega)) | (have f3 : decide ((n : Int) ≤ 90) = false := decide_eq_false (by omega)))
              (first | (have f4 : decide ((n : Int) < 48) = true := decide_eq_true (by omega)) | (have f4 : decide ((n : Int) < 48) = false := decide_eq_false (by omega)))
              (first | (have f5 : decide ((57 : Int) < n) = true := decide_eq_true (by omega)) | (have f5 : decide ((57 : Int) < n) = false := decide_eq_false (by omega)))
              go_wp2_with fail
              go_ret
              exact ⟨by rw [HF.out]; rfl, rfl⟩
          · have ek' : ((k : Int) == 0) = false := by rw [ek]; simpa using hk0
            clear ek
            rcases hc with h | ⟨h, h', h''⟩ | ⟨h, h'⟩ | ⟨h, h'⟩ | h | h
            case neg.inr.inl => omega
            all_goals
              (first | (have f0 : decide ((97 : Int) ≤ n) = true := decide_eq_true (by omega)) | (have f0 : decide ((97 : Int) ≤ n) = false := decide_eq_false (by omega)))
              (first | (have f1 : decide ((n : Int) ≤ 122) = true := decide_eq_true (by omega)) | (have f1 : decide ((n : Int) ≤ 122) = false := decide_eq_false (by omega)))
              (first | (have f2 : decide ((65 : Int) ≤ n) = true := decide_eq_true (by omega)) | (have f2 : decide ((65 : Int) ≤ n) = false := decide_eq_false (by omega)))
              (first | (have f3 : decide ((n : Int) ≤ 90) = true := decide_eq_true (by omega)) | (have f3 : decide ((n : Int) ≤ 90) = false := decide_eq_false (by omega)))
              (first | (have f4 : decide ((n : Int) < 48) = true := decide_eq_true (by omega)) | (have f4 : decide ((n : Int) < 48) = false := decide_eq_false (by omega)))
              (first | (have f5 : decide ((57 : Int) < n) = true := decide_eq_true (by omega)) | (have f5 : decide ((57 : Int) < n) = false := decide_eq_false (by omega)))
              go_wp2_with fail
              go_ret
              exact ⟨by rw [HF.out]; rfl, rfl⟩
        · have HO := Lib.hid hok
          clear hok
          have ek : 0 < k → ((k : Int) == 0) = false := fun h => by rw [beq_eq_false_iff_ne]; omega
          have e95 : n ≠ 95 → ((n : Int) == 95) = false := fun h => by rw [beq_eq_false_iff_ne]; omega
          have hc' : (((n : Int) == 95) = true) ∨ (((n : Int) == 95) = false ∧ 97 ≤ n ∧ n ≤ 122) ∨ (((n : Int) == 95) = false ∧ 65 ≤ n ∧ n ≤ 90) ∨ (((n : Int) == 95) = false ∧ 48 ≤ n ∧ n ≤ 57 ∧ ((k : Int) == 0) = false) := by
            rcases hc with h | ⟨h, h'⟩ | ⟨h, h'⟩ | ⟨h, h', h''⟩
            · exact .inl (by rw [h]; rfl)
            · exact .inr (.inl ⟨e95 (by omega), h, h'⟩)
            · exact .inr (.inr (.inl ⟨e95 (by omega), h, h'⟩))
            · exact .inr (.inr (.inr ⟨e95 (by omega), h, h', ek h''⟩))
          clear hc ek e95
          rcases hc' with h | ⟨h0, h, h'⟩ | ⟨h0, h, h'⟩ | ⟨h0, h, h', h''⟩
          all_goals
            try (have h95 : n = 95 := by have h9 := beq_iff_eq.1 h; omega)
            (first | (have f0 : decide ((97 : Int) ≤ n) = true := decide_eq_true (by omega)) | (have f0 : decide ((97 : Int) ≤ n) = false := decide_eq_false (by omega)))
            (first | (have f1 : decide ((n : Int) ≤ 122) = true := decide_eq_true (by omega)) | (have f1 : decide ((n : Int) ≤ 122) = false := decide_eq_false (by omega)))
            (first | (have f2 : decide ((65 : Int) ≤ n) = true := decide_eq_true (by omega)) | (have f2 : decide ((65 : Int) ≤ n) = false := decide_eq_false (by omega)))
            (first | (have f3 : decide ((n : Int) ≤ 90) = true := decide_eq_true (by omega)) | (have f3 : decide ((n : Int) ≤ 90) = false := decide_eq_false (by omega)))
            (first | (have f4 : decide ((n : Int) < 48) = true := decide_eq_true (by omega)) | (have f4 : decide ((n : Int) < 48) = false := decide_eq_false (by omega)))
            (first | (have f5 : decide ((57 : Int) < n) = true := decide_eq_true (by omega)) | (have f5 : decide ((57 : Int) < n) = false := decide_eq_false (by omega)))
            try clear h95
            go_wp2_with fail
            go_round
            case rel =>
              refine ⟨k + 1, by omega, by go_num, fun j x hj hx => ?_⟩
              by_cases hjk : j = k
              · subst hjk
                rw [HK.out] at hx
                simp only [Option.some.injEq] at hx
                rw [← hx]; exact HO.out
              · exact HN.out j x (by omega) hx
            case measure => simp [intOf]; omega
    · by_cases he : bs s = []
      · have HB : Hid (nameB (bs s) = false) := by rw [he]; exact rfl
        have ht : (!s.toList.isEmpty) = false := by rw [bs_toList, he]; rfl
        clear he
        go_wp2_with fail
        go_ret
        exact ⟨by rw [HB.out]; rfl, rfl⟩
      · have hb : nameB (bs s) = true := nameB_of_all _ he fun j x hj => HN.out j x (by
          have := (List.getElem?_eq_some_iff.1 hj).1
          rw [bs_size] at this
          omega) hj
        have HB := Lib.hid hb
        have ht : (!s.toList.isEmpty) = true := by rw [bs_toList]; simpa using he
        clear he hb
        go_wp2_with fail
        go_ret
        exact ⟨by rw [HB.out]; rfl, rfl⟩
end Go.Proofs.YtgkhfcoieknjeaaDoor
