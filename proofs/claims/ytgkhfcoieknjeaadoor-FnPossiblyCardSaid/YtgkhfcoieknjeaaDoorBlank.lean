/-
  Proved: zzInSet, zzIndexAny and zzTrimLeft at the set of a space and a tab: whether a rune is one, the place of the first one, the text behind the first ones. Condition: the text is ASCII.
-/
import Derived.Test.YtgkhfcoieknjeaaDoorBase
import Derived.WalkSmall
namespace Go.Proofs.YtgkhfcoieknjeaaDoor
open Go.RowKit

def blankN (n : Nat) : Bool := decide (n = 32) || decide (n = 9)
def blankB (c : UInt8) : Bool := blankN c.toNat
def darkB (c : UInt8) : Bool := !blankB c

theorem tw_at (p : UInt8 → Bool) : ∀ (l : List UInt8) (k : Nat) (x : UInt8), l[k]? = some x → p x = false → (∀ (j : Nat) (y : UInt8), j < k → l[j]? = some y → p y = true) → l.takeWhile p = l.take k
  | [], k, x, h, _, _ => by simp at h
  | y :: t, 0, x, h, hx, _ => by
    simp at h
    subst h
    simp [List.takeWhile, hx]
  | y :: t, k + 1, x, h, hx, ha => by
    have h0 : p y = true := ha 0 y (by omega) rfl
    have ih := tw_at p t k x (by simpa using h) hx fun j z hj hz => ha (j + 1) z (by omega) (by simpa using hz)
    simp [List.takeWhile, h0, ih]

theorem tw_all (p : UInt8 → Bool) : ∀ (l : List UInt8), (∀ (j : Nat) (y : UInt8), l[j]? = some y → p y = true) → l.takeWhile p = l
  | [], _ => rfl
  | y :: t, ha => by
    have h0 : p y = true := ha 0 y rfl
    have ih := tw_all p t fun j z hz => ha (j + 1) z (by simpa using hz)
    simp [List.takeWhile, h0, ih]

theorem dw_at (p : UInt8 → Bool) : ∀ (l : List UInt8) (k : Nat) (x : UInt8), l[k]? = some x → p x = false → (∀ (j : Nat) (y : UInt8), j < k → l[j]? = some y → p y = true) → l.dropWhile p = l.drop k
  | [], k, x, h, _, _ => by simp at h
  | y :: t, 0, x, h, hx, _ => by
    simp at h
    subst h
    simp [List.dropWhile, hx]
  | y :: t, k + 1, x, h, hx, ha => by
    have h0 : p y = true := ha 0 y (by omega) rfl
    have ih := dw_at p t k x (by simpa using h) hx fun j z hj hz => ha (j + 1) z (by omega) (by simpa using hz)
    simp [List.dropWhile, h0, ih]

theorem dw_all (p : UInt8 → Bool) : ∀ (l : List UInt8), (∀ (j : Nat) (y : UInt8), l[j]? = some y → p y = true) → l.dropWhile p = []
  | [], _ => rfl
  | y :: t, ha => by
    have h0 : p y = true := ha 0 y rfl
    have ih := dw_all p t fun j z hz => ha (j + 1) z (by simpa using hz)
    simp [List.dropWhile, h0, ih]

/-- The place of the first blank; -1: none. -/
def blankIdx (l : List UInt8) : Int := if (l.takeWhile darkB).length < l.length then ((l.takeWhile darkB).length : Nat) else -1

theorem blankIdx_at (l : List UInt8) (k : Nat) (x : UInt8) (h : l[k]? = some x) (hx : blankB x = true) (ha : ∀ (j : Nat) (y : UInt8), j < k → l[j]? = some y → blankB y = false) : blankIdx l = k := by
  have e := tw_at darkB l k x h (by simp [darkB, hx]) fun j y hj hy => by simp [darkB, ha j y hj hy]
  have hk := (List.getElem?_eq_some_iff.1 h).1
  unfold blankIdx
  rw [e, List.length_take, Nat.min_eq_left (by omega), if_pos hk]

theorem blankIdx_none (l : List UInt8) (ha : ∀ (j : Nat) (y : UInt8), l[j]? = some y → blankB y = false) : blankIdx l = -1 := by
  have e := tw_all darkB l fun j y hy => by simp [darkB, ha j y hy]
  unfold blankIdx
  rw [e, if_neg (by omega)]

theorem below_iter' (w : World) (s : ByteArray) (pos : Nat) : Below w.heap.size w (w.iter s pos) := (Below.refl _ _).alloc (Nat.le_refl _) _

def blanks : ByteArray := ⟨#[32, 9]⟩

theorem next_b0 (w : World) (ty : TypeId) : (Instr.next (.pointer (some ⟨w.heap.size, 0, none⟩)) true ty).run Tryd.prog (w.iter ⟨#[32, 9]⟩ 0) = .ok (.tuple #[.bool true, .int .i64 0, .int .i32 32]) (w.iter ⟨#[32, 9]⟩ 1) := by
  have h : 0 < (⟨#[32, 9]⟩ : ByteArray).size := by decide
  rw [run_next_any w ⟨#[32, 9]⟩ 0 ty h, decode_ascii ⟨#[32, 9]⟩ 0 h (show (32 : UInt8).toNat < 128 by decide)]
  rfl
theorem next_b1 (w : World) (ty : TypeId) : (Instr.next (.pointer (some ⟨w.heap.size, 0, none⟩)) true ty).run Tryd.prog (w.iter ⟨#[32, 9]⟩ 1) = .ok (.tuple #[.bool true, .int .i64 1, .int .i32 9]) (w.iter ⟨#[32, 9]⟩ 2) := by
  have h : 1 < (⟨#[32, 9]⟩ : ByteArray).size := by decide
  rw [run_next_any w ⟨#[32, 9]⟩ 1 ty h, decode_ascii ⟨#[32, 9]⟩ 1 h (show (9 : UInt8).toNat < 128 by decide)]
  rfl
theorem next_b2 (w : World) (ty : TypeId) : (Instr.next (.pointer (some ⟨w.heap.size, 0, none⟩)) true ty).run Tryd.prog (w.iter ⟨#[32, 9]⟩ 2) = .ok (.tuple #[.bool false]) (w.iter ⟨#[32, 9]⟩ 2) := run_next_end w _ _ ty (by decide)

set_option maxHeartbeats 800000 in
theorem inSet_any (n : Nat) (w : World) :
    Calls Tryd.prog 70 #[.int .i32 n, .string ⟨#[32, 9]⟩] w fun e w' => e = .returned (.bool (blankN n)) ∧ Below w.heap.size w w' := by
  go_enter Tryd.func70, Tryd.ntmps70
  go_wp2_with fail
  go_loopw [] (fun wr => ∃ k : Nat, k ≤ 2 ∧ wr = w.iter ⟨#[32, 9]⟩ k ∧ Hid ((0 < k → n ≠ 32) ∧ (1 < k → n ≠ 9))) (fun wr => 2 - wr.iterPos w.heap.size)
  case atStart => exact ⟨0, by omega, rfl, ⟨by omega, by omega⟩⟩
  case round =>
    obtain ⟨k, hk, rfl, HN⟩ := hrel
    rcases (by omega : k = 0 ∨ k = 1 ∨ k = 2) with rfl | rfl | rfl
    · have hnx := fun ty => next_b0 w ty
      by_cases h : n = 32
      · have e1 : ((n : Int) == 32) = true := by rw [h]; rfl
        have HB : Hid (blankN n = true) := by show _ = _; simp [blankN, h]
        clear h
        go_wp2_with fail
        go_ret
        exact ⟨by rw [HB.out]; rfl, below_iter' w _ _⟩
      · have e1 : ((n : Int) == 32) = false := by rw [beq_eq_false_iff_ne]; omega
        have HH := Lib.hid h
        clear h
        go_wp2_with fail
        go_roundw
        case rel => exact ⟨1, by omega, rfl, ⟨fun _ => HH.out, fun h => by omega⟩⟩
        case measure => simp [World.iterPos, World.iter_heap]
    · have hnx := fun ty => next_b1 w ty
      by_cases h : n = 9
      · have e1 : ((n : Int) == 9) = true := by rw [h]; rfl
        have HB : Hid (blankN n = true) := by show _ = _; simp [blankN, h]
        clear h
        go_wp2_with fail
        go_ret
        exact ⟨by rw [HB.out]; rfl, below_iter' w _ _⟩
      · have e1 : ((n : Int) == 9) = false := by rw [beq_eq_false_iff_ne]; omega
        have HH := Lib.hid h
        clear h
        go_wp2_with fail
        go_roundw
        case rel => exact ⟨2, by omega, rfl, ⟨fun _ => HN.out.1 (by omega), fun _ => HH.out⟩⟩
        case measure => simp [World.iterPos, World.iter_heap]
    · have hnx := fun ty => next_b2 w ty
      have HB : Hid (blankN n = false) := by
        show _ = _
        have h1 := HN.out.1 (by omega)
        have h2 := HN.out.2 (by omega)
        simp [blankN, h1, h2]
      go_wp2_with fail
      go_ret
      exact ⟨by rw [HB.out]; rfl, below_iter' w _ _⟩

set_option maxRecDepth 100000 in
set_option maxHeartbeats 1600000 in
theorem trimLeft_any (s : ByteArray) (w : World) (_hs : s.size ≤ 9223372036854775807) (hasc : ∀ b ∈ bs s, b.toNat < 128) :
    Calls Tryd.prog 59 #[.string s, .string ⟨#[32, 9]⟩] w fun e w' => e = .returned (.string ⟨((bs s).dropWhile blankB).toArray⟩) ∧ Below w.heap.size w w' := by
  have HA := Lib.hid hasc
  clear hasc
  go_enter Tryd.func59, Tryd.ntmps59
  go_wp2_with fail
  go_loopw [] (fun wr => ∃ k : Nat, k ≤ s.size ∧ wr.heap[w.heap.size]? = some (.stringIter s k) ∧ Below w.heap.size w wr ∧ Hid (∀ j x, j < k → (bs s)[j]? = some x → blankB x = true)) (fun wr => s.size - wr.iterPos w.heap.size)
  case atStart => exact ⟨0, Nat.zero_le _, World.iter_heap _ _ _, below_iter' _ _ _, fun j x hj => by omega⟩
  case round =>
    obtain ⟨k, hk, hit, hb, HN⟩ := hrel
    have HB := Lib.hid hb
    have HI := Lib.hid hit
    clear hb hit
    by_cases hlt : k < s.size
    · have hbk := bs_at s k hlt
      have h128 := HA.out _ (List.mem_of_getElem? hbk)
      obtain ⟨c, hc⟩ : ∃ c : UInt8, c = s[k]'hlt := ⟨_, rfl⟩
      obtain ⟨n, hn⟩ : ∃ n : Nat, n = c.toNat := ⟨_, rfl⟩
      have hnx : ∀ ty, (Instr.next (.pointer (some ⟨w.heap.size, 0, none⟩)) true ty).run Tryd.prog wr = .ok (.tuple #[.bool true, .int .i64 k, .int .i32 n]) (wr.iterAt w.heap.size s (k + 1)) := fun ty => by
        rw [Lib.run_next_ascii_at wr _ s k ty HI.out hlt h128, ← hc, ← hn]
      rw [← hc] at hbk
      have HK := Lib.hid hbk
      have HC : Hid (blankB c = blankN n) := by show _ = _; rw [hn]; rfl
      clear hbk hn hc h128
      have hb2 : Below w.heap.size w (wr.iterAt w.heap.size s (k + 1)) := Lib.below_iterAt HB.out (Nat.le_refl _) s _
      have hi2 := Lib.iterAt_heap wr w.heap.size s k (k + 1) HI.out
      have HB2 := Lib.hid hb2
      have HI2 := Lib.hid hi2
      clear hb2 hi2
      cases hbl : blankN n
      · have HR : Hid ((bs s).dropWhile blankB = (bs s).drop k) := dw_at blankB _ k c HK.out (by rw [HC.out, hbl]) HN.out
        go_wp2_with (go_at_call 70; refine (inSet_any n _).mono ?_; rintro e w' ⟨rfl, hb3⟩; rw [hbl]; have HB3 := Lib.hid hb3; clear hb3)
        go_ret
        exact ⟨congrArg (fun x => Ending.returned (Value.string x)) (bs_inj (by rw [HR.out, bs_extract, List.take_of_length_le (by rw [List.length_drop, bs_size]; omega)])), HB2.out.trans (HB3.out.mono (by rw [Lib.iterAt_size]; exact HB.out.size))⟩
      · go_wp2_with (go_at_call 70; refine (inSet_any n _).mono ?_; rintro e w' ⟨rfl, hb3⟩; rw [hbl]; have HB3 := Lib.hid hb3; clear hb3)
        have hl : w.heap.size < (wr.iterAt w.heap.size s (k + 1)).heap.size := (Array.getElem?_eq_some_iff.1 HI2.out).1
        go_roundw
        case rel =>
          refine ⟨k + 1, by omega, (HB3.out.block _ hl).trans HI2.out, HB2.out.trans (HB3.out.mono (by omega)), ?_⟩
          intro j x hj hx
          by_cases hjk : j = k
          · subst hjk
            rw [HK.out] at hx
            simp only [Option.some.injEq] at hx
            rw [← hx, HC.out, hbl]
          · exact HN.out j x (by omega) hx
        case measure =>
          rw [iterPos_of HI.out, iterPos_of ((HB3.out.block _ hl).trans HI2.out)]
          omega
    · have hnx : ∀ ty, (Instr.next (.pointer (some ⟨w.heap.size, 0, none⟩)) true ty).run Tryd.prog wr = .ok (.tuple #[.bool false]) wr := fun ty => Lib.run_next_end_at wr _ s k ty HI.out hlt
      have HR : Hid ((bs s).dropWhile blankB = []) := dw_all blankB _ fun j x hj => HN.out j x (by
          have := (List.getElem?_eq_some_iff.1 hj).1
          rw [bs_size] at this
          omega) hj
      go_wp2_with fail
      go_ret
      exact ⟨by rw [HR.out]; rfl, HB.out⟩

set_option maxRecDepth 100000 in
set_option maxHeartbeats 1600000 in
theorem indexAny_any (s : ByteArray) (w : World) (_hs : s.size ≤ 9223372036854775807) (hasc : ∀ b ∈ bs s, b.toNat < 128) :
    Calls Tryd.prog 58 #[.string s, .string ⟨#[32, 9]⟩] w fun e w' => e = .returned (.int .i64 (blankIdx (bs s))) ∧ Below w.heap.size w w' := by
  have HA := Lib.hid hasc
  clear hasc
  go_enter Tryd.func58, Tryd.ntmps58
  go_wp2_with fail
  go_loopw [] (fun wr => ∃ k : Nat, k ≤ s.size ∧ wr.heap[w.heap.size]? = some (.stringIter s k) ∧ Below w.heap.size w wr ∧ Hid (∀ (j : Nat) (x : UInt8), j < k → (bs s)[j]? = some x → blankB x = false)) (fun wr => s.size - wr.iterPos w.heap.size)
  case atStart => exact ⟨0, Nat.zero_le _, World.iter_heap _ _ _, below_iter' _ _ _, fun j x hj => by omega⟩
  case round =>
    obtain ⟨k, hk, hit, hb, HN⟩ := hrel
    have HB := Lib.hid hb
    have HI := Lib.hid hit
    clear hb hit
    by_cases hlt : k < s.size
    · have hbk := bs_at s k hlt
      have h128 := HA.out _ (List.mem_of_getElem? hbk)
      obtain ⟨c, hc⟩ : ∃ c : UInt8, c = s[k]'hlt := ⟨_, rfl⟩
      obtain ⟨n, hn⟩ : ∃ n : Nat, n = c.toNat := ⟨_, rfl⟩
      have hb2 : Below w.heap.size w (wr.iterAt w.heap.size s (k + 1)) := Lib.below_iterAt HB.out (Nat.le_refl _) s _
      have hi2 := Lib.iterAt_heap wr w.heap.size s k (k + 1) HI.out
      obtain ⟨wo, ho⟩ : ∃ wo : World, wo = wr.iterAt w.heap.size s (k + 1) := ⟨_, rfl⟩
      have hnx : ∀ ty, (Instr.next (.pointer (some ⟨w.heap.size, 0, none⟩)) true ty).run Tryd.prog wr = .ok (.tuple #[.bool true, .int .i64 k, .int .i32 n]) wo := fun ty => by
        rw [ho, Lib.run_next_ascii_at wr _ s k ty HI.out hlt h128, ← hc, ← hn]
      rw [← hc] at hbk
      rw [← ho] at hb2 hi2
      have HK := Lib.hid hbk
      have HC : Hid (blankB c = blankN n) := by show _ = _; rw [hn]; rfl
      have HIP : Hid (wr.iterPos w.heap.size = k) := iterPos_of HI.out
      have HB2 := Lib.hid hb2
      have HI2 := Lib.hid hi2
      clear hbk hn hc h128 hb2 hi2 ho
      cases hbl : blankN n
      · have HD : Hid (n ≠ 32 ∧ n ≠ 9) := by
          show _ ∧ _
          unfold blankN at hbl
          simpa using hbl
        have HBL := Lib.hid hbl
        clear hbl
        have e32 : ((n : Int) == 32) = false := by rw [beq_eq_false_iff_ne]; have := HD.out.1; omega
        have e9 : ((n : Int) == 9) = false := by rw [beq_eq_false_iff_ne]; have := HD.out.2; omega
        go_wp2_with fail
        go_loopw [] (fun wq => ∃ q : Nat, q ≤ 2 ∧ wq = wo.iter ⟨#[32, 9]⟩ q) (fun wq => 2 - wq.iterPos wo.heap.size)
        case atStart => exact ⟨0, by omega, rfl⟩
        case round =>
          obtain ⟨q, hq, rfl⟩ := hrel
          rcases (by omega : q = 0 ∨ q = 1 ∨ q = 2) with rfl | rfl | rfl
          · have hnx2 := fun ty => next_b0 wo ty
            go_wp2_with fail
            go_roundw
            case rel => exact ⟨1, by omega, rfl⟩
            case measure => simp [World.iterPos, World.iter_heap]
          · have hnx2 := fun ty => next_b1 wo ty
            go_wp2_with fail
            go_roundw
            case rel => exact ⟨2, by omega, rfl⟩
            case measure => simp [World.iterPos, World.iter_heap]
          · have hnx2 := fun ty => next_b2 wo ty
            have hl : w.heap.size < wo.heap.size := (Array.getElem?_eq_some_iff.1 HI2.out).1
            have HI3 : Hid ((wo.iter ⟨#[32, 9]⟩ 2).heap[w.heap.size]? = some (.stringIter s (k + 1))) := ((below_iter' wo _ 2).block _ hl).trans HI2.out
            go_wp2_with fail
            go_roundw
            case rel =>
              refine ⟨k + 1, by omega, HI3.out, HB2.out.trans ((below_iter' wo _ 2).mono (by omega)), ?_⟩
              intro j x hj hx
              by_cases hjk : j = k
              · subst hjk
                rw [HK.out] at hx
                simp only [Option.some.injEq] at hx
                rw [← hx, HC.out, HBL.out]
              · exact HN.out j x (by omega) hx
            case measure =>
              rw [HIP.out, iterPos_of HI3.out]
              omega
      · have HR : Hid (blankIdx (bs s) = (k : Int)) := blankIdx_at _ k c HK.out (by rw [HC.out, hbl]) HN.out
        have hl : w.heap.size < wo.heap.size := (Array.getElem?_eq_some_iff.1 HI2.out).1
        have HD : Hid (n = 32 ∨ n = 9) := by
          show _ ∨ _
          unfold blankN at hbl
          simpa using hbl
        clear hbl
        go_wp2_with fail
        go_loopw [] (fun wq => ∃ q : Nat, q ≤ 1 ∧ wq = wo.iter ⟨#[32, 9]⟩ q ∧ Hid (0 < q → n ≠ 32)) (fun wq => 2 - wq.iterPos wo.heap.size)
        case atStart => exact ⟨0, by omega, rfl, fun h => by omega⟩
        case round =>
          obtain ⟨q, hq, rfl, HQ⟩ := hrel
          rcases (by omega : q = 0 ∨ q = 1) with rfl | rfl
          · have hnx2 := fun ty => next_b0 wo ty
            by_cases h : n = 32
            · have e1 : ((n : Int) == 32) = true := by rw [h]; rfl
              clear h
              go_wp2_with fail
              go_ret
              exact ⟨by rw [HR.out]; rfl, HB2.out.trans ((below_iter' wo _ _).mono (by omega))⟩
            · have e1 : ((n : Int) == 32) = false := by rw [beq_eq_false_iff_ne]; omega
              have HH := Lib.hid h
              clear h
              go_wp2_with fail
              go_roundw
              case rel => exact ⟨1, by omega, rfl, fun _ => HH.out⟩
              case measure => simp [World.iterPos, World.iter_heap]
          · have hnx2 := fun ty => next_b1 wo ty
            have e1 : ((n : Int) == 9) = true := by
              have h9 : n = 9 := by
                rcases HD.out with h | h
                · exact absurd h (HQ.out (by omega))
                · exact h
              rw [h9]; rfl
            go_wp2_with fail
            go_ret
            exact ⟨by rw [HR.out]; rfl, HB2.out.trans ((below_iter' wo _ _).mono (by omega))⟩
    · have hnx : ∀ ty, (Instr.next (.pointer (some ⟨w.heap.size, 0, none⟩)) true ty).run Tryd.prog wr = .ok (.tuple #[.bool false]) wr := fun ty => Lib.run_next_end_at wr _ s k ty HI.out hlt
      have HR : Hid (blankIdx (bs s) = -1) := blankIdx_none _ fun j x hj => HN.out j x (by
          have := (List.getElem?_eq_some_iff.1 hj).1
          rw [bs_size] at this
          omega) hj
      go_wp2_with fail
      go_ret
      exact ⟨by rw [HR.out]; rfl, HB.out⟩
end Go.Proofs.YtgkhfcoieknjeaaDoor
