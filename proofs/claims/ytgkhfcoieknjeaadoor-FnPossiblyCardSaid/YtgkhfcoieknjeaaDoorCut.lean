/-
  Proved: spec.cut at the slash returns a slice of the pieces between slashes, in new memory. Condition: the text has at most 2^31 - 1 bytes.
-/
import Derived.Test.YtgkhfcoieknjeaaDoorRows
import Derived.Test.YtgkhfcoieknjeaaDoorPathLaw
import Derived.Test.YtgkhfcoieknjeaaDoorBase
import Derived.WalkKit
import Derived.WalkSpells
import Derived.WalkLawsBesides
namespace Go.Proofs.YtgkhfcoieknjeaaDoor
open Go.RowKit

/-! ### The pieces, letter by letter -/

def cutStep (st : List (List UInt8) × List UInt8) (c : UInt8) : List (List UInt8) × List UInt8 := if c = 47 then (st.1 ++ [st.2], []) else (st.1, st.2 ++ [c])
def cutSt (l : List UInt8) : List (List UInt8) × List UInt8 := l.foldl cutStep ([], [])

theorem cutSt_snoc (l : List UInt8) (c : UInt8) : cutSt (l ++ [c]) = cutStep (cutSt l) c := by simp [cutSt, List.foldl_append]

theorem cutSt_els_aux : ∀ (l : List UInt8) (d : List (List UInt8)) (cur : List UInt8),
    (l.foldl cutStep (d, cur)).1 ++ [(l.foldl cutStep (d, cur)).2] = d ++ (match Go.Lib.Pa.els l with | e :: r => (cur ++ e) :: r | [] => [])
  | [], d, cur => by simp [Go.Lib.Pa.els]
  | c :: t, d, cur => by
    simp only [List.foldl_cons, cutStep]
    by_cases hc : c = 47
    · subst hc
      simp only [if_true]
      rw [cutSt_els_aux t]
      have := els_ne t
      cases he : Go.Lib.Pa.els t with
      | nil => exact (this he).elim
      | cons e r => simp [Go.Lib.Pa.els, he]
    · simp only [hc, if_false]
      rw [cutSt_els_aux t]
      have := els_ne t
      cases he : Go.Lib.Pa.els t with
      | nil => exact (this he).elim
      | cons e r => simp [Go.Lib.Pa.els, he, hc]

theorem cutSt_els (l : List UInt8) : Go.Lib.Pa.els l = (cutSt l).1 ++ [(cutSt l).2] := by
  have := cutSt_els_aux l [] []
  have hn := els_ne l
  unfold cutSt
  rw [this]
  cases he : Go.Lib.Pa.els l with
  | nil => exact (hn he).elim
  | cons e r => simp

def CutInv (p : List UInt8) (st : List (List UInt8) × List UInt8) : Prop :=
  st.2.length ≤ p.length ∧ st.2 = p.drop (p.length - st.2.length) ∧ st.1.length ≤ p.length

theorem cutInv_step (p : List UInt8) (st : List (List UInt8) × List UInt8) (c : UInt8) (h : CutInv p st) : CutInv (p ++ [c]) (cutStep st c) := by
  obtain ⟨h1, h2, h3⟩ := h
  unfold cutStep CutInv
  by_cases hc : c = 47
  · simp only [hc, if_true, List.length_nil, List.length_append, List.length_singleton, Nat.sub_zero]
    refine ⟨by omega, ?_, by omega⟩
    rw [List.drop_of_length_le (by simp)]
  · simp only [hc, if_false, List.length_append, List.length_singleton]
    refine ⟨by omega, ?_, by omega⟩
    rw [show p.length + 1 - (st.2.length + 1) = p.length - st.2.length from by omega, List.drop_append_of_le_length (by omega), ← h2]

theorem cutInv_fold : ∀ (t p : List UInt8) (st : List (List UInt8) × List UInt8), CutInv p st → CutInv (p ++ t) (t.foldl cutStep st)
  | [], p, st, h => by simpa using h
  | c :: t, p, st, h => by
    have := cutInv_fold t (p ++ [c]) (cutStep st c) (cutInv_step p st c h)
    simpa using this

theorem cutSt_suffix (l : List UInt8) : CutInv l (cutSt l) := by
  have := cutInv_fold l [] ([], []) ⟨by simp, by simp, by simp⟩
  simpa [cutSt] using this

/-- The pieces that are whole after k letters, and the running one. -/
def doneP (s : ByteArray) (k : Nat) : List (List UInt8) := (cutSt ((bs s).take k)).1
def curP (s : ByteArray) (k : Nat) : List UInt8 := (cutSt ((bs s).take k)).2

theorem take_snoc (s : ByteArray) (k : Nat) (h : k < s.size) : (bs s).take (k + 1) = (bs s).take k ++ [s[k]] := by
  rw [List.take_add_one, bs_at s k h]; rfl

theorem cut_hit (s : ByteArray) (k : Nat) (h : k < s.size) (hc : s[k] = 47) : doneP s (k + 1) = doneP s k ++ [curP s k] ∧ curP s (k + 1) = [] := by
  unfold doneP curP
  rw [take_snoc s k h, cutSt_snoc, cutStep, if_pos hc]
  exact ⟨rfl, rfl⟩

theorem cut_miss (s : ByteArray) (k : Nat) (h : k < s.size) (hc : s[k] ≠ 47) : doneP s (k + 1) = doneP s k ∧ curP s (k + 1) = curP s k ++ [s[k]] := by
  unfold doneP curP
  rw [take_snoc s k h, cutSt_snoc, cutStep, if_neg hc]
  exact ⟨rfl, rfl⟩

theorem cut_len (s : ByteArray) (k : Nat) (h : k ≤ s.size) : (curP s k).length ≤ k ∧ (doneP s k).length ≤ k ∧ curP s k = bs (s.extract (k - (curP s k).length) k) := by
  have := cutSt_suffix ((bs s).take k)
  unfold CutInv at this
  rw [List.length_take, bs_size, Nat.min_eq_left h] at this
  obtain ⟨h1, h2, h3⟩ := this
  refine ⟨h1, h3, ?_⟩
  rw [bs_extract]
  unfold curP
  rw [List.drop_take] at h2
  exact h2

theorem cut_end (s : ByteArray) : Go.Lib.Pa.els (bs s) = doneP s s.size ++ [curP s s.size] := by
  unfold doneP curP
  rw [List.take_of_length_le (by rw [bs_size]; omega)]
  exact cutSt_els _

end Go.Proofs.YtgkhfcoieknjeaaDoor
