/-
  Proved: spec.cut at the slash returns a slice of the pieces between slashes, in new memory. Condition: the text has at most 2^31 - 1 bytes.
-/
import Derived.Test.YtodmlommidifjaaDoorRows
import Derived.Test.YtodmlommidifjaaDoorPathLaw
import Derived.Test.YtodmlommidifjaaDoorBytes
import Derived.WalkKit
import Derived.WalkSpells
import Derived.WalkLawsBesides
namespace Go.Proofs.YtodmlommidifjaaDoor
open Go.RowKit

/-! ### The pieces, letter by letter -/

def cutStep (st : List (List UInt8) × List UInt8) (c : UInt8) : List (List UInt8) × List UInt8 := if c = 47 then (st.1 ++ [st.2], []) else (st.1, st.2 ++ [c])
def cutSt (l : List UInt8) : List (List UInt8) × List UInt8 := l.foldl cutStep ([], [])

theorem cutSt_snoc (l : List UInt8) (c : UInt8) : cutSt (l ++ [c]) = cutStep (cutSt l) c := by simp [cutSt, List.foldl_append]

theorem cutSt_els_aux : ∀ (l : List UInt8) (d : List (List UInt8)) (cur : List UInt8),
    (l.foldl cutStep (d, cur)).1 ++ [(l.foldl cutStep (d, cur)).2] = d ++ (match Go.Lib.Pa.els l with | e :: r => (cur ++ e) :: r | [] => [])
  | [], d, cur => by simp [Go.Lib.Pa.els]
  | c :: t, d, cur => by
    simp only [List.foldl_cons, cutStep]
    by_cases hc : c = 47
    · subst hc
      simp only [if_true]
      rw [cutSt_els_aux t]
      have := els_ne t
      cases he : Go.Lib.Pa.els t with
      | nil => exact (this he).elim
      | cons e r => simp [Go.Lib.Pa.els, he]
    · simp only [hc, if_false]
      rw [cutSt_els_aux t]
      have := els_ne t
      cases he : Go.Lib.Pa.els t with
      | nil => exact (this he).elim
      | cons e r => simp [Go.Lib.Pa.els, he, hc]

theorem cutSt_els (l : List UInt8) : Go.Lib.Pa.els l = (cutSt l).1 ++ [(cutSt l).2] := by
  have := cutSt_els_aux l [] []
  have hn := els_ne l
  unfold cutSt
  rw [this]
  cases he : Go.Lib.Pa.els l with
  | nil => exact (hn he).elim
  | cons e r => simp

def CutInv (p : List UInt8) (st : List (List UInt8) × List UInt8) : Prop :=
  st.2.length ≤ p.length ∧ st.2 = p.drop (p.length - st.2.length) ∧ st.1.length ≤ p.length

theorem cutInv_step (p : List UInt8) (st : List (List UInt8) × List UInt8) (c : UInt8) (h : CutInv p st) : CutInv (p ++ [c]) (cutStep st c) := by
  obtain ⟨h1, h2, h3⟩ := h
  unfold cutStep CutInv
  by_cases hc : c = 47
  · simp only [hc, if_true, List.length_nil, List.length_append, List.length_singleton, Nat.sub_zero]
    refine ⟨by omega, ?_, by omega⟩
    rw [List.drop_of_length_le (by simp)]
  · simp only [hc, if_false, List.length_append, List.length_singleton]
    refine ⟨by omega, ?_, by omega⟩
    rw [show p.length + 1 - (st.2.length + 1) = p.length - st.2.length from by omega, List.drop_append_of_le_length (by omega), ← h2]

theorem cutInv_fold : ∀ (t p : List UInt8) (st : List (List UInt8) × List UInt8), CutInv p st → CutInv (p ++ t) (t.foldl cutStep st)
  | [], p, st, h => by simpa using h
  | c :: t, p, st, h => by
    have := cutInv_fold t (p ++ [c]) (cutStep st c) (cutInv_step p st c h)
    simpa using this

theorem cutSt_suffix (l : List UInt8) : CutInv l (cutSt l) := by
  have := cutInv_fold l [] ([], []) ⟨by simp, by simp, by simp⟩
  simpa [cutSt] using this

/-- The pieces that are whole after k letters, and the running one. -/
def doneP (s : ByteArray) (k : Nat) : List (List UInt8) := (cutSt ((bs s).take k)).1
def curP (s : ByteArray) (k : Nat) : List UInt8 := (cutSt ((bs s).take k)).2

theorem take_snoc (s : ByteArray) (k : Nat) (h : k < s.size) : (bs s).take (k + 1) = (bs s).take k ++ [s[k]] := by
  rw [List.take_add_one, bs_at s k h]; rfl

theorem cut_hit (s : ByteArray) (k : Nat) (h : k < s.size) (hc : s[k] = 47) : doneP s (k + 1) = doneP s k ++ [curP s k] ∧ curP s (k + 1) = [] := by
  unfold doneP curP
  rw [take_snoc s k h, cutSt_snoc, cutStep, if_pos hc]
  exact ⟨rfl, rfl⟩

theorem cut_miss (s : ByteArray) (k : Nat) (h : k < s.size) (hc : s[k] ≠ 47) : doneP s (k + 1) = doneP s k ∧ curP s (k + 1) = curP s k ++ [s[k]] := by
  unfold doneP curP
  rw [take_snoc s k h, cutSt_snoc, cutStep, if_neg hc]
  exact ⟨rfl, rfl⟩

theorem cut_len (s : ByteArray) (k : Nat) (h : k ≤ s.size) : (curP s k).length ≤ k ∧ (doneP s k).length ≤ k ∧ curP s k = bs (s.extract (k - (curP s k).length) k) := by
  have := cutSt_suffix ((bs s).take k)
  unfold CutInv at this
  rw [List.length_take, bs_size, Nat.min_eq_left h] at this
  obtain ⟨h1, h2, h3⟩ := this
  refine ⟨h1, h3, ?_⟩
  rw [bs_extract]
  unfold curP
  rw [List.drop_take] at h2
  exact h2

theorem cut_end (s : ByteArray) : Go.Lib.Pa.els (bs s) = doneP s s.size ++ [curP s s.size] := by
  unfold doneP curP
  rw [List.take_of_length_le (by rw [bs_size]; omega)]
  exact cutSt_els _

set_option maxRecDepth 100000 in
set_option maxHeartbeats 400000 in
theorem cut_any (s : ByteArray) (w : World) (hl : s.size ≤ 2147483647) :
    Calls Tryd.prog 23 #[.string s, .int .u8 47] w fun e w' => ∃ v, e = .returned v ∧ w'.ownsRow w.heap.size 9 1 v (Go.Lib.Pa.els (bs s)).length ((Go.Lib.Pa.els (bs s)).map strV) ∧ Below w.heap.size w w' := by
  obtain ⟨i0, hi, hz0, hz1, hz2⟩ := info_parts info_string
  go_enter Tryd.func23, Tryd.ntmps23
  go_wp2_with fail
  go_loopw [5, 6, 11] (fun out from_ i wr => ∃ k : Nat, k ≤ s.size ∧ i = .int .i64 k ∧ from_ = .int .i64 ((k - (curP s k).length : Nat) : Int) ∧
      wr.ownsRow w.heap.size 9 1 out (doneP s k).length ((doneP s k).map strV) ∧ Below w.heap.size w wr)
    (fun _ _ i _ => s.size - (intOf i).toNat)
  case atStart => exact ⟨0, Nat.zero_le _, rfl, rfl, by simpa [doneP, cutSt] using World.ownsRow_made w #[] 0 (Nat.le_refl _) (by decide) (by decide), (Below.refl _ _).alloc (Nat.le_refl _) _⟩
  case round =>
    obtain ⟨k, hk, rfl, rfl, hown, hb⟩ := hrel
    obtain ⟨hc1, hc2, hc3⟩ := cut_len s k hk
    have HP : Hid (curP s k = bs (s.extract (k - (curP s k).length) k)) := hc3
    clear hc3
    go_wp2_with (at_builtin; refine wpList_append_own _ rfl _ _ 23 rfl w.heap.size 9 i0 (.string ⟨#[]⟩) 1 16 Tryd.underlying23 hi hz0 hz1 hz2 rfl (by decide) _ _ _ rfl (hown.alloc _) ⟨wr.heap.size, 0, none⟩ 1 1 [_] rfl rfl (cell_one_new _ _ _) (by simp [Value.oneCell']) (by unfold maxLen; omega) (by omega) (by have := hb.size; simp; omega) ?_; intro v' w1 hown' hgrow _)
    · have hlt : k < s.size := by assumption
      have hc : s[k] = 47 := slash_yes (by assumption)
      have hb' : Below w.heap.size w w1 := (hb.alloc hb.size _).grown hgrow (by have := hb.size; simp; omega) fun g hg => (hown.lt g hg).1
      obtain ⟨e1, e2⟩ := cut_hit s k hlt hc
      have hs := strV_bs (s.extract (k - (curP s k).length) k)
      rw [← HP.out] at hs
      clear hgrow hown hb
      go_roundw
      case rel => exact ⟨k + 1, by omega, by go_num, by rw [e2]; go_num, by rw [e1]; simpa [hs] using hown', hb'⟩
      case measure => simp [intOf]; omega
    · have hlt : k < s.size := by assumption
      have hc : s[k] ≠ 47 := slash_no (by assumption)
      obtain ⟨e1, e2⟩ := cut_miss s k hlt hc
      go_roundw
      case rel => exact ⟨k + 1, by omega, by go_num, by rw [e2, List.length_append, List.length_singleton, Nat.add_sub_add_right], by rw [e1]; exact hown, hb⟩
      case measure => simp [intOf]; omega
    · have hge : ¬ k < s.size := by assumption
      have he : k = s.size := by omega
      have hb' : Below w.heap.size w w1 := (hb.alloc hb.size _).grown hgrow (by have := hb.size; simp; omega) fun g hg => (hown.lt g hg).1
      have hs := strV_bs (s.extract (k - (curP s k).length) k)
      rw [← HP.out] at hs
      subst he
      go_ret
      exact ⟨v', rfl, by rw [cut_end]; simpa [hs] using hown', hb'⟩
end Go.Proofs.YtodmlommidifjaaDoor
