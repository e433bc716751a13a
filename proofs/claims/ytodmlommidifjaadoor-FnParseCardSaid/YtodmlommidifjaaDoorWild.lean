/-
  Proved: spec.wildcard reads a piece with a brace as the mirror of parsePattern does ('pieceL'). Condition: the piece is not empty, holds a brace, and has at most 2^31 - 1 bytes.
-/
import Derived.Test.YtodmlommidifjaaDoorReadLaw
import Derived.Test.YtodmlommidifjaaDoorName
import Derived.Deep.DeepCutAuto
import Derived.Deep.CutBlock
namespace Go.Proofs.YtodmlommidifjaaDoor
open Go.RowKit

/-- How wildcard ends. -/
def WildEnd (x : List UInt8) (last : Bool) (w : World) (e : Ending) (w' : World) : Prop :=
  ∃ (g : Seg) (ok : Bool), e = .returned (.tuple #[.agg #[.string ⟨g.s.toArray⟩, .bool g.wild, .bool g.multi], .bool ok]) ∧ (ok = true → pieceL x last = some g) ∧ (ok = false → pieceL x last = none) ∧ Below w.heap.size w w'

theorem wbs_head (x : ByteArray) (h : 0 < x.size) : (bs x).head? = some (x[0]'h) := by
  rw [List.head?_eq_getElem?, bs_at x 0 h]

theorem wbs_last (x : ByteArray) (n : Nat) (h : x.size = n + 1) : (bs x).getLast? = some (x[n]'(by omega)) := by
  rw [List.getLast?_eq_getElem?, bs_size, show x.size - 1 = n by omega, bs_at x n (by omega)]

theorem brace_bs (x : ByteArray) (n : Nat) (h : x.size = n + 1) : bs (x.extract 1 n) = braceName (bs x) := by
  rw [bs_extract]
  unfold braceName
  rw [List.dropLast_eq_take, List.length_tail, bs_size, h]
  cases bs x with
  | nil => simp
  | cons a t => simp

theorem byte_eq123 {b : UInt8} (h : (b.toNat : Int) = 123) : b = 123 := UInt8.toNat.inj (by show _ = 123; omega)
theorem byte_eq125 {b : UInt8} (h : (b.toNat : Int) = 125) : b = 125 := UInt8.toNat.inj (by show _ = 125; omega)

set_option maxRecDepth 100000 in
set_option maxHeartbeats 3200000 in
theorem wildcard_any (x : ByteArray) (last : Bool) (w : World) (hx : bs x ≠ []) (hb : (bs x).contains 123 = true) (hz : x.size ≤ 2147483647) :
    Calls Tryd.prog 25 #[.string x, .bool last] w (WildEnd (bs x) last w) := by
  obtain ⟨n, hn⟩ : ∃ n, x.size = n + 1 := ⟨x.size - 1, by have := List.length_pos_iff.2 hx; rw [bs_size] at this; omega⟩
  have HP1 : Hid ((bs x).head? ≠ some 123 ∨ (bs x).getLast? ≠ some 125 → pieceL (bs x) last = none) := by
    intro h
    unfold pieceL
    rw [if_neg fun e => hx e.1, if_neg (by rw [hb]; simp), if_pos h]
  have HP2 : Hid ((bs x).head? = some 123 → (bs x).getLast? = some 125 → pieceL (bs x) last = if braceName (bs x) = [36] then (if last then some ⟨[47], false, false⟩ else none)
      else if (dotsB (braceName (bs x)) && !last) || !nameB (undot (braceName (bs x))) then none else some ⟨undot (braceName (bs x)), true, dotsB (braceName (bs x))⟩) := by
    intro h1 h2
    unfold pieceL
    rw [if_neg fun e => hx e.1, if_neg (by rw [hb]; simp), if_neg (by rw [h1, h2]; simp)]
  have HH := Lib.hid (wbs_head x (by omega))
  have HL := Lib.hid (wbs_last x n hn)
  have HBR := Lib.hid (brace_bs x n hn)
  have i0 : (0 : Int) < (x.size : Int) := by omega
  have i1 : (0 : Int) ≤ (x.size : Int) - 1 := by omega
  have i2 : (x.size : Int) - 1 < (x.size : Int) := by omega
  clear hx hb
  go_enter Tryd.func25, Tryd.ntmps25
  go_upto_region 1 with fail
  go_cut [18] (fun c wx => wx = w.alloc (.cells #[.string ⟨#[]⟩, .bool false, .bool false] 46) ∧ ∃ q : Bool, c = .bool q ∧ Hid (q = false → (bs x).head? = some 123 ∧ (bs x).getLast? = some 125) ∧ Hid (q = true → (bs x).head? ≠ some 123 ∨ (bs x).getLast? ≠ some 125))
  case first =>
    go_wp2_with fail
    · rename_i h1 _
      have hh : (bs x).head? = some 123 := by rw [HH.out]; exact congrArg some (byte_eq123 (by exact h1))
      have hl : (bs x).getLast? = some (x[n]'(by omega)) := HL.out
      go_meet
      refine ⟨rfl, _, rfl, fun h => ⟨hh, ?_⟩, fun h => .inr ?_⟩
      · rw [hl]
        have h2 : ((x[n]'(by omega)).toNat : Int) = 125 := by simpa using h
        exact congrArg some (byte_eq125 h2)
      · rw [hl]
        intro e
        have e2 := Option.some.inj e
        have h2 : ¬ ((x[n]'(by omega)).toNat : Int) = 125 := by simpa using h
        rw [e2] at h2
        exact h2 rfl
    · rename_i h1
      have hh : (bs x).head? ≠ some 123 := by
        rw [HH.out]
        intro e
        rw [Option.some.inj e] at h1
        exact h1 rfl
      go_meet
      exact ⟨rfl, true, rfl, (fun h => by cases h), fun _ => .inl hh⟩
  case rest =>
    obtain ⟨rfl, q, rfl, HQ1, HQ2⟩ := hcut
    have HB0 : Hid (Below w.heap.size w (w.alloc (.cells #[.string ⟨#[]⟩, .bool false, .bool false] 46))) := (Below.refl _ _).alloc (Nat.le_refl _) _
    cases q
    case true =>
      have HR : Hid (pieceL (bs x) last = none) := HP1.out (HQ2.out rfl)
      clear HP1 HP2 HQ1 HQ2
      go_wp2_with fail
      refine bodyPost_ret (v := .tuple #[.agg #[.string ⟨#[]⟩, .bool false, .bool false], .bool false]) (by simp [results, Tryd.results25, go_sem]) rfl ?_
      exact ⟨⟨[], false, false⟩, false, rfl, (fun h => by cases h), fun _ => HR.out, by simpa using HB0.out⟩
    case false =>
      obtain ⟨h1, h2⟩ := HQ1.out rfl
      have hn1 : n ≠ 0 := by
        rintro rfl
        have g1 := HH.out.symm.trans h1
        have g2 := HL.out.symm.trans h2
        rw [Option.some.inj g1] at g2
        cases g2
      have HPC : Hid _ := HP2.out h1 h2
      have i3 : (1 : Int) ≤ (n : Int) := by omega
      have i4 : ((x.size : Int) - 1) = (n : Int) := by omega
      clear HP1 HP2 HQ1 HQ2 h1 h2 HH HL
      obtain ⟨nm, hnm⟩ : ∃ nm, nm = x.extract 1 n := ⟨_, rfl⟩
      have hbn : bs nm = braceName (bs x) := by rw [hnm]; exact HBR.out
      have hsz : nm.size ≤ 2147483647 := by rw [hnm, ByteArray.size_extract]; omega
      rw [← hbn] at HPC
      clear HBR hbn
      go_upto_region 4 with fail
      rw [← hnm]
      clear hnm
      by_cases h36 : bs nm = [36]
      · have e0 : (nm.toList == [36]) = true := by rw [bs_toList]; simpa using h36
        have HR : Hid (pieceL (bs x) last = if last then some ⟨[47], false, false⟩ else none) := HPC.out.trans (if_pos h36)
        clear HPC h36
        go_wp2_with fail
        refine bodyPost_ret (v := .tuple #[.agg #[.string ⟨#[47]⟩, .bool false, .bool false], .bool last]) (by simp [results, Tryd.results25, go_sem]) rfl ?_
        refine ⟨⟨[47], false, false⟩, last, rfl, fun h => ?_, fun h => ?_, by simpa using (Below.refl _ w).alloc (Nat.le_refl _) _⟩
        · rw [HR.out, h]; rfl
        · rw [HR.out, h]; rfl
      have e0 : (nm.toList == [36]) = false := by rw [bs_toList]; simpa using h36
      have HR : Hid (pieceL (bs x) last = if (dotsB (bs nm) && !last) || !nameB (undot (bs nm)) then none else some ⟨undot (bs nm), true, dotsB (bs nm)⟩) := HPC.out.trans (if_neg h36)
      clear HPC h36
      have HNM : Hid (∀ (y : ByteArray) (W : World), y.size ≤ 2147483647 → Calls Tryd.prog 9 #[.string y] W fun e w' => e = .returned (.bool (nameB (bs y))) ∧ W = w') := fun y W hy => name_any y W (by omega)
      -- the dots
      have hdots : (∃ m, nm.size = m + 3 ∧ dotsB (bs nm) = decide (bs (nm.extract m (m + 3)) = [46, 46, 46]) ∧ (dotsB (bs nm) = true → undot (bs nm) = bs (nm.extract 0 m))) ∨ (nm.size < 3 ∧ dotsB (bs nm) = false) := by
        by_cases h3 : 3 ≤ nm.size
        · left
          refine ⟨nm.size - 3, by omega, ?_, fun h => ?_⟩
          · unfold dotsB
            rw [bs_size, decide_eq_true h3, Bool.true_and, bs_extract, show nm.size - 3 + 3 = nm.size by omega, List.take_of_length_le (by rw [List.length_drop, bs_size]; omega)]
          · unfold undot
            rw [if_pos h, bs_size, bs_extract]; simp
        · right
          refine ⟨by omega, ?_⟩
          unfold dotsB
          rw [bs_size, decide_eq_false h3, Bool.false_and]
      have hundot : dotsB (bs nm) = false → undot (bs nm) = bs nm := fun h => by unfold undot; rw [if_neg (by rw [h]; simp)]
      have HUN := Lib.hid hundot
      clear hundot
      have fin : ∀ (y : ByteArray) (dd nb : Bool), Hid (undot (bs nm) = bs y) → Hid (dotsB (bs nm) = dd) → Hid (nameB (bs y) = nb) → Hid (WildEnd (bs x) last w (.returned (.tuple #[.agg #[.string y, .bool true, .bool dd], .bool (nb && (last || !dd))])) (w.alloc (.cells #[.string y, .bool true, .bool dd] 46))) := by
        intro y dd nb h1 h2 h3
        have hy : (⟨(bs y).toArray⟩ : ByteArray) = y := (bs_inj (a := y) rfl).symm
        refine ⟨⟨bs y, true, dd⟩, nb && (last || !dd), by rw [hy], fun h => ?_, fun h => ?_, (Below.refl _ w).alloc (Nat.le_refl _) _⟩
        · rw [HR.out, h1.out, h2.out, h3.out]
          cases nb <;> cases last <;> cases dd <;> simp at h ⊢
        · rw [HR.out, h1.out, h2.out, h3.out]
          cases nb <;> cases last <;> cases dd <;> simp at h ⊢
      rcases hdots with ⟨m, hm, hd1, hd2⟩ | ⟨hm, hd1⟩
      · have j1 : (3 : Int) ≤ (nm.size : Int) := by omega
        have j2 : (nm.size : Int) - 3 = (m : Int) := by omega
        by_cases hdd : bs (nm.extract m (m + 3)) = [46, 46, 46]
        · have e3 : ((nm.extract m (m + 3)).toList == [46, 46, 46]) = true := by rw [bs_toList]; simpa using hdd
          have hdt : dotsB (bs nm) = true := by rw [hd1, decide_eq_true hdd]
          have HF := fin (nm.extract 0 m) true _ (hd2 hdt) hdt (Lib.hid rfl)
          have HN := HNM.out (nm.extract 0 m)
          generalize nameB (bs (nm.extract 0 m)) = nb at HF HN
          clear hd1 hd2 hdd fin hdt HUN HR
          have hys : (nm.extract 0 m).size ≤ 2147483647 := by simp; omega
          cases nb <;> cases last
          all_goals
            go_wp2_with (go_at_call 9; (with_reducible refine (HN _ hys).mono ?_); rintro e wm ⟨rfl, rfl⟩)
          all_goals
            first
              | (refine bodyPost_ret (v := .tuple #[.agg #[.string (nm.extract 0 m), .bool true, .bool true], .bool true]) (by simp [results, Tryd.results25, go_sem]) rfl ?_; exact HF.out)
              | (refine bodyPost_ret (v := .tuple #[.agg #[.string (nm.extract 0 m), .bool true, .bool true], .bool false]) (by simp [results, Tryd.results25, go_sem]) rfl ?_; exact HF.out)
        · have e3 : ((nm.extract m (m + 3)).toList == [46, 46, 46]) = false := by rw [bs_toList]; simpa using hdd
          have hdt : dotsB (bs nm) = false := by rw [hd1, decide_eq_false hdd]
          have HF := fin nm false _ (HUN.out hdt) hdt (Lib.hid rfl)
          have HN := HNM.out nm
          generalize nameB (bs nm) = nb at HF HN
          clear hd1 hd2 hdd fin hdt HUN HR
          have hys := hsz
          cases nb <;> cases last
          all_goals
            go_wp2_with (go_at_call 9; (with_reducible refine (HN _ hys).mono ?_); rintro e wm ⟨rfl, rfl⟩)
          all_goals
            first
              | (refine bodyPost_ret (v := .tuple #[.agg #[.string (nm), .bool true, .bool false], .bool true]) (by simp [results, Tryd.results25, go_sem]) rfl ?_; exact HF.out)
              | (refine bodyPost_ret (v := .tuple #[.agg #[.string (nm), .bool true, .bool false], .bool false]) (by simp [results, Tryd.results25, go_sem]) rfl ?_; exact HF.out)
      · have j1 : ¬ ((3 : Int) ≤ (nm.size : Int)) := by omega
        have HF := fin nm false _ (HUN.out hd1) hd1 (Lib.hid rfl)
        have HN := HNM.out nm
        generalize nameB (bs nm) = nb at HF HN
        clear hd1 fin HUN HR
        have hys := hsz
        cases nb <;> cases last
        all_goals
          go_wp2_with (go_at_call 9; (with_reducible refine (HN _ hys).mono ?_); rintro e wm ⟨rfl, rfl⟩)
        all_goals
          first
            | (refine bodyPost_ret (v := .tuple #[.agg #[.string (nm), .bool true, .bool false], .bool true]) (by simp [results, Tryd.results25, go_sem]) rfl ?_; exact HF.out)
            | (refine bodyPost_ret (v := .tuple #[.agg #[.string (nm), .bool true, .bool false], .bool false]) (by simp [results, Tryd.results25, go_sem]) rfl ?_; exact HF.out)
end Go.Proofs.YtodmlommidifjaaDoor
