/-
  Proved: cleanPath returns what 'cleanPathL' says of the text, in new memory. Condition: the text has at most 2^32 bytes.
-/
import Derived.Test.YtgkhfcoieknjeaaDoorShelf
import Derived.Test.YtgkhfcoieknjeaaDoorCut
import Derived.Test.YtgkhfcoieknjeaaDoorBase
import Derived.Lib.CleanLen
import Derived.Deep.DeepCutAuto
namespace Go.Proofs.YtgkhfcoieknjeaaDoor
open Go.RowKit Go.Lib.Pa

/-- What cleanPath makes of a path that begins with a slash. -/
def tailL (q : List UInt8) : List UInt8 := if q.getLast? = some 47 ∧ cleanEls q ≠ [47] then cleanEls q ++ [47] else cleanEls q

theorem fast_path (q np : List UInt8) (h1 : q.length = np.length + 1) (h2 : Go.Lib.hasPrefix q np = true) (h3 : q.getLast? = some 47) : q = np ++ [47] := by
  have h2' : np <+: q := by simpa [Go.Lib.hasPrefix] using h2
  obtain ⟨t, rfl⟩ := h2'
  have ht : t.length = 1 := by simp at h1; omega
  match t, ht with
  | [c], _ =>
    simp at h3
    rw [h3]

set_option maxHeartbeats 1000000 in
theorem cleanPath_any (s : ByteArray) (w : World) (hl : s.size ≤ 4294967296) :
    Calls Tryd.prog 62 #[.string s] w fun e w' => e = .returned (.string ⟨(cleanPathL (bs s)).toArray⟩) ∧ Below w.heap.size w w' := by
  by_cases h0 : bs s = []
  · have H1 : Hid (cleanPathL (bs s) = [47]) := by rw [h0]; exact rfl
    have h2 : s.toList.isEmpty = true := by rw [bs_toList, h0]; rfl
    clear h0
    go_enter Tryd.func62, Tryd.ntmps62
    go_wp2_with fail
    go_ret
    refine ⟨?_, Below.refl _ _⟩
    rw [H1.out]
    rfl
  have h2 : s.toList.isEmpty = false := by rw [bs_toList]; simpa using h0
  have hpos : 0 < s.size := by
    rw [← bs_size]
    exact List.length_pos_iff.2 h0
  have hh := bs_head s hpos
  have HT : Hid (∀ q, bs q = (if s[0]'hpos = 47 then bs s else 47 :: bs s) → cleanPathL (bs s) = tailL (bs q)) := by
    intro q hq
    unfold cleanPathL
    rw [if_neg h0, hq, hh]
    simp only [Option.some.injEq]
    rfl
  clear hh h0
  go_enter Tryd.func62, Tryd.ntmps62
  go_upto_if 8 with fail
  go_cut [0] (fun s0 wx => ∃ q : ByteArray, s0 = .string q ∧ Hid (cleanPathL (bs s) = tailL (bs q)) ∧ 0 < q.size ∧ q.size ≤ 4294967297 ∧ w = wx)
  case first =>
    by_cases hc : s[0]'hpos = 47
    · have hc' : (((s[0]'hpos).toNat : Int) != 47) = false := by rw [hc]; rfl
      have H := HT.out s (by rw [if_pos hc])
      have H' := Lib.hid H
      clear H hc
      go_wp2_with fail
      go_meet
      exact ⟨s, rfl, H', hpos, by omega, rfl⟩
    · have hc' : (((s[0]'hpos).toNat : Int) != 47) = true := by rw [Go.Lib.Pa.bne47]; simpa using hc
      have H := HT.out (⟨#[47]⟩ ++ s) (by rw [if_neg hc, bs_append]; rfl)
      have H' := Lib.hid H
      clear H hc
      go_wp2_with fail
      go_meet
      exact ⟨⟨#[47]⟩ ++ s, rfl, H', by rw [ByteArray.size_append]; omega, by rw [ByteArray.size_append, show (ByteArray.mk #[47]).size = 1 from rfl]; omega, rfl⟩
  case rest =>
    obtain ⟨q, rfl, HQ, hq0, hql, rfl⟩ := hcut
    obtain ⟨np, hnp⟩ : ∃ np, np = cleanEls (bs q) := ⟨_, rfl⟩
    have hnl : np.length ≤ q.size := by
      rw [hnp, ← clean_eq_cleanEls]
      exact clean_length_le (List.length_pos_iff.1 hq0)
    have hC : Calls Tryd.prog 72 #[.string q] w fun e w' => e = .returned (.string ⟨np.toArray⟩) ∧ Below w.heap.size w w' := by
      rw [hnp]
      exact Tryd.path_Clean_rules q w (by omega)
    have HC := Lib.hid hC
    have hlast := bs_last q hq0
    have hr : cleanPathL (bs s) = if q[q.size - 1]'(by omega) = 47 ∧ np ≠ [47] then np ++ [47] else np := by
      have h1 := HQ.out
      unfold tailL at h1
      rw [hlast, ← hnp] at h1
      simpa using h1
    have HR := Lib.hid hr
    have hfp : q.size = np.length + 1 → Go.Lib.hasPrefix q.data.toList np = true → q[q.size - 1]'(by omega) = 47 → bs q = np ++ [47] := fun a b c =>
      fast_path (bs q) np a b (by rw [hlast, c])
    have HF : Hid (q.size = np.length + 1 → Go.Lib.hasPrefix q.data.toList np = true → q[q.size - 1]'(by omega) = 47 → bs q = np ++ [47]) := hfp
    clear HT HQ hC hnp hlast hfp hr
    by_cases hc : q[q.size - 1]'(by omega) = 47
    · have hc' : (((q[q.size - 1]'(by omega)).toNat : Int) == 47) = true := by rw [hc]; rfl
      by_cases hn : np = [47]
      · have h1 := HR.out
        rw [if_neg (by rw [hn]; simp)] at h1
        have H1 := Lib.hid h1
        have hn' : (np == [47]) = true := by simpa using hn
        clear h1 HF HR hc hn
        go_wp2_with (first | (go_at_call 72; refine HC.out.mono ?_; rintro e w1 ⟨rfl, hb⟩) | (go_at_call 73; refine (Tryd.strings_HasPrefix _ _ _).mono ?_; rintro e w2 ⟨rfl, rfl⟩))
        go_ret
        refine ⟨?_, by assumption⟩
        rw [H1.out]
        rfl
      · have h1 := HR.out
        rw [if_pos ⟨hc, hn⟩] at h1
        have H1 := Lib.hid h1
        have hn' : (np == [47]) = false := by simpa using hn
        by_cases hle : q.size = np.length + 1
        · have hle' : ((q.size : Int) == (np.length : Int) + 1) = true := by simp; omega
          cases hpx : Go.Lib.hasPrefix q.data.toList np
          · clear h1 HF HR hc hn hle
            go_wp2_with (first | (go_at_call 72; refine HC.out.mono ?_; rintro e w1 ⟨rfl, hb⟩) | (go_at_call 73; refine (Tryd.strings_HasPrefix _ _ _).mono ?_; rintro e w2 ⟨rfl, rfl⟩))
            go_ret
            refine ⟨?_, by assumption⟩
            rw [H1.out]
            exact congrArg (fun x => Ending.returned (Value.string x)) (bs_inj (by rw [bs_append]; rfl))
          · have h3 := HF.out hle hpx hc
            have H3 := Lib.hid h3
            clear h1 h3 HF HR hc hn hle
            go_wp2_with (first | (go_at_call 72; refine HC.out.mono ?_; rintro e w1 ⟨rfl, hb⟩) | (go_at_call 73; refine (Tryd.strings_HasPrefix _ _ _).mono ?_; rintro e w2 ⟨rfl, rfl⟩))
            go_ret
            refine ⟨?_, by assumption⟩
            rw [H1.out, ← H3.out]
            exact congrArg (fun x => Ending.returned (Value.string x)) (bs_inj rfl)
        · have hle' : ((q.size : Int) == (np.length : Int) + 1) = false := by simp; omega
          clear h1 HF HR hc hn hle
          go_wp2_with (first | (go_at_call 72; refine HC.out.mono ?_; rintro e w1 ⟨rfl, hb⟩) | (go_at_call 73; refine (Tryd.strings_HasPrefix _ _ _).mono ?_; rintro e w2 ⟨rfl, rfl⟩))
          go_ret
          refine ⟨?_, by assumption⟩
          rw [H1.out]
          exact congrArg (fun x => Ending.returned (Value.string x)) (bs_inj (by rw [bs_append]; rfl))
    · have h1 := HR.out
      rw [if_neg (fun h => hc h.1)] at h1
      have H1 := Lib.hid h1
      have hc' : (((q[q.size - 1]'(by omega)).toNat : Int) == 47) = false := by rw [Go.Lib.Pa.beq47]; simpa using hc
      clear h1 HF HR hc
      go_wp2_with (first | (go_at_call 72; refine HC.out.mono ?_; rintro e w1 ⟨rfl, hb⟩) | (go_at_call 73; refine (Tryd.strings_HasPrefix _ _ _).mono ?_; rintro e w2 ⟨rfl, rfl⟩))
      go_ret
      refine ⟨?_, by assumption⟩
      rw [H1.out]
      rfl
end Go.Proofs.YtgkhfcoieknjeaaDoor
