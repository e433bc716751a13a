/-
  Proved: spec.Write of a pattern returns its text ('writeL'); it writes nothing that was there. Condition: method and host shorter than 2^31 bytes, at most six pieces of at most 16 bytes each.
-/
import Derived.Test.YtgkhfcoieknjeaaDoorBase
namespace Go.Proofs.YtgkhfcoieknjeaaDoor
open Go.RowKit

/-- A piece as it is written. -/
def segText (g : Seg) : List UInt8 :=
  47 :: (if g.multi then (if g.s = [] then [] else 123 :: (g.s ++ [46, 46, 46, 125])) else if g.wild then 123 :: (g.s ++ [125]) else if g.s = [47] then [123, 36, 125] else g.s)

def segsText (l : List Seg) : List UInt8 := l.flatMap segText
def headText (m h : List UInt8) : List UInt8 := if m = [] then h else m ++ 32 :: h
/-- A pattern as it is written. -/
def writeL (m h : List UInt8) (l : List Seg) : List UInt8 := headText m h ++ segsText l

theorem segsText_take (l : List Seg) (k : Nat) (g : Seg) (h : l[k]? = some g) : segsText (l.take (k + 1)) = segsText (l.take k) ++ segText g := by
  rw [List.take_add_one, h]
  simp [segsText]

theorem segText_len (g : Seg) (h : g.s.length ≤ 16) : (segText g).length ≤ 22 := by
  unfold segText
  split
  · split <;> simp <;> omega
  · split
    · simp; omega
    · split <;> simp <;> omega

theorem segsText_len : ∀ (l : List Seg), (∀ g ∈ l, g.s.length ≤ 16) → (segsText l).length ≤ l.length * 22
  | [], _ => by simp [segsText]
  | g :: t, h => by
    have h1 := segsText_len t fun x hx => h x (List.mem_cons_of_mem _ hx)
    have h2 := segText_len g (h g List.mem_cons_self)
    have e : segsText (g :: t) = segText g ++ segsText t := rfl
    rw [e, List.length_append, List.length_cons]
    omega

set_option maxRecDepth 100000 in
set_option maxHeartbeats 1600000 in
theorem write_any (m h : ByteArray) (sv : Value) (l : List Seg) (w : World) (hsv : SegsAt w sv l) (hm : m.size ≤ 2147483647) (hh : h.size ≤ 2147483647) (hl : l.length ≤ 6) (hs : ∀ g ∈ l, g.s.length ≤ 16) :
    Calls Tryd.prog 22 #[.agg #[.string m, .string h, sv]] w fun e w' => e = .returned (.string ⟨(writeL (bs m) (bs h) l).toArray⟩) ∧ Below w.heap.size w w' := by
  obtain ⟨A, cap, rfl, hlc, hf⟩ := hsv
  have HF := Lib.hid hf
  have HS := Lib.hid hs
  have HB0 := Lib.hid ((Below.refl w.heap.size w).alloc (Nat.le_refl _) (.cells #[.string m, .string h, .slice A l.length cap] 45))
  clear hf hs
  go_enter Tryd.func22, Tryd.ntmps22
  go_upto_if 10 with fail
  go_cut [3] (fun o wx => ∃ b : ByteArray, o = .string b ∧ Hid (bs b = headText (bs m) (bs h)) ∧ b.size ≤ 4294967295 ∧ w.alloc (.cells #[.string m, .string h, .slice A l.length cap] 45) = wx)
  case first =>
    by_cases he : bs m = []
    · have e1 : m.toList.isEmpty = true := by rw [bs_toList, he]; rfl
      have e0 : (!m.toList.isEmpty) = false := by rw [e1]; rfl
      have H : Hid (bs h = headText (bs m) (bs h)) := by show _ = _; unfold headText; rw [if_pos he]
      clear he
      go_wp2_with fail
      all_goals (first | (exfalso; rename_i hx; rw [e0] at hx; cases hx; done) | skip)
      go_meet
      exact ⟨h, rfl, H, by omega, rfl⟩
    · have e1 : m.toList.isEmpty = false := by rw [bs_toList]; simpa using he
      have e0 : (!m.toList.isEmpty) = true := by rw [e1]; rfl
      have H : Hid (bs (m ++ ⟨#[32]⟩ ++ h) = headText (bs m) (bs h)) := by
        show _ = _
        unfold headText
        rw [if_neg he, bs_append, bs_append, List.append_assoc]
        rfl
      clear he
      go_wp2_with fail
      all_goals (first | (exfalso; rename_i hx; rw [e0] at hx; cases hx; done) | skip)
      go_meet
      exact ⟨_, rfl, H, by simp only [ByteArray.size_append]; rw [show (ByteArray.mk #[32]).size = 1 from rfl]; omega, rfl⟩
  case rest =>
    obtain ⟨b0, rfl, HT, hb0, rfl⟩ := hcut
    go_wp2_with fail
    go_loopw [3, 19] (fun o iv wr => ∃ (k : Nat) (b : ByteArray), k ≤ l.length ∧ iv = .int .i64 k ∧ o = .string b ∧ Hid (bs b = headText (bs m) (bs h) ++ segsText (l.take k)) ∧ Below (w.heap.size + 1) (w.alloc (.cells #[.string m, .string h, .slice A l.length cap] 45)) wr)
      (fun _ iv _ => l.length - (intOf iv).toNat)
    case atStart => exact ⟨0, b0, Nat.zero_le _, rfl, rfl, by show _ = _; rw [HT.out]; simp [segsText], Below.refl _ _⟩
    case round =>
      obtain ⟨k, b, hk, rfl, rfl, HB, hb⟩ := hrel
      have hbw : Below w.heap.size w wr := HB0.out.trans (hb.mono (by omega))
      have HBW := Lib.hid hbw
      have hbl : b.size ≤ 4294967295 + 132 := by
        have h1 := segsText_len (l.take k) fun g hg => HS.out g (List.mem_of_mem_take hg)
        have h2 := HT.out
        have h3 := HB.out
        rw [← h2] at h3
        have h4 : (bs b).length = (bs b0).length + (segsText (l.take k)).length := by rw [h3, List.length_append]
        rw [bs_size, bs_size] at h4
        rw [List.length_take] at h1
        omega
      clear hbw
      by_cases hlt : k < l.length
      · obtain ⟨g, hg⟩ : ∃ g, l[k]? = some g := ⟨_, List.getElem?_eq_getElem hlt⟩
        obtain ⟨bb, o, rfl, hbb, h1, h2, h3⟩ := HF.out k g hg
        have g1 : wr.cell? ⟨bb, o + k * 3, none⟩ = some (.string ⟨g.s.toArray⟩) := (HBW.out.cell hbb).trans h1
        have g2 : wr.cell? ⟨bb, o + k * 3 + 1, none⟩ = some (.bool g.wild) := (HBW.out.cell hbb).trans h2
        have g3 : wr.cell? ⟨bb, o + k * 3 + 2, none⟩ = some (.bool g.multi) := (HBW.out.cell hbb).trans h3
        have HG := Lib.hid hg
        have hgs : g.s.length ≤ 16 := HS.out g (List.mem_of_getElem? hg)
        have HNext : Hid (∀ q : ByteArray, bs q = bs b ++ segText g → bs q = headText (bs m) (bs h) ++ segsText (l.take (k + 1))) := by
          intro q hq
          rw [hq, HB.out, segsText_take l k g HG.out, List.append_assoc]
        have HBn := Lib.hid (hb.alloc (by have := hb.size; simpa using this) (.cells #[.string ⟨g.s.toArray⟩, .bool g.wild, .bool g.multi] 64))
        clear h1 h2 h3 hg hb HB0
        obtain ⟨gs, gw, gm⟩ := g
        simp only at g1 g2 g3 hgs HNext HBn
        cases gm
        · cases gw
          · by_cases h47 : gs = [47]
            · have e47 : (gs == [47]) = true := by simpa using h47
              have HS2 : Hid (segText ⟨gs, false, false⟩ = [47, 123, 36, 125]) := by show _ = _; simp [segText, h47]
              clear h47
              go_wp2_with fail
              go_roundw
              case rel => exact ⟨k + 1, _, by omega, by go_num, rfl, HNext.out _ (by rw [HS2.out]; simp [bs]), HBn.out⟩
              case measure => simp [intOf]; omega
            · have e47 : (gs == [47]) = false := by simpa using h47
              have HS2 : Hid (segText ⟨gs, false, false⟩ = 47 :: gs) := by show _ = _; simp [segText, h47]
              clear h47
              go_wp2_with fail
              go_roundw
              case rel => exact ⟨k + 1, _, by omega, by go_num, rfl, HNext.out _ (by rw [HS2.out]; simp [bs]), HBn.out⟩
              case measure => simp [intOf]; omega
          · have HS2 : Hid (segText ⟨gs, true, false⟩ = 47 :: 123 :: (gs ++ [125])) := by show _ = _; simp [segText]
            go_wp2_with fail
            go_roundw
            case rel => exact ⟨k + 1, _, by omega, by go_num, rfl, HNext.out _ (by rw [HS2.out]; simp [bs]), HBn.out⟩
            case measure => simp [intOf]; omega
        · by_cases h0 : gs = []
          · have e0 : gs.isEmpty = true := by rw [h0]; rfl
            have HS2 : Hid (segText ⟨gs, gw, true⟩ = [47]) := by show _ = _; simp [segText, h0]
            clear h0
            go_wp2_with fail
            go_roundw
            case rel => exact ⟨k + 1, _, by omega, by go_num, rfl, HNext.out _ (by rw [HS2.out]; simp [bs]), HBn.out⟩
            case measure => simp [intOf]; omega
          · have e0 : gs.isEmpty = false := by simpa using h0
            have HS2 : Hid (segText ⟨gs, gw, true⟩ = 47 :: 123 :: (gs ++ [46, 46, 46, 125])) := by show _ = _; simp [segText, h0]
            clear h0
            go_wp2_with fail
            go_roundw
            case rel => exact ⟨k + 1, _, by omega, by go_num, rfl, HNext.out _ (by rw [HS2.out]; simp [bs]), HBn.out⟩
            case measure => simp [intOf]; omega
      · have HR : Hid (bs b = writeL (bs m) (bs h) l) := by
          show _ = _
          rw [HB.out, List.take_of_length_le (by omega)]
          rfl
        clear hb HB0
        go_wp2_with fail
        go_ret
        exact ⟨congrArg (fun x => Ending.returned (Value.string x)) (bs_inj HR.out), HBW.out⟩
end Go.Proofs.YtgkhfcoieknjeaaDoor
