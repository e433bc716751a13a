/-
  Proved: spec.Same answers true for two patterns with the same method, host and pieces. Condition: at most 2^31 - 1 pieces.
-/
import Derived.Test.YtodmlommidifjaaDoorSeg
import Derived.BigQuiet
namespace Go.Proofs.YtodmlommidifjaaDoor
open Go.RowKit

theorem below_drew2 {B : Nat} {a w : World} (h : Below B a w) (n : Nat) : Below B a (w.drewN n) := ⟨h.os, h.tape, h.output, h.size, h.block⟩

set_option maxRecDepth 100000 in
set_option maxHeartbeats 1600000 in
theorem same_true (m h : ByteArray) (sv tv : Value) (l : List Seg) (w : World) (hsv : SegsAt w sv l) (htv : SegsAt w tv l) (hl : l.length ≤ 2147483647) :
    Calls Tryd.prog 14 #[.agg #[.string m, .string h, sv], .agg #[.string m, .string h, tv]] w fun e w' => e = .returned (.bool true) ∧ Below w.heap.size w w' := by
  obtain ⟨A, cap, rfl, hlc, hf⟩ := hsv
  obtain ⟨B, cap2, rfl, hlc2, hf2⟩ := htv
  have HF := Lib.hid hf
  have HF2 := Lib.hid hf2
  have HB0 := Lib.hid (((Below.refl w.heap.size w).alloc (Nat.le_refl _) (.cells #[.string m, .string h, .slice A l.length cap] 30)).alloc (by simp) (.cells #[.string m, .string h, .slice B l.length cap2] 30))
  clear hf hf2
  go_enter Tryd.func14, Tryd.ntmps14
  go_wp2_with fail
  go_loopw [30] (fun iv wr => ∃ (k : Nat), k ≤ l.length ∧ iv = .int .i64 k ∧ Below (w.heap.size + 2) ((w.alloc (.cells #[.string m, .string h, .slice A l.length cap] 30)).alloc (.cells #[.string m, .string h, .slice B l.length cap2] 30)) wr)
    (fun iv _ => l.length - (intOf iv).toNat)
  case atStart => exact ⟨0, Nat.zero_le _, rfl, Below.refl _ _⟩
  case round =>
    obtain ⟨k, hk, rfl, hb⟩ := hrel
    have hbw : Below w.heap.size w wr := HB0.out.trans (hb.mono (by omega))
    have HBW := Lib.hid hbw
    have c0 : wr.cell? ⟨w.heap.size, 2, none⟩ = some (.slice A l.length cap) := (hb.cell (by simp)).trans (by simp [go_sem])
    have c1 : wr.cell? ⟨w.heap.size + 1, 2, none⟩ = some (.slice B l.length cap2) := (hb.cell (by simp)).trans (by simp [go_sem])
    clear hbw
    by_cases hlt : k < l.length
    · obtain ⟨g, hg⟩ : ∃ g, l[k]? = some g := ⟨_, List.getElem?_eq_getElem hlt⟩
      obtain ⟨bb, o, rfl, hbb, h1, h2, h3⟩ := HF.out k g hg
      obtain ⟨bc, o2, rfl, hbc, j1, j2, j3⟩ := HF2.out k g hg
      have g1 : wr.cell? ⟨bb, o + k * 3, none⟩ = some (.string ⟨g.s.toArray⟩) := (HBW.out.cell hbb).trans h1
      have g2 : wr.cell? ⟨bb, o + k * 3 + 1, none⟩ = some (.bool g.wild) := (HBW.out.cell hbb).trans h2
      have g3 : wr.cell? ⟨bb, o + k * 3 + 2, none⟩ = some (.bool g.multi) := (HBW.out.cell hbb).trans h3
      have q1 : wr.cell? ⟨bc, o2 + k * 3, none⟩ = some (.string ⟨g.s.toArray⟩) := (HBW.out.cell hbc).trans j1
      have q2 : wr.cell? ⟨bc, o2 + k * 3 + 1, none⟩ = some (.bool g.wild) := (HBW.out.cell hbc).trans j2
      have q3 : wr.cell? ⟨bc, o2 + k * 3 + 2, none⟩ = some (.bool g.multi) := (HBW.out.cell hbc).trans j3
      have HB := Lib.hid hb
      clear h1 h2 h3 j1 j2 j3 hg hb HB0
      obtain ⟨gs, gw, gm⟩ := g
      simp only at g1 g2 g3 q1 q2 q3
      go_wp2_with fail
      go_quiet (fail)
      go_wp2_with fail
      go_roundw
      case rel => exact ⟨k + 1, by omega, by go_num, below_drew2 HB.out _⟩
      case measure => simp [intOf]; omega
    · clear hb HB0
      go_wp2_with fail
      go_ret
      exact ⟨rfl, HBW.out⟩
end Go.Proofs.YtodmlommidifjaaDoor
