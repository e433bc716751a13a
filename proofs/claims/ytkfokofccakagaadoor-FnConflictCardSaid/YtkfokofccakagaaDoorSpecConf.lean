/-
  Proved: spec.Conflict answers as confB. Condition: the patterns can be read and are good.
-/
import Derived.Test.YtkfokofccakagaaDoorTwo
import Derived.Test.YtkfokofccakagaaDoorGoodKind
namespace Go.Proofs.YtkfokofccakagaaDoor
open Go.RowKit

set_option maxRecDepth 100000 in
set_option maxHeartbeats 3200000 in
theorem spec_conflict (m1 m2 h1 h2 : ByteArray) (v1 v2 : Value) (l1 l2 : List Seg) (w : World) (H1 : SegsAt w v1 l1) (H2 : SegsAt w v2 l2) (G1 : GoodP (bs m1) (bs h1) l1) (G2 : GoodP (bs m2) (bs h2) l2) :
    Calls Tryd.prog 34 #[.agg #[.string m1, .string h1, v1], .agg #[.string m2, .string h2, v2]] w fun e w' => e = .returned (.bool (confB (bs m1) (bs m2) (bs h1) (bs h2) l1 l2)) ∧ Below w.heap.size w w' := by
  have HXP : Hid (∀ W, Below w.heap.size w W → Calls Tryd.prog 15 #[.agg #[.string m1, .string h1, v1], .agg #[.string m2, .string h2, v2]] W fun e w' => e = .returned (.string (Kd.byPaths (kinds l1) (kinds l2)).text) ∧ Below W.heap.size W w') := fun W hb => spec_byPaths m1 m2 h1 h2 v1 v2 l1 l2 W (H1.keep hb) (H2.keep hb) G1.some_ G2.some_ (good_len G1) (good_len G2)
  have HM : Hid (∀ W, Calls Tryd.prog 22 #[.string m1, .string m2] W fun e w' => e = .returned (.string (byM (bs m1) (bs m2)).text) ∧ W = w') := fun W => spec_byMethods m1 m2 W
  obtain ⟨X, xc, rfl, _, _⟩ := H1
  obtain ⟨Y, yc, rfl, _, _⟩ := H2
  have HC : Hid ((confB (bs m1) (bs m2) (bs h1) (bs h2) l1 l2) = (decide (bs h1 = bs h2) && isConf (Rel.comb (byM (bs m1) (bs m2)) (Kd.byPaths (kinds l1) (kinds l2))))) := rfl
  obtain ⟨c, hc⟩ : ∃ c, c = (confB (bs m1) (bs m2) (bs h1) (bs h2) l1 l2) := ⟨_, rfl⟩
  rw [← hc] at HC ⊢
  clear hc G1 G2
  generalize (byM (bs m1) (bs m2)) = rm at HM HC
  generalize (Kd.byPaths (kinds l1) (kinds l2)) = rp at HXP HC
  go_enter Tryd.func34, Tryd.ntmps34
  go_upto_region 1 with fail
  have hb1 := new0 w (.cells #[.string m1, .string h1, .slice X l1.length xc] 28)
  have hb2 := new1 w (.cells #[.string m1, .string h1, .slice X l1.length xc] 28) (.cells #[.string m2, .string h2, .slice Y l2.length yc] 28)
  have hb1' := blk_alloc hb1 (.cells #[.string m2, .string h2, .slice Y l2.length yc] 28)
  have HBW : Hid (Below w.heap.size w ((w.alloc (.cells #[.string m1, .string h1, .slice X l1.length xc] 28)).alloc (.cells #[.string m2, .string h2, .slice Y l2.length yc] 28))) := ((Below.refl _ _).alloc (Nat.le_refl _) _).alloc (by simp) _
  obtain ⟨W0, hW0⟩ : ∃ W0, W0 = (w.alloc (.cells #[.string m1, .string h1, .slice X l1.length xc] 28)).alloc (.cells #[.string m2, .string h2, .slice Y l2.length yc] 28) := ⟨_, rfl⟩
  rw [← hW0] at hb1' hb2 HBW ⊢
  have HS : Hid (∀ w' : World, Below W0.heap.size W0 w' → w'.cell? ⟨w.heap.size, 0, none⟩ = some (.string m1) ∧ w'.cell? ⟨w.heap.size, 1, none⟩ = some (.string h1) ∧ w'.cell? ⟨w.heap.size, 2, none⟩ = some (.slice X l1.length xc) ∧ w'.cell? ⟨w.heap.size + 1, 0, none⟩ = some (.string m2) ∧ w'.cell? ⟨w.heap.size + 1, 1, none⟩ = some (.string h2) ∧ w'.cell? ⟨w.heap.size + 1, 2, none⟩ = some (.slice Y l2.length yc)) := fun w' hb =>
    ⟨blk_cell (blk_below hb1' hb) 0, blk_cell (blk_below hb1' hb) 1, blk_cell (blk_below hb1' hb) 2, blk_cell (blk_below hb2 hb) 0, blk_cell (blk_below hb2 hb) 1, blk_cell (blk_below hb2 hb) 2⟩
  have HU : Hid (∀ w', Below W0.heap.size W0 w' → Below w.heap.size w w') := fun w' hb => HBW.out.trans (hb.mono HBW.out.size)
  have HYP : Hid (∀ W, Below W0.heap.size W0 W → Calls Tryd.prog 15 #[.agg #[.string m1, .string h1, .slice X l1.length xc], .agg #[.string m2, .string h2, .slice Y l2.length yc]] W fun e w' => e = .returned (.string rp.text) ∧ Below W0.heap.size W0 w') := fun W hb => (HXP.out W (HU.out W hb)).mono fun e w' ⟨x, y⟩ => ⟨x, hb.trans (y.mono hb.size)⟩
  clear hW0 hb1 hb1' hb2 HXP
  go_cut [5] (fun v wx => v = .string (Rel.comb rm rp).text ∧ Below W0.heap.size W0 wx)
  case first =>
    have hd0 : Below W0.heap.size W0 W0.drew := below_drew3 (Below.refl _ _) 1
    go_region_held3 (fun w' => w'.cell? ⟨w.heap.size, 0, none⟩ = some (.string m1) ∧ w'.cell? ⟨w.heap.size, 1, none⟩ = some (.string h1) ∧ w'.cell? ⟨w.heap.size, 2, none⟩ = some (.slice X l1.length xc) ∧ w'.cell? ⟨w.heap.size + 1, 0, none⟩ = some (.string m2) ∧ w'.cell? ⟨w.heap.size + 1, 1, none⟩ = some (.string h2) ∧ w'.cell? ⟨w.heap.size + 1, 2, none⟩ = some (.slice Y l2.length yc))
      (exact HS.out _ (by assumption))
      (first
        | (go_at_call 15; (with_reducible refine (HYP.out _ ?_).mono ?_); assumption; rintro e wx ⟨rfl, hbx⟩)
        | (go_at_call 22; (with_reducible refine (HM.out _).mono ?_); rintro e wm ⟨rfl, rfl⟩)
        | (go_at_call 21; (with_reducible refine (spec_combine rm rp _).mono ?_); rintro e wn ⟨rfl, rfl⟩))
    all_goals
      go_wp2_with fail
      go_meet
      exact ⟨rfl, by assumption⟩
  case rest =>
    obtain ⟨rfl, hbc⟩ := hcut
    have HBC := Lib.hid hbc
    obtain ⟨s0, s1, s2, s3, s4, s5⟩ := HS.out _ hbc
    clear hbc
    obtain ⟨rr, hrr⟩ : ∃ rr, rr = Rel.comb rm rp := ⟨_, rfl⟩
    rw [← hrr] at HC ⊢
    clear hrr
    by_cases he : bs h1 = bs h2
    · have e0 : (h1.toList == h2.toList) = true := by rw [bs_toList, bs_toList]; simpa using he
      have HC2 : Hid (c = isConf rr) := by show _ = _; rw [HC.out, he]; simp
      clear he
      cases rr
      all_goals
        simp only [Rel.text, isConf] at HC2 ⊢
        go_wp2_with fail
        go_ret
        exact ⟨congrArg (fun x => Ending.returned (Value.bool x)) HC2.out.symm, HU.out _ HBC.out⟩
    · have e0 : (h1.toList == h2.toList) = false := by rw [bs_toList, bs_toList]; simpa using he
      have HC2 : Hid (c = false) := by show _ = _; rw [HC.out]; simp [he]
      clear he
      go_wp2_with fail
      go_ret
      exact ⟨congrArg (fun x => Ending.returned (Value.bool x)) HC2.out.symm, HU.out _ HBC.out⟩
end Go.Proofs.YtkfokofccakagaaDoor
