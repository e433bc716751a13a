/-
  Proved: spec.Meets tells whether a wildcard of the first pattern for one piece stands where the second has one for all that is left ('meetsB'); laws.matched tells whether a pattern matches a path of which something is stated. Condition: the patterns can be read.
-/
import Derived.Test.YtkfokofccakagaaDoorCommonLaw
import Derived.Test.YtkfokofccakagaaDoorMatches
import Derived.Test.YtkfokofccakagaaDoorItemsOk
import Derived.Test.YtkfokofccakagaaDoorShelf
namespace Go.Proofs.YtkfokofccakagaaDoor
open Go.RowKit

theorem meets_at (l1 l2 : List Seg) (k : Nat) (g1 g2 : Seg) (h1 : l1[k]? = some g1) (h2 : l2[k]? = some g2) : meetsB (l1.drop k) (l2.drop k) = ((g1.wild && !g1.multi && g2.multi) || meetsB (l1.drop (k + 1)) (l2.drop (k + 1))) := by
  obtain ⟨a, rfl⟩ := List.getElem?_eq_some_iff.1 h1
  obtain ⟨b, rfl⟩ := List.getElem?_eq_some_iff.1 h2
  rw [List.drop_eq_getElem_cons a, List.drop_eq_getElem_cons b]
  rfl

theorem meets_end (l1 l2 : List Seg) (k : Nat) (h : l1.length ≤ k ∨ l2.length ≤ k) : meetsB (l1.drop k) (l2.drop k) = false := by
  rcases h with h | h
  · rw [List.drop_of_length_le h]; rfl
  · rw [List.drop_of_length_le h]; cases l1.drop k <;> rfl

set_option maxRecDepth 100000 in
set_option maxHeartbeats 3200000 in
theorem meets_any (m1 m2 h1 h2 : ByteArray) (v1 v2 : Value) (l1 l2 : List Seg) (w : World) (H1 : SegsAt w v1 l1) (H2 : SegsAt w v2 l2) (z1 : l1.length ≤ 2147483647) :
    Calls Tryd.prog 16 #[.agg #[.string m1, .string h1, v1], .agg #[.string m2, .string h2, v2]] w fun e w' => e = .returned (.bool (meetsB l1 l2)) ∧ Below w.heap.size w w' := by
  obtain ⟨A1, c1, rfl, _, hf1⟩ := H1
  obtain ⟨A2, c2, rfl, _, hf2⟩ := H2
  have HF1 := Lib.hid hf1
  have HF2 := Lib.hid hf2
  clear hf1 hf2
  go_enter Tryd.func16, Tryd.ntmps16
  go_upto_region 1 with fail
  have hb1 := new0 w (.cells #[.string m1, .string h1, .slice A1 l1.length c1] 28)
  have hb2 := new1 w (.cells #[.string m1, .string h1, .slice A1 l1.length c1] 28) (.cells #[.string m2, .string h2, .slice A2 l2.length c2] 28)
  have hb1' := blk_alloc hb1 (.cells #[.string m2, .string h2, .slice A2 l2.length c2] 28)
  have HBW : Hid (Below w.heap.size w ((w.alloc (.cells #[.string m1, .string h1, .slice A1 l1.length c1] 28)).alloc (.cells #[.string m2, .string h2, .slice A2 l2.length c2] 28))) := ((Below.refl _ _).alloc (Nat.le_refl _) _).alloc (by simp) _
  obtain ⟨W0, hW0⟩ : ∃ W0, W0 = (w.alloc (.cells #[.string m1, .string h1, .slice A1 l1.length c1] 28)).alloc (.cells #[.string m2, .string h2, .slice A2 l2.length c2] 28) := ⟨_, rfl⟩
  rw [← hW0] at hb1' hb2 HBW ⊢
  have s2 := blk_cell hb1' 2
  have s5 := blk_cell hb2 2
  clear hW0 hb1 hb1' hb2
  obtain ⟨M, hN, hM1, hM2, hM3⟩ : ∃ M : Nat, min (l1.length : Int) (l2.length : Int) = (M : Int) ∧ M ≤ l1.length ∧ M ≤ l2.length ∧ (M = l1.length ∨ M = l2.length) := by
    rcases Nat.le_total l1.length l2.length with h | h
    · exact ⟨l1.length, by omega, by omega, by omega, .inl (by omega)⟩
    · exact ⟨l2.length, by omega, by omega, by omega, .inr (by omega)⟩
  go_wp2_with fail
  clear hN
  go_loop [13] (fun v13 => ∃ k : Nat, k ≤ M ∧ v13 = .int .i64 k ∧ Hid (meetsB l1 l2 = meetsB (l1.drop k) (l2.drop k))) (fun v13 => M - (intOf v13).toNat)
  case atStart => exact ⟨0, by omega, rfl, by show _ = _; simp⟩
  case round =>
    obtain ⟨k, hk, rfl, HM⟩ := hrel
    by_cases hlt : k < M
    · obtain ⟨⟨x1, w1, u1⟩, hg1⟩ : ∃ g, l1[k]? = some g := ⟨_, List.getElem?_eq_getElem (by omega)⟩
      obtain ⟨⟨x2, w2, u2⟩, hg2⟩ : ∃ g, l2[k]? = some g := ⟨_, List.getElem?_eq_getElem (by omega)⟩
      obtain ⟨b1, o1, rfl, hbl1, d0, d1, d2⟩ := HF1.out k _ hg1
      obtain ⟨b2, o2, rfl, hbl2, f0, f1, f2⟩ := HF2.out k _ hg2
      have g1 : W0.cell? ⟨b1, o1 + k * 3 + 1, none⟩ = some (.bool w1) := (HBW.out.cell hbl1).trans d1
      have g2 : W0.cell? ⟨b1, o1 + k * 3 + 2, none⟩ = some (.bool u1) := (HBW.out.cell hbl1).trans d2
      have j2 : W0.cell? ⟨b2, o2 + k * 3 + 2, none⟩ = some (.bool u2) := (HBW.out.cell hbl2).trans f2
      have HMS : Hid (meetsB l1 l2 = ((w1 && !u1 && u2) || meetsB (l1.drop (k + 1)) (l2.drop (k + 1)))) := HM.out.trans (meets_at l1 l2 k _ _ hg1 hg2)
      have i1 : (0 : Int) ≤ (k : Int) := by omega
      have i2 : (k : Int) < (l1.length : Int) := by omega
      have i3 : (k : Int) < (l2.length : Int) := by omega
      clear d0 d1 d2 f0 f1 f2 hg1 hg2 HM
      cases w1 <;> cases u1 <;> cases u2
      case true.false.true =>
        have HR : Hid (meetsB l1 l2 = true) := HMS.out.trans (by simp)
        go_wp2_with fail
        go_ret
        exact ⟨congrArg (fun x => Ending.returned (Value.bool x)) HR.out.symm, HBW.out⟩
      all_goals
        have HN : Hid (meetsB l1 l2 = meetsB (l1.drop (k + 1)) (l2.drop (k + 1))) := HMS.out.trans (by simp)
        clear HMS
        go_wp2_with fail
        go_round
        case rel => exact ⟨k + 1, by omega, by go_num, HN⟩
        case measure => simp [intOf]; omega
    · have HR : Hid (meetsB l1 l2 = false) := HM.out.trans (meets_end l1 l2 k (by omega))
      go_wp2_with fail
      go_ret
      exact ⟨congrArg (fun x => Ending.returned (Value.bool x)) HR.out.symm, HBW.out⟩

set_option maxRecDepth 100000 in
set_option maxHeartbeats 1600000 in
theorem matched_any (m h s : ByteArray) (sv : Value) (l : List Seg) (its : List (List UInt8)) (w : World) (H : SegsAt w sv l) (zl : l.length ≤ 2147483647) (hi : itemsL (bs s) = some its) (hs : s.size ≤ 9223372036854775807) :
    Calls Tryd.prog 19 #[.agg #[.string m, .string h, sv], .string s] w fun e w' => e = .returned (.tuple #[.bool (Kd.mt (l.map kindOf) its), .bool true]) ∧ Below w.heap.size w w' := by
  have HSM := Lib.hid (items_small _ _ hi)
  have HI : Hid (∀ W, Calls Tryd.prog 29 #[.string s] W fun e w' => ∃ v, e = .returned (.tuple #[v, .bool true]) ∧ StrsAt w' v its ∧ Below W.heap.size W w') := by
    intro W
    refine (items_any s W hs).mono ?_
    rintro e w' ⟨hb, ⟨h, _⟩ | ⟨its', v, h, rfl, hown⟩⟩
    · rw [hi] at h; cases h
    · rw [hi] at h; cases h
      exact ⟨v, rfl, StrsAt.of_own hown, hb⟩
  have HM : Hid (∀ W iv, SegsAt W sv l → StrsAt W iv its → Calls Tryd.prog 30 #[.agg #[.string m, .string h, sv], iv] W (MatchEnd l its W)) := fun W iv h1 h2 => matches_any m h sv iv l its W h1 h2 zl HSM.out
  have HS := Lib.hid H
  obtain ⟨A, cap, rfl, _, _⟩ := H
  unfold MatchEnd at HM
  generalize Kd.mt (l.map kindOf) its = mb at HM ⊢
  go_enter Tryd.func19, Tryd.ntmps19
  go_upto_region 1 with fail
  have hb1 := new0 w (.cells #[.string m, .string h, .slice A l.length cap] 28)
  have HB0 : Hid (Below w.heap.size w (w.alloc (.cells #[.string m, .string h, .slice A l.length cap] 28))) := (Below.refl _ _).alloc (Nat.le_refl _) _
  go_upto_region 2 with (go_at_call 29; (with_reducible refine (HI.out _).mono ?_); rintro e w1 ⟨v, rfl, hst, hb⟩; have HST := Lib.hid hst; have HBB := Lib.hid hb; clear hst hb)
  have hb2 := blk_below hb1 HBB.out
  have s0 := blk_cell hb2 0
  have s1 := blk_cell hb2 1
  have s2 := blk_cell hb2 2
  clear hb1 hb2
  go_wp2_with (go_at_call 30; (with_reducible refine (HM.out _ _ ((HS.out.keep HB0.out).keep HBB.out) HST.out).mono ?_); rintro e w2 ⟨⟨x, rfl⟩, hb⟩; have HBC := Lib.hid hb; clear hb)
  go_ret2
  exact ⟨rfl, (HB0.out.trans (HBB.out.mono HB0.out.size)).trans (HBC.out.mono (by have := HB0.out.size; have := HBB.out.size; omega))⟩
end Go.Proofs.YtkfokofccakagaaDoor
