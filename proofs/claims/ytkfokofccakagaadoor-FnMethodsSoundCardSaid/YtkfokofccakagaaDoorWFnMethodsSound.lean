/-
  Proved: the walk of laws.FnMethodsSound: it returns true and writes nothing that was there. Conditions: the arguments can be read; the table unicode.properties is as it was laid.
-/
import Derived.Test.YtkfokofccakagaaDoorTwo
import Derived.Test.YtkfokofccakagaaDoorLawCmp
import Derived.Test.YtkfokofccakagaaDoorServes
namespace Go.Proofs.YtkfokofccakagaaDoor
open Go.RowKit

set_option maxRecDepth 100000 in
set_option maxHeartbeats 6400000 in
theorem walk_FnMethodsSound (m1 h1 : ByteArray) (v1 : Value) (l1 : List Seg) (m2 h2 : ByteArray) (v2 : Value) (l2 : List Seg) (mt : ByteArray) (w : World)
    (zm1 : m1.size ≤ 9223372036854775807) (zh1 : h1.size ≤ 9223372036854775807) (H1 : SegsAt w v1 l1) (sh1 : Short l1) (zl1 : l1.length ≤ 9223372036854775807)
    (zm2 : m2.size ≤ 9223372036854775807) (zh2 : h2.size ≤ 9223372036854775807) (H2 : SegsAt w v2 l2) (sh2 : Short l2) (zl2 : l2.length ≤ 9223372036854775807) (zmt : mt.size ≤ maxLen) (hprops : PropsAt w) :
    Calls Tryd.prog 6 #[.agg #[.string m1, .string h1, v1], .agg #[.string m2, .string h2, v2], .string mt] w fun e w' => e = .returned (.bool true) ∧ Below w.heap.size w w' := by
  have HX1 : Hid (∀ W, Below w.heap.size w W → Calls Tryd.prog 13 #[.agg #[.string m1, .string h1, v1]] W (FitsEnd (FitsP m1 h1 l1) W)) := fun W hb => zfOne m1 h1 v1 l1 W (H1.keep hb) sh1 zl1 zm1 zh1
  have HX2 : Hid (∀ W, Below w.heap.size w W → Calls Tryd.prog 13 #[.agg #[.string m2, .string h2, v2]] W (FitsEnd (FitsP m2 h2 l2) W)) := fun W hb => zfOne m2 h2 v2 l2 W (H2.keep hb) sh2 zl2 zm2 zh2
  have HXT : Hid (∀ W, Below w.heap.size w W → FitsP m1 h1 l1 → FitsP m2 h2 l2 → Calls Tryd.prog 14 #[.agg #[.string m1, .string h1, v1], .agg #[.string m2, .string h2, v2]] W (TwoEnd m1 h1 m2 h2 l1 l2 W)) := fun W hb f1 f2 => two_any m1 m2 h1 h2 v1 v2 l1 l2 W (H1.keep hb) (H2.keep hb) f1 f2
  have HPR := Lib.hid hprops
  obtain ⟨A1, c1, rfl, _, _⟩ := H1
  obtain ⟨A2, c2, rfl, _, _⟩ := H2
  unfold maxLen at zmt
  clear hprops sh1 sh2 zm1 zh1 zl1 zm2 zh2 zl2
  go_enter Tryd.func6, Tryd.ntmps6
  go_upto_region 1 with fail
  have hb1 := new0 w (.cells #[.string m1, .string h1, .slice A1 l1.length c1] 24)
  have hb2 := new1 w (.cells #[.string m1, .string h1, .slice A1 l1.length c1] 24) (.cells #[.string m2, .string h2, .slice A2 l2.length c2] 24)
  have hb1' := blk_alloc hb1 (.cells #[.string m2, .string h2, .slice A2 l2.length c2] 24)
  have HBW : Hid (Below w.heap.size w ((w.alloc (.cells #[.string m1, .string h1, .slice A1 l1.length c1] 24)).alloc (.cells #[.string m2, .string h2, .slice A2 l2.length c2] 24))) := ((Below.refl _ _).alloc (Nat.le_refl _) _).alloc (by simp) _
  obtain ⟨W0, hW0⟩ : ∃ W0, W0 = (w.alloc (.cells #[.string m1, .string h1, .slice A1 l1.length c1] 24)).alloc (.cells #[.string m2, .string h2, .slice A2 l2.length c2] 24) := ⟨_, rfl⟩
  rw [← hW0] at hb1' hb2 HBW ⊢
  have HS : Hid (∀ w' : World, Below W0.heap.size W0 w' → w'.cell? ⟨w.heap.size, 0, none⟩ = some (.string m1) ∧ w'.cell? ⟨w.heap.size, 1, none⟩ = some (.string h1) ∧ w'.cell? ⟨w.heap.size, 2, none⟩ = some (.slice A1 l1.length c1) ∧ w'.cell? ⟨w.heap.size + 1, 0, none⟩ = some (.string m2) ∧ w'.cell? ⟨w.heap.size + 1, 1, none⟩ = some (.string h2) ∧ w'.cell? ⟨w.heap.size + 1, 2, none⟩ = some (.slice A2 l2.length c2)) := fun w' hb =>
    ⟨blk_cell (blk_below hb1' hb) 0, blk_cell (blk_below hb1' hb) 1, blk_cell (blk_below hb1' hb) 2, blk_cell (blk_below hb2 hb) 0, blk_cell (blk_below hb2 hb) 1, blk_cell (blk_below hb2 hb) 2⟩
  have HU : Hid (∀ w', Below W0.heap.size W0 w' → Below w.heap.size w w') := fun w' hb => HBW.out.trans (hb.mono HBW.out.size)
  clear hW0 hb1 hb1' hb2
  go_cut [24] (fun c wx => ∃ q : Bool, c = .bool q ∧ Hid (q = false → FitsP m1 h1 l1 ∧ FitsP m2 h2 l2 ∧ mt.size ≤ 2147483647) ∧ Below W0.heap.size W0 wx)
  case first =>
    obtain ⟨s0, s1, s2, s3, s4, s5⟩ := HS.out _ (Below.refl _ _)
    by_cases hsz : 2147483647 < mt.size
    · go_wp2_with (first
        | (go_at_call 13; (with_reducible refine (HX1.out _ ?_).mono ?_); exact HU.out _ (Below.refl _ _); intro e w1 hfe; obtain ⟨b1, rfl, HB1, HP1⟩ := fits_bool hfe; clear hfe; obtain ⟨x0, x1, x2, x3, x4, x5⟩ := HS.out _ HB1.out; cases b1)
        | (go_at_call 13; (with_reducible refine (HX2.out _ ?_).mono ?_); exact HU.out _ HB1.out; intro e w2 hfe; obtain ⟨b2, rfl, HB2, HP2⟩ := fits_bool hfe; clear hfe; cases b2))
      all_goals
        go_meet
        first
          | exact ⟨true, rfl, (fun h => by cases h), HB1.out.trans (HB2.out.mono HB1.out.size)⟩
          | exact ⟨true, rfl, (fun h => by cases h), HB1.out⟩
          | (refine ⟨decide ((2147483647 : Int) < mt.size), rfl, ?_, HB1.out.trans (HB2.out.mono HB1.out.size)⟩; show _ → _; intro h; have hz := of_decide_eq_false h; have g1 := HP1.out; have g2 := HP2.out; exact ⟨by simpa using g1, by simpa using g2, by omega⟩)
    · go_wp2_with (first
        | (go_at_call 13; (with_reducible refine (HX1.out _ ?_).mono ?_); exact HU.out _ (Below.refl _ _); intro e w1 hfe; obtain ⟨b1, rfl, HB1, HP1⟩ := fits_bool hfe; clear hfe; obtain ⟨x0, x1, x2, x3, x4, x5⟩ := HS.out _ HB1.out; cases b1)
        | (go_at_call 13; (with_reducible refine (HX2.out _ ?_).mono ?_); exact HU.out _ HB1.out; intro e w2 hfe; obtain ⟨b2, rfl, HB2, HP2⟩ := fits_bool hfe; clear hfe; cases b2))
      all_goals
        go_meet
        first
          | exact ⟨true, rfl, (fun h => by cases h), HB1.out.trans (HB2.out.mono HB1.out.size)⟩
          | exact ⟨true, rfl, (fun h => by cases h), HB1.out⟩
          | (refine ⟨decide ((2147483647 : Int) < mt.size), rfl, ?_, HB1.out.trans (HB2.out.mono HB1.out.size)⟩; show _ → _; intro h; have hz := of_decide_eq_false h; have g1 := HP1.out; have g2 := HP2.out; exact ⟨by simpa using g1, by simpa using g2, by omega⟩)
  case rest =>
    obtain ⟨q, rfl, HQ, hbc⟩ := hcut
    obtain ⟨wb, rfl⟩ : ∃ wb : World, wb = wc := ⟨_, rfl⟩
    have HBC := Lib.hid hbc
    clear hbc
    cases q
    case true =>
      go_wp2_with fail
      go_ret
      exact ⟨rfl, HU.out _ HBC.out⟩
    case false =>
      obtain ⟨hF1, hF2, hzm⟩ := HQ.out rfl
      have HF1 := Lib.hid hF1
      have HF2 := Lib.hid hF2
      obtain ⟨s0, s1, s2, s3, s4, s5⟩ := HS.out _ HBC.out
      clear hF1 hF2
      go_upto_region 4 with (go_at_call 14; (with_reducible refine (HXT.out _ (HU.out _ HBC.out) HF1.out HF2.out).mono ?_); rintro e wt ⟨X, Y, xc, yc, bt, rfl, hs1, hs2, hg, hbt⟩; have HS1 := Lib.hid hs1; have HS2 := Lib.hid hs2; have HG := Lib.hid hg; have HBT := Lib.hid hbt; clear hs1 hs2 hg hbt)
      clear s0 s1 s2 s3 s4 s5
      have HUT : Hid (Below w.heap.size w wt) := (HU.out _ HBC.out).trans (HBT.out.mono (HU.out _ HBC.out).size)
      have hn1 := new0 wt (.cells #[.string m1, .string h1, .slice X l1.length xc] 28)
      have hn2 := new1 wt (.cells #[.string m1, .string h1, .slice X l1.length xc] 28) (.cells #[.string m2, .string h2, .slice Y l2.length yc] 28)
      have hn1' := blk_alloc hn1 (.cells #[.string m2, .string h2, .slice Y l2.length yc] 28)
      have HBW2 : Hid (Below wt.heap.size wt ((wt.alloc (.cells #[.string m1, .string h1, .slice X l1.length xc] 28)).alloc (.cells #[.string m2, .string h2, .slice Y l2.length yc] 28))) := ((Below.refl _ _).alloc (Nat.le_refl _) _).alloc (by simp) _
      obtain ⟨W2, hW2⟩ : ∃ W2, W2 = (wt.alloc (.cells #[.string m1, .string h1, .slice X l1.length xc] 28)).alloc (.cells #[.string m2, .string h2, .slice Y l2.length yc] 28) := ⟨_, rfl⟩
      rw [← hW2] at hn1' hn2 HBW2 ⊢
      have HT : Hid (∀ w' : World, Below W2.heap.size W2 w' → w'.cell? ⟨wt.heap.size, 0, none⟩ = some (.string m1) ∧ w'.cell? ⟨wt.heap.size, 1, none⟩ = some (.string h1) ∧ w'.cell? ⟨wt.heap.size, 2, none⟩ = some (.slice X l1.length xc) ∧ w'.cell? ⟨wt.heap.size + 1, 0, none⟩ = some (.string m2) ∧ w'.cell? ⟨wt.heap.size + 1, 1, none⟩ = some (.string h2) ∧ w'.cell? ⟨wt.heap.size + 1, 2, none⟩ = some (.slice Y l2.length yc)) := fun w' hb =>
        ⟨blk_cell (blk_below hn1' hb) 0, blk_cell (blk_below hn1' hb) 1, blk_cell (blk_below hn1' hb) 2, blk_cell (blk_below hn2 hb) 0, blk_cell (blk_below hn2 hb) 1, blk_cell (blk_below hn2 hb) 2⟩
      have HV : Hid (∀ w', Below W2.heap.size W2 w' → Below w.heap.size w w') := fun w' hb => HUT.out.trans ((HBW2.out.trans (hb.mono HBW2.out.size)).mono HUT.out.size)
      have HR1 : Hid (∀ w', Below W2.heap.size W2 w' → SegsAt w' (.slice X l1.length xc) l1) := fun w' hb => (HS1.out.keep HBW2.out).keep hb
      have HR2 : Hid (∀ w', Below W2.heap.size W2 w' → SegsAt w' (.slice Y l2.length yc) l2) := fun w' hb => (HS2.out.keep HBW2.out).keep hb
      have HRP : Hid (∀ w', Below W2.heap.size W2 w' → PropsAt w') := fun w' hb => HPR.out.below (HV.out w' hb)
      clear hW2 hn1 hn1' hn2 HS1 HS2 HBW2 HX1 HX2 HXT HF1 HF2 HQ
      cases bt
      case false =>
        go_wp2_with fail
        go_ret
        exact ⟨rfl, HV.out _ (Below.refl _ _)⟩
      case true =>
        obtain ⟨hG1, hG2⟩ := HG.out rfl
        have G1 := Lib.hid hG1
        have G2 := Lib.hid hG2
        clear hG1 hG2 HG
        obtain ⟨okm, hok⟩ : ∃ okm, okm = methodB (bs mt) := ⟨_, rfl⟩
        have HMT : Hid (∀ W, Calls Tryd.prog 24 #[.string mt] W fun e w' => e = .returned (.bool okm) ∧ W = w') := by
          intro W
          rw [hok]
          exact method_loop mt W (by omega)
        clear hok
        cases okm
        case false =>
          go_wp2_with (go_at_call 24; (with_reducible refine (HMT.out _).mono ?_); rintro e wm ⟨rfl, rfl⟩)
          go_ret
          exact ⟨rfl, HV.out _ (Below.refl _ _)⟩
        case true =>
        by_cases hmt : bs mt = []
        · have e0 : mt.toList.isEmpty = true := by rw [bs_toList]; simpa using hmt
          clear hmt
          go_wp2_with (go_at_call 24; (with_reducible refine (HMT.out _).mono ?_); rintro e wm ⟨rfl, rfl⟩)
          go_ret
          exact ⟨rfl, HV.out _ (Below.refl _ _)⟩
        have e0 : mt.toList.isEmpty = false := by rw [bs_toList]; simpa using hmt
        have hsy := byM_says (bs m1) (bs m2) (bs mt) hmt
        have HSV1 : Hid (∀ W, Calls Tryd.prog 25 #[.string m1, .string mt] W fun e w' => e = .returned (.bool (servesB (bs m1) (bs mt))) ∧ W = w') := fun W => serves_any m1 mt W
        have HSV2 : Hid (∀ W, Calls Tryd.prog 25 #[.string m2, .string mt] W fun e w' => e = .returned (.bool (servesB (bs m2) (bs mt))) ∧ W = w') := fun W => serves_any m2 mt W
        have HA : Hid (∀ W, Below W2.heap.size W2 W → Calls Tryd.prog 23 #[.agg #[.string m1, .string h1, .slice X l1.length xc], .agg #[.string m2, .string h2, .slice Y l2.length yc]] W fun e w' => e = .returned (.string (byM (bs m1) (bs m2)).text) ∧ Below W2.heap.size W2 w') := fun W hb => (law_methods m1 m2 h1 h2 _ _ l1 l2 W (HR1.out W hb) (HR2.out W hb) G1.out G2.out (HRP.out W hb)).mono fun e w' ⟨x, y⟩ => ⟨x, hb.trans (y.mono hb.size)⟩
        generalize (byM (bs m1) (bs m2)) = r at HA hsy
        generalize servesB (bs m1) (bs mt) = one at HSV1 hsy
        generalize servesB (bs m2) (bs mt) = other at HSV2 hsy
        have HSY := Lib.hid hsy
        clear hsy hmt
        go_upto_region 6 with (go_at_call 24; (with_reducible refine (HMT.out _).mono ?_); rintro e wm ⟨rfl, rfl⟩)
        go_cut [10, 11] (fun a b wx => a = .bool one ∧ b = .bool other ∧ Below W2.heap.size W2 wx)
        case first =>
          have hd0 : Below W2.heap.size W2 W2.drew := below_drew3 (Below.refl _ _) 1
          go_region_held3 (fun w' => w'.cell? ⟨wt.heap.size, 0, none⟩ = some (.string m1) ∧ w'.cell? ⟨wt.heap.size, 1, none⟩ = some (.string h1) ∧ w'.cell? ⟨wt.heap.size, 2, none⟩ = some (.slice X l1.length xc) ∧ w'.cell? ⟨wt.heap.size + 1, 0, none⟩ = some (.string m2) ∧ w'.cell? ⟨wt.heap.size + 1, 1, none⟩ = some (.string h2) ∧ w'.cell? ⟨wt.heap.size + 1, 2, none⟩ = some (.slice Y l2.length yc))
            (exact HT.out _ (by assumption))
            (first
              | (go_at_call 25; (with_reducible refine (HSV1.out _).mono ?_); rintro e wm ⟨rfl, rfl⟩)
              | (go_at_call 25; (with_reducible refine (HSV2.out _).mono ?_); rintro e wm ⟨rfl, rfl⟩))
          all_goals
            go_wp2_with fail
            go_meet
            exact ⟨rfl, rfl, by assumption⟩
        case rest =>
          obtain ⟨rfl, rfl, hbx⟩ := hcut
          obtain ⟨x0, x1, x2, x3, x4, x5⟩ := HT.out _ hbx
          go_upto_region 8 with (go_at_call 23; (with_reducible refine (HA.out _ ?_).mono ?_); assumption; rintro e wy ⟨rfl, hby⟩)
          have HBY := Lib.hid (HV.out _ hby)
          clear hbx hby x0 x1 x2 x3 x4 x5
          have hs := HSY.out
          cases r <;> cases one <;> cases other <;> (first | (exfalso; revert hs; simp [Kd.Says]; done) | (clear hs; simp only [Rel.text]; go_wp2_with fail; go_ret; exact ⟨rfl, HBY.out⟩))
end Go.Proofs.YtkfokofccakagaaDoor
