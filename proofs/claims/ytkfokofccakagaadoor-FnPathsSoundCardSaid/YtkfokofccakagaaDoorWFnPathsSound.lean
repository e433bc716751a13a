/-
  Proved: the walk of laws.FnPathsSound: it returns true and writes nothing that was there. Conditions: the arguments can be read; the table unicode.properties is as it was laid.
-/
import Derived.Test.YtkfokofccakagaaDoorTwo
import Derived.Test.YtkfokofccakagaaDoorLawCmp
import Derived.Test.YtkfokofccakagaaDoorGoodKind
import Derived.Test.YtkfokofccakagaaDoorItemsOk
namespace Go.Proofs.YtkfokofccakagaaDoor
open Go.RowKit

set_option maxRecDepth 100000 in
set_option maxHeartbeats 6400000 in
theorem walk_FnPathsSound (m1 h1 : ByteArray) (v1 : Value) (l1 : List Seg) (m2 h2 : ByteArray) (v2 : Value) (l2 : List Seg) (mt : ByteArray) (w : World)
    (zm1 : m1.size ≤ 9223372036854775807) (zh1 : h1.size ≤ 9223372036854775807) (H1 : SegsAt w v1 l1) (sh1 : Short l1) (zl1 : l1.length ≤ 9223372036854775807)
    (zm2 : m2.size ≤ 9223372036854775807) (zh2 : h2.size ≤ 9223372036854775807) (H2 : SegsAt w v2 l2) (sh2 : Short l2) (zl2 : l2.length ≤ 9223372036854775807) (zmt : mt.size ≤ maxLen) (hprops : PropsAt w) :
    Calls Tryd.prog 9 #[.agg #[.string m1, .string h1, v1], .agg #[.string m2, .string h2, v2], .string mt] w fun e w' => e = .returned (.bool true) ∧ Below w.heap.size w w' := by
  have HX1 : Hid (∀ W, Below w.heap.size w W → Calls Tryd.prog 13 #[.agg #[.string m1, .string h1, v1]] W (FitsEnd (FitsP m1 h1 l1) W)) := fun W hb => zfOne m1 h1 v1 l1 W (H1.keep hb) sh1 zl1 zm1 zh1
  have HX2 : Hid (∀ W, Below w.heap.size w W → Calls Tryd.prog 13 #[.agg #[.string m2, .string h2, v2]] W (FitsEnd (FitsP m2 h2 l2) W)) := fun W hb => zfOne m2 h2 v2 l2 W (H2.keep hb) sh2 zl2 zm2 zh2
  have HXT : Hid (∀ W, Below w.heap.size w W → FitsP m1 h1 l1 → FitsP m2 h2 l2 → Calls Tryd.prog 14 #[.agg #[.string m1, .string h1, v1], .agg #[.string m2, .string h2, v2]] W (TwoEnd m1 h1 m2 h2 l1 l2 W)) := fun W hb f1 f2 => two_any m1 m2 h1 h2 v1 v2 l1 l2 W (H1.keep hb) (H2.keep hb) f1 f2
  have HPR := Lib.hid hprops
  obtain ⟨A1, c1, rfl, _, _⟩ := H1
  obtain ⟨A2, c2, rfl, _, _⟩ := H2
  unfold maxLen at zmt
  clear hprops sh1 sh2 zm1 zh1 zl1 zm2 zh2 zl2
  go_enter Tryd.func9, Tryd.ntmps9
  go_upto_region 1 with fail
  have hb1 := new0 w (.cells #[.string m1, .string h1, .slice A1 l1.length c1] 24)
  have hb2 := new1 w (.cells #[.string m1, .string h1, .slice A1 l1.length c1] 24) (.cells #[.string m2, .string h2, .slice A2 l2.length c2] 24)
  have hb1' := blk_alloc hb1 (.cells #[.string m2, .string h2, .slice A2 l2.length c2] 24)
  have HBW : Hid (Below w.heap.size w ((w.alloc (.cells #[.string m1, .string h1, .slice A1 l1.length c1] 24)).alloc (.cells #[.string m2, .string h2, .slice A2 l2.length c2] 24))) := ((Below.refl _ _).alloc (Nat.le_refl _) _).alloc (by simp) _
  obtain ⟨W0, hW0⟩ : ∃ W0, W0 = (w.alloc (.cells #[.string m1, .string h1, .slice A1 l1.length c1] 24)).alloc (.cells #[.string m2, .string h2, .slice A2 l2.length c2] 24) := ⟨_, rfl⟩
  rw [← hW0] at hb1' hb2 HBW ⊢
  have HS : Hid (∀ w' : World, Below W0.heap.size W0 w' → w'.cell? ⟨w.heap.size, 0, none⟩ = some (.string m1) ∧ w'.cell? ⟨w.heap.size, 1, none⟩ = some (.string h1) ∧ w'.cell? ⟨w.heap.size, 2, none⟩ = some (.slice A1 l1.length c1) ∧ w'.cell? ⟨w.heap.size + 1, 0, none⟩ = some (.string m2) ∧ w'.cell? ⟨w.heap.size + 1, 1, none⟩ = some (.string h2) ∧ w'.cell? ⟨w.heap.size + 1, 2, none⟩ = some (.slice A2 l2.length c2)) := fun w' hb =>
    ⟨blk_cell (blk_below hb1' hb) 0, blk_cell (blk_below hb1' hb) 1, blk_cell (blk_below hb1' hb) 2, blk_cell (blk_below hb2 hb) 0, blk_cell (blk_below hb2 hb) 1, blk_cell (blk_below hb2 hb) 2⟩
  have HU : Hid (∀ w', Below W0.heap.size W0 w' → Below w.heap.size w w') := fun w' hb => HBW.out.trans (hb.mono HBW.out.size)
  clear hW0 hb1 hb1' hb2
  go_cut [28] (fun c wx => ∃ q : Bool, c = .bool q ∧ Hid (q = false → FitsP m1 h1 l1 ∧ FitsP m2 h2 l2 ∧ mt.size ≤ 2147483647) ∧ Below W0.heap.size W0 wx)
  case first =>
    obtain ⟨s0, s1, s2, s3, s4, s5⟩ := HS.out _ (Below.refl _ _)
    by_cases hsz : 2147483647 < mt.size
    · go_wp2_with (first
        | (go_at_call 13; (with_reducible refine (HX1.out _ ?_).mono ?_); exact HU.out _ (Below.refl _ _); intro e w1 hfe; obtain ⟨b1, rfl, HB1, HP1⟩ := fits_bool hfe; clear hfe; obtain ⟨x0, x1, x2, x3, x4, x5⟩ := HS.out _ HB1.out; cases b1)
        | (go_at_call 13; (with_reducible refine (HX2.out _ ?_).mono ?_); exact HU.out _ HB1.out; intro e w2 hfe; obtain ⟨b2, rfl, HB2, HP2⟩ := fits_bool hfe; clear hfe; cases b2))
      all_goals
        go_meet
        first
          | exact ⟨true, rfl, (fun h => by cases h), HB1.out.trans (HB2.out.mono HB1.out.size)⟩
          | exact ⟨true, rfl, (fun h => by cases h), HB1.out⟩
          | (refine ⟨decide ((2147483647 : Int) < mt.size), rfl, ?_, HB1.out.trans (HB2.out.mono HB1.out.size)⟩; show _ → _; intro h; have hz := of_decide_eq_false h; have g1 := HP1.out; have g2 := HP2.out; exact ⟨by simpa using g1, by simpa using g2, by omega⟩)
    · go_wp2_with (first
        | (go_at_call 13; (with_reducible refine (HX1.out _ ?_).mono ?_); exact HU.out _ (Below.refl _ _); intro e w1 hfe; obtain ⟨b1, rfl, HB1, HP1⟩ := fits_bool hfe; clear hfe; obtain ⟨x0, x1, x2, x3, x4, x5⟩ := HS.out _ HB1.out; cases b1)
        | (go_at_call 13; (with_reducible refine (HX2.out _ ?_).mono ?_); exact HU.out _ HB1.out; intro e w2 hfe; obtain ⟨b2, rfl, HB2, HP2⟩ := fits_bool hfe; clear hfe; cases b2))
      all_goals
        go_meet
        first
          | exact ⟨true, rfl, (fun h => by cases h), HB1.out.trans (HB2.out.mono HB1.out.size)⟩
          | exact ⟨true, rfl, (fun h => by cases h), HB1.out⟩
          | (refine ⟨decide ((2147483647 : Int) < mt.size), rfl, ?_, HB1.out.trans (HB2.out.mono HB1.out.size)⟩; show _ → _; intro h; have hz := of_decide_eq_false h; have g1 := HP1.out; have g2 := HP2.out; exact ⟨by simpa using g1, by simpa using g2, by omega⟩)
  case rest =>
    obtain ⟨q, rfl, HQ, hbc⟩ := hcut
    obtain ⟨wb, rfl⟩ : ∃ wb : World, wb = wc := ⟨_, rfl⟩
    have HBC := Lib.hid hbc
    clear hbc
    cases q
    case true =>
      go_wp2_with fail
      go_ret
      exact ⟨rfl, HU.out _ HBC.out⟩
    case false =>
      obtain ⟨hF1, hF2, hzm⟩ := HQ.out rfl
      have HF1 := Lib.hid hF1
      have HF2 := Lib.hid hF2
      obtain ⟨s0, s1, s2, s3, s4, s5⟩ := HS.out _ HBC.out
      clear hF1 hF2
      go_upto_region 4 with (go_at_call 14; (with_reducible refine (HXT.out _ (HU.out _ HBC.out) HF1.out HF2.out).mono ?_); rintro e wt ⟨X, Y, xc, yc, bt, rfl, hs1, hs2, hg, hbt⟩; have HS1 := Lib.hid hs1; have HS2 := Lib.hid hs2; have HG := Lib.hid hg; have HBT := Lib.hid hbt; clear hs1 hs2 hg hbt)
      clear s0 s1 s2 s3 s4 s5
      have HUT : Hid (Below w.heap.size w wt) := (HU.out _ HBC.out).trans (HBT.out.mono (HU.out _ HBC.out).size)
      have hn1 := new0 wt (.cells #[.string m1, .string h1, .slice X l1.length xc] 28)
      have hn2 := new1 wt (.cells #[.string m1, .string h1, .slice X l1.length xc] 28) (.cells #[.string m2, .string h2, .slice Y l2.length yc] 28)
      have hn1' := blk_alloc hn1 (.cells #[.string m2, .string h2, .slice Y l2.length yc] 28)
      have HBW2 : Hid (Below wt.heap.size wt ((wt.alloc (.cells #[.string m1, .string h1, .slice X l1.length xc] 28)).alloc (.cells #[.string m2, .string h2, .slice Y l2.length yc] 28))) := ((Below.refl _ _).alloc (Nat.le_refl _) _).alloc (by simp) _
      obtain ⟨W2, hW2⟩ : ∃ W2, W2 = (wt.alloc (.cells #[.string m1, .string h1, .slice X l1.length xc] 28)).alloc (.cells #[.string m2, .string h2, .slice Y l2.length yc] 28) := ⟨_, rfl⟩
      rw [← hW2] at hn1' hn2 HBW2 ⊢
      have HT : Hid (∀ w' : World, Below W2.heap.size W2 w' → w'.cell? ⟨wt.heap.size, 0, none⟩ = some (.string m1) ∧ w'.cell? ⟨wt.heap.size, 1, none⟩ = some (.string h1) ∧ w'.cell? ⟨wt.heap.size, 2, none⟩ = some (.slice X l1.length xc) ∧ w'.cell? ⟨wt.heap.size + 1, 0, none⟩ = some (.string m2) ∧ w'.cell? ⟨wt.heap.size + 1, 1, none⟩ = some (.string h2) ∧ w'.cell? ⟨wt.heap.size + 1, 2, none⟩ = some (.slice Y l2.length yc)) := fun w' hb =>
        ⟨blk_cell (blk_below hn1' hb) 0, blk_cell (blk_below hn1' hb) 1, blk_cell (blk_below hn1' hb) 2, blk_cell (blk_below hn2 hb) 0, blk_cell (blk_below hn2 hb) 1, blk_cell (blk_below hn2 hb) 2⟩
      have HV : Hid (∀ w', Below W2.heap.size W2 w' → Below w.heap.size w w') := fun w' hb => HUT.out.trans ((HBW2.out.trans (hb.mono HBW2.out.size)).mono HUT.out.size)
      have HR1 : Hid (∀ w', Below W2.heap.size W2 w' → SegsAt w' (.slice X l1.length xc) l1) := fun w' hb => (HS1.out.keep HBW2.out).keep hb
      have HR2 : Hid (∀ w', Below W2.heap.size W2 w' → SegsAt w' (.slice Y l2.length yc) l2) := fun w' hb => (HS2.out.keep HBW2.out).keep hb
      have HRP : Hid (∀ w', Below W2.heap.size W2 w' → PropsAt w') := fun w' hb => HPR.out.below (HV.out w' hb)
      clear hW2 hn1 hn1' hn2 HS1 HS2 HBW2 HX1 HX2 HXT HF1 HF2 HQ
      obtain ⟨s0, s1, s2, s3, s4, s5⟩ := HT.out _ (Below.refl _ _)
      have HIT : Hid (∀ W, Calls Tryd.prog 29 #[.string mt] W (ItemsOk (bs mt) W)) := fun W => items_ok mt W (by omega)
      go_upto_region 5 with (go_at_call 29; (with_reducible refine (HIT.out _).mono ?_); rintro e wi ⟨vi, fine, its, rfl, hfi, hbi⟩; have HFI := Lib.hid hfi; have HBI := Lib.hid hbi; clear hfi hbi)
      clear s0 s1 s2 s3 s4 s5
      have NHT : Hid (∀ w' : World, Below wi.heap.size wi w' → w'.cell? ⟨wt.heap.size, 0, none⟩ = some (.string m1) ∧ w'.cell? ⟨wt.heap.size, 1, none⟩ = some (.string h1) ∧ w'.cell? ⟨wt.heap.size, 2, none⟩ = some (.slice X l1.length xc) ∧ w'.cell? ⟨wt.heap.size + 1, 0, none⟩ = some (.string m2) ∧ w'.cell? ⟨wt.heap.size + 1, 1, none⟩ = some (.string h2) ∧ w'.cell? ⟨wt.heap.size + 1, 2, none⟩ = some (.slice Y l2.length yc)) := fun w' hb => HT.out w' (HBI.out.trans (hb.mono HBI.out.size))
      have NHV : Hid (∀ w' : World, Below wi.heap.size wi w' → Below w.heap.size w w') := fun w' hb => HV.out w' (HBI.out.trans (hb.mono HBI.out.size))
      have NHR1 : Hid (∀ w' : World, Below wi.heap.size wi w' → SegsAt w' (.slice X l1.length xc) l1) := fun w' hb => HR1.out w' (HBI.out.trans (hb.mono HBI.out.size))
      have NHR2 : Hid (∀ w' : World, Below wi.heap.size wi w' → SegsAt w' (.slice Y l2.length yc) l2) := fun w' hb => HR2.out w' (HBI.out.trans (hb.mono HBI.out.size))
      have NHRP : Hid (∀ w' : World, Below wi.heap.size wi w' → PropsAt w') := fun w' hb => HRP.out w' (HBI.out.trans (hb.mono HBI.out.size))
      clear HT HV HR1 HR2 HRP
      obtain ⟨HT, HV, HR1, HR2, HRP⟩ : _ ∧ _ ∧ _ ∧ _ ∧ _ := ⟨NHT, NHV, NHR1, NHR2, NHRP⟩
      clear NHT NHV NHR1 NHR2 NHRP HBI HIT
      obtain ⟨W2, rfl⟩ : ∃ W2 : World, W2 = wi := ⟨_, rfl⟩
      cases bt
      case false =>
        go_wp2_with fail
        go_ret
        exact ⟨rfl, HV.out _ (Below.refl _ _)⟩
      cases fine
      case false =>
        go_wp2_with fail
        go_ret
        exact ⟨rfl, HV.out _ (Below.refl _ _)⟩
      case true =>
        obtain ⟨hG1, hG2⟩ := HG.out rfl
        have G1 := Lib.hid hG1
        have G2 := Lib.hid hG2
        obtain ⟨hii, hst⟩ := HFI.out rfl
        have HSM := Lib.hid (items_small _ _ hii)
        have HST : Hid (∀ w' : World, Below W2.heap.size W2 w' → StrsAt w' vi its) := fun w' hb => hst.keep hb
        clear hG1 hG2 HG HFI hii hst
        have HA : Hid (∀ W, Below W2.heap.size W2 W → Calls Tryd.prog 26 #[.agg #[.string m1, .string h1, .slice X l1.length xc], .agg #[.string m2, .string h2, .slice Y l2.length yc]] W fun e w' => e = .returned (.string (Kd.byPaths (kinds l1) (kinds l2)).text) ∧ Below W2.heap.size W2 w') := fun W hb => (law_paths m1 m2 h1 h2 _ _ l1 l2 W (HR1.out W hb) (HR2.out W hb) G1.out G2.out (HRP.out W hb)).mono fun e w' ⟨x, y⟩ => ⟨x, hb.trans (y.mono hb.size)⟩
        have HM1 : Hid (∀ W, Below W2.heap.size W2 W → Calls Tryd.prog 30 #[.agg #[.string m1, .string h1, .slice X l1.length xc], vi] W fun e w' => ∃ x, e = .returned (.tuple #[x, .bool (Kd.mt (kinds l1) its)]) ∧ Below W2.heap.size W2 w') := fun W hb => (matches_any m1 h1 _ _ l1 its W (HR1.out W hb) (HST.out W hb) (good_len G1.out) HSM.out).mono fun e w' ⟨⟨x, y⟩, z⟩ => ⟨x, y, hb.trans (z.mono hb.size)⟩
        have HM2 : Hid (∀ W, Below W2.heap.size W2 W → Calls Tryd.prog 30 #[.agg #[.string m2, .string h2, .slice Y l2.length yc], vi] W fun e w' => ∃ x, e = .returned (.tuple #[x, .bool (Kd.mt (kinds l2) its)]) ∧ Below W2.heap.size W2 w') := fun W hb => (matches_any m2 h2 _ _ l2 its W (HR2.out W hb) (HST.out W hb) (good_len G2.out) HSM.out).mono fun e w' ⟨⟨x, y⟩, z⟩ => ⟨x, y, hb.trans (z.mono hb.size)⟩
        have hsy := Kd.says_byR (kinds l1) (kinds l2) its
        rw [← byPaths_good G1.out G2.out] at hsy
        generalize (Kd.byPaths (kinds l1) (kinds l2)) = r at HA hsy
        generalize Kd.mt (kinds l1) its = one at HM1 hsy
        generalize Kd.mt (kinds l2) its = other at HM2 hsy
        have HSY := Lib.hid hsy
        clear hsy
        obtain ⟨s0, s1, s2, s3, s4, s5⟩ := HT.out _ (Below.refl _ _)
        have hd0 := Below.refl W2.heap.size W2
        go_upto_region 8 with (go_at_call 30; (with_reducible refine (HM1.out _ ?_).mono ?_); assumption; rintro e wx ⟨ux, rfl, hbx⟩; obtain ⟨x0, x1, x2, x3, x4, x5⟩ := HT.out _ hbx)
        clear s0 s1 s2 s3 s4 s5 hd0
        go_upto_region 9 with (go_at_call 30; (with_reducible refine (HM2.out _ ?_).mono ?_); assumption; rintro e wy ⟨uy, rfl, hby⟩; obtain ⟨y0, y1, y2, y3, y4, y5⟩ := HT.out _ hby)
        clear x0 x1 x2 x3 x4 x5 hbx
        go_upto_region 10 with (go_at_call 26; (with_reducible refine (HA.out _ ?_).mono ?_); assumption; rintro e wz ⟨rfl, hbz⟩)
        have HBZ := Lib.hid (HV.out _ hbz)
        clear hbz hby y0 y1 y2 y3 y4 y5
        have hs := HSY.out
        cases r <;> cases one <;> cases other <;> (first | (exfalso; revert hs; simp [Kd.Says]; done) | (clear hs; simp only [Rel.text]; go_wp2_with fail; go_ret; exact ⟨rfl, HBZ.out⟩))
end Go.Proofs.YtkfokofccakagaaDoor
