/-
  Proved: the walk of laws.FnNoConflict: it returns true and writes nothing that was there. Conditions: the arguments can be read; the table unicode.properties is as it was laid.
-/
import Derived.Test.YtkfokofccakagaaDoorTwo
import Derived.Test.YtkfokofccakagaaDoorGoodKind
import Derived.Test.YtkfokofccakagaaDoorReq
import Derived.Test.YtkfokofccakagaaDoorTakes
namespace Go.Proofs.YtkfokofccakagaaDoor
open Go.RowKit

set_option maxRecDepth 100000 in
set_option maxHeartbeats 12800000 in
theorem walk_FnNoConflict (m1 h1 : ByteArray) (v1 : Value) (l1 : List Seg) (m2 h2 : ByteArray) (v2 : Value) (l2 : List Seg) (rm rh rp : ByteArray) (w : World)
    (zm1 : m1.size ≤ 9223372036854775807) (zh1 : h1.size ≤ 9223372036854775807) (H1 : SegsAt w v1 l1) (sh1 : Short l1) (zl1 : l1.length ≤ 9223372036854775807) (zm2 : m2.size ≤ 9223372036854775807) (zh2 : h2.size ≤ 9223372036854775807) (H2 : SegsAt w v2 l2) (sh2 : Short l2) (zl2 : l2.length ≤ 9223372036854775807) (za3 : rm.size ≤ 9223372036854775807) (zb3 : rh.size ≤ 9223372036854775807) (zc3 : rp.size ≤ 9223372036854775807) (hprops : PropsAt w) :
    Calls Tryd.prog 12 #[.agg #[.string m1, .string h1, v1], .agg #[.string m2, .string h2, v2], .agg #[.string rm, .string rh, .string rp]] w fun e w' => e = .returned (.bool true) ∧ Below w.heap.size w w' := by
  have HX1 : Hid (∀ W, Below w.heap.size w W → Calls Tryd.prog 13 #[.agg #[.string m1, .string h1, v1]] W (FitsEnd (FitsP m1 h1 l1) W)) := fun W hb => zfOne m1 h1 v1 l1 W (H1.keep hb) sh1 zl1 zm1 zh1
  have HX2 : Hid (∀ W, Below w.heap.size w W → Calls Tryd.prog 13 #[.agg #[.string m2, .string h2, v2]] W (FitsEnd (FitsP m2 h2 l2) W)) := fun W hb => zfOne m2 h2 v2 l2 W (H2.keep hb) sh2 zl2 zm2 zh2
  have HX3 : Hid (∀ W, Calls Tryd.prog 35 #[.agg #[.string rm, .string rh, .string rp]] W (FitsEnd (FitsR rm rh rp) W)) := fun W => zfFour rm rh rp W za3 zb3 zc3
  have HXT : Hid (∀ W, Below w.heap.size w W → FitsP m1 h1 l1 → FitsP m2 h2 l2 → Calls Tryd.prog 14 #[.agg #[.string m1, .string h1, v1], .agg #[.string m2, .string h2, v2]] W (TwoEnd m1 h1 m2 h2 l1 l2 W)) := fun W hb f1 f2 => two_any m1 m2 h1 h2 v1 v2 l1 l2 W (H1.keep hb) (H2.keep hb) f1 f2
  have HXC : Hid (∀ W, FitsR rm rh rp → Calls Tryd.prog 36 #[.agg #[.string rm, .string rh, .string rp]] W (ReqEnd rm rh rp W)) := fun W f => request_any rm rh rp W f
  have HPR := Lib.hid hprops
  obtain ⟨A1, c1, rfl, _, _⟩ := H1
  obtain ⟨A2, c2, rfl, _, _⟩ := H2
  clear hprops sh1 sh2 zm1 zh1 zl1 zm2 zh2 zl2 za3 zb3 zc3
  go_enter Tryd.func12, Tryd.ntmps12
  go_upto_region 1 with fail
  have hb1 := blk_alloc (blk_alloc (new0 w (.cells #[.string m1, .string h1, .slice A1 l1.length c1] 24)) (.cells #[.string m2, .string h2, .slice A2 l2.length c2] 24)) (.cells #[.string rm, .string rh, .string rp] 50)
  have hb2 := blk_alloc (new1 w (.cells #[.string m1, .string h1, .slice A1 l1.length c1] 24) (.cells #[.string m2, .string h2, .slice A2 l2.length c2] 24)) (.cells #[.string rm, .string rh, .string rp] 50)
  have hb3 := new2 w (.cells #[.string m1, .string h1, .slice A1 l1.length c1] 24) (.cells #[.string m2, .string h2, .slice A2 l2.length c2] 24) (.cells #[.string rm, .string rh, .string rp] 50)
  have HBW : Hid (Below w.heap.size w (((w.alloc (.cells #[.string m1, .string h1, .slice A1 l1.length c1] 24)).alloc (.cells #[.string m2, .string h2, .slice A2 l2.length c2] 24)).alloc (.cells #[.string rm, .string rh, .string rp] 50))) := (((Below.refl _ _).alloc (Nat.le_refl _) _).alloc (by simp) _).alloc (by simp; omega) _
  obtain ⟨W0, hW0⟩ : ∃ W0, W0 = ((w.alloc (.cells #[.string m1, .string h1, .slice A1 l1.length c1] 24)).alloc (.cells #[.string m2, .string h2, .slice A2 l2.length c2] 24)).alloc (.cells #[.string rm, .string rh, .string rp] 50) := ⟨_, rfl⟩
  rw [← hW0] at hb1 hb2 hb3 HBW ⊢
  have HS : Hid (∀ w' : World, Below W0.heap.size W0 w' → w'.cell? ⟨w.heap.size, 0, none⟩ = some (.string m1) ∧ w'.cell? ⟨w.heap.size, 1, none⟩ = some (.string h1) ∧ w'.cell? ⟨w.heap.size, 2, none⟩ = some (.slice A1 l1.length c1) ∧ w'.cell? ⟨w.heap.size + 1, 0, none⟩ = some (.string m2) ∧ w'.cell? ⟨w.heap.size + 1, 1, none⟩ = some (.string h2) ∧ w'.cell? ⟨w.heap.size + 1, 2, none⟩ = some (.slice A2 l2.length c2) ∧ w'.cell? ⟨w.heap.size + 1 + 1, 0, none⟩ = some (.string rm) ∧ w'.cell? ⟨w.heap.size + 1 + 1, 1, none⟩ = some (.string rh) ∧ w'.cell? ⟨w.heap.size + 1 + 1, 2, none⟩ = some (.string rp)) := fun w' hb =>
    ⟨blk_cell (blk_below hb1 hb) 0, blk_cell (blk_below hb1 hb) 1, blk_cell (blk_below hb1 hb) 2, blk_cell (blk_below hb2 hb) 0, blk_cell (blk_below hb2 hb) 1, blk_cell (blk_below hb2 hb) 2, blk_cell (blk_below hb3 hb) 0, blk_cell (blk_below hb3 hb) 1, blk_cell (blk_below hb3 hb) 2⟩
  have HU : Hid (∀ w', Below W0.heap.size W0 w' → Below w.heap.size w w') := fun w' hb => HBW.out.trans (hb.mono HBW.out.size)
  clear hW0 hb1 hb2 hb3
  go_cut [30] (fun c wx => ∃ q : Bool, c = .bool q ∧ Hid (q = false → FitsP m1 h1 l1 ∧ FitsP m2 h2 l2 ∧ FitsR rm rh rp) ∧ Below W0.heap.size W0 wx)
  case first =>
    obtain ⟨s0, s1, s2, s3, s4, s5, s6, s7, s8⟩ := HS.out _ (Below.refl _ _)
    go_wp2_with (first
      | (go_at_call 13; (with_reducible refine (HX1.out _ ?_).mono ?_); exact HU.out _ (Below.refl _ _); intro e w1 hfe; obtain ⟨b1, rfl, HB1, HP1⟩ := fits_bool hfe; clear hfe; obtain ⟨x0, x1, x2, x3, x4, x5, x6, x7, x8⟩ := HS.out _ HB1.out; cases b1)
      | (go_at_call 13; (with_reducible refine (HX2.out _ ?_).mono ?_); exact HU.out _ HB1.out; intro e w2 hfe; obtain ⟨b2, rfl, HB2', HP2⟩ := fits_bool hfe; clear hfe; have HB2 := Lib.hid (HB1.out.trans (HB2'.out.mono HB1.out.size)); obtain ⟨y0, y1, y2, y3, y4, y5, y6, y7, y8⟩ := HS.out _ HB2.out; cases b2)
      | (go_at_call 35; (with_reducible refine (HX3.out _).mono ?_); intro e w3 hfe; obtain ⟨b3, rfl, HB3, HP3⟩ := fits_bool hfe; clear hfe))
    · go_meet
      exact ⟨true, rfl, (fun h => by cases h), HB1.out⟩
    · go_meet
      exact ⟨true, rfl, (fun h => by cases h), HB2.out⟩
    · go_meet
      refine ⟨!b3, rfl, ?_, HB2.out.trans (HB3.out.mono HB2.out.size)⟩
      show _ → _
      intro h
      have hb3 : b3 = true := by simpa using h
      have g1 := HP1.out
      have g2 := HP2.out
      exact ⟨by simpa using g1, by simpa using g2, HP3.out hb3⟩
  case rest =>
    obtain ⟨q, rfl, HQ, hbc⟩ := hcut
    obtain ⟨wb, rfl⟩ : ∃ wb : World, wb = wc := ⟨_, rfl⟩
    have HBC := Lib.hid hbc
    clear hbc
    cases q
    case true =>
      go_wp2_with fail
      go_ret
      exact ⟨rfl, HU.out _ HBC.out⟩
    case false =>
      obtain ⟨hF1, hF2, hF3⟩ := HQ.out rfl
      have HF1 := Lib.hid hF1
      have HF2 := Lib.hid hF2
      have HF3 := Lib.hid hF3
      obtain ⟨s0, s1, s2, s3, s4, s5, s6, s7, s8⟩ := HS.out _ HBC.out
      clear hF1 hF2 hF3
      go_upto_region 4 with (go_at_call 14; (with_reducible refine (HXT.out _ (HU.out _ HBC.out) HF1.out HF2.out).mono ?_); rintro e wt ⟨X, Y, xc, yc, bt, rfl, hs1, hs2, hg, hbt⟩; have HS1 := Lib.hid hs1; have HS2 := Lib.hid hs2; have HG := Lib.hid hg; have HBT := Lib.hid hbt; clear hs1 hs2 hg hbt)
      clear s0 s1 s2 s3 s4 s5 s6 s7 s8
      have HB0T : Hid (Below W0.heap.size W0 wt) := HBC.out.trans (HBT.out.mono HBC.out.size)
      have hn1 := new0 wt (.cells #[.string m1, .string h1, .slice X l1.length xc] 28)
      have hn2 := new1 wt (.cells #[.string m1, .string h1, .slice X l1.length xc] 28) (.cells #[.string m2, .string h2, .slice Y l2.length yc] 28)
      have hn1' := blk_alloc hn1 (.cells #[.string m2, .string h2, .slice Y l2.length yc] 28)
      have HBW2 : Hid (Below wt.heap.size wt ((wt.alloc (.cells #[.string m1, .string h1, .slice X l1.length xc] 28)).alloc (.cells #[.string m2, .string h2, .slice Y l2.length yc] 28))) := ((Below.refl _ _).alloc (Nat.le_refl _) _).alloc (by simp) _
      obtain ⟨W1, hW1⟩ : ∃ W1, W1 = (wt.alloc (.cells #[.string m1, .string h1, .slice X l1.length xc] 28)).alloc (.cells #[.string m2, .string h2, .slice Y l2.length yc] 28) := ⟨_, rfl⟩
      rw [← hW1] at hn1' hn2 HBW2 ⊢
      have HB01 : Hid (Below W0.heap.size W0 W1) := HB0T.out.trans (HBW2.out.mono HB0T.out.size)
      have HN1 := Lib.hid hn1'
      have HN2 := Lib.hid hn2
      obtain ⟨_, _, _, _, _, _, s6, s7, s8⟩ := HS.out _ HB01.out
      clear hW1 hn1 hn1' hn2
      go_upto_region 5 with (go_at_call 36; (with_reducible refine (HXC.out _ HF3.out).mono ?_); rintro e wv ⟨vi, fine, its, rfl, hfi, hbv⟩; have HFI := Lib.hid hfi; have HBV := Lib.hid hbv; clear hfi hbv)
      clear s6 s7 s8
      have hn3 := new0 wv (.cells #[.string rm, .string rh, .string rp] 52)
      have HB1V : Hid (Below W1.heap.size W1 (wv.alloc (.cells #[.string rm, .string rh, .string rp] 52))) := HBV.out.alloc HBV.out.size _
      have HBVV : Hid (Below wv.heap.size wv (wv.alloc (.cells #[.string rm, .string rh, .string rp] 52))) := (Below.refl _ _).alloc (Nat.le_refl _) _
      obtain ⟨W2, hW2⟩ : ∃ W2, W2 = wv.alloc (.cells #[.string rm, .string rh, .string rp] 52) := ⟨_, rfl⟩
      rw [← hW2] at hn3 HB1V HBVV ⊢
      have hm1 := blk_below HN1.out HB1V.out
      have hm2 := blk_below HN2.out HB1V.out
      have HT : Hid (∀ w' : World, Below W2.heap.size W2 w' → w'.cell? ⟨wt.heap.size, 0, none⟩ = some (.string m1) ∧ w'.cell? ⟨wt.heap.size, 1, none⟩ = some (.string h1) ∧ w'.cell? ⟨wt.heap.size, 2, none⟩ = some (.slice X l1.length xc) ∧ w'.cell? ⟨wt.heap.size + 1, 0, none⟩ = some (.string m2) ∧ w'.cell? ⟨wt.heap.size + 1, 1, none⟩ = some (.string h2) ∧ w'.cell? ⟨wt.heap.size + 1, 2, none⟩ = some (.slice Y l2.length yc) ∧ w'.cell? ⟨wv.heap.size, 0, none⟩ = some (.string rm) ∧ w'.cell? ⟨wv.heap.size, 1, none⟩ = some (.string rh) ∧ w'.cell? ⟨wv.heap.size, 2, none⟩ = some (.string rp)) := fun w' hb =>
        ⟨blk_cell (blk_below hm1 hb) 0, blk_cell (blk_below hm1 hb) 1, blk_cell (blk_below hm1 hb) 2, blk_cell (blk_below hm2 hb) 0, blk_cell (blk_below hm2 hb) 1, blk_cell (blk_below hm2 hb) 2, blk_cell (blk_below hn3 hb) 0, blk_cell (blk_below hn3 hb) 1, blk_cell (blk_below hn3 hb) 2⟩
      have HV : Hid (∀ w', Below W2.heap.size W2 w' → Below w.heap.size w w') := fun w' hb => (HU.out _ HB01.out).trans ((HB1V.out.trans (hb.mono HB1V.out.size)).mono (HU.out _ HB01.out).size)
      have HR1 : Hid (∀ w', Below W2.heap.size W2 w' → SegsAt w' (.slice X l1.length xc) l1) := fun w' hb => ((HS1.out.keep HBW2.out).keep HB1V.out).keep hb
      have HR2 : Hid (∀ w', Below W2.heap.size W2 w' → SegsAt w' (.slice Y l2.length yc) l2) := fun w' hb => ((HS2.out.keep HBW2.out).keep HB1V.out).keep hb
      have HRI : Hid (fine = true → AskOk (bs rm) (bs rh) (bs rp) its ∧ ∀ w', Below W2.heap.size W2 w' → StrsAt w' vi its) := fun h => ⟨(HFI.out h).1, fun w' hb => ((HFI.out h).2.keep HBVV.out).keep hb⟩
      have HRP : Hid (∀ w', Below W2.heap.size W2 w' → PropsAt w') := fun w' hb => HPR.out.below (HV.out w' hb)
      clear hW2 hn3 hm1 hm2 HS1 HS2 HFI HBW2 HX1 HX2 HX3 HXT HXC HF1 HF2 HQ HB1V HBVV HN1 HN2
      obtain ⟨x0, x1, x2, x3, x4, x5, x6, x7, x8⟩ := HT.out _ (Below.refl _ _)
      cases bt
      case false =>
        go_wp2_with fail
        go_ret
        exact ⟨rfl, HV.out _ (Below.refl _ _)⟩
      cases fine
      case false =>
        go_wp2_with fail
        go_ret
        exact ⟨rfl, HV.out _ (Below.refl _ _)⟩
      case true =>
        obtain ⟨hG1, hG2⟩ := HG.out rfl
        have G1 := Lib.hid hG1
        have G2 := Lib.hid hG2
        obtain ⟨hak, hst⟩ := HRI.out rfl
        have HSM := Lib.hid (items_small _ _ hak.1)
        have HST := Lib.hid hst
        clear hG1 hG2 HG HRI hak hst
        have HM1 : Hid (∀ W, Below W2.heap.size W2 W → Calls Tryd.prog 37 #[.agg #[.string m1, .string h1, .slice X l1.length xc], .agg #[.string rm, .string rh, .string rp], vi] W fun e w' => ∃ x, e = .returned (.tuple #[x, .bool (takesB (bs m1) (bs h1) l1 (bs rm) (bs rh) its)]) ∧ Below W2.heap.size W2 w') := fun W hb => (takes_any m1 h1 rm rh rp _ _ l1 its W (HR1.out W hb) (HST.out W hb) (good_len G1.out) HSM.out).mono fun e w' ⟨⟨x, y⟩, z⟩ => ⟨x, y, hb.trans (z.mono hb.size)⟩
        have HM2 : Hid (∀ W, Below W2.heap.size W2 W → Calls Tryd.prog 37 #[.agg #[.string m2, .string h2, .slice Y l2.length yc], .agg #[.string rm, .string rh, .string rp], vi] W fun e w' => ∃ x, e = .returned (.tuple #[x, .bool (takesB (bs m2) (bs h2) l2 (bs rm) (bs rh) its)]) ∧ Below W2.heap.size W2 w') := fun W hb => (takes_any m2 h2 rm rh rp _ _ l2 its W (HR2.out W hb) (HST.out W hb) (good_len G2.out) HSM.out).mono fun e w' ⟨⟨x, y⟩, z⟩ => ⟨x, y, hb.trans (z.mono hb.size)⟩
        have hcs := conf_self G2.out
        have hsw := conf_swap G1.out G2.out
        have hnc := noconf_law (m1 := bs m1) (m2 := bs m2) (h1 := bs h1) (h2 := bs h2) (rm := bs rm) (rh := bs rh) (its := its) G1.out G2.out
        have HA : Hid (∀ W, Below W2.heap.size W2 W → Calls Tryd.prog 33 #[.agg #[.string m1, .string h1, .slice X l1.length xc], .agg #[.string m2, .string h2, .slice Y l2.length yc]] W fun e w' => e = .returned (.bool (confB (bs m1) (bs m2) (bs h1) (bs h2) l1 l2)) ∧ Below W2.heap.size W2 w') := fun W hb => (law_conflicts m1 m2 h1 h2 _ _ l1 l2 W (HR1.out W hb) (HR2.out W hb) G1.out G2.out (HRP.out W hb)).mono fun e w' ⟨x, y⟩ => ⟨x, hb.trans (y.mono hb.size)⟩
        have HB : Hid (∀ W, Below W2.heap.size W2 W → Calls Tryd.prog 33 #[.agg #[.string m2, .string h2, .slice Y l2.length yc], .agg #[.string m1, .string h1, .slice X l1.length xc]] W fun e w' => e = .returned (.bool (confB (bs m2) (bs m1) (bs h2) (bs h1) l2 l1)) ∧ Below W2.heap.size W2 w') := fun W hb => (law_conflicts m2 m1 h2 h1 _ _ l2 l1 W (HR2.out W hb) (HR1.out W hb) G2.out G1.out (HRP.out W hb)).mono fun e w' ⟨x, y⟩ => ⟨x, hb.trans (y.mono hb.size)⟩
        have HC : Hid (∀ W, Below W2.heap.size W2 W → Calls Tryd.prog 33 #[.agg #[.string m2, .string h2, .slice Y l2.length yc], .agg #[.string m2, .string h2, .slice Y l2.length yc]] W fun e w' => e = .returned (.bool (confB (bs m2) (bs m2) (bs h2) (bs h2) l2 l2)) ∧ Below W2.heap.size W2 w') := fun W hb => (law_conflicts m2 m2 h2 h2 _ _ l2 l2 W (HR2.out W hb) (HR2.out W hb) G2.out G2.out (HRP.out W hb)).mono fun e w' ⟨x, y⟩ => ⟨x, hb.trans (y.mono hb.size)⟩
        have HD : Hid (∀ W, Below W2.heap.size W2 W → Calls Tryd.prog 20 #[.agg #[.string m1, .string h1, .slice X l1.length xc], .agg #[.string m2, .string h2, .slice Y l2.length yc]] W fun e w' => e = .returned (.string (Rel.comb (byM (bs m1) (bs m2)) (Kd.byPaths (kinds l1) (kinds l2))).text) ∧ Below W2.heap.size W2 w') := fun W hb => (law_both m1 m2 h1 h2 _ _ l1 l2 W (HR1.out W hb) (HR2.out W hb) G1.out G2.out (HRP.out W hb)).mono fun e w' ⟨x, y⟩ => ⟨x, hb.trans (y.mono hb.size)⟩
        rw [hcs] at HC
        rw [hsw] at HB
        generalize (confB (bs m1) (bs m2) (bs h1) (bs h2) l1 l2) = cf at HA HB hnc
        generalize takesB (bs m1) (bs h1) l1 (bs rm) (bs rh) its = one at HM1 hnc
        generalize takesB (bs m2) (bs h2) l2 (bs rm) (bs rh) its = other at HM2 hnc
        generalize Rel.comb (byM (bs m1) (bs m2)) (Kd.byPaths (kinds l1) (kinds l2)) = rb at HD hnc
        have HNC := Lib.hid hnc
        clear hnc hcs hsw HRP HR1 HR2 HST
        go_upto_region 8 with (go_at_call 37; (with_reducible refine (HM1.out _ ?_).mono ?_); exact Below.refl _ _; rintro e wx ⟨ux, rfl, hbx⟩)
        clear x0 x1 x2 x3 x4 x5 x6 x7 x8
        obtain ⟨x0, x1, x2, x3, x4, x5, x6, x7, x8⟩ := HT.out _ hbx
        go_upto_region 9 with (go_at_call 37; (with_reducible refine (HM2.out _ ?_).mono ?_); exact hbx; rintro e wy ⟨uy, rfl, hby⟩)
        clear x0 x1 x2 x3 x4 x5 x6 x7 x8 hbx
        go_cut [69] (fun c wz => c = .bool (!one || !other) ∧ Below W2.heap.size W2 wz)
        case first =>
          cases one <;> cases other <;> (go_wp2_with fail; go_meet; exact ⟨rfl, hby⟩)
        case rest =>
        obtain ⟨rfl, hbz⟩ := hcut
        obtain ⟨wz, rfl⟩ : ∃ wz : World, wz = wc := ⟨_, rfl⟩
        cases hd : (!one || !other)
        case true =>
          clear hd
          go_wp2_with fail
          have hd0 : Below W2.heap.size W2 wz.drew := hbz.trans (below_drew3 (Below.refl _ _) 1)
          go_region_held3 (fun w' => w'.cell? ⟨wt.heap.size, 0, none⟩ = some (.string m1) ∧ w'.cell? ⟨wt.heap.size, 1, none⟩ = some (.string h1) ∧ w'.cell? ⟨wt.heap.size, 2, none⟩ = some (.slice X l1.length xc) ∧ w'.cell? ⟨wt.heap.size + 1, 0, none⟩ = some (.string m2) ∧ w'.cell? ⟨wt.heap.size + 1, 1, none⟩ = some (.string h2) ∧ w'.cell? ⟨wt.heap.size + 1, 2, none⟩ = some (.slice Y l2.length yc) ∧ w'.cell? ⟨wv.heap.size, 0, none⟩ = some (.string rm) ∧ w'.cell? ⟨wv.heap.size, 1, none⟩ = some (.string rh) ∧ w'.cell? ⟨wv.heap.size, 2, none⟩ = some (.string rp))
            (exact HT.out _ (by assumption))
            (first
              | (go_at_call 33; (with_reducible refine (HA.out _ ?_).mono ?_); assumption; rintro e wx ⟨rfl, hbwx⟩)
              | (go_at_call 33; (with_reducible refine (HB.out _ ?_).mono ?_); assumption; rintro e wy ⟨rfl, hbwy⟩)
              | (go_at_call 33; (with_reducible refine (HC.out _ ?_).mono ?_); assumption; rintro e wz ⟨rfl, hbwz⟩))
          all_goals
            go_wp2_with fail
            go_ret
            exact ⟨by simp, HV.out _ (by assumption)⟩
        case false =>
          obtain ⟨h1', h2'⟩ : one = true ∧ other = true := by cases one <;> cases other <;> simp at hd ⊢
          have hnc := HNC.out h1' h2'
          clear hd h1' h2' HNC HM1 HM2
          obtain ⟨x0, x1, x2, x3, x4, x5, x6, x7, x8⟩ := HT.out _ hbz
          by_cases he : bs h1 = bs h2
          · have e0 : (h1.toList == h2.toList) = true := by rw [bs_toList, bs_toList]; simpa using he
            have HN2 := Lib.hid (hnc he)
            clear hnc he
            go_upto_region 12 with (go_at_call 20; (with_reducible refine (HD.out _ ?_).mono ?_); exact hbz; rintro e wu ⟨rfl, hbu⟩)
            clear x0 x1 x2 x3 x4 x5 x6 x7 x8
            obtain ⟨x0, x1, x2, x3, x4, x5, x6, x7, x8⟩ := HT.out _ hbu
            go_upto_region 13 with (go_at_call 33; (with_reducible refine (HA.out _ ?_).mono ?_); exact hbu; rintro e wv2 ⟨rfl, hbv⟩; obtain ⟨y0, y1, y2, y3, y4, y5, y6, y7, y8⟩ := HT.out _ hbv; have hn := HN2.out; have HBV2 := Lib.hid hbv; clear hbv hbu; cases cf <;> cases rb <;> (first | (exfalso; revert hn; simp; done) | (clear hn; simp only [Rel.text])))
            all_goals
              go_wp2_with fail
              go_ret
              exact ⟨rfl, HV.out _ HBV2.out⟩
          · have e0 : (h1.toList == h2.toList) = false := by rw [bs_toList, bs_toList]; simpa using he
            clear hnc he
            go_upto_region 12 with (go_at_call 20; (with_reducible refine (HD.out _ ?_).mono ?_); exact hbz; rintro e wu ⟨rfl, hbu⟩)
            clear x0 x1 x2 x3 x4 x5 x6 x7 x8
            obtain ⟨x0, x1, x2, x3, x4, x5, x6, x7, x8⟩ := HT.out _ hbu
            go_wp2_with (go_at_call 33; (with_reducible refine (HA.out _ ?_).mono ?_); exact hbu; rintro e wv2 ⟨rfl, hbv⟩; obtain ⟨y0, y1, y2, y3, y4, y5, y6, y7, y8⟩ := HT.out _ hbv; have HBV2 := Lib.hid hbv; clear hbv hbu; cases cf)
            all_goals
              go_ret
              exact ⟨rfl, HV.out _ HBV2.out⟩
end Go.Proofs.YtkfokofccakagaaDoor
