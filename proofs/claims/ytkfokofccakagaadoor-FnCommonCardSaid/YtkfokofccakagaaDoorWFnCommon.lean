/-
  Proved: the walk of laws.FnCommon: it returns true and writes nothing that was there. Conditions: the arguments can be read; the table unicode.properties is as it was laid.
-/
import Derived.Test.YtkfokofccakagaaDoorTwo
import Derived.Test.YtkfokofccakagaaDoorLawCmp
import Derived.Test.YtkfokofccakagaaDoorCommonPath
import Derived.Test.YtkfokofccakagaaDoorMeets
namespace Go.Proofs.YtkfokofccakagaaDoor
open Go.RowKit

set_option maxRecDepth 100000 in
set_option maxHeartbeats 6400000 in
theorem walk_FnCommon (m1 h1 : ByteArray) (v1 : Value) (l1 : List Seg) (m2 h2 : ByteArray) (v2 : Value) (l2 : List Seg) (w : World)
    (zm1 : m1.size ≤ 9223372036854775807) (zh1 : h1.size ≤ 9223372036854775807) (H1 : SegsAt w v1 l1) (sh1 : Short l1) (zl1 : l1.length ≤ 9223372036854775807)
    (zm2 : m2.size ≤ 9223372036854775807) (zh2 : h2.size ≤ 9223372036854775807) (H2 : SegsAt w v2 l2) (sh2 : Short l2) (zl2 : l2.length ≤ 9223372036854775807) (hprops : PropsAt w) :
    Calls Tryd.prog 3 #[.agg #[.string m1, .string h1, v1], .agg #[.string m2, .string h2, v2]] w fun e w' => e = .returned (.bool true) ∧ Below w.heap.size w w' := by
  have HX1 : Hid (∀ W, Below w.heap.size w W → Calls Tryd.prog 13 #[.agg #[.string m1, .string h1, v1]] W (FitsEnd (FitsP m1 h1 l1) W)) := fun W hb => zfOne m1 h1 v1 l1 W (H1.keep hb) sh1 zl1 zm1 zh1
  have HX2 : Hid (∀ W, Below w.heap.size w W → Calls Tryd.prog 13 #[.agg #[.string m2, .string h2, v2]] W (FitsEnd (FitsP m2 h2 l2) W)) := fun W hb => zfOne m2 h2 v2 l2 W (H2.keep hb) sh2 zl2 zm2 zh2
  have HXT : Hid (∀ W, Below w.heap.size w W → FitsP m1 h1 l1 → FitsP m2 h2 l2 → Calls Tryd.prog 14 #[.agg #[.string m1, .string h1, v1], .agg #[.string m2, .string h2, v2]] W (TwoEnd m1 h1 m2 h2 l1 l2 W)) := fun W hb f1 f2 => two_any m1 m2 h1 h2 v1 v2 l1 l2 W (H1.keep hb) (H2.keep hb) f1 f2
  have HPR := Lib.hid hprops
  obtain ⟨A1, c1, rfl, _, _⟩ := H1
  obtain ⟨A2, c2, rfl, _, _⟩ := H2
  clear hprops sh1 sh2 zm1 zh1 zl1 zm2 zh2 zl2
  go_enter Tryd.func3, Tryd.ntmps3
  go_upto_region 1 with fail
  have hb1 := new0 w (.cells #[.string m1, .string h1, .slice A1 l1.length c1] 24)
  have hb2 := new1 w (.cells #[.string m1, .string h1, .slice A1 l1.length c1] 24) (.cells #[.string m2, .string h2, .slice A2 l2.length c2] 24)
  have hb1' := blk_alloc hb1 (.cells #[.string m2, .string h2, .slice A2 l2.length c2] 24)
  have HBW : Hid (Below w.heap.size w ((w.alloc (.cells #[.string m1, .string h1, .slice A1 l1.length c1] 24)).alloc (.cells #[.string m2, .string h2, .slice A2 l2.length c2] 24))) := ((Below.refl _ _).alloc (Nat.le_refl _) _).alloc (by simp) _
  obtain ⟨W0, hW0⟩ : ∃ W0, W0 = (w.alloc (.cells #[.string m1, .string h1, .slice A1 l1.length c1] 24)).alloc (.cells #[.string m2, .string h2, .slice A2 l2.length c2] 24) := ⟨_, rfl⟩
  rw [← hW0] at hb1' hb2 HBW ⊢
  have HS : Hid (∀ w' : World, Below W0.heap.size W0 w' → w'.cell? ⟨w.heap.size, 0, none⟩ = some (.string m1) ∧ w'.cell? ⟨w.heap.size, 1, none⟩ = some (.string h1) ∧ w'.cell? ⟨w.heap.size, 2, none⟩ = some (.slice A1 l1.length c1) ∧ w'.cell? ⟨w.heap.size + 1, 0, none⟩ = some (.string m2) ∧ w'.cell? ⟨w.heap.size + 1, 1, none⟩ = some (.string h2) ∧ w'.cell? ⟨w.heap.size + 1, 2, none⟩ = some (.slice A2 l2.length c2)) := fun w' hb =>
    ⟨blk_cell (blk_below hb1' hb) 0, blk_cell (blk_below hb1' hb) 1, blk_cell (blk_below hb1' hb) 2, blk_cell (blk_below hb2 hb) 0, blk_cell (blk_below hb2 hb) 1, blk_cell (blk_below hb2 hb) 2⟩
  have HU : Hid (∀ w', Below W0.heap.size W0 w' → Below w.heap.size w w') := fun w' hb => HBW.out.trans (hb.mono HBW.out.size)
  clear hW0 hb1 hb1' hb2
  go_cut [20] (fun c wx => ∃ q : Bool, c = .bool q ∧ Hid (q = false → FitsP m1 h1 l1 ∧ FitsP m2 h2 l2) ∧ Below W0.heap.size W0 wx)
  case first =>
    obtain ⟨s0, s1, s2, s3, s4, s5⟩ := HS.out _ (Below.refl _ _)
    go_wp2_with (first
      | (go_at_call 13; (with_reducible refine (HX1.out _ ?_).mono ?_); exact HU.out _ (Below.refl _ _); intro e w1 hfe; obtain ⟨b1, rfl, HB1, HP1⟩ := fits_bool hfe; clear hfe; obtain ⟨x0, x1, x2, x3, x4, x5⟩ := HS.out _ HB1.out; cases b1)
      | (go_at_call 13; (with_reducible refine (HX2.out _ ?_).mono ?_); exact HU.out _ HB1.out; intro e w2 hfe; obtain ⟨b2, rfl, HB2, HP2⟩ := fits_bool hfe; clear hfe))
    · go_meet
      exact ⟨true, rfl, (fun h => by cases h), HB1.out⟩
    · go_meet
      refine ⟨!b2, rfl, ?_, HB1.out.trans (HB2.out.mono HB1.out.size)⟩
      show _ → _
      intro h
      have hb2 : b2 = true := by simpa using h
      have g1 := HP1.out
      exact ⟨by simpa using g1, HP2.out hb2⟩
  case rest =>
    obtain ⟨q, rfl, HQ, hbc⟩ := hcut
    obtain ⟨wb, rfl⟩ : ∃ wb : World, wb = wc := ⟨_, rfl⟩
    have HBC := Lib.hid hbc
    clear hbc
    cases q
    case true =>
      go_wp2_with fail
      go_ret
      exact ⟨rfl, HU.out _ HBC.out⟩
    case false =>
      obtain ⟨hF1, hF2⟩ := HQ.out rfl
      have HF1 := Lib.hid hF1
      have HF2 := Lib.hid hF2
      obtain ⟨s0, s1, s2, s3, s4, s5⟩ := HS.out _ HBC.out
      clear hF1 hF2
      go_upto_region 4 with (go_at_call 14; (with_reducible refine (HXT.out _ (HU.out _ HBC.out) HF1.out HF2.out).mono ?_); rintro e wt ⟨X, Y, xc, yc, bt, rfl, hs1, hs2, hg, hbt⟩; have HS1 := Lib.hid hs1; have HS2 := Lib.hid hs2; have HG := Lib.hid hg; have HBT := Lib.hid hbt; clear hs1 hs2 hg hbt)
      clear s0 s1 s2 s3 s4 s5
      have HUT : Hid (Below w.heap.size w wt) := (HU.out _ HBC.out).trans (HBT.out.mono (HU.out _ HBC.out).size)
      have hn1 := new0 wt (.cells #[.string m1, .string h1, .slice X l1.length xc] 28)
      have hn2 := new1 wt (.cells #[.string m1, .string h1, .slice X l1.length xc] 28) (.cells #[.string m2, .string h2, .slice Y l2.length yc] 28)
      have hn1' := blk_alloc hn1 (.cells #[.string m2, .string h2, .slice Y l2.length yc] 28)
      have HBW2 : Hid (Below wt.heap.size wt ((wt.alloc (.cells #[.string m1, .string h1, .slice X l1.length xc] 28)).alloc (.cells #[.string m2, .string h2, .slice Y l2.length yc] 28))) := ((Below.refl _ _).alloc (Nat.le_refl _) _).alloc (by simp) _
      obtain ⟨W2, hW2⟩ : ∃ W2, W2 = (wt.alloc (.cells #[.string m1, .string h1, .slice X l1.length xc] 28)).alloc (.cells #[.string m2, .string h2, .slice Y l2.length yc] 28) := ⟨_, rfl⟩
      rw [← hW2] at hn1' hn2 HBW2 ⊢
      have HT : Hid (∀ w' : World, Below W2.heap.size W2 w' → w'.cell? ⟨wt.heap.size, 0, none⟩ = some (.string m1) ∧ w'.cell? ⟨wt.heap.size, 1, none⟩ = some (.string h1) ∧ w'.cell? ⟨wt.heap.size, 2, none⟩ = some (.slice X l1.length xc) ∧ w'.cell? ⟨wt.heap.size + 1, 0, none⟩ = some (.string m2) ∧ w'.cell? ⟨wt.heap.size + 1, 1, none⟩ = some (.string h2) ∧ w'.cell? ⟨wt.heap.size + 1, 2, none⟩ = some (.slice Y l2.length yc)) := fun w' hb =>
        ⟨blk_cell (blk_below hn1' hb) 0, blk_cell (blk_below hn1' hb) 1, blk_cell (blk_below hn1' hb) 2, blk_cell (blk_below hn2 hb) 0, blk_cell (blk_below hn2 hb) 1, blk_cell (blk_below hn2 hb) 2⟩
      have HV : Hid (∀ w', Below W2.heap.size W2 w' → Below w.heap.size w w') := fun w' hb => HUT.out.trans ((HBW2.out.trans (hb.mono HBW2.out.size)).mono HUT.out.size)
      have HR1 : Hid (∀ w', Below W2.heap.size W2 w' → SegsAt w' (.slice X l1.length xc) l1) := fun w' hb => (HS1.out.keep HBW2.out).keep hb
      have HR2 : Hid (∀ w', Below W2.heap.size W2 w' → SegsAt w' (.slice Y l2.length yc) l2) := fun w' hb => (HS2.out.keep HBW2.out).keep hb
      have HRP : Hid (∀ w', Below W2.heap.size W2 w' → PropsAt w') := fun w' hb => HPR.out.below (HV.out w' hb)
      clear hW2 hn1 hn1' hn2 HS1 HS2 HBW2 HX1 HX2 HXT HF1 HF2 HQ
      cases bt
      case false =>
        go_wp2_with fail
        go_ret
        exact ⟨rfl, HV.out _ (Below.refl _ _)⟩
      case true =>
        obtain ⟨hG1, hG2⟩ := HG.out rfl
        have G1 := Lib.hid hG1
        have G2 := Lib.hid hG2
        clear hG1 hG2 HG
        have HB : Hid (∀ W, Below W2.heap.size W2 W → Calls Tryd.prog 15 #[.agg #[.string m1, .string h1, .slice X l1.length xc], .agg #[.string m2, .string h2, .slice Y l2.length yc]] W fun e w' => e = .returned (.string (Kd.byPaths (kinds l1) (kinds l2)).text) ∧ Below W2.heap.size W2 w') := fun W hb => (spec_byPaths m1 m2 h1 h2 _ _ l1 l2 W (HR1.out W hb) (HR2.out W hb) G1.out.some_ G2.out.some_ (good_len G1.out) (good_len G2.out)).mono fun e w' ⟨x, y⟩ => ⟨x, hb.trans (y.mono hb.size)⟩
        have HM : Hid (∀ W, Below W2.heap.size W2 W → Calls Tryd.prog 16 #[.agg #[.string m1, .string h1, .slice X l1.length xc], .agg #[.string m2, .string h2, .slice Y l2.length yc]] W fun e w' => e = .returned (.bool (meetsB l1 l2)) ∧ Below W2.heap.size W2 w') := fun W hb => (meets_any m1 m2 h1 h2 _ _ l1 l2 W (HR1.out W hb) (HR2.out W hb) (good_len G1.out)).mono fun e w' ⟨x, y⟩ => ⟨x, hb.trans (y.mono hb.size)⟩
        have HY1 : Hid (∀ W, Below W2.heap.size W2 W → Calls Tryd.prog 18 #[.agg #[.string m1, .string h1, .slice X l1.length xc]] W fun e w' => e = .returned (.string (writeS m1 h1 l1)) ∧ Below W2.heap.size W2 w') := fun W hb => (write_any m1 h1 _ l1 W (HR1.out W hb) (by have := (good_sizes G1.out).1; omega) (by have := (good_sizes G1.out).2.1; omega) G1.out.six (good_sizes G1.out).2.2).mono fun e w' ⟨x, y⟩ => ⟨x, hb.trans (y.mono hb.size)⟩
        have HY2 : Hid (∀ W, Below W2.heap.size W2 W → Calls Tryd.prog 18 #[.agg #[.string m2, .string h2, .slice Y l2.length yc]] W fun e w' => e = .returned (.string (writeS m2 h2 l2)) ∧ Below W2.heap.size W2 w') := fun W hb => (write_any m2 h2 _ l2 W (HR2.out W hb) (by have := (good_sizes G2.out).1; omega) (by have := (good_sizes G2.out).2.1; omega) G2.out.six (good_sizes G2.out).2.2).mono fun e w' ⟨x, y⟩ => ⟨x, hb.trans (y.mono hb.size)⟩
        have HYC : Hid (∀ W, Below W2.heap.size W2 W → Calls Tryd.prog 17 #[.string (writeS m1 h1 l1), .string (writeS m2 h2 l2)] W fun e w' => e = .returned (.string ⟨(slashed (ctext l1 l2)).toArray⟩) ∧ Below W2.heap.size W2 w') := fun W hb => (implCommon_any m1 m2 h1 h2 l1 l2 W G1.out G2.out (HRP.out W hb)).mono fun e w' ⟨x, y⟩ => ⟨x, hb.trans (y.mono hb.size)⟩
        have hlaw := fun (hr : Kd.byPaths (kinds l1) (kinds l2) ≠ .dis) (hx : meetsB l1 l2 = false) => common_law G1.out G2.out hr hx
        have hlen : (slashed (ctext l1 l2)).length ≤ 9223372036854775807 := by
          have h1 := ctext_len l1 l2
          have h2 := slashed_length (ctext l1 l2) fun x hx => (ctext_ch l1 l2 (okSegs_of l1 G1.out.seg) (okSegs_of l2 G2.out.seg) x hx).1
          have h3 := G1.out.six
          have h4 := G2.out.six
          omega
        obtain ⟨pt, hpt⟩ : ∃ pt : ByteArray, pt = ⟨(slashed (ctext l1 l2)).toArray⟩ := ⟨_, rfl⟩
        have hbp : bs pt = slashed (ctext l1 l2) := by rw [hpt]; simp [bs]
        have hps : pt.size ≤ 9223372036854775807 := by rw [← bs_size, hbp]; exact hlen
        rw [← hbp] at hlaw
        rw [← hpt] at HYC
        have HLAW := Lib.hid hlaw
        generalize (Kd.byPaths (kinds l1) (kinds l2)) = rp at HB HLAW
        generalize meetsB l1 l2 = mb at HM HLAW
        generalize writeS m1 h1 l1 = t1 at HY1 HYC
        generalize writeS m2 h2 l2 = t2 at HY2 HYC
        clear hlaw hlen hpt hbp
        obtain ⟨s0, s1, s2, s3, s4, s5⟩ := HT.out _ (Below.refl _ _)
        have HREF : Hid (Below W2.heap.size W2 W2) := Below.refl _ _
        go_cut [40] (fun c wx => ∃ q : Bool, c = .bool q ∧ Hid (q = false → rp ≠ .dis ∧ mb = false) ∧ Below W2.heap.size W2 wx)
        case first =>
          cases rp
          case dis =>
            simp only [Rel.text] at HB
            go_wp2_with (go_at_call 15; (with_reducible refine (HB.out _ HREF.out).mono ?_); rintro e wx ⟨rfl, hbx⟩)
            go_meet
            exact ⟨true, rfl, (fun h => by cases h), hbx⟩
          all_goals
            simp only [Rel.text] at HB
            go_wp2_with (first
              | (go_at_call 15; (with_reducible refine (HB.out _ HREF.out).mono ?_); rintro e wx ⟨rfl, hbx⟩; obtain ⟨x0, x1, x2, x3, x4, x5⟩ := HT.out _ hbx; have HBX := Lib.hid hbx; clear hbx)
              | (go_at_call 16; (with_reducible refine (HM.out _ HBX.out).mono ?_); rintro e wm ⟨rfl, hbm⟩))
            go_meet
            exact ⟨mb, rfl, (fun h => ⟨by simp, h⟩), hbm⟩
        case rest =>
          obtain ⟨q, rfl, HQ, hbc⟩ := hcut
          obtain ⟨wz, rfl⟩ : ∃ wz : World, wz = wc := ⟨_, rfl⟩
          have HBZ := Lib.hid hbc
          clear hbc s0 s1 s2 s3 s4 s5 HM HB
          cases q
          case true =>
            go_wp2_with fail
            go_ret
            exact ⟨rfl, HV.out _ HBZ.out⟩
          case false =>
            obtain ⟨hq1, hq2⟩ := HQ.out rfl
            obtain ⟨its, hits, hm1, hm2⟩ := HLAW.out hq1 hq2
            have HE1 : Hid (∀ W, Below W2.heap.size W2 W → Calls Tryd.prog 19 #[.agg #[.string m1, .string h1, .slice X l1.length xc], .string pt] W fun e w' => e = .returned (.tuple #[.bool true, .bool true]) ∧ Below W2.heap.size W2 w') := fun W hb => (matched_any m1 h1 pt _ l1 its W (HR1.out W hb) (good_len G1.out) hits hps).mono fun e w' ⟨x, y⟩ => ⟨x.trans (by rw [show Kd.mt (l1.map kindOf) its = true from hm1]), hb.trans (y.mono hb.size)⟩
            have HE2 : Hid (∀ W, Below W2.heap.size W2 W → Calls Tryd.prog 19 #[.agg #[.string m2, .string h2, .slice Y l2.length yc], .string pt] W fun e w' => e = .returned (.tuple #[.bool true, .bool true]) ∧ Below W2.heap.size W2 w') := fun W hb => (matched_any m2 h2 pt _ l2 its W (HR2.out W hb) (good_len G2.out) hits hps).mono fun e w' ⟨x, y⟩ => ⟨x.trans (by rw [show Kd.mt (l2.map kindOf) its = true from hm2]), hb.trans (y.mono hb.size)⟩
            clear hq1 hq2 hits hm1 hm2 HQ HLAW hps
            go_upto_region 6 with fail
            go_cut [8] (fun v wx => v = .string pt ∧ Below W2.heap.size W2 wx)
            case first =>
              have hd0 : Below W2.heap.size W2 wz.drew := below_drew3 HBZ.out 1
              go_region_held3 (fun w' => w'.cell? ⟨wt.heap.size, 0, none⟩ = some (.string m1) ∧ w'.cell? ⟨wt.heap.size, 1, none⟩ = some (.string h1) ∧ w'.cell? ⟨wt.heap.size, 2, none⟩ = some (.slice X l1.length xc) ∧ w'.cell? ⟨wt.heap.size + 1, 0, none⟩ = some (.string m2) ∧ w'.cell? ⟨wt.heap.size + 1, 1, none⟩ = some (.string h2) ∧ w'.cell? ⟨wt.heap.size + 1, 2, none⟩ = some (.slice Y l2.length yc))
                (exact HT.out _ (by assumption))
                (first
                  | (go_at_call 18; (with_reducible refine (HY1.out _ ?_).mono ?_); assumption; rintro e wx ⟨rfl, hbx⟩)
                  | (go_at_call 18; (with_reducible refine (HY2.out _ ?_).mono ?_); assumption; rintro e wy ⟨rfl, hby⟩)
                  | (go_at_call 17; (with_reducible refine (HYC.out _ ?_).mono ?_); assumption; rintro e wu ⟨rfl, hbu⟩))
              all_goals
                go_wp2_with fail
                go_meet
                exact ⟨rfl, by assumption⟩
            case rest =>
              obtain ⟨rfl, hbp⟩ := hcut
              obtain ⟨x0, x1, x2, x3, x4, x5⟩ := HT.out _ hbp
              have HBP := Lib.hid hbp
              clear hbp
              go_wp2_with (first
                | (go_at_call 19; (with_reducible refine (HE1.out _ HBP.out).mono ?_); rintro e wx ⟨rfl, hbx⟩; obtain ⟨y0, y1, y2, y3, y4, y5⟩ := HT.out _ hbx; have HBX := Lib.hid hbx; clear hbx)
                | (go_at_call 19; (with_reducible refine (HE2.out _ HBX.out).mono ?_); rintro e wy ⟨rfl, hby⟩))
              go_ret
              exact ⟨rfl, HV.out _ hby⟩
end Go.Proofs.YtkfokofccakagaaDoor
