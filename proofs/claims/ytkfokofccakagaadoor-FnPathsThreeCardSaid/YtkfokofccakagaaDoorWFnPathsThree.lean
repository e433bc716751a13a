/-
  Proved: the walk of laws.FnPathsThree: it returns true and writes nothing that was there. Conditions: the arguments can be read; the table unicode.properties is as it was laid.
-/
import Derived.Test.YtkfokofccakagaaDoorTwo
import Derived.Test.YtkfokofccakagaaDoorGoodKind
namespace Go.Proofs.YtkfokofccakagaaDoor
open Go.RowKit

set_option maxRecDepth 100000 in
set_option maxHeartbeats 12800000 in
theorem walk_FnPathsThree (m1 h1 : ByteArray) (v1 : Value) (l1 : List Seg) (m2 h2 : ByteArray) (v2 : Value) (l2 : List Seg) (m3 h3 : ByteArray) (v3 : Value) (l3 : List Seg) (w : World)
    (zm1 : m1.size ≤ 9223372036854775807) (zh1 : h1.size ≤ 9223372036854775807) (H1 : SegsAt w v1 l1) (sh1 : Short l1) (zl1 : l1.length ≤ 9223372036854775807) (zm2 : m2.size ≤ 9223372036854775807) (zh2 : h2.size ≤ 9223372036854775807) (H2 : SegsAt w v2 l2) (sh2 : Short l2) (zl2 : l2.length ≤ 9223372036854775807) (zm3 : m3.size ≤ 9223372036854775807) (zh3 : h3.size ≤ 9223372036854775807) (H3 : SegsAt w v3 l3) (sh3 : Short l3) (zl3 : l3.length ≤ 9223372036854775807) (hprops : PropsAt w) :
    Calls Tryd.prog 10 #[.agg #[.string m1, .string h1, v1], .agg #[.string m2, .string h2, v2], .agg #[.string m3, .string h3, v3]] w fun e w' => e = .returned (.bool true) ∧ Below w.heap.size w w' := by
  have HX1 : Hid (∀ W, Below w.heap.size w W → Calls Tryd.prog 13 #[.agg #[.string m1, .string h1, v1]] W (FitsEnd (FitsP m1 h1 l1) W)) := fun W hb => zfOne m1 h1 v1 l1 W (H1.keep hb) sh1 zl1 zm1 zh1
  have HX2 : Hid (∀ W, Below w.heap.size w W → Calls Tryd.prog 13 #[.agg #[.string m2, .string h2, v2]] W (FitsEnd (FitsP m2 h2 l2) W)) := fun W hb => zfOne m2 h2 v2 l2 W (H2.keep hb) sh2 zl2 zm2 zh2
  have HX3 : Hid (∀ W, Below w.heap.size w W → Calls Tryd.prog 13 #[.agg #[.string m3, .string h3, v3]] W (FitsEnd (FitsP m3 h3 l3) W)) := fun W hb => zfOne m3 h3 v3 l3 W (H3.keep hb) sh3 zl3 zm3 zh3
  have HXT : Hid (∀ W, Below w.heap.size w W → FitsP m1 h1 l1 → FitsP m2 h2 l2 → Calls Tryd.prog 14 #[.agg #[.string m1, .string h1, v1], .agg #[.string m2, .string h2, v2]] W (TwoEnd m1 h1 m2 h2 l1 l2 W)) := fun W hb f1 f2 => two_any m1 m2 h1 h2 v1 v2 l1 l2 W (H1.keep hb) (H2.keep hb) f1 f2
  have HXC : Hid (∀ W, Below w.heap.size w W → FitsP m3 h3 l3 → Calls Tryd.prog 31 #[.agg #[.string m3, .string h3, v3]] W fun e w' => ∃ Z zc, e = .returned (.agg #[.string m3, .string h3, .slice Z l3.length zc]) ∧ Hid (SegsAt w' (.slice Z l3.length zc) l3) ∧ Hid (Below W.heap.size W w')) := fun W hb f => (conv_any m3 h3 v3 l3 W (H3.keep hb) f.2.2.1).mono fun e w' ⟨x, y, z, t⟩ => by
    obtain ⟨X, xc, rfl, hr, _⟩ := own_row z
    exact ⟨X, xc, y, hr.1, t⟩
  have HPR := Lib.hid hprops
  obtain ⟨A1, c1, rfl, _, _⟩ := H1
  obtain ⟨A2, c2, rfl, _, _⟩ := H2
  obtain ⟨A3, c3, rfl, _, _⟩ := H3
  clear hprops sh1 sh2 sh3 zm1 zh1 zl1 zm2 zh2 zl2 zm3 zh3 zl3
  go_enter Tryd.func10, Tryd.ntmps10
  go_upto_region 1 with fail
  have hb1 := blk_alloc (blk_alloc (new0 w (.cells #[.string m1, .string h1, .slice A1 l1.length c1] 24)) (.cells #[.string m2, .string h2, .slice A2 l2.length c2] 24)) (.cells #[.string m3, .string h3, .slice A3 l3.length c3] 24)
  have hb2 := blk_alloc (new1 w (.cells #[.string m1, .string h1, .slice A1 l1.length c1] 24) (.cells #[.string m2, .string h2, .slice A2 l2.length c2] 24)) (.cells #[.string m3, .string h3, .slice A3 l3.length c3] 24)
  have hb3 := new2 w (.cells #[.string m1, .string h1, .slice A1 l1.length c1] 24) (.cells #[.string m2, .string h2, .slice A2 l2.length c2] 24) (.cells #[.string m3, .string h3, .slice A3 l3.length c3] 24)
  have HBW : Hid (Below w.heap.size w (((w.alloc (.cells #[.string m1, .string h1, .slice A1 l1.length c1] 24)).alloc (.cells #[.string m2, .string h2, .slice A2 l2.length c2] 24)).alloc (.cells #[.string m3, .string h3, .slice A3 l3.length c3] 24))) := (((Below.refl _ _).alloc (Nat.le_refl _) _).alloc (by simp) _).alloc (by simp; omega) _
  obtain ⟨W0, hW0⟩ : ∃ W0, W0 = ((w.alloc (.cells #[.string m1, .string h1, .slice A1 l1.length c1] 24)).alloc (.cells #[.string m2, .string h2, .slice A2 l2.length c2] 24)).alloc (.cells #[.string m3, .string h3, .slice A3 l3.length c3] 24) := ⟨_, rfl⟩
  rw [← hW0] at hb1 hb2 hb3 HBW ⊢
  have HS : Hid (∀ w' : World, Below W0.heap.size W0 w' → w'.cell? ⟨w.heap.size, 0, none⟩ = some (.string m1) ∧ w'.cell? ⟨w.heap.size, 1, none⟩ = some (.string h1) ∧ w'.cell? ⟨w.heap.size, 2, none⟩ = some (.slice A1 l1.length c1) ∧ w'.cell? ⟨w.heap.size + 1, 0, none⟩ = some (.string m2) ∧ w'.cell? ⟨w.heap.size + 1, 1, none⟩ = some (.string h2) ∧ w'.cell? ⟨w.heap.size + 1, 2, none⟩ = some (.slice A2 l2.length c2) ∧ w'.cell? ⟨w.heap.size + 1 + 1, 0, none⟩ = some (.string m3) ∧ w'.cell? ⟨w.heap.size + 1 + 1, 1, none⟩ = some (.string h3) ∧ w'.cell? ⟨w.heap.size + 1 + 1, 2, none⟩ = some (.slice A3 l3.length c3)) := fun w' hb =>
    ⟨blk_cell (blk_below hb1 hb) 0, blk_cell (blk_below hb1 hb) 1, blk_cell (blk_below hb1 hb) 2, blk_cell (blk_below hb2 hb) 0, blk_cell (blk_below hb2 hb) 1, blk_cell (blk_below hb2 hb) 2, blk_cell (blk_below hb3 hb) 0, blk_cell (blk_below hb3 hb) 1, blk_cell (blk_below hb3 hb) 2⟩
  have HU : Hid (∀ w', Below W0.heap.size W0 w' → Below w.heap.size w w') := fun w' hb => HBW.out.trans (hb.mono HBW.out.size)
  clear hW0 hb1 hb2 hb3
  go_cut [26] (fun c wx => ∃ q : Bool, c = .bool q ∧ Hid (q = false → FitsP m1 h1 l1 ∧ FitsP m2 h2 l2 ∧ FitsP m3 h3 l3) ∧ Below W0.heap.size W0 wx)
  case first =>
    obtain ⟨s0, s1, s2, s3, s4, s5, s6, s7, s8⟩ := HS.out _ (Below.refl _ _)
    go_wp2_with (first
      | (go_at_call 13; (with_reducible refine (HX1.out _ ?_).mono ?_); exact HU.out _ (Below.refl _ _); intro e w1 hfe; obtain ⟨b1, rfl, HB1, HP1⟩ := fits_bool hfe; clear hfe; obtain ⟨x0, x1, x2, x3, x4, x5, x6, x7, x8⟩ := HS.out _ HB1.out; cases b1)
      | (go_at_call 13; (with_reducible refine (HX2.out _ ?_).mono ?_); exact HU.out _ HB1.out; intro e w2 hfe; obtain ⟨b2, rfl, HB2', HP2⟩ := fits_bool hfe; clear hfe; have HB2 := Lib.hid (HB1.out.trans (HB2'.out.mono HB1.out.size)); obtain ⟨y0, y1, y2, y3, y4, y5, y6, y7, y8⟩ := HS.out _ HB2.out; cases b2)
      | (go_at_call 13; (with_reducible refine (HX3.out _ ?_).mono ?_); exact HU.out _ HB2.out; intro e w3 hfe; obtain ⟨b3, rfl, HB3, HP3⟩ := fits_bool hfe; clear hfe))
    · go_meet
      exact ⟨true, rfl, (fun h => by cases h), HB1.out⟩
    · go_meet
      exact ⟨true, rfl, (fun h => by cases h), HB2.out⟩
    · go_meet
      refine ⟨!b3, rfl, ?_, HB2.out.trans (HB3.out.mono HB2.out.size)⟩
      show _ → _
      intro h
      have hb3 : b3 = true := by simpa using h
      have g1 := HP1.out
      have g2 := HP2.out
      exact ⟨by simpa using g1, by simpa using g2, HP3.out hb3⟩
  case rest =>
    obtain ⟨q, rfl, HQ, hbc⟩ := hcut
    obtain ⟨wb, rfl⟩ : ∃ wb : World, wb = wc := ⟨_, rfl⟩
    have HBC := Lib.hid hbc
    clear hbc
    cases q
    case true =>
      go_wp2_with fail
      go_ret
      exact ⟨rfl, HU.out _ HBC.out⟩
    case false =>
      obtain ⟨hF1, hF2, hF3⟩ := HQ.out rfl
      have HF1 := Lib.hid hF1
      have HF2 := Lib.hid hF2
      have HF3 := Lib.hid hF3
      obtain ⟨s0, s1, s2, s3, s4, s5, s6, s7, s8⟩ := HS.out _ HBC.out
      clear hF1 hF2 hF3
      go_upto_region 4 with (go_at_call 14; (with_reducible refine (HXT.out _ (HU.out _ HBC.out) HF1.out HF2.out).mono ?_); rintro e wt ⟨X, Y, xc, yc, bt, rfl, hs1, hs2, hg, hbt⟩; have HS1 := Lib.hid hs1; have HS2 := Lib.hid hs2; have HG := Lib.hid hg; have HBT := Lib.hid hbt; clear hs1 hs2 hg hbt)
      clear s0 s1 s2 s3 s4 s5 s6 s7 s8
      have HB0T : Hid (Below W0.heap.size W0 wt) := HBC.out.trans (HBT.out.mono HBC.out.size)
      have hn1 := new0 wt (.cells #[.string m1, .string h1, .slice X l1.length xc] 28)
      have hn2 := new1 wt (.cells #[.string m1, .string h1, .slice X l1.length xc] 28) (.cells #[.string m2, .string h2, .slice Y l2.length yc] 28)
      have hn1' := blk_alloc hn1 (.cells #[.string m2, .string h2, .slice Y l2.length yc] 28)
      have HBW2 : Hid (Below wt.heap.size wt ((wt.alloc (.cells #[.string m1, .string h1, .slice X l1.length xc] 28)).alloc (.cells #[.string m2, .string h2, .slice Y l2.length yc] 28))) := ((Below.refl _ _).alloc (Nat.le_refl _) _).alloc (by simp) _
      obtain ⟨W1, hW1⟩ : ∃ W1, W1 = (wt.alloc (.cells #[.string m1, .string h1, .slice X l1.length xc] 28)).alloc (.cells #[.string m2, .string h2, .slice Y l2.length yc] 28) := ⟨_, rfl⟩
      rw [← hW1] at hn1' hn2 HBW2 ⊢
      have HB01 : Hid (Below W0.heap.size W0 W1) := HB0T.out.trans (HBW2.out.mono HB0T.out.size)
      have HN1 := Lib.hid hn1'
      have HN2 := Lib.hid hn2
      obtain ⟨_, _, _, _, _, _, s6, s7, s8⟩ := HS.out _ HB01.out
      clear hW1 hn1 hn1' hn2
      go_upto_region 5 with (go_at_call 31; (with_reducible refine (HXC.out _ (HU.out _ HB01.out) HF3.out).mono ?_); rintro e wv ⟨Z, zc, rfl, HS3, HBV⟩)
      clear s6 s7 s8
      have hn3 := new0 wv (.cells #[.string m3, .string h3, .slice Z l3.length zc] 28)
      have HB1V : Hid (Below W1.heap.size W1 (wv.alloc (.cells #[.string m3, .string h3, .slice Z l3.length zc] 28))) := HBV.out.alloc HBV.out.size _
      have HBVV : Hid (Below wv.heap.size wv (wv.alloc (.cells #[.string m3, .string h3, .slice Z l3.length zc] 28))) := (Below.refl _ _).alloc (Nat.le_refl _) _
      obtain ⟨W2, hW2⟩ : ∃ W2, W2 = wv.alloc (.cells #[.string m3, .string h3, .slice Z l3.length zc] 28) := ⟨_, rfl⟩
      rw [← hW2] at hn3 HB1V HBVV ⊢
      have hm1 := blk_below HN1.out HB1V.out
      have hm2 := blk_below HN2.out HB1V.out
      have HT : Hid (∀ w' : World, Below W2.heap.size W2 w' → w'.cell? ⟨wt.heap.size, 0, none⟩ = some (.string m1) ∧ w'.cell? ⟨wt.heap.size, 1, none⟩ = some (.string h1) ∧ w'.cell? ⟨wt.heap.size, 2, none⟩ = some (.slice X l1.length xc) ∧ w'.cell? ⟨wt.heap.size + 1, 0, none⟩ = some (.string m2) ∧ w'.cell? ⟨wt.heap.size + 1, 1, none⟩ = some (.string h2) ∧ w'.cell? ⟨wt.heap.size + 1, 2, none⟩ = some (.slice Y l2.length yc) ∧ w'.cell? ⟨wv.heap.size, 0, none⟩ = some (.string m3) ∧ w'.cell? ⟨wv.heap.size, 1, none⟩ = some (.string h3) ∧ w'.cell? ⟨wv.heap.size, 2, none⟩ = some (.slice Z l3.length zc)) := fun w' hb =>
        ⟨blk_cell (blk_below hm1 hb) 0, blk_cell (blk_below hm1 hb) 1, blk_cell (blk_below hm1 hb) 2, blk_cell (blk_below hm2 hb) 0, blk_cell (blk_below hm2 hb) 1, blk_cell (blk_below hm2 hb) 2, blk_cell (blk_below hn3 hb) 0, blk_cell (blk_below hn3 hb) 1, blk_cell (blk_below hn3 hb) 2⟩
      have HV : Hid (∀ w', Below W2.heap.size W2 w' → Below w.heap.size w w') := fun w' hb => (HU.out _ HB01.out).trans ((HB1V.out.trans (hb.mono HB1V.out.size)).mono (HU.out _ HB01.out).size)
      have HR1 : Hid (∀ w', Below W2.heap.size W2 w' → SegsAt w' (.slice X l1.length xc) l1) := fun w' hb => ((HS1.out.keep HBW2.out).keep HB1V.out).keep hb
      have HR2 : Hid (∀ w', Below W2.heap.size W2 w' → SegsAt w' (.slice Y l2.length yc) l2) := fun w' hb => ((HS2.out.keep HBW2.out).keep HB1V.out).keep hb
      have HR3 : Hid (∀ w', Below W2.heap.size W2 w' → SegsAt w' (.slice Z l3.length zc) l3) := fun w' hb => (HS3.out.keep HBVV.out).keep hb
      have HRP : Hid (∀ w', Below W2.heap.size W2 w' → PropsAt w') := fun w' hb => HPR.out.below (HV.out w' hb)
      clear hW2 hn3 hm1 hm2 HS1 HS2 HS3 HBW2 HX1 HX2 HX3 HXT HXC HF1 HF2 HQ HB1V HBVV HN1 HN2
      obtain ⟨x0, x1, x2, x3, x4, x5, x6, x7, x8⟩ := HT.out _ (Below.refl _ _)
      cases bt
      case false =>
        go_wp2_with fail
        go_ret
        exact ⟨rfl, HV.out _ (Below.refl _ _)⟩
      case true =>
        obtain ⟨hG1, hG2⟩ := HG.out rfl
        have G1 := Lib.hid hG1
        have G2 := Lib.hid hG2
        clear hG1 hG2 HG
        go_upto_if 42 with (go_at_call 32; refine (good_any m3 h3 _ l3 _ (HR3.out _ (Below.refl _ _)) HF3.out.2.2 HF3.out.1 HF3.out.2.1).mono ?_; intro e w3 hfe; obtain ⟨b3, rfl, HB3, HP3⟩ := fits_bool hfe; clear hfe)
        cases b3
        case false =>
          go_wp2_with fail
          go_ret
          exact ⟨rfl, HV.out _ HB3.out⟩
        case true =>
        have G3 : Hid (GoodP (bs m3) (bs h3) l3) := by
          show GoodP (bs m3) (bs h3) l3
          have h := HP3.out
          simpa using h
        clear HP3 x0 x1 x2 x3 x4 x5 x6 x7 x8
        have h3 := byPaths_three G1.out G2.out G3.out
        have H3 := Lib.hid h3
        clear h3
        have HA : Hid (∀ W, Below W2.heap.size W2 W → Calls Tryd.prog 26 #[.agg #[.string m1, .string h1, .slice X l1.length xc], .agg #[.string m2, .string h2, .slice Y l2.length yc]] W fun e w' => e = .returned (.string (Kd.byPaths (kinds l1) (kinds l2)).text) ∧ Below W2.heap.size W2 w') := fun W hb => (law_paths m1 m2 h1 h2 _ _ l1 l2 W (HR1.out W hb) (HR2.out W hb) G1.out G2.out (HRP.out W hb)).mono fun e w' ⟨x, y⟩ => ⟨x, hb.trans (y.mono hb.size)⟩
        have HB : Hid (∀ W, Below W2.heap.size W2 W → Calls Tryd.prog 26 #[.agg #[.string m2, .string h2, .slice Y l2.length yc], .agg #[.string m3, .string h3, .slice Z l3.length zc]] W fun e w' => e = .returned (.string (Kd.byPaths (kinds l2) (kinds l3)).text) ∧ Below W2.heap.size W2 w') := fun W hb => (law_paths m2 m3 h2 h3 _ _ l2 l3 W (HR2.out W hb) (HR3.out W hb) G2.out G3.out (HRP.out W hb)).mono fun e w' ⟨x, y⟩ => ⟨x, hb.trans (y.mono hb.size)⟩
        have HC : Hid (∀ W, Below W2.heap.size W2 W → Calls Tryd.prog 26 #[.agg #[.string m1, .string h1, .slice X l1.length xc], .agg #[.string m3, .string h3, .slice Z l3.length zc]] W fun e w' => e = .returned (.string (Kd.byPaths (kinds l1) (kinds l3)).text) ∧ Below W2.heap.size W2 w') := fun W hb => (law_paths m1 m3 h1 h3 _ _ l1 l3 W (HR1.out W hb) (HR3.out W hb) G1.out G3.out (HRP.out W hb)).mono fun e w' ⟨x, y⟩ => ⟨x, hb.trans (y.mono hb.size)⟩
        generalize (Kd.byPaths (kinds l1) (kinds l2)) = r at HA H3
        generalize (Kd.byPaths (kinds l2) (kinds l3)) = s at HB H3
        generalize (Kd.byPaths (kinds l1) (kinds l3)) = t at HC H3
        go_wp2_with fail
        have hd0 : Below W2.heap.size W2 w3.drew := HB3.out.trans (below_drew3 (Below.refl _ _) 1)
        go_cut [11, 12, 13] (fun a b c wx => a = .string r.text ∧ b = .string s.text ∧ c = .string t.text ∧ Below W2.heap.size W2 wx)
        case first =>
          go_region_held3 (fun w' => w'.cell? ⟨wt.heap.size, 0, none⟩ = some (.string m1) ∧ w'.cell? ⟨wt.heap.size, 1, none⟩ = some (.string h1) ∧ w'.cell? ⟨wt.heap.size, 2, none⟩ = some (.slice X l1.length xc) ∧ w'.cell? ⟨wt.heap.size + 1, 0, none⟩ = some (.string m2) ∧ w'.cell? ⟨wt.heap.size + 1, 1, none⟩ = some (.string h2) ∧ w'.cell? ⟨wt.heap.size + 1, 2, none⟩ = some (.slice Y l2.length yc) ∧ w'.cell? ⟨wv.heap.size, 0, none⟩ = some (.string m3) ∧ w'.cell? ⟨wv.heap.size, 1, none⟩ = some (.string h3) ∧ w'.cell? ⟨wv.heap.size, 2, none⟩ = some (.slice Z l3.length zc))
            (exact HT.out _ (by assumption))
            (first
              | (go_at_call 26; (with_reducible refine (HA.out _ ?_).mono ?_); assumption; rintro e wx ⟨rfl, hbwx⟩)
              | (go_at_call 26; (with_reducible refine (HB.out _ ?_).mono ?_); assumption; rintro e wy ⟨rfl, hbwy⟩)
              | (go_at_call 26; (with_reducible refine (HC.out _ ?_).mono ?_); assumption; rintro e wz ⟨rfl, hbwz⟩))
          all_goals
            go_wp2_with fail
            go_meet
            exact ⟨rfl, rfl, rfl, by assumption⟩
        case rest =>
          obtain ⟨rfl, rfl, rfl, hbx⟩ := hcut
          have HBX := Lib.hid (HV.out _ hbx)
          clear hbx hd0
          go_upto_region 10 with (first
            | (go_at_call 27; (with_reducible refine (relation_yes r _).mono ?_); rintro e wr ⟨rfl, rfl⟩)
            | (go_at_call 27; (with_reducible refine (relation_yes s _).mono ?_); rintro e wr ⟨rfl, rfl⟩)
            | (go_at_call 27; (with_reducible refine (relation_yes t _).mono ?_); rintro e wr ⟨rfl, rfl⟩))
          have h3 := H3.out
          cases r
          case eqv =>
            obtain rfl := h3.1 rfl
            clear h3
            simp only [Rel.text]
            go_wp2_with fail
            all_goals
              go_ret
              exact ⟨rfl, HBX.out⟩
          case spc =>
            cases s
            case spc =>
              obtain rfl := h3.2 rfl (.inl rfl)
              simp only [Rel.text]
              go_wp2_with fail
              all_goals
                go_ret
                exact ⟨rfl, HBX.out⟩
            case eqv =>
              obtain rfl := h3.2 rfl (.inr rfl)
              simp only [Rel.text]
              go_wp2_with fail
              all_goals
                go_ret
                exact ⟨rfl, HBX.out⟩
            all_goals
              clear h3
              simp only [Rel.text]
              go_wp2_with fail
              all_goals
                go_ret
                exact ⟨rfl, HBX.out⟩
          all_goals
            clear h3
            simp only [Rel.text]
            go_wp2_with fail
            all_goals
              go_ret
              exact ⟨rfl, HBX.out⟩
end Go.Proofs.YtkfokofccakagaaDoor
