/-
  Proved: the walk of laws.FnPossibly: it returns true and writes nothing that was there. Conditions: the arguments can be read; the table unicode.properties is as it was laid.
-/
import Derived.Test.YtgkhfcoieknjeaaDoorCands
import Derived.Test.YtgkhfcoieknjeaaDoorPats
import Derived.Deep.RegionHeld3
namespace Go.Proofs.YtgkhfcoieknjeaaDoor
open Go.RowKit

set_option maxRecDepth 100000 in
set_option maxHeartbeats 12800000 in
theorem walk_FnPossibly (v0 : Value) (ps : List PtB) (m h : ByteArray) (sv : Value) (l : List Seg) (w : World) (HV0 : PatsAt w v0 ps ∧ SizesP ps)
    (qm : m.size ≤ 9223372036854775807) (qh : h.size ≤ 9223372036854775807) (hsg : SegsAt w sv l) (hsh : Short l) (hll : l.length ≤ 9223372036854775807) (hprops : PropsAt w) :
    Calls Tryd.prog 5 #[v0, .agg #[.string m, .string h, sv]] w fun e w' => e = .returned (.bool true) ∧ Below w.heap.size w w' := by
  obtain ⟨H0, HSZ⟩ := HV0
  have HX5 : Hid (∀ W, Below w.heap.size w W → Calls Tryd.prog 8 #[v0] W (FitsEnd (ps.length ≤ 2147483647 ∧ ∀ p ∈ ps, FitsB p) W)) := fun W hb => fits5_any v0 ps W (H0.keep hb) HSZ
  have HX1 : Hid (∀ W, Below w.heap.size w W → Calls Tryd.prog 17 #[.agg #[.string m, .string h, sv]] W (FitsEnd (FitsP m h l) W)) := fun W hb => zfOne m h sv l W (hsg.keep hb) hsh hll qm qh
  have HXA : Hid (∀ W, Below w.heap.size w W → ps.length ≤ 2147483647 → (∀ p ∈ ps, FitsB p) → Calls Tryd.prog 10 #[v0] W fun e w' => ∃ v' qs, e = .returned v' ∧ qs.map Prod.fst = ps ∧ PatsOwn w' W.heap.size v' qs ∧ Below W.heap.size W w') := fun W hb h1 h2 => all_any v0 ps W (H0.keep hb) h1 h2
  have HXV : Hid (∀ W, Below w.heap.size w W → l.length ≤ 2147483647 → Calls Tryd.prog 19 #[.agg #[.string m, .string h, sv]] W fun e w' => ∃ sv', e = .returned (.agg #[.string m, .string h, sv']) ∧ w'.ownsRow W.heap.size 64 3 sv' l.length (segCells l) ∧ Below W.heap.size W w') := fun W hb hl => conv_any m h sv l W (hsg.keep hb) hl
  have HPR := Lib.hid hprops
  obtain ⟨A0, c0, rfl, hc0, hcm0, -⟩ := H0
  obtain ⟨Y0, y0, rfl, -, -⟩ := hsg
  clear hprops HSZ qm qh hsh hll
  go_enter Tryd.func5, Tryd.ntmps5
  go_upto_region 1 with fail
  have hb1 := new0 w (.cells #[.string m, .string h, .slice Y0 l.length y0] 36)
  have HBW : Hid (Below w.heap.size w (w.alloc (.cells #[.string m, .string h, .slice Y0 l.length y0] 36))) := (Below.refl _ _).alloc (Nat.le_refl _) _
  obtain ⟨W0, hW0⟩ : ∃ W0, W0 = w.alloc (.cells #[.string m, .string h, .slice Y0 l.length y0] 36) := ⟨_, rfl⟩
  rw [← hW0] at hb1 HBW ⊢
  have HS : Hid (∀ w' : World, Below W0.heap.size W0 w' → w'.cell? ⟨w.heap.size, 0, none⟩ = some (.string m) ∧ w'.cell? ⟨w.heap.size, 1, none⟩ = some (.string h) ∧ w'.cell? ⟨w.heap.size, 2, none⟩ = some (.slice Y0 l.length y0)) := fun w' hb => ⟨blk_cell (blk_below hb1 hb) 0, blk_cell (blk_below hb1 hb) 1, blk_cell (blk_below hb1 hb) 2⟩
  have HU : Hid (∀ w', Below W0.heap.size W0 w' → Below w.heap.size w w') := fun w' hb => HBW.out.trans (hb.mono HBW.out.size)
  clear hW0 hb1
  go_cut [19] (fun c wx => ∃ q : Bool, c = .bool q ∧ Hid (q = false → (ps.length ≤ 2147483647 ∧ ∀ p ∈ ps, FitsB p) ∧ FitsP m h l) ∧ Below W0.heap.size W0 wx)
  case first =>
    obtain ⟨s0, s1, s2⟩ := HS.out _ (Below.refl _ _)
    go_wp2_with (first
      | (go_at_call 8; (with_reducible refine (HX5.out _ ?_).mono ?_); exact HU.out _ (Below.refl _ _); intro e w1 hfe; obtain ⟨b1, rfl, HB1, HP1⟩ := fits_bool hfe; clear hfe; obtain ⟨x0, x1, x2⟩ := HS.out _ HB1.out; cases b1)
      | (go_at_call 17; (with_reducible refine (HX1.out _ ?_).mono ?_); exact HU.out _ HB1.out; intro e w3 hfe; obtain ⟨b3, rfl, HB3, HP3⟩ := fits_bool hfe; clear hfe))
    · go_meet
      exact ⟨true, rfl, (fun h => by cases h), HB1.out⟩
    · go_meet
      refine ⟨!b3, rfl, ?_, HB1.out.trans (HB3.out.mono HB1.out.size)⟩
      show _ → _
      intro h
      have hb3 : b3 = true := by simpa using h
      have g1 := HP1.out
      exact ⟨by simpa using g1, HP3.out hb3⟩
  case rest =>
    obtain ⟨q, rfl, HQ, hbc⟩ := hcut
    obtain ⟨wb, rfl⟩ : ∃ wb : World, wb = wc := ⟨_, rfl⟩
    have HBC := Lib.hid hbc
    clear hbc
    cases q
    case true =>
      go_wp2_with fail
      go_ret
      exact ⟨rfl, HU.out _ HBC.out⟩
    case false =>
      obtain ⟨⟨hn5, hF5⟩, hF1⟩ := HQ.out rfl
      have HF5 := Lib.hid hF5
      have hl7 : l.length ≤ 2147483647 := hF1.2.2.1
      have hm1 : m.size ≤ 2147483647 := hF1.1
      have hh1 : h.size ≤ 2147483647 := hF1.2.1
      have HFL : Hid (FitsL l) := hF1.2.2
      clear hF5 hF1 HX5 HX1 HQ
      go_upto_region 4 with (go_at_call 10; (with_reducible refine (HXA.out _ (HU.out _ HBC.out) hn5 HF5.out).mono ?_); rintro e wt ⟨va, qs, rfl, hqs, hpo, hbt⟩; have hpa := hpo.at; rw [hqs] at hpa; obtain ⟨X, xc, rfl, hxc, hxm, -⟩ := id hpa; have HPA := Lib.hid hpa; have HBT := Lib.hid hbt; clear hpa hbt hpo hqs)
      have HB0T : Hid (Below W0.heap.size W0 wt) := HBC.out.trans (HBT.out.mono HBC.out.size)
      have HPV : Hid (∀ w' : World, Below wt.heap.size wt w' → PatsAt w' (.slice X ps.length xc) ps) := fun w' hb => HPA.out.keep hb
      have HT : Hid (∀ w', Below wt.heap.size wt w' → (w'.cell? ⟨w.heap.size, 0, none⟩ = some (.string m) ∧ w'.cell? ⟨w.heap.size, 1, none⟩ = some (.string h) ∧ w'.cell? ⟨w.heap.size, 2, none⟩ = some (.slice Y0 l.length y0)) ∧ Below w.heap.size w w') := fun w' hb => ⟨HS.out _ (HB0T.out.trans (hb.mono HB0T.out.size)), HU.out _ (HB0T.out.trans (hb.mono HB0T.out.size))⟩
      have HCV : Hid (∀ V W, Below wt.heap.size wt V → Below V.heap.size V W → Calls Tryd.prog 19 #[.agg #[.string m, .string h, .slice Y0 l.length y0]] W fun e w' => ∃ X3 x3, e = .returned (.agg #[.string m, .string h, .slice X3 l.length x3]) ∧ Hid (SegsAt w' (.slice X3 l.length x3) l) ∧ Below V.heap.size V w') := by
        intro V W hV hb
        refine (HXV.out W (HT.out W (hV.trans (hb.mono hV.size))).2 hl7).mono ?_
        rintro e w' ⟨sv', rfl, hown, hb'⟩
        obtain ⟨X3, x3, rfl, -⟩ := own_form hown
        exact ⟨X3, x3, rfl, SegsAt.of_own hown, hb.trans (hb'.mono hb.size)⟩
      clear HPA HXA HXV HBT HBC HB0T
      go_cut [30] (fun c wx => ∃ q : Bool, c = .bool q ∧ Hid (q = false → (ps.length ≤ 10 ∧ AllGoodB ps) ∧ GoodP (bs m) (bs h) l) ∧ Below wt.heap.size wt wx)
      case first =>
        go_wp2_with (first
          | (go_at_call 12; (with_reducible refine (allGood_any _ ps _ (HPV.out _ (Below.refl _ _)) hn5 HF5.out).mono ?_); intro e w5 hfe; obtain ⟨b5, rfl, HB5, HP5⟩ := fits_bool hfe; clear hfe; obtain ⟨⟨x0, x1, x2⟩, -⟩ := HT.out _ HB5.out; cases b5)
          | (go_at_call 19; (with_reducible refine (HCV.out _ _ (Below.refl _ _) HB5.out).mono ?_); rintro e wa ⟨X3, x3, rfl, HS3, hba⟩; have HBA := Lib.hid hba; clear hba)
          | (go_at_call 18; (with_reducible refine (good_any m h _ l _ HS3.out HFL.out hm1 hh1).mono ?_); intro e w6 hfe; obtain ⟨b6, rfl, HB6, HP6⟩ := fits_bool hfe; clear hfe))
        · go_meet
          exact ⟨true, rfl, (fun h => by cases h), HB5.out⟩
        · go_meet
          refine ⟨!b6, rfl, ?_, HBA.out.trans (HB6.out.mono HBA.out.size)⟩
          show _ → _
          intro h
          have hb6 : b6 = true := by simpa using h
          exact ⟨by simpa using HP5.out, HP6.out hb6⟩
      case rest =>
        obtain ⟨q, rfl, HQ2, hbq⟩ := hcut
        obtain ⟨wq, rfl⟩ : ∃ wq : World, wq = wc := ⟨_, rfl⟩
        have HBQ := Lib.hid hbq
        clear hbq
        cases q
        case true =>
          go_wp2_with fail
          go_ret
          exact ⟨rfl, (HT.out _ HBQ.out).2⟩
        case false =>
          obtain ⟨⟨hn10, hgood⟩, hgp⟩ := HQ2.out rfl
          have HG := Lib.hid hgood
          have HGP : Hid ((⟨m, h, l⟩ : PtB).pt.good) := hgp
          clear hgood hgp HQ2
          go_upto_region 7 with (go_at_call 20; (with_reducible refine (written_any _ ps _ (HPV.out _ HBQ.out) hn10 HG.out).mono ?_); rintro e w7 ⟨v6, rfl, hst6, hb7⟩; have HST6 := Lib.hid hst6; have HB7 : Hid (Below wt.heap.size wt w7) := HBQ.out.trans (hb7.mono HBQ.out.size); clear hst6 hb7)
          obtain ⟨pt, hpt⟩ : ∃ pt : ByteArray, pt = ⟨(PtB.text ⟨m, h, l⟩).toArray⟩ := ⟨_, rfl⟩
          have HWR : Hid (∀ (W : World) (u : Value), Below w7.heap.size w7 W → SegsAt W u l → Calls Tryd.prog 22 #[.agg #[.string m, .string h, u]] W fun e w' => e = .returned (.string pt) ∧ Below w7.heap.size w7 w') := by
            intro W u hb hs
            rw [hpt]
            exact (write_any m h u l W hs hm1 hh1 (GoodP.six HGP.out) (fun g hg => by
              obtain ⟨i, hi⟩ := List.mem_iff_getElem?.1 hg
              exact (GoodP.seg HGP.out i g hi).1)).mono fun e w' ⟨x, y⟩ => ⟨x, hb.trans (y.mono hb.size)⟩
          have HCA : Hid (∀ W, Below w7.heap.size w7 W → Calls Tryd.prog 21 #[v6, .string pt] W (CandEnd ps ⟨m, h, l⟩ W)) := by
            intro W hb
            rw [hpt]
            exact icands_any ps ⟨m, h, l⟩ v6 W (HST6.out.keep hb) hn10 HG.out HGP.out (HPR.out.below (HT.out _ (HB7.out.trans (hb.mono HB7.out.size))).2)
          unfold CandEnd at HCA
          clear hpt HBQ hm1 hh1 HFL
          obtain ⟨⟨s0, s1, s2⟩, -⟩ := HT.out _ HB7.out
          go_upto_region 8 with (first
            | (go_at_call 19; (with_reducible refine (HCV.out _ _ HB7.out (Below.refl _ _)).mono ?_); rintro e wa ⟨X3, x3, rfl, HS3, hba⟩; have HBA := Lib.hid hba; clear hba)
            | (go_at_call 22; (with_reducible refine (HWR.out _ _ HBA.out HS3.out).mono ?_); rintro e wz ⟨rfl, hbz⟩; have HBZ := Lib.hid hbz; clear hbz)
            | (go_at_call 21; (with_reducible refine (HCA.out _ HBZ.out).mono ?_); rintro e w8 ⟨v7, L, rfl, hst7, hcd, hln, hb8⟩; have HST7 := Lib.hid hst7; have HCD := Lib.hid hcd; have HB78 : Hid (Below w7.heap.size w7 w8) := HBZ.out.trans (hb8.mono HBZ.out.size); clear hst7 hcd hb8))
          have HB8 : Hid (Below wt.heap.size wt w8) := HB7.out.trans (HB78.out.mono HB7.out.size)
          have HT6 : Hid (∀ W, Below w8.heap.size w8 W → StrsAt W v6 (ps.map PtB.text)) := fun W hb => (HST6.out.keep HB78.out).keep hb
          have HT7 : Hid (∀ W, Below w8.heap.size w8 W → StrsAt W v7 L) := fun W hb => HST7.out.keep hb
          clear s0 s1 s2 HWR HCA HST6 HST7
          obtain ⟨xa, xb, xd, -, -, hf⟩ := HPV.out _ HB8.out
          simp only [Value.slice.injEq, true_and] at xd
          obtain ⟨rfl, rfl⟩ := xd
          have HF := Lib.hid hf
          obtain ⟨A6, c6, rfl, -, -, hf6⟩ := id (HT6.out _ (Below.refl _ _))
          have HF6 := Lib.hid hf6
          have hl6 : (ps.map PtB.text).length = ps.length := List.length_map ..
          rw [hl6] at HT6 ⊢
          obtain ⟨A7, c7, rfl, -, -, hf7⟩ := id (HT7.out _ (Below.refl _ _))
          have HF7 := Lib.hid hf7
          clear hf hf6 hf7 hl6
          go_wp2_with fail
          go_loopw [40] (fun kv wr => ∃ k : Nat, k ≤ ps.length ∧ kv = .int .i64 k ∧ Below w8.heap.size w8 wr) (fun kv _ => ps.length - (intOf kv).toNat)
          case atStart => exact ⟨0, Nat.zero_le _, rfl, Below.refl _ _⟩
          case round =>
            obtain ⟨k, hk, rfl, hb⟩ := hrel
            have HBK := Lib.hid hb
            by_cases hlt : k < ps.length
            · obtain ⟨q, hq⟩ : ∃ q, ps[k]? = some q := ⟨_, List.getElem?_eq_getElem hlt⟩
              obtain ⟨b, o, sq, rfl, hbl, h1, h2, h3, h4⟩ := HF.out k q hq
              obtain ⟨b6, o6, rfl, hb6, h6⟩ := HF6.out k q.text (by rw [List.getElem?_map, hq]; rfl)
              have HQG := Lib.hid (HG.out k q hq)
              obtain ⟨cb, hcb⟩ : ∃ cb, cb = confB (bs m) (bs q.m) (bs h) (bs q.h) l q.l := ⟨_, rfl⟩
              have HCI : Hid (cb = true → q.text ∈ L) := fun e => HCD.out.2 k q hq (by
                show confB (bs m) (bs q.m) (bs h) (bs q.h) l q.l = true
                rw [← hcb]; exact e)
              have HS4 := Lib.hid h4
              obtain ⟨Y, yc, rfl, -, -⟩ := h4
              have g1 : wr.cell? ⟨b, o + k * 3, none⟩ = some (.string q.m) := (hb.cell hbl).trans h1
              have g2 : wr.cell? ⟨b, o + k * 3 + 1, none⟩ = some (.string q.h) := (hb.cell hbl).trans h2
              have g3 : wr.cell? ⟨b, o + k * 3 + 2, none⟩ = some (.slice Y q.l.length yc) := (hb.cell hbl).trans h3
              obtain ⟨qt, hqt⟩ : ∃ qt : ByteArray, qt = ⟨q.text.toArray⟩ := ⟨_, rfl⟩
              have g6 : wr.cell? ⟨b6, o6 + k, none⟩ = some (.string qt) := by rw [hqt]; exact (hb.cell (p := ⟨b6, o6 + k, none⟩) hb6).trans h6
              have hn1 := new0 wr (.cells #[.string q.m, .string q.h, .slice Y q.l.length yc] 45)
              have hbn : Below wr.heap.size wr (wr.alloc (.cells #[.string q.m, .string q.h, .slice Y q.l.length yc] 45)) := (Below.refl _ _).alloc (Nat.le_refl _) _
              obtain ⟨wr1, hwr1⟩ : ∃ wr1, wr1 = wr.alloc (.cells #[.string q.m, .string q.h, .slice Y q.l.length yc] 45) := ⟨_, rfl⟩
              rw [← hwr1] at hn1 hbn
              have HBN : Hid (Below w8.heap.size w8 wr1) := hb.trans (hbn.mono hb.size)
              have HBT1 : Hid (Below wt.heap.size wt wr1) := HB8.out.trans (HBN.out.mono HB8.out.size)
              have HC : Hid (∀ w', Below wr1.heap.size wr1 w' → (w'.cell? ⟨w.heap.size, 0, none⟩ = some (.string m) ∧ w'.cell? ⟨w.heap.size, 1, none⟩ = some (.string h) ∧ w'.cell? ⟨w.heap.size, 2, none⟩ = some (.slice Y0 l.length y0)) ∧ (w'.cell? ⟨wr.heap.size, 0, none⟩ = some (.string q.m) ∧ w'.cell? ⟨wr.heap.size, 1, none⟩ = some (.string q.h) ∧ w'.cell? ⟨wr.heap.size, 2, none⟩ = some (.slice Y q.l.length yc)) ∧ (w'.cell? ⟨b6, o6 + k, none⟩ = some (.string qt))) := fun w' hb' =>
                ⟨(HT.out _ (HBT1.out.trans (hb'.mono HBT1.out.size))).1, ⟨blk_cell (blk_below hn1 hb') 0, blk_cell (blk_below hn1 hb') 1, blk_cell (blk_below hn1 hb') 2⟩, ((hbn.trans (hb'.mono hbn.size)).cell (p := ⟨b6, o6 + k, none⟩) (by have := hb.size; simp; omega)).trans g6⟩
              have HCV1 : Hid (∀ W, Below wr1.heap.size wr1 W → Calls Tryd.prog 19 #[.agg #[.string m, .string h, .slice Y0 l.length y0]] W fun e w' => ∃ X3 x3, e = .returned (.agg #[.string m, .string h, .slice X3 l.length x3]) ∧ Hid (SegsAt w' (.slice X3 l.length x3) l) ∧ Below wr1.heap.size wr1 w') := fun W hW => HCV.out wr1 W HBT1.out hW
              have HCF : Hid (∀ (W : World) (u : Value), Below wr1.heap.size wr1 W → SegsAt W u l → Calls Tryd.prog 23 #[.agg #[.string m, .string h, u], .agg #[.string q.m, .string q.h, .slice Y q.l.length yc]] W fun e w' => e = .returned (.bool cb) ∧ Below wr1.heap.size wr1 w') := by
                intro W u hW hs
                rw [hcb]
                exact (spec_conflict m q.m h q.h u _ l q.l W hs (HS4.out.keep (HBN.out.trans (hW.mono HBN.out.size))) HGP.out HQG.out).mono fun e w' ⟨x, y⟩ => ⟨x, hW.trans (y.mono hW.size)⟩
              have HIN : Hid (∀ W, Below wr1.heap.size wr1 W → Calls Tryd.prog 24 #[.slice A7 L.length c7, .string qt] W fun e w' => e = .returned (.bool (decide (q.text ∈ L))) ∧ W = w') := by
                intro W hW
                rw [hqt]
                exact in_any _ L q.text W (HT7.out W (HBN.out.trans (hW.mono HBN.out.size)))
              clear h1 h2 h3 h6 hq hb hn1 hbn hcb hqt hb6 hbl
              go_upto_region 11 with fail
              rw [← hwr1]
              clear hwr1 g1 g2 g3 g6
              go_cut [57] (fun c wx => c = .bool false ∧ Below w8.heap.size w8 wx)
              case first =>
                cases cb
                case false =>
                  refine wp_region_held_drew (S := (fun w' => (w'.cell? ⟨w.heap.size, 0, none⟩ = some (.string m) ∧ w'.cell? ⟨w.heap.size, 1, none⟩ = some (.string h) ∧ w'.cell? ⟨w.heap.size, 2, none⟩ = some (.slice Y0 l.length y0)) ∧ (w'.cell? ⟨wr.heap.size, 0, none⟩ = some (.string q.m) ∧ w'.cell? ⟨wr.heap.size, 1, none⟩ = some (.string q.h) ∧ w'.cell? ⟨wr.heap.size, 2, none⟩ = some (.slice Y q.l.length yc)))) (by kernel_rfl) ⟨(HC.out _ (Below.drew (Below.refl _ _))).1, (HC.out _ (Below.drew (Below.refl _ _))).2.1⟩ (fun hHeld => ?_)
                  refine' wpAnyH_take (i := 0) (oi := _) (v := _) ?hi0 (by kernel_rfl) (by kernel_rfl) (by kernel_rfl) ?hQ0 (Or.inl ⟨?hw0, ?hy0⟩) (by assumption) ?rest0
                  case hi0 => simp only [List.getElem?_toArray, List.getElem?_cons_zero]; rfl
                  case hQ0 => exact fun _ _ _ h => h
                  case hw0 => rfl
                  case hy0 => (intro w hSw; (try dsimp only at hSw); go_simp; try with_reducible rfl)
                  simp only [Act.put, List.setIfInBounds_toArray, List.set_cons_zero, List.set_cons_succ]
                  refine' wpAnyH_take (i := 2) (oi := _) (v := _) ?hi2 (by kernel_rfl) (by kernel_rfl) (by kernel_rfl) ?hQ2 (Or.inl ⟨?hw2, ?hy2⟩) (by assumption) ?rest2
                  case hi2 => simp only [List.getElem?_toArray, List.getElem?_cons_succ, List.getElem?_cons_zero]; rfl
                  case hQ2 => exact fun _ _ _ h => h
                  case hw2 => rfl
                  case hy2 => (intro w hSw; (try dsimp only at hSw); go_simp; try with_reducible rfl)
                  simp only [Act.put, List.setIfInBounds_toArray, List.set_cons_zero, List.set_cons_succ]
                  refine wpAnyH_ready (rs := [1]) (by kernel_rfl) (by simp) ?_
                  refine' AllReadyH.cons (o := _) ?hi1 (fun K hK => ?step1) AllReadyH.nil
                  case hi1 => simp only [List.getElem?_toArray, List.getElem?_cons_succ, List.getElem?_cons_zero]; rfl
                  go_simp
                  (go_at_call 19; (with_reducible refine (HCV1.out _ (Below.drew (Below.refl _ _))).mono ?_); rintro e wa ⟨X3, x3, rfl, HS3, hba⟩)
                  refine hK.out _ _ ?_ (fun hHeld => ?_)
                  · exact ⟨(HC.out _ hba).1, (HC.out _ hba).2.1⟩
                  clear hK K
                  (try simp only [Act.put, List.setIfInBounds_toArray, List.set_cons_zero, List.set_cons_succ])
                  refine wpAnyH_ready (rs := [3]) (by kernel_rfl) (by simp) ?_
                  refine' AllReadyH.cons (o := _) ?hi3 (fun K hK => ?step3) AllReadyH.nil
                  case hi3 => simp only [List.getElem?_toArray, List.getElem?_cons_succ, List.getElem?_cons_zero]; rfl
                  go_simp
                  (go_at_call 23; (with_reducible refine (HCF.out _ _ hba HS3.out).mono ?_); rintro e wz ⟨rfl, hbz⟩)
                  refine hK.out _ _ ?_ (fun hHeld => ?_)
                  · exact ⟨(HC.out _ hbz).1, (HC.out _ hbz).2.1⟩
                  clear hK K
                  (try simp only [Act.put, List.setIfInBounds_toArray, List.set_cons_zero, List.set_cons_succ])
                  refine' wpAnyH_take (i := 4) (oi := _) (v := _) ?hi4 (by kernel_rfl) (by kernel_rfl) (by kernel_rfl) ?hQ4 (Or.inl ⟨?hw4, ?hy4⟩) (by assumption) ?rest4
                  case hi4 => simp only [List.getElem?_toArray, List.getElem?_cons_succ, List.getElem?_cons_zero]; rfl
                  case hQ4 => exact fun _ _ _ h => h
                  case hw4 => rfl
                  case hy4 => (intro w hSw; (try dsimp only at hSw); go_simp; try with_reducible rfl)
                  simp only [Act.put, List.setIfInBounds_toArray, List.set_cons_zero, List.set_cons_succ]
                  refine' wpAnyH_take (i := 5) (oi := _) (v := undef) ?hi5 (by kernel_rfl) (by kernel_rfl) (by kernel_rfl) ?hQ5 (Or.inr ⟨?hw5, rfl⟩) (by assumption) ?rest5
                  case hi5 => simp only [List.getElem?_toArray, List.getElem?_cons_succ, List.getElem?_cons_zero]; rfl
                  case hQ5 => exact fun _ _ _ h => h
                  case hw5 => rfl
                  simp only [Act.put, List.setIfInBounds_toArray, List.set_cons_zero, List.set_cons_succ]
                  refine' wpAnyH_take (i := 6) (oi := _) (v := undef) ?hi6 (by kernel_rfl) (by kernel_rfl) (by kernel_rfl) ?hQ6 (Or.inr ⟨?hw6, rfl⟩) (by assumption) ?rest6
                  case hi6 => simp only [List.getElem?_toArray, List.getElem?_cons_succ, List.getElem?_cons_zero]; rfl
                  case hQ6 => exact fun _ _ _ h => h
                  case hw6 => rfl
                  simp only [Act.put, List.setIfInBounds_toArray, List.set_cons_zero, List.set_cons_succ]
                  refine' wpAnyH_take (i := 7) (oi := _) (v := undef) ?hi7 (by kernel_rfl) (by kernel_rfl) (by kernel_rfl) ?hQ7 (Or.inr ⟨?hw7, rfl⟩) (by assumption) ?rest7
                  case hi7 => simp only [List.getElem?_toArray, List.getElem?_cons_succ, List.getElem?_cons_zero]; rfl
                  case hQ7 => exact fun _ _ _ h => h
                  case hw7 => rfl
                  simp only [Act.put, List.setIfInBounds_toArray, List.set_cons_zero, List.set_cons_succ]
                  refine' wpAnyH_take (i := 8) (oi := _) (v := undef) ?hi8 (by kernel_rfl) (by kernel_rfl) (by kernel_rfl) ?hQ8 (Or.inr ⟨?hw8, rfl⟩) (by assumption) ?rest8
                  case hi8 => simp only [List.getElem?_toArray, List.getElem?_cons_succ, List.getElem?_cons_zero]; rfl
                  case hQ8 => exact fun _ _ _ h => h
                  case hw8 => rfl
                  simp only [Act.put, List.setIfInBounds_toArray, List.set_cons_zero, List.set_cons_succ]
                  refine' wpAnyH_take (i := 9) (oi := _) (v := undef) ?hi9 (by kernel_rfl) (by kernel_rfl) (by kernel_rfl) ?hQ9 (Or.inr ⟨?hw9, rfl⟩) (by assumption) ?rest9
                  case hi9 => simp only [List.getElem?_toArray, List.getElem?_cons_succ, List.getElem?_cons_zero]; rfl
                  case hQ9 => exact fun _ _ _ h => h
                  case hw9 => rfl
                  simp only [Act.put, List.setIfInBounds_toArray, List.set_cons_zero, List.set_cons_succ]
                  refine' wpAnyH_take (i := 10) (oi := _) (v := undef) ?hi10 (by kernel_rfl) (by kernel_rfl) (by kernel_rfl) ?hQ10 (Or.inr ⟨?hw10, rfl⟩) (by assumption) ?rest10
                  case hi10 => simp only [List.getElem?_toArray, List.getElem?_cons_succ, List.getElem?_cons_zero]; rfl
                  case hQ10 => exact fun _ _ _ h => h
                  case hw10 => rfl
                  simp only [Act.put, List.setIfInBounds_toArray, List.set_cons_zero, List.set_cons_succ]
                  refine' wpAnyH_take (i := 11) (oi := _) (v := undef) ?hi11 (by kernel_rfl) (by kernel_rfl) (by kernel_rfl) ?hQ11 (Or.inr ⟨?hw11, rfl⟩) (by assumption) ?rest11
                  case hi11 => simp only [List.getElem?_toArray, List.getElem?_cons_succ, List.getElem?_cons_zero]; rfl
                  case hQ11 => exact fun _ _ _ h => h
                  case hw11 => rfl
                  simp only [Act.put, List.setIfInBounds_toArray, List.set_cons_zero, List.set_cons_succ]
                  refine' wpAnyH_take (i := 12) (oi := _) (v := _) ?hi12 (by kernel_rfl) (by kernel_rfl) (by kernel_rfl) ?hQ12 (Or.inl ⟨?hw12, ?hy12⟩) (by assumption) ?rest12
                  case hi12 => simp only [List.getElem?_toArray, List.getElem?_cons_succ, List.getElem?_cons_zero]; rfl
                  case hQ12 => exact fun _ _ _ h => h
                  case hw12 => rfl
                  case hy12 => (intro w hSw; (try dsimp only at hSw); go_simp; try with_reducible rfl)
                  simp only [Act.put, List.setIfInBounds_toArray, List.set_cons_zero, List.set_cons_succ]
                  refine wpAnyH_done (by kernel_rfl) ?_ _
                  go_wp2_with fail
                  go_meet
                  exact ⟨rfl, HBN.out.trans (hbz.mono HBN.out.size)⟩
                case true =>
                  have HIT : Hid (∀ W, Below wr1.heap.size wr1 W → Calls Tryd.prog 24 #[.slice A7 L.length c7, .string qt] W fun e w' => e = .returned (.bool true) ∧ W = w') := by
                    intro W hW
                    have h := HIN.out W hW
                    rw [decide_eq_true (HCI.out rfl)] at h
                    exact h
                  clear HIN HCI
                  have i1 : (0 : Int) ≤ (k : Int) := by omega
                  have i2 : (k : Int) < (ps.length : Int) := by omega
                  go_region_held3 (fun w' => (w'.cell? ⟨w.heap.size, 0, none⟩ = some (.string m) ∧ w'.cell? ⟨w.heap.size, 1, none⟩ = some (.string h) ∧ w'.cell? ⟨w.heap.size, 2, none⟩ = some (.slice Y0 l.length y0)) ∧ (w'.cell? ⟨wr.heap.size, 0, none⟩ = some (.string q.m) ∧ w'.cell? ⟨wr.heap.size, 1, none⟩ = some (.string q.h) ∧ w'.cell? ⟨wr.heap.size, 2, none⟩ = some (.slice Y q.l.length yc)) ∧ (w'.cell? ⟨b6, o6 + k, none⟩ = some (.string qt)))
                    (first | exact HC.out _ (Below.drew (Below.refl _ _)) | exact HC.out _ (by assumption))
                    (first
                      | (go_at_call 19; (with_reducible refine (HCV1.out _ (Below.drew (Below.refl _ _))).mono ?_); rintro e wa ⟨X3, x3, rfl, HS3, hba⟩)
                      | (go_at_call 23; (with_reducible refine (HCF.out _ _ hba HS3.out).mono ?_); rintro e wz ⟨rfl, hbz⟩)
                      | (go_at_call 24; (with_reducible refine (HIT.out _ hbz).mono ?_); rintro e wy ⟨rfl, rfl⟩))
                  all_goals
                    (go_wp2_with fail
                     go_meet
                     exact ⟨rfl, HBN.out.trans (hbz.mono HBN.out.size)⟩)
              case rest =>
                obtain ⟨rfl, hbc⟩ := hcut
                obtain ⟨wy, rfl⟩ : ∃ wy : World, wy = wc := ⟨_, rfl⟩
                have HBY := Lib.hid hbc
                clear hbc
                go_wp2_with fail
                go_roundw
                case rel => exact ⟨k + 1, by omega, by go_num, HBY.out⟩
                case measure => simp [intOf]; omega
            · obtain ⟨wo, rfl⟩ : ∃ wo : World, wo = wr := ⟨_, rfl⟩
              clear hb
              go_wp2_with fail
              go_loopw [61] (fun kv wr => ∃ j : Nat, j ≤ L.length ∧ kv = .int .i64 j ∧ Below w8.heap.size w8 wr) (fun kv _ => L.length - (intOf kv).toNat)
              case atStart => exact ⟨0, Nat.zero_le _, rfl, HBK.out⟩
              case round =>
                obtain ⟨j, hj, rfl, hbj⟩ := hrel
                have HBJ := Lib.hid hbj
                by_cases hjl : j < L.length
                · obtain ⟨s, hs⟩ : ∃ s, L[j]? = some s := ⟨_, List.getElem?_eq_getElem hjl⟩
                  obtain ⟨b7, o7, rfl, hb7, h7⟩ := HF7.out j s hs
                  have g7 : wr.cell? ⟨b7, o7 + j, none⟩ = some (.string ⟨s.toArray⟩) := (hbj.cell (p := ⟨b7, o7 + j, none⟩) hb7).trans h7
                  have hin : s ∈ ps.map PtB.text := by
                    obtain ⟨q, h1, h2⟩ := HCD.out.1 s (List.mem_of_getElem? hs)
                    exact List.mem_map.2 ⟨q, h1, h2⟩
                  have HIN : Hid (Calls Tryd.prog 24 #[.slice A6 ps.length c6, .string ⟨s.toArray⟩] wr fun e w' => e = .returned (.bool true) ∧ wr = w') := by
                    have h := in_any _ (ps.map PtB.text) s wr (HT6.out wr hbj)
                    rw [decide_eq_true hin] at h
                    exact h
                  obtain ⟨st, hst⟩ : ∃ st : ByteArray, st = ⟨s.toArray⟩ := ⟨_, rfl⟩
                  rw [← hst] at g7 HIN
                  clear h7 hs hin hst hbj
                  go_wp2_with (go_at_call 24; (with_reducible refine HIN.out.mono ?_); rintro e wn ⟨rfl, rfl⟩)
                  go_roundw
                  case rel => exact ⟨j + 1, by omega, by go_num, HBJ.out⟩
                  case measure => simp [intOf]; omega
                · go_wp2_with fail
                  go_ret
                  exact ⟨rfl, (HT.out _ (HB8.out.trans (HBJ.out.mono HB8.out.size))).2⟩
end Go.Proofs.YtgkhfcoieknjeaaDoor

