/-
  Proved: the walk of laws.FnMatch: it returns true and writes nothing that was there. Conditions: the arguments can be read; the table unicode.properties is as it was laid.
-/
import Derived.Test.YtgkhfcoieknjeaaDoorTake
import Derived.Test.YtgkhfcoieknjeaaDoorTakes
import Derived.Test.YtgkhfcoieknjeaaDoorPair
import Derived.Test.YtgkhfcoieknjeaaDoorMatchVals
import Derived.Test.YtgkhfcoieknjeaaDoorBestWalk
namespace Go.Proofs.YtgkhfcoieknjeaaDoor
open Go.RowKit

set_option maxRecDepth 100000 in
set_option maxHeartbeats 6400000 in
theorem walk_FnMatch (v0 : Value) (ps : List PtB) (rm rh rp : ByteArray) (w : World) (HV0 : PatsAt w v0 ps ∧ SizesP ps)
    (zm : rm.size ≤ 9223372036854775807) (zh : rh.size ≤ 9223372036854775807) (zp : rp.size ≤ 9223372036854775807) (hprops : PropsAt w) :
    Calls Tryd.prog 6 #[v0, .agg #[.string rm, .string rh, .string rp]] w fun e w' => e = .returned (.bool true) ∧ Below w.heap.size w w' := by
  obtain ⟨H0, HSZ⟩ := HV0
  have HX5 : Hid (∀ W, Below w.heap.size w W → Calls Tryd.prog 8 #[v0] W (FitsEnd (ps.length ≤ 2147483647 ∧ ∀ p ∈ ps, FitsB p) W)) := fun W hb => fits5_any v0 ps W (H0.keep hb) HSZ
  have HX4 : Hid (∀ W, Calls Tryd.prog 9 #[.agg #[.string rm, .string rh, .string rp]] W (FitsEnd (FitsR rm rh rp) W)) := fun W => zfFour rm rh rp W zm zh zp
  have HXA : Hid (∀ W, Below w.heap.size w W → ps.length ≤ 2147483647 → (∀ p ∈ ps, FitsB p) → Calls Tryd.prog 10 #[v0] W fun e w' => ∃ v' qs, e = .returned v' ∧ qs.map Prod.fst = ps ∧ PatsOwn w' W.heap.size v' qs ∧ Below W.heap.size W w') := fun W hb h1 h2 => all_any v0 ps W (H0.keep hb) h1 h2
  have HXC : Hid (∀ W, FitsR rm rh rp → Calls Tryd.prog 11 #[.agg #[.string rm, .string rh, .string rp]] W (ReqEnd rm rh rp W)) := fun W hf => request_any rm rh rp W hf
  have HPR := Lib.hid hprops
  have HH0 := Lib.hid H0
  obtain ⟨A0, c0, rfl, hc0, hcm0, -⟩ := H0
  clear hprops HSZ zm zh zp
  go_enter Tryd.func6, Tryd.ntmps6
  go_upto_region 1 with fail
  have hb1 := new0 w (.cells #[.string rm, .string rh, .string rp] 24)
  have HBW : Hid (Below w.heap.size w (w.alloc (.cells #[.string rm, .string rh, .string rp] 24))) := (Below.refl _ _).alloc (Nat.le_refl _) _
  obtain ⟨W0, hW0⟩ : ∃ W0, W0 = w.alloc (.cells #[.string rm, .string rh, .string rp] 24) := ⟨_, rfl⟩
  rw [← hW0] at hb1 HBW ⊢
  have HS : Hid (∀ w' : World, Below W0.heap.size W0 w' → w'.cell? ⟨w.heap.size, 0, none⟩ = some (.string rm) ∧ w'.cell? ⟨w.heap.size, 1, none⟩ = some (.string rh) ∧ w'.cell? ⟨w.heap.size, 2, none⟩ = some (.string rp)) := fun w' hb => ⟨blk_cell (blk_below hb1 hb) 0, blk_cell (blk_below hb1 hb) 1, blk_cell (blk_below hb1 hb) 2⟩
  have HU : Hid (∀ w', Below W0.heap.size W0 w' → Below w.heap.size w w') := fun w' hb => HBW.out.trans (hb.mono HBW.out.size)
  clear hW0 hb1
  go_cut [21] (fun c wx => ∃ q : Bool, c = .bool q ∧ Hid (q = false → (ps.length ≤ 2147483647 ∧ ∀ p ∈ ps, FitsB p) ∧ FitsR rm rh rp) ∧ Below W0.heap.size W0 wx)
  case first =>
    obtain ⟨s0, s1, s2⟩ := HS.out _ (Below.refl _ _)
    go_wp2_with (first
      | (go_at_call 8; (with_reducible refine (HX5.out _ ?_).mono ?_); exact HU.out _ (Below.refl _ _); intro e w1 hfe; obtain ⟨b1, rfl, HB1, HP1⟩ := fits_bool hfe; clear hfe; obtain ⟨x0, x1, x2⟩ := HS.out _ HB1.out; cases b1)
      | (go_at_call 9; (with_reducible refine (HX4.out _).mono ?_); intro e w3 hfe; obtain ⟨b3, rfl, HB3, HP3⟩ := fits_bool hfe; clear hfe))
    · go_meet
      exact ⟨true, rfl, (fun h => by cases h), HB1.out⟩
    · go_meet
      refine ⟨!b3, rfl, ?_, HB1.out.trans (HB3.out.mono HB1.out.size)⟩
      show _ → _
      intro h
      have hb3 : b3 = true := by simpa using h
      have g1 := HP1.out
      exact ⟨by simpa using g1, HP3.out hb3⟩
  case rest =>
    obtain ⟨q, rfl, HQ, hbc⟩ := hcut
    obtain ⟨wb, rfl⟩ : ∃ wb : World, wb = wc := ⟨_, rfl⟩
    have HBC := Lib.hid hbc
    clear hbc
    cases q
    case true =>
      go_wp2_with fail
      go_ret
      exact ⟨rfl, HU.out _ HBC.out⟩
    case false =>
      obtain ⟨⟨hn5, hF5⟩, hF4⟩ := HQ.out rfl
      have HF4 := Lib.hid hF4
      have HF5 := Lib.hid hF5
      obtain ⟨s0, s1, s2⟩ := HS.out _ HBC.out
      clear hF4 hF5
      go_upto_region 4 with (go_at_call 10; (with_reducible refine (HXA.out _ (HU.out _ HBC.out) hn5 HF5.out).mono ?_); rintro e wt ⟨va, qs, rfl, hqs, hpo, hbt⟩; have hpa := hpo.at; rw [hqs] at hpa; obtain ⟨X, xc, rfl, hxc, hxm, -⟩ := id hpa; have HPA := Lib.hid hpa; have HBT := Lib.hid hbt; have HPO := Lib.hid hpo; have HQS := Lib.hid hqs; clear hpa hbt hpo hqs)
      clear s0 s1 s2
      have HB0T : Hid (Below W0.heap.size W0 wt) := HBC.out.trans (HBT.out.mono HBC.out.size)
      obtain ⟨s0, s1, s2⟩ := HS.out _ HB0T.out
      go_upto_region 5 with (go_at_call 11; (with_reducible refine (HXC.out _ HF4.out).mono ?_); rintro e wv ⟨vi, fine, its, rfl, hfi, hbv⟩; have HFI := Lib.hid hfi; have HBV := Lib.hid hbv; clear hfi hbv)
      clear s0 s1 s2
      have hn3 := new0 wv (.cells #[.string rm, .string rh, .string rp] 29)
      have HBTV : Hid (Below wt.heap.size wt (wv.alloc (.cells #[.string rm, .string rh, .string rp] 29))) := HBV.out.alloc HBV.out.size _
      have HBVV : Hid (Below wv.heap.size wv (wv.alloc (.cells #[.string rm, .string rh, .string rp] 29))) := (Below.refl _ _).alloc (Nat.le_refl _) _
      obtain ⟨W2, hW2⟩ : ∃ W2, W2 = wv.alloc (.cells #[.string rm, .string rh, .string rp] 29) := ⟨_, rfl⟩
      rw [← hW2] at hn3 HBTV HBVV ⊢
      have HB02 : Hid (Below W0.heap.size W0 W2) := HB0T.out.trans (HBTV.out.mono HB0T.out.size)
      have HB2 : Hid (∀ w', Below W2.heap.size W2 w' → Below w.heap.size w w') := fun w' hb => HU.out _ (HB02.out.trans (hb.mono HB02.out.size))
      have HT : Hid (∀ w' : World, Below W2.heap.size W2 w' → (w'.cell? ⟨w.heap.size, 0, none⟩ = some (.string rm) ∧ w'.cell? ⟨w.heap.size, 1, none⟩ = some (.string rh) ∧ w'.cell? ⟨w.heap.size, 2, none⟩ = some (.string rp)) ∧ (w'.cell? ⟨wv.heap.size, 0, none⟩ = some (.string rm) ∧ w'.cell? ⟨wv.heap.size, 1, none⟩ = some (.string rh) ∧ w'.cell? ⟨wv.heap.size, 2, none⟩ = some (.string rp))) := fun w' hb =>
        ⟨HS.out _ (HB02.out.trans (hb.mono HB02.out.size)), blk_cell (blk_below hn3 hb) 0, blk_cell (blk_below hn3 hb) 1, blk_cell (blk_below hn3 hb) 2⟩
      have HPV : Hid (∀ w' : World, Below W2.heap.size W2 w' → PatsAt w' (.slice X ps.length xc) ps) := fun w' hb => (HPA.out.keep HBTV.out).keep hb
      have HPV0 : Hid (∀ w' : World, Below W2.heap.size W2 w' → PatsAt w' (.slice A0 ps.length c0) ps) := fun w' hb => HH0.out.keep (HB2.out w' hb)
      have HRI : Hid (fine = true → AskOk (bs rm) (bs rh) (bs rp) its ∧ ∀ w', Below W2.heap.size W2 w' → StrsAt w' vi its) := fun h => ⟨(HFI.out h).1, fun w' hb => ((HFI.out h).2.keep HBVV.out).keep hb⟩
      have HRP : Hid (∀ w', Below W2.heap.size W2 w' → PropsAt w') := fun w' hb => HPR.out.below (HB2.out w' hb)
      clear hW2 hn3 HFI HX5 HX4 HXC HQ HBVV
      go_cut [41] (fun c wx => ∃ q : Bool, c = .bool q ∧ Hid (q = false → fine = true ∧ (ps.length ≤ 10 ∧ AllGoodB ps) ∧ PeaceB ps) ∧ Below W2.heap.size W2 wx)
      case first =>
        cases fine
        · go_wp2_with fail
          go_meet
          exact ⟨true, rfl, (fun h => by cases h), Below.refl _ _⟩
        · go_wp2_with (first
            | (go_at_call 12; (with_reducible refine (allGood_any _ ps _ (HPV.out _ (Below.refl _ _)) hn5 HF5.out).mono ?_); intro e w5 hfe; obtain ⟨b5, rfl, HB5, HP5⟩ := fits_bool hfe; clear hfe; cases b5)
            | (go_at_call 13; (with_reducible refine (peace_any _ ps _ (HPV.out _ HB5.out) (by simpa using HP5.out : ps.length ≤ 10 ∧ AllGoodB ps).1 (by simpa using HP5.out : ps.length ≤ 10 ∧ AllGoodB ps).2).mono ?_); intro e w6 hfe; obtain ⟨b6, rfl, HB6, HP6⟩ := fits_bool hfe; clear hfe))
          · go_meet
            exact ⟨true, rfl, (fun h => by cases h), HB5.out⟩
          · go_meet
            refine ⟨!b6, rfl, ?_, HB5.out.trans (HB6.out.mono HB5.out.size)⟩
            show _ → _
            intro h
            have hb6 : b6 = true := by simpa using h
            exact ⟨by first | rfl | trivial, by simpa using HP5.out, HP6.out hb6⟩
      case rest =>
        obtain ⟨q, rfl, HQ2, hbq⟩ := hcut
        obtain ⟨wq, rfl⟩ : ∃ wq : World, wq = wc := ⟨_, rfl⟩
        have HBQ := Lib.hid hbq
        clear hbq
        cases q
        case true =>
          go_wp2_with fail
          go_ret
          exact ⟨rfl, HB2.out _ HBQ.out⟩
        case false =>
          obtain ⟨rfl, ⟨hn10, hgood⟩, hpeace⟩ := HQ2.out rfl
          obtain ⟨hak, hst⟩ := HRI.out rfl
          have HG := Lib.hid hgood
          have HPC := Lib.hid hpeace
          have HAK := Lib.hid hak
          have HST := Lib.hid hst
          have HSM := Lib.hid (items_small _ _ hak.1)
          clear hgood hpeace hak hst HQ2 HRI
          have HALL : Hid (∀ W, Below W2.heap.size W2 W → Calls Tryd.prog 10 #[.slice A0 ps.length c0] W fun e w' => ∃ B bc, e = .returned (.slice B ps.length bc) ∧ PatsAt w' (.slice B ps.length bc) ps ∧ Below W2.heap.size W2 w') := by
            intro W hb
            refine (HXA.out W (HB2.out W hb) hn5 HF5.out).mono ?_
            rintro e w' ⟨v', qs', rfl, hqs', hpo', hb'⟩
            have hpa := hpo'.at
            rw [hqs'] at hpa
            obtain ⟨B, bc, rfl, -⟩ := id hpa
            exact ⟨B, bc, rfl, hpa, hb.trans (hb'.mono hb.size)⟩
          have HTK : Hid (∀ (W : World) (u : Value), Below W2.heap.size W2 W → PatsAt W u ps → Calls Tryd.prog 14 #[u, .agg #[.string rm, .string rh, .string rp]] W fun e w' => ∃ (i : Int) (v' : Value), e = .returned (.tuple #[.int .i64 i, v']) ∧ Hid (MatchRes ps (bs rm) (bs rh) its W2 (.returned (.tuple #[.int .i64 i, v'])) w') ∧ Below W2.heap.size W2 w') := by
            intro W u hb hu
            refine (take_any u ps its rh rm rp W hu hn10 HG.out HPC.out (HRP.out W hb) HAK.out).mono ?_
            intro e w' hm
            obtain ⟨i, v', rfl, HM⟩ := (hm.rebase hb).uni
            exact ⟨i, v', rfl, HM, hb.trans (hm.1.mono hb.size)⟩
          have HTS : Hid (∀ (W : World) (p : PtB) (sv : Value), Below W2.heap.size W2 W → p.pt.good → SegsAt W sv p.l → Calls Tryd.prog 16 #[.agg #[.string p.m, .string p.h, sv], .agg #[.string rm, .string rh, .string rp], vi] W fun e w' => ∃ x, e = .returned (.tuple #[x, .bool (p.pt.takes (bs rm) (bs rh) its)]) ∧ Below W2.heap.size W2 w') :=
            fun W p sv hb hg hs => (takes_any p.m p.h rm rh rp sv vi p.l its W hs (HST.out W hb) (good_len hg) HSM.out).mono fun e w' ⟨⟨x, y⟩, z⟩ => ⟨x, y, hb.trans (z.mono hb.size)⟩
          clear HBTV HB0T HB02 HBC HBT HBV
          obtain ⟨_, y0, y1, y2⟩ := HT.out _ HBQ.out
          obtain ⟨bv, hbv⟩ : ∃ bv, bv = bestV (bestL (ps.map PtB.pt) (bs rm) (bs rh) its ps.length) := ⟨_, rfl⟩
          have HBV : Hid (bv = bestV (bestL (ps.map PtB.pt) (bs rm) (bs rh) its ps.length)) := hbv
          have HBE : Hid (∀ W, Below W2.heap.size W2 W → Calls Tryd.prog 25 #[.slice X ps.length xc, .agg #[.string rm, .string rh, .string rp], vi] W fun e w' => e = .returned (.int .i64 bv) ∧ Below W2.heap.size W2 w') := by
            intro W hb
            rw [hbv]
            exact (best_any _ vi ps rm rh rp its W (HPV.out W hb) (HST.out W hb) HSM.out hn10 HG.out).mono fun e w' ⟨x, y⟩ => ⟨x, hb.trans (y.mono hb.size)⟩
          clear hbv
          go_upto_region 8 with (go_at_call 25; (with_reducible refine (HBE.out _ HBQ.out).mono ?_); rintro e wm ⟨rfl, hbm⟩; have HBM := Lib.hid hbm; clear hbm)
          clear y0 y1 y2 HBE
          obtain ⟨⟨x0, x1, x2⟩, _⟩ := HT.out _ HBM.out
          go_region_held3 (fun w' => (w'.cell? ⟨w.heap.size, 0, none⟩ = some (.string rm) ∧ w'.cell? ⟨w.heap.size, 1, none⟩ = some (.string rh) ∧ w'.cell? ⟨w.heap.size, 2, none⟩ = some (.string rp)))
            (first | exact ⟨x0, x1, x2⟩ | exact (HT.out _ (by assumption)).1)
            (first
              | (go_at_call 10; (with_reducible refine (HALL.out _ (Below.drew HBM.out)).mono ?_); rintro e wa ⟨B, bc, rfl, hpa1, hba⟩; have HPA1 := Lib.hid hpa1; clear hpa1)
              | (go_at_call 14; (with_reducible refine (HTK.out _ _ hba HPA1.out).mono ?_); rintro e wk ⟨i, vk, rfl, HM, hbk⟩))
          all_goals
            (clear x0 x1 x2 HPA1
             rcases HM.out.parts with ⟨rfl, rfl, hno⟩ | ⟨n, p, rfl, hbest, hp, hvs⟩)
          · have hbv : bv = -1 := by
              rw [HBV.out, bestL_none (fun j q hq => by
                rw [List.getElem?_map] at hq
                obtain ⟨q', hq', rfl⟩ := Option.map_eq_some_iff.1 hq
                exact hno j q' hq')]
              rfl
            subst hbv
            have HBK := Lib.hid hbk
            clear hno hbk HM HTK HALL hba HBV
            go_wp2_with fail
            go_ret
            exact ⟨rfl, HB2.out _ HBK.out⟩
          · have hnl : n < ps.length := (List.getElem?_eq_some_iff.1 hp).1
            have hbv : bv = (n : Int) := by
              rw [HBV.out, bestL_found (ps := ps.map PtB.pt) (fun i q hq => by
                rw [List.getElem?_map] at hq
                obtain ⟨q', hq', rfl⟩ := Option.map_eq_some_iff.1 hq
                exact HG.out i q' hq') hbest _ hnl]
              rfl
            subst hbv
            obtain ⟨q, hq, htk, -⟩ := hbest
            have hqp : q = p.pt := by rw [List.getElem?_map, hp] at hq; exact (Option.some.inj hq).symm
            subst hqp
            have HBK := Lib.hid hbk
            have i0 : decide ((n : Int) < 0) = false := decide_eq_false (by omega)
            have i1 : (0 : Int) ≤ (n : Int) := by omega
            have i2 : (n : Int) < (ps.length : Int) := by omega
            obtain ⟨xa, xb, xd, -, -, hf⟩ := HPV.out _ hbk
            simp only [Value.slice.injEq, true_and] at xd
            obtain ⟨rfl, rfl⟩ := xd
            obtain ⟨b, o, sv, rfl, hbl, h1, h2, h3, h4⟩ := hf n p hp
            have HZ : Hid (∀ W, Below wk.heap.size wk W → Calls Tryd.prog 16 #[.agg #[.string p.m, .string p.h, sv], .agg #[.string rm, .string rh, .string rp], vi] W fun e w' => ∃ x, e = .returned (.tuple #[x, .bool true]) ∧ Hid (StrsAt w' x (vals p.l its)) ∧ Below wk.heap.size wk w') := by
              intro W hW
              refine (takes_vals p.m p.h rm rh rp sv vi p.l its W (h4.keep hW) (HST.out W (HBK.out.trans (hW.mono HBK.out.size))) (good_len (HG.out n p hp)) HSM.out).mono ?_
              rintro e w' ⟨⟨x, rfl, hx⟩, hz⟩
              have ht : takesB (bs p.m) (bs p.h) p.l (bs rm) (bs rh) its = true := htk
              exact ⟨x, by rw [ht], hx ht, hW.trans (hz.mono hW.size)⟩
            have HSA : Hid (∀ (W : World) (x : Value), Below wk.heap.size wk W → StrsAt W x (vals p.l its) → Calls Tryd.prog 15 #[vk, x] W fun e w' => e = .returned (.bool true) ∧ Below wk.heap.size wk w') :=
              fun W x hW hx => (sameTexts_any vk x _ W (hvs.keep hW) hx).mono fun e w' ⟨a, b⟩ => ⟨a, hW.trans (b.mono hW.size)⟩
            obtain ⟨Y, yc, rfl, -, -⟩ := h4
            obtain ⟨-, y0, y1, y2⟩ := HT.out _ hbk
            have HC : Hid (∀ w', Below wk.heap.size wk w' → w'.cell? ⟨b, o + n * 3, none⟩ = some (.string p.m) ∧ w'.cell? ⟨b, o + n * 3 + 1, none⟩ = some (.string p.h) ∧ w'.cell? ⟨b, o + n * 3 + 2, none⟩ = some (.slice Y p.l.length yc) ∧ w'.cell? ⟨wv.heap.size, 0, none⟩ = some (.string rm) ∧ w'.cell? ⟨wv.heap.size, 1, none⟩ = some (.string rh) ∧ w'.cell? ⟨wv.heap.size, 2, none⟩ = some (.string rp)) := fun w' hb =>
              ⟨(hb.cell hbl).trans h1, (hb.cell hbl).trans h2, (hb.cell hbl).trans h3, (HT.out _ (HBK.out.trans (hb.mono HBK.out.size))).2⟩
            generalize vals p.l its = vl at HZ HSA
            clear h1 h2 h3 hp hf hbk HM HTK HALL hba hvs htk hq hbl y0 y1 y2 HBV
            go_upto_region 11 with fail
            obtain ⟨z0, z1, z2, z3, z4, z5⟩ := HC.out _ (Below.refl _ _)
            go_region_held3 (fun w' => w'.cell? ⟨b, o + n * 3, none⟩ = some (.string p.m) ∧ w'.cell? ⟨b, o + n * 3 + 1, none⟩ = some (.string p.h) ∧ w'.cell? ⟨b, o + n * 3 + 2, none⟩ = some (.slice Y p.l.length yc) ∧ w'.cell? ⟨wv.heap.size, 0, none⟩ = some (.string rm) ∧ w'.cell? ⟨wv.heap.size, 1, none⟩ = some (.string rh) ∧ w'.cell? ⟨wv.heap.size, 2, none⟩ = some (.string rp))
              (first | exact ⟨z0, z1, z2, z3, z4, z5⟩ | exact HC.out _ (by assumption))
              (first
                | (go_at_call 16; (with_reducible refine (HZ.out _ (Below.drew (Below.refl _ _))).mono ?_); rintro e w6 ⟨x, rfl, HX, hb6⟩))
            all_goals
              (clear z0 z1 z2 z3 z4 z5
               go_wp2_with (go_at_call 15; (with_reducible refine (HSA.out _ _ hb6 HX.out).mono ?_); rintro e w7 ⟨rfl, hb7⟩)
               go_ret
               exact ⟨rfl, HB2.out _ (HBK.out.trans (hb7.mono HBK.out.size))⟩)
end Go.Proofs.YtgkhfcoieknjeaaDoor

