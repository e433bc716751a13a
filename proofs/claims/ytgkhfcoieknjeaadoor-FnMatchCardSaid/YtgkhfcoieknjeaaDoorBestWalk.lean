/-
  Proved: spec.Best goes over the patterns as 'bestL' says. Conditions: the patterns are good and at most ten, and can be read; something is stated of the request.
-/
import Derived.Test.YtgkhfcoieknjeaaDoorPats
import Derived.Test.YtgkhfcoieknjeaaDoorTakes
import Derived.Test.YtgkhfcoieknjeaaDoorBest
import Derived.Deep.RegionHeld3
import Derived.BigQuiet
import Derived.Deep.DeepCutAuto
namespace Go.Proofs.YtgkhfcoieknjeaaDoor
open Go.RowKit

/-- The place as a number. -/
def bestV : Option Nat → Int
  | some i => (i : Int)
  | none => -1

theorem spc_text (r : Rel) : (r.text.toList == [109, 111, 114, 101, 83, 112, 101, 99, 105, 102, 105, 99]) = isSpc r := by cases r <;> (rw [bs_toList]; rfl)

set_option maxRecDepth 100000 in
set_option maxHeartbeats 6400000 in
theorem best_any (v vi : Value) (ps : List PtB) (rm rh rp : ByteArray) (its : List (List UInt8)) (w : World) (H : PatsAt w v ps) (HI : StrsAt w vi its) (HSM0 : SmallIts its) (_hn : ps.length ≤ 10) (hg : AllGoodB ps) :
    Calls Tryd.prog 25 #[v, .agg #[.string rm, .string rh, .string rp], vi] w fun e w' => e = .returned (.int .i64 (bestV (bestL (ps.map PtB.pt) (bs rm) (bs rh) its ps.length))) ∧ Below w.heap.size w w' := by
  have HT : Hid (∀ (W : World) (p : PtB) (sv : Value), Below w.heap.size w W → p.pt.good → SegsAt w sv p.l → Calls Tryd.prog 16 #[.agg #[.string p.m, .string p.h, sv], .agg #[.string rm, .string rh, .string rp], vi] W fun e w' => ∃ x, e = .returned (.tuple #[x, .bool (p.pt.takes (bs rm) (bs rh) its)]) ∧ Below W.heap.size W w') :=
    fun W p sv hb hg hs => (takes_any p.m p.h rm rh rp sv vi p.l its W (hs.keep hb) (HI.keep hb) (good_len hg) HSM0).mono fun e w' ⟨⟨x, y⟩, z⟩ => ⟨x, y, z⟩
  obtain ⟨A, cap, rfl, hlc, hcm, hf⟩ := H
  have HF := Lib.hid hf
  have HG := Lib.hid hg
  unfold maxLen at hcm
  have hb1 := new0 w (.cells #[.string rm, .string rh, .string rp] 29)
  have HBW : Hid (Below w.heap.size w (w.alloc (.cells #[.string rm, .string rh, .string rp] 29))) := (Below.refl _ _).alloc (Nat.le_refl _) _
  obtain ⟨W0, hW0⟩ : ∃ W0, W0 = w.alloc (.cells #[.string rm, .string rh, .string rp] 29) := ⟨_, rfl⟩
  have hz0 : W0.heap.size = w.heap.size + 1 := by rw [hW0]; simp
  rw [← hW0] at hb1 HBW
  have HS : Hid (∀ w' : World, Below W0.heap.size W0 w' → w'.cell? ⟨w.heap.size, 0, none⟩ = some (.string rm) ∧ w'.cell? ⟨w.heap.size, 1, none⟩ = some (.string rh) ∧ w'.cell? ⟨w.heap.size, 2, none⟩ = some (.string rp)) := fun w' hb => ⟨blk_cell (blk_below hb1 hb) 0, blk_cell (blk_below hb1 hb) 1, blk_cell (blk_below hb1 hb) 2⟩
  have HU : Hid (∀ w', Below W0.heap.size W0 w' → Below w.heap.size w w') := fun w' hb => HBW.out.trans (hb.mono HBW.out.size)
  clear hf hg HI HSM0 hb1
  obtain ⟨bl, hbl⟩ : ∃ bl : Nat → Option Nat, bl = bestL (ps.map PtB.pt) (bs rm) (bs rh) its := ⟨_, rfl⟩
  have HBL : Hid (bl = bestL (ps.map PtB.pt) (bs rm) (bs rh) its) := hbl
  rw [← hbl]
  clear hbl
  go_enter Tryd.func25, Tryd.ntmps25
  go_upto_region 2 with fail
  rw [← hW0]
  clear hW0
  go_wp2_with fail
  go_loopw [7, 14] (fun bv kv wr => ∃ k : Nat, k ≤ ps.length ∧ kv = .int .i64 k ∧ bv = .int .i64 (bestV (bl k)) ∧ Below W0.heap.size W0 wr) (fun _ kv _ => ps.length - (intOf kv).toNat)
  case atStart => exact ⟨0, Nat.zero_le _, rfl, by rw [HBL.out]; rfl, Below.refl _ _⟩
  case round =>
    obtain ⟨k, hk, rfl, rfl, hb⟩ := hrel
    by_cases hlt : k < ps.length
    · obtain ⟨p, hp⟩ : ∃ p, ps[k]? = some p := ⟨_, List.getElem?_eq_getElem hlt⟩
      obtain ⟨b, o, sv, rfl, hbl, h1, h2, h3, h4⟩ := HF.out k p hp
      have hpp : (ps.map PtB.pt)[k]? = some p.pt := by rw [List.getElem?_map, hp]; rfl
      have HGP : Hid p.pt.good := HG.out k p hp
      have HNX : Hid (bl (k + 1) = bestStep (ps.map PtB.pt) (bs rm) (bs rh) its (bl k) k) := by show _ = _; rw [HBL.out]; exact bestL_succ _ _ _ _ _
      have HTK : Hid (∀ b', bl k = some b' → b' < k ∧ ∃ q, ps[b']? = some q) := by
        intro b' hb'
        rw [HBL.out] at hb'
        obtain ⟨a1, q, a2, _⟩ := bestL_taken _ _ _ _ _ _ hb'
        rw [List.getElem?_map] at a2
        obtain ⟨q', a3, _⟩ := Option.map_eq_some_iff.1 a2
        exact ⟨a1, q', a3⟩
      have HZ : Hid (∀ W, Below w.heap.size w W → Calls Tryd.prog 16 #[.agg #[.string p.m, .string p.h, sv], .agg #[.string rm, .string rh, .string rp], vi] W fun e w' => ∃ x, e = .returned (.tuple #[x, .bool (p.pt.takes (bs rm) (bs rh) its)]) ∧ Below W.heap.size W w') := fun W hW => HT.out W p sv hW HGP.out h4
      have HSV : Hid (SegsAt w sv p.l) := h4
      obtain ⟨Y, yc, rfl, -, -⟩ := h4
      have hbW := HU.out _ hb
      have g1 : wr.cell? ⟨b, o + k * 3, none⟩ = some (.string p.m) := (hbW.cell hbl).trans h1
      have g2 : wr.cell? ⟨b, o + k * 3 + 1, none⟩ = some (.string p.h) := (hbW.cell hbl).trans h2
      have g3 : wr.cell? ⟨b, o + k * 3 + 2, none⟩ = some (.slice Y p.l.length yc) := (hbW.cell hbl).trans h3
      have hn1 := new0 wr (.cells #[.string p.m, .string p.h, .slice Y p.l.length yc] 45)
      have HB1 : Hid (Below W0.heap.size W0 (wr.alloc (.cells #[.string p.m, .string p.h, .slice Y p.l.length yc] 45))) := hb.alloc hb.size _
      obtain ⟨s0, s1, s2⟩ := HS.out _ hb
      have hwr : w.heap.size < wr.heap.size := cell_lt s0
      have HN1 := Lib.hid hn1
      have HKP := Lib.hid hpp
      clear h1 h2 h3 hp hpp hbW hn1
      obtain ⟨tk, htk⟩ : ∃ tk, tk = p.pt.takes (bs rm) (bs rh) its := ⟨_, rfl⟩
      rw [← htk] at HZ
      have HTV : Hid (p.pt.takes (bs rm) (bs rh) its = tk) := htk.symm
      clear htk
      cases tk
      case false =>
        have HN2 : Hid (bl (k + 1) = bl k) := by
          show _ = _
          rw [HNX.out]
          unfold bestStep
          rw [HKP.out]
          simp only [HTV.out, if_pos]
        go_wp2_with (go_at_call 16; (with_reducible refine (HZ.out _ (HU.out _ HB1.out)).mono ?_); rintro e w6 ⟨x, rfl, hb6⟩; have HB6 := Lib.hid hb6; clear hb6)
        go_roundw
        case rel => exact ⟨k + 1, by omega, by go_num, by rw [HN2.out], HB1.out.trans (HB6.out.mono HB1.out.size)⟩
        case measure => simp [intOf]; omega
      case true =>
        go_upto_region 7 with (go_at_call 16; (with_reducible refine (HZ.out _ (HU.out _ HB1.out)).mono ?_); rintro e w6 ⟨x, rfl, hb6⟩; have HB6 := Lib.hid hb6; clear hb6)
        have HB16 : Hid (Below W0.heap.size W0 w6) := HB1.out.trans (HB6.out.mono HB1.out.size)
        have hn6 := blk_below HN1.out HB6.out
        clear g1 g2 g3 s0 s1 s2
        have HS1 : Hid (∀ w', Below w6.heap.size w6 w' → w'.cell? ⟨wr.heap.size, 0, none⟩ = some (.string p.m) ∧ w'.cell? ⟨wr.heap.size, 1, none⟩ = some (.string p.h) ∧ w'.cell? ⟨wr.heap.size, 2, none⟩ = some (.slice Y p.l.length yc)) := fun w' hb' => ⟨blk_cell (blk_below hn6 hb') 0, blk_cell (blk_below hn6 hb') 1, blk_cell (blk_below hn6 hb') 2⟩
        clear hn6 HN1 HZ
        cases hbk : bl k with
        | none =>
          have HN2 : Hid (bl (k + 1) = some k) := by
            show _ = _
            rw [HNX.out, hbk]
            unfold bestStep
            rw [HKP.out]
            simp [HTV.out]
          clear hbk
          rw [show bestV none = (-1 : Int) from rfl]
          have hd0 : Below w6.heap.size w6 w6.drew := below_drew3 (Below.refl _ _) 1
          go_quiet (fail)
          go_wp2_with fail
          go_roundw
          case rel => exact ⟨k + 1, by omega, by go_num, by rw [HN2.out]; rfl, below_drew3 HB16.out _⟩
          case measure => simp [intOf]; omega
        | some b' =>
          obtain ⟨hbk', q, hq⟩ := HTK.out b' hbk
          rw [show bestV (some b') = (b' : Int) from rfl]
          obtain ⟨b2, o2, su, hbo, hbl2, k1, k2, k3, k4⟩ := HF.out b' q hq
          simp only [Option.some.injEq, Addr.mk.injEq, and_true] at hbo
          obtain ⟨rfl, rfl⟩ := hbo
          have hgq : q.pt.good := HG.out b' q hq
          have HN2 : Hid (bl (k + 1) = if aheadB p.pt q.pt = true then some k else some b') := by
            have hq2 : (ps.map PtB.pt)[b']? = some q.pt := by rw [List.getElem?_map, hq]; rfl
            show _ = _
            rw [HNX.out, hbk]
            unfold bestStep
            rw [HKP.out]
            simp only [HTV.out, hq2, Bool.true_eq_false, if_false]
          have HBS : Hid (bl k = some b') := hbk
          have HBP : Hid (∀ W, Below w6.heap.size w6 W → Calls Tryd.prog 38 #[.agg #[.string p.m, .string p.h, .slice Y p.l.length yc], .agg #[.string q.m, .string q.h, su]] W fun e w' => e = .returned (.string (Kd.byPaths (kinds p.l) (kinds q.l)).text) ∧ Below w6.heap.size w6 w') := by
            intro W hb'
            have hbw : Below w.heap.size w W := HU.out _ (HB16.out.trans (hb'.mono HB16.out.size))
            have G1 : GoodP (bs p.m) (bs p.h) p.l := HGP.out
            have G2 : GoodP (bs q.m) (bs q.h) q.l := hgq
            exact (spec_byPaths p.m q.m p.h q.h _ su p.l q.l W (HSV.out.keep hbw) (k4.keep hbw) G1.some_ G2.some_ (good_len G1) (good_len G2)).mono fun e w' ⟨x, y⟩ => ⟨x, hb'.trans (y.mono hb'.size)⟩
          have HBM : Hid (∀ W, Calls Tryd.prog 37 #[.string p.m, .string q.m] W fun e w' => e = .returned (.string (byM (bs p.m) (bs q.m)).text) ∧ W = w') := fun W => spec_byMethods p.m q.m W
          have HCO : Hid (∀ W, Calls Tryd.prog 36 #[.string (byM (bs p.m) (bs q.m)).text, .string (Kd.byPaths (kinds p.l) (kinds q.l)).text] W fun e w' => e = .returned (.string (p.pt.rel q.pt).text) ∧ W = w') := fun W => spec_combine _ _ W
          have e9 : ((p.pt.rel q.pt).text.toList == [109, 111, 114, 101, 83, 112, 101, 99, 105, 102, 105, 99]) = isSpc (p.pt.rel q.pt) := spc_text _
          have HAD : Hid (aheadB p.pt q.pt = ((!decide (bs p.h = []) && decide (bs q.h = [])) || (decide (bs p.h = bs q.h) && isSpc (p.pt.rel q.pt)))) := rfl
          generalize isSpc (p.pt.rel q.pt) = sb at HAD e9
          generalize (p.pt.rel q.pt).text = tx at HCO e9
          generalize (byM (bs p.m) (bs q.m)).text = t1 at HCO HBM
          generalize (Kd.byPaths (kinds p.l) (kinds q.l)).text = t2 at HCO HBP
          obtain ⟨Z, zc, rfl, -, -⟩ := k4
          have HCC : Hid (∀ w', Below w6.heap.size w6 w' → w'.cell? ⟨wr.heap.size, 0, none⟩ = some (.string p.m) ∧ w'.cell? ⟨wr.heap.size, 1, none⟩ = some (.string p.h) ∧ w'.cell? ⟨wr.heap.size, 2, none⟩ = some (.slice Y p.l.length yc) ∧ w'.cell? ⟨b, o + b' * 3, none⟩ = some (.string q.m) ∧ w'.cell? ⟨b, o + b' * 3 + 1, none⟩ = some (.string q.h) ∧ w'.cell? ⟨b, o + b' * 3 + 2, none⟩ = some (.slice Z q.l.length zc)) := fun w' hb' => by
            obtain ⟨a1, a2, a3⟩ := HS1.out w' hb'
            have hbw : Below w.heap.size w w' := HU.out _ (HB16.out.trans (hb'.mono HB16.out.size))
            exact ⟨a1, a2, a3, (hbw.cell hbl).trans k1, (hbw.cell hbl).trans k2, (hbw.cell hbl).trans k3⟩
          have i0 : decide ((b' : Int) < 0) = false := decide_eq_false (by omega)
          have i1 : (0 : Int) ≤ (b' : Int) := by omega
          have i2 : (b' : Int) < (ps.length : Int) := by omega
          clear hbk hq k1 k2 k3 hbl2 hgq HS1
          have hd0 : Below w6.heap.size w6 w6.drew := below_drew3 (Below.refl _ _) 1
          go_cut [70] (fun c wx => c = .bool (aheadB p.pt q.pt) ∧ Below w6.heap.size w6 wx)
          case first =>
            by_cases hp0 : bs p.h = []
            · have e1 : p.h.toList.isEmpty = true := by rw [bs_toList]; simpa using hp0
              by_cases hpq : bs p.h = bs q.h
              · have hq0 : bs q.h = [] := hpq.symm.trans hp0
                have e3 : (p.h.toList == q.h.toList) = true := by rw [bs_toList, bs_toList]; simpa using hpq
                have HAH : Hid (aheadB p.pt q.pt = sb) := by show _ = _; rw [HAD.out, decide_eq_true hp0, decide_eq_true hpq]; simp
                clear hp0 hq0 hpq
                refine wp_region_held_drew (S := (fun w' => w'.cell? ⟨wr.heap.size, 0, none⟩ = some (.string p.m) ∧ w'.cell? ⟨wr.heap.size, 1, none⟩ = some (.string p.h) ∧ w'.cell? ⟨wr.heap.size, 2, none⟩ = some (.slice Y p.l.length yc) ∧ w'.cell? ⟨b, o + b' * 3, none⟩ = some (.string q.m) ∧ w'.cell? ⟨b, o + b' * 3 + 1, none⟩ = some (.string q.h) ∧ w'.cell? ⟨b, o + b' * 3 + 2, none⟩ = some (.slice Z q.l.length zc))) (by kernel_rfl) (HCC.out _ (by assumption)) (fun hHeld => ?_)
                refine' wpAnyH_take (i := 0) (oi := _) (v := _) ?hi0 (by kernel_rfl) (by kernel_rfl) (by kernel_rfl) ?hQ0 (Or.inl ⟨?hw0, ?hy0⟩) (by assumption) ?rest0
                case hi0 => simp only [List.getElem?_toArray, List.getElem?_cons_zero]; rfl
                case hQ0 => exact fun _ _ _ h => h
                case hw0 => rfl
                case hy0 => (intro w hSw; (try dsimp only at hSw); go_simp; try with_reducible rfl)
                simp only [Act.put, List.setIfInBounds_toArray, List.set_cons_zero, List.set_cons_succ]
                refine' wpAnyH_take (i := 1) (oi := _) (v := _) ?hi1 (by kernel_rfl) (by kernel_rfl) (by kernel_rfl) ?hQ1 (Or.inl ⟨?hw1, ?hy1⟩) (by assumption) ?rest1
                case hi1 => simp only [List.getElem?_toArray, List.getElem?_cons_succ, List.getElem?_cons_zero]; rfl
                case hQ1 => exact fun _ _ _ h => h
                case hw1 => rfl
                case hy1 => (intro w hSw; (try dsimp only at hSw); go_simp; try with_reducible rfl)
                simp only [Act.put, List.setIfInBounds_toArray, List.set_cons_zero, List.set_cons_succ]
                refine' wpAnyH_take (i := 2) (oi := _) (v := _) ?hi2 (by kernel_rfl) (by kernel_rfl) (by kernel_rfl) ?hQ2 (Or.inl ⟨?hw2, ?hy2⟩) (by assumption) ?rest2
                case hi2 => simp only [List.getElem?_toArray, List.getElem?_cons_succ, List.getElem?_cons_zero]; rfl
                case hQ2 => exact fun _ _ _ h => h
                case hw2 => rfl
                case hy2 => (intro w hSw; (try dsimp only at hSw); go_simp; try with_reducible rfl)
                simp only [Act.put, List.setIfInBounds_toArray, List.set_cons_zero, List.set_cons_succ]
                refine' wpAnyH_take (i := 3) (oi := _) (v := _) ?hi3 (by kernel_rfl) (by kernel_rfl) (by kernel_rfl) ?hQ3 (Or.inl ⟨?hw3, ?hy3⟩) (by assumption) ?rest3
                case hi3 => simp only [List.getElem?_toArray, List.getElem?_cons_succ, List.getElem?_cons_zero]; rfl
                case hQ3 => exact fun _ _ _ h => h
                case hw3 => rfl
                case hy3 => (intro w hSw; (try dsimp only at hSw); go_simp; try with_reducible rfl)
                simp only [Act.put, List.setIfInBounds_toArray, List.set_cons_zero, List.set_cons_succ]
                refine' wpAnyH_take (i := 4) (oi := _) (v := _) ?hi4 (by kernel_rfl) (by kernel_rfl) (by kernel_rfl) ?hQ4 (Or.inl ⟨?hw4, ?hy4⟩) (by assumption) ?rest4
                case hi4 => simp only [List.getElem?_toArray, List.getElem?_cons_succ, List.getElem?_cons_zero]; rfl
                case hQ4 => exact fun _ _ _ h => h
                case hw4 => rfl
                case hy4 => (intro w hSw; (try dsimp only at hSw); go_simp; try with_reducible rfl)
                simp only [Act.put, List.setIfInBounds_toArray, List.set_cons_zero, List.set_cons_succ]
                refine' wpAnyH_take (i := 5) (oi := _) (v := _) ?hi5 (by kernel_rfl) (by kernel_rfl) (by kernel_rfl) ?hQ5 (Or.inl ⟨?hw5, ?hy5⟩) (by assumption) ?rest5
                case hi5 => simp only [List.getElem?_toArray, List.getElem?_cons_succ, List.getElem?_cons_zero]; rfl
                case hQ5 => exact fun _ _ _ h => h
                case hw5 => rfl
                case hy5 => (intro w hSw; (try dsimp only at hSw); go_simp; try with_reducible rfl)
                simp only [Act.put, List.setIfInBounds_toArray, List.set_cons_zero, List.set_cons_succ]
                refine' wpAnyH_take (i := 6) (oi := _) (v := _) ?hi6 (by kernel_rfl) (by kernel_rfl) (by kernel_rfl) ?hQ6 (Or.inl ⟨?hw6, ?hy6⟩) (by assumption) ?rest6
                case hi6 => simp only [List.getElem?_toArray, List.getElem?_cons_succ, List.getElem?_cons_zero]; rfl
                case hQ6 => exact fun _ _ _ h => h
                case hw6 => rfl
                case hy6 => (intro w hSw; (try dsimp only at hSw); go_simp; try with_reducible rfl)
                simp only [Act.put, List.setIfInBounds_toArray, List.set_cons_zero, List.set_cons_succ]
                refine' wpAnyH_take (i := 7) (oi := _) (v := undef) ?hi7 (by kernel_rfl) (by kernel_rfl) (by kernel_rfl) ?hQ7 (Or.inr ⟨?hw7, rfl⟩) (by assumption) ?rest7
                case hi7 => simp only [List.getElem?_toArray, List.getElem?_cons_succ, List.getElem?_cons_zero]; rfl
                case hQ7 => exact fun _ _ _ h => h
                case hw7 => rfl
                simp only [Act.put, List.setIfInBounds_toArray, List.set_cons_zero, List.set_cons_succ]
                refine' wpAnyH_take (i := 8) (oi := _) (v := undef) ?hi8 (by kernel_rfl) (by kernel_rfl) (by kernel_rfl) ?hQ8 (Or.inr ⟨?hw8, rfl⟩) (by assumption) ?rest8
                case hi8 => simp only [List.getElem?_toArray, List.getElem?_cons_succ, List.getElem?_cons_zero]; rfl
                case hQ8 => exact fun _ _ _ h => h
                case hw8 => rfl
                simp only [Act.put, List.setIfInBounds_toArray, List.set_cons_zero, List.set_cons_succ]
                refine' wpAnyH_take (i := 9) (oi := _) (v := undef) ?hi9 (by kernel_rfl) (by kernel_rfl) (by kernel_rfl) ?hQ9 (Or.inr ⟨?hw9, rfl⟩) (by assumption) ?rest9
                case hi9 => simp only [List.getElem?_toArray, List.getElem?_cons_succ, List.getElem?_cons_zero]; rfl
                case hQ9 => exact fun _ _ _ h => h
                case hw9 => rfl
                simp only [Act.put, List.setIfInBounds_toArray, List.set_cons_zero, List.set_cons_succ]
                refine' wpAnyH_take (i := 10) (oi := _) (v := undef) ?hi10 (by kernel_rfl) (by kernel_rfl) (by kernel_rfl) ?hQ10 (Or.inr ⟨?hw10, rfl⟩) (by assumption) ?rest10
                case hi10 => simp only [List.getElem?_toArray, List.getElem?_cons_succ, List.getElem?_cons_zero]; rfl
                case hQ10 => exact fun _ _ _ h => h
                case hw10 => rfl
                simp only [Act.put, List.setIfInBounds_toArray, List.set_cons_zero, List.set_cons_succ]
                refine' wpAnyH_take (i := 11) (oi := _) (v := undef) ?hi11 (by kernel_rfl) (by kernel_rfl) (by kernel_rfl) ?hQ11 (Or.inr ⟨?hw11, rfl⟩) (by assumption) ?rest11
                case hi11 => simp only [List.getElem?_toArray, List.getElem?_cons_succ, List.getElem?_cons_zero]; rfl
                case hQ11 => exact fun _ _ _ h => h
                case hw11 => rfl
                simp only [Act.put, List.setIfInBounds_toArray, List.set_cons_zero, List.set_cons_succ]
                refine' wpAnyH_take (i := 12) (oi := _) (v := undef) ?hi12 (by kernel_rfl) (by kernel_rfl) (by kernel_rfl) ?hQ12 (Or.inr ⟨?hw12, rfl⟩) (by assumption) ?rest12
                case hi12 => simp only [List.getElem?_toArray, List.getElem?_cons_succ, List.getElem?_cons_zero]; rfl
                case hQ12 => exact fun _ _ _ h => h
                case hw12 => rfl
                simp only [Act.put, List.setIfInBounds_toArray, List.set_cons_zero, List.set_cons_succ]
                refine' wpAnyH_take (i := 13) (oi := _) (v := _) ?hi13 (by kernel_rfl) (by kernel_rfl) (by kernel_rfl) ?hQ13 (Or.inl ⟨?hw13, ?hy13⟩) (by assumption) ?rest13
                case hi13 => simp only [List.getElem?_toArray, List.getElem?_cons_succ, List.getElem?_cons_zero]; rfl
                case hQ13 => exact fun _ _ _ h => h
                case hw13 => rfl
                case hy13 => (intro w hSw; (try dsimp only at hSw); go_simp; try with_reducible rfl)
                simp only [Act.put, List.setIfInBounds_toArray, List.set_cons_zero, List.set_cons_succ]
                refine' wpAnyH_take (i := 14) (oi := _) (v := _) ?hi14 (by kernel_rfl) (by kernel_rfl) (by kernel_rfl) ?hQ14 (Or.inl ⟨?hw14, ?hy14⟩) (by assumption) ?rest14
                case hi14 => simp only [List.getElem?_toArray, List.getElem?_cons_succ, List.getElem?_cons_zero]; rfl
                case hQ14 => exact fun _ _ _ h => h
                case hw14 => rfl
                case hy14 => (intro w hSw; (try dsimp only at hSw); go_simp; try with_reducible rfl)
                simp only [Act.put, List.setIfInBounds_toArray, List.set_cons_zero, List.set_cons_succ]
                refine' wpAnyH_take (i := 15) (oi := _) (v := _) ?hi15 (by kernel_rfl) (by kernel_rfl) (by kernel_rfl) ?hQ15 (Or.inl ⟨?hw15, ?hy15⟩) (by assumption) ?rest15
                case hi15 => simp only [List.getElem?_toArray, List.getElem?_cons_succ, List.getElem?_cons_zero]; rfl
                case hQ15 => exact fun _ _ _ h => h
                case hw15 => rfl
                case hy15 => (intro w hSw; (try dsimp only at hSw); go_simp; try with_reducible rfl)
                simp only [Act.put, List.setIfInBounds_toArray, List.set_cons_zero, List.set_cons_succ]
                refine' wpAnyH_take (i := 16) (oi := _) (v := _) ?hi16 (by kernel_rfl) (by kernel_rfl) (by kernel_rfl) ?hQ16 (Or.inl ⟨?hw16, ?hy16⟩) (by assumption) ?rest16
                case hi16 => simp only [List.getElem?_toArray, List.getElem?_cons_succ, List.getElem?_cons_zero]; rfl
                case hQ16 => exact fun _ _ _ h => h
                case hw16 => rfl
                case hy16 => (intro w hSw; (try dsimp only at hSw); go_simp; try with_reducible rfl)
                simp only [Act.put, List.setIfInBounds_toArray, List.set_cons_zero, List.set_cons_succ]
                refine' wpAnyH_take (i := 17) (oi := _) (v := _) ?hi17 (by kernel_rfl) (by kernel_rfl) (by kernel_rfl) ?hQ17 (Or.inl ⟨?hw17, ?hy17⟩) (by assumption) ?rest17
                case hi17 => simp only [List.getElem?_toArray, List.getElem?_cons_succ, List.getElem?_cons_zero]; rfl
                case hQ17 => exact fun _ _ _ h => h
                case hw17 => rfl
                case hy17 => (intro w hSw; (try dsimp only at hSw); go_simp; try with_reducible rfl)
                simp only [Act.put, List.setIfInBounds_toArray, List.set_cons_zero, List.set_cons_succ]
                refine' wpAnyH_take (i := 18) (oi := _) (v := _) ?hi18 (by kernel_rfl) (by kernel_rfl) (by kernel_rfl) ?hQ18 (Or.inl ⟨?hw18, ?hy18⟩) (by assumption) ?rest18
                case hi18 => simp only [List.getElem?_toArray, List.getElem?_cons_succ, List.getElem?_cons_zero]; rfl
                case hQ18 => exact fun _ _ _ h => h
                case hw18 => rfl
                case hy18 => (intro w hSw; (try dsimp only at hSw); go_simp; try with_reducible rfl)
                simp only [Act.put, List.setIfInBounds_toArray, List.set_cons_zero, List.set_cons_succ]
                refine' wpAnyH_take (i := 19) (oi := _) (v := _) ?hi19 (by kernel_rfl) (by kernel_rfl) (by kernel_rfl) ?hQ19 (Or.inl ⟨?hw19, ?hy19⟩) (by assumption) ?rest19
                case hi19 => simp only [List.getElem?_toArray, List.getElem?_cons_succ, List.getElem?_cons_zero]; rfl
                case hQ19 => exact fun _ _ _ h => h
                case hw19 => rfl
                case hy19 => (intro w hSw; (try dsimp only at hSw); go_simp; try with_reducible rfl)
                simp only [Act.put, List.setIfInBounds_toArray, List.set_cons_zero, List.set_cons_succ]
                refine' wpAnyH_take (i := 20) (oi := _) (v := _) ?hi20 (by kernel_rfl) (by kernel_rfl) (by kernel_rfl) ?hQ20 (Or.inl ⟨?hw20, ?hy20⟩) (by assumption) ?rest20
                case hi20 => simp only [List.getElem?_toArray, List.getElem?_cons_succ, List.getElem?_cons_zero]; rfl
                case hQ20 => exact fun _ _ _ h => h
                case hw20 => rfl
                case hy20 => (intro w hSw; (try dsimp only at hSw); go_simp; try with_reducible rfl)
                simp only [Act.put, List.setIfInBounds_toArray, List.set_cons_zero, List.set_cons_succ]
                refine' wpAnyH_take (i := 21) (oi := _) (v := _) ?hi21 (by kernel_rfl) (by kernel_rfl) (by kernel_rfl) ?hQ21 (Or.inl ⟨?hw21, ?hy21⟩) (by assumption) ?rest21
                case hi21 => simp only [List.getElem?_toArray, List.getElem?_cons_succ, List.getElem?_cons_zero]; rfl
                case hQ21 => exact fun _ _ _ h => h
                case hw21 => rfl
                case hy21 => (intro w hSw; (try dsimp only at hSw); go_simp; try with_reducible rfl)
                simp only [Act.put, List.setIfInBounds_toArray, List.set_cons_zero, List.set_cons_succ]
                refine' wpAnyH_take (i := 22) (oi := _) (v := _) ?hi22 (by kernel_rfl) (by kernel_rfl) (by kernel_rfl) ?hQ22 (Or.inl ⟨?hw22, ?hy22⟩) (by assumption) ?rest22
                case hi22 => simp only [List.getElem?_toArray, List.getElem?_cons_succ, List.getElem?_cons_zero]; rfl
                case hQ22 => exact fun _ _ _ h => h
                case hw22 => rfl
                case hy22 => (intro w hSw; (try dsimp only at hSw); go_simp; try with_reducible rfl)
                simp only [Act.put, List.setIfInBounds_toArray, List.set_cons_zero, List.set_cons_succ]
                refine' wpAnyH_take (i := 23) (oi := _) (v := _) ?hi23 (by kernel_rfl) (by kernel_rfl) (by kernel_rfl) ?hQ23 (Or.inl ⟨?hw23, ?hy23⟩) (by assumption) ?rest23
                case hi23 => simp only [List.getElem?_toArray, List.getElem?_cons_succ, List.getElem?_cons_zero]; rfl
                case hQ23 => exact fun _ _ _ h => h
                case hw23 => rfl
                case hy23 => (intro w hSw; (try dsimp only at hSw); go_simp; try with_reducible rfl)
                simp only [Act.put, List.setIfInBounds_toArray, List.set_cons_zero, List.set_cons_succ]
                refine' wpAnyH_take (i := 24) (oi := _) (v := _) ?hi24 (by kernel_rfl) (by kernel_rfl) (by kernel_rfl) ?hQ24 (Or.inl ⟨?hw24, ?hy24⟩) (by assumption) ?rest24
                case hi24 => simp only [List.getElem?_toArray, List.getElem?_cons_succ, List.getElem?_cons_zero]; rfl
                case hQ24 => exact fun _ _ _ h => h
                case hw24 => rfl
                case hy24 => (intro w hSw; (try dsimp only at hSw); go_simp; try with_reducible rfl)
                simp only [Act.put, List.setIfInBounds_toArray, List.set_cons_zero, List.set_cons_succ]
                refine' wpAnyH_take (i := 25) (oi := _) (v := _) ?hi25 (by kernel_rfl) (by kernel_rfl) (by kernel_rfl) ?hQ25 (Or.inl ⟨?hw25, ?hy25⟩) (by assumption) ?rest25
                case hi25 => simp only [List.getElem?_toArray, List.getElem?_cons_succ, List.getElem?_cons_zero]; rfl
                case hQ25 => exact fun _ _ _ h => h
                case hw25 => rfl
                case hy25 => (intro w hSw; (try dsimp only at hSw); go_simp; try with_reducible rfl)
                simp only [Act.put, List.setIfInBounds_toArray, List.set_cons_zero, List.set_cons_succ]
                refine' wpAnyH_take (i := 26) (oi := _) (v := _) ?hi26 (by kernel_rfl) (by kernel_rfl) (by kernel_rfl) ?hQ26 (Or.inl ⟨?hw26, ?hy26⟩) (by assumption) ?rest26
                case hi26 => simp only [List.getElem?_toArray, List.getElem?_cons_succ, List.getElem?_cons_zero]; rfl
                case hQ26 => exact fun _ _ _ h => h
                case hw26 => rfl
                case hy26 => (intro w hSw; (try dsimp only at hSw); go_simp; try with_reducible rfl)
                simp only [Act.put, List.setIfInBounds_toArray, List.set_cons_zero, List.set_cons_succ]
                refine' wpAnyH_take (i := 27) (oi := _) (v := _) ?hi27 (by kernel_rfl) (by kernel_rfl) (by kernel_rfl) ?hQ27 (Or.inl ⟨?hw27, ?hy27⟩) (by assumption) ?rest27
                case hi27 => simp only [List.getElem?_toArray, List.getElem?_cons_succ, List.getElem?_cons_zero]; rfl
                case hQ27 => exact fun _ _ _ h => h
                case hw27 => rfl
                case hy27 => (intro w hSw; (try dsimp only at hSw); go_simp; try with_reducible rfl)
                simp only [Act.put, List.setIfInBounds_toArray, List.set_cons_zero, List.set_cons_succ]
                refine' wpAnyH_take (i := 28) (oi := _) (v := _) ?hi28 (by kernel_rfl) (by kernel_rfl) (by kernel_rfl) ?hQ28 (Or.inl ⟨?hw28, ?hy28⟩) (by assumption) ?rest28
                case hi28 => simp only [List.getElem?_toArray, List.getElem?_cons_succ, List.getElem?_cons_zero]; rfl
                case hQ28 => exact fun _ _ _ h => h
                case hw28 => rfl
                case hy28 => (intro w hSw; (try dsimp only at hSw); go_simp; try with_reducible rfl)
                simp only [Act.put, List.setIfInBounds_toArray, List.set_cons_zero, List.set_cons_succ]
                refine' wpAnyH_take (i := 29) (oi := _) (v := _) ?hi29 (by kernel_rfl) (by kernel_rfl) (by kernel_rfl) ?hQ29 (Or.inl ⟨?hw29, ?hy29⟩) (by assumption) ?rest29
                case hi29 => simp only [List.getElem?_toArray, List.getElem?_cons_succ, List.getElem?_cons_zero]; rfl
                case hQ29 => exact fun _ _ _ h => h
                case hw29 => rfl
                case hy29 => (intro w hSw; (try dsimp only at hSw); go_simp; try with_reducible rfl)
                simp only [Act.put, List.setIfInBounds_toArray, List.set_cons_zero, List.set_cons_succ]
                refine' wpAnyH_take (i := 30) (oi := _) (v := _) ?hi30 (by kernel_rfl) (by kernel_rfl) (by kernel_rfl) ?hQ30 (Or.inl ⟨?hw30, ?hy30⟩) (by assumption) ?rest30
                case hi30 => simp only [List.getElem?_toArray, List.getElem?_cons_succ, List.getElem?_cons_zero]; rfl
                case hQ30 => exact fun _ _ _ h => h
                case hw30 => rfl
                case hy30 => (intro w hSw; (try dsimp only at hSw); go_simp; try with_reducible rfl)
                simp only [Act.put, List.setIfInBounds_toArray, List.set_cons_zero, List.set_cons_succ]
                refine' wpAnyH_take (i := 31) (oi := _) (v := _) ?hi31 (by kernel_rfl) (by kernel_rfl) (by kernel_rfl) ?hQ31 (Or.inl ⟨?hw31, ?hy31⟩) (by assumption) ?rest31
                case hi31 => simp only [List.getElem?_toArray, List.getElem?_cons_succ, List.getElem?_cons_zero]; rfl
                case hQ31 => exact fun _ _ _ h => h
                case hw31 => rfl
                case hy31 => (intro w hSw; (try dsimp only at hSw); go_simp; try with_reducible rfl)
                simp only [Act.put, List.setIfInBounds_toArray, List.set_cons_zero, List.set_cons_succ]
                refine' wpAnyH_take (i := 33) (oi := _) (v := _) ?hi33 (by kernel_rfl) (by kernel_rfl) (by kernel_rfl) ?hQ33 (Or.inl ⟨?hw33, ?hy33⟩) (by assumption) ?rest33
                case hi33 => simp only [List.getElem?_toArray, List.getElem?_cons_succ, List.getElem?_cons_zero]; rfl
                case hQ33 => exact fun _ _ _ h => h
                case hw33 => rfl
                case hy33 => (intro w hSw; (try dsimp only at hSw); go_simp; try with_reducible rfl)
                simp only [Act.put, List.setIfInBounds_toArray, List.set_cons_zero, List.set_cons_succ]
                refine' wpAnyH_take (i := 34) (oi := _) (v := _) ?hi34 (by kernel_rfl) (by kernel_rfl) (by kernel_rfl) ?hQ34 (Or.inl ⟨?hw34, ?hy34⟩) (by assumption) ?rest34
                case hi34 => simp only [List.getElem?_toArray, List.getElem?_cons_succ, List.getElem?_cons_zero]; rfl
                case hQ34 => exact fun _ _ _ h => h
                case hw34 => rfl
                case hy34 => (intro w hSw; (try dsimp only at hSw); go_simp; try with_reducible rfl)
                simp only [Act.put, List.setIfInBounds_toArray, List.set_cons_zero, List.set_cons_succ]
                refine' wpAnyH_take (i := 35) (oi := _) (v := _) ?hi35 (by kernel_rfl) (by kernel_rfl) (by kernel_rfl) ?hQ35 (Or.inl ⟨?hw35, ?hy35⟩) (by assumption) ?rest35
                case hi35 => simp only [List.getElem?_toArray, List.getElem?_cons_succ, List.getElem?_cons_zero]; rfl
                case hQ35 => exact fun _ _ _ h => h
                case hw35 => rfl
                case hy35 => (intro w hSw; (try dsimp only at hSw); go_simp; try with_reducible rfl)
                simp only [Act.put, List.setIfInBounds_toArray, List.set_cons_zero, List.set_cons_succ]
                refine' wpAnyH_take (i := 36) (oi := _) (v := _) ?hi36 (by kernel_rfl) (by kernel_rfl) (by kernel_rfl) ?hQ36 (Or.inl ⟨?hw36, ?hy36⟩) (by assumption) ?rest36
                case hi36 => simp only [List.getElem?_toArray, List.getElem?_cons_succ, List.getElem?_cons_zero]; rfl
                case hQ36 => exact fun _ _ _ h => h
                case hw36 => rfl
                case hy36 => (intro w hSw; (try dsimp only at hSw); go_simp; try with_reducible rfl)
                simp only [Act.put, List.setIfInBounds_toArray, List.set_cons_zero, List.set_cons_succ]
                refine' wpAnyH_take (i := 37) (oi := _) (v := _) ?hi37 (by kernel_rfl) (by kernel_rfl) (by kernel_rfl) ?hQ37 (Or.inl ⟨?hw37, ?hy37⟩) (by assumption) ?rest37
                case hi37 => simp only [List.getElem?_toArray, List.getElem?_cons_succ, List.getElem?_cons_zero]; rfl
                case hQ37 => exact fun _ _ _ h => h
                case hw37 => rfl
                case hy37 => (intro w hSw; (try dsimp only at hSw); go_simp; try with_reducible rfl)
                simp only [Act.put, List.setIfInBounds_toArray, List.set_cons_zero, List.set_cons_succ]
                refine wpAnyH_ready (rs := [32]) (by kernel_rfl) (by simp) ?_
                refine' AllReadyH.cons (o := _) ?hi32 (fun K hK => ?step32) AllReadyH.nil
                case hi32 => simp only [List.getElem?_toArray, List.getElem?_cons_succ, List.getElem?_cons_zero]; rfl
                go_simp
                (go_at_call 37; (with_reducible refine (HBM.out _).mono ?_); rintro e wm ⟨rfl, rfl⟩)
                refine hK.out _ _ ?_ (fun hHeld => ?_)
                · exact HCC.out _ (by assumption)
                clear hK K
                (try simp only [Act.put, List.setIfInBounds_toArray, List.set_cons_zero, List.set_cons_succ])
                refine wpAnyH_ready (rs := [38]) (by kernel_rfl) (by simp) ?_
                refine' AllReadyH.cons (o := _) ?hi38 (fun K hK => ?step38) AllReadyH.nil
                case hi38 => simp only [List.getElem?_toArray, List.getElem?_cons_succ, List.getElem?_cons_zero]; rfl
                go_simp
                (go_at_call 38; (with_reducible refine (HBP.out _ (by assumption)).mono ?_); rintro e wx ⟨rfl, hbx⟩)
                refine hK.out _ _ ?_ (fun hHeld => ?_)
                · exact HCC.out _ (by assumption)
                clear hK K
                (try simp only [Act.put, List.setIfInBounds_toArray, List.set_cons_zero, List.set_cons_succ])
                refine wpAnyH_ready (rs := [39]) (by kernel_rfl) (by simp) ?_
                refine' AllReadyH.cons (o := _) ?hi39 (fun K hK => ?step39) AllReadyH.nil
                case hi39 => simp only [List.getElem?_toArray, List.getElem?_cons_succ, List.getElem?_cons_zero]; rfl
                go_simp
                (go_at_call 36; (with_reducible refine (HCO.out _).mono ?_); rintro e wn ⟨rfl, rfl⟩)
                refine hK.out _ _ ?_ (fun hHeld => ?_)
                · exact HCC.out _ (by assumption)
                clear hK K
                (try simp only [Act.put, List.setIfInBounds_toArray, List.set_cons_zero, List.set_cons_succ])
                refine' wpAnyH_take (i := 40) (oi := _) (v := _) ?hi40 (by kernel_rfl) (by kernel_rfl) (by kernel_rfl) ?hQ40 (Or.inl ⟨?hw40, ?hy40⟩) (by assumption) ?rest40
                case hi40 => simp only [List.getElem?_toArray, List.getElem?_cons_succ, List.getElem?_cons_zero]; rfl
                case hQ40 => exact fun _ _ _ h => h
                case hw40 => rfl
                case hy40 => (intro w hSw; (try dsimp only at hSw); go_simp; try with_reducible rfl)
                simp only [Act.put, List.setIfInBounds_toArray, List.set_cons_zero, List.set_cons_succ]
                refine' wpAnyH_take (i := 41) (oi := _) (v := _) ?hi41 (by kernel_rfl) (by kernel_rfl) (by kernel_rfl) ?hQ41 (Or.inl ⟨?hw41, ?hy41⟩) (by assumption) ?rest41
                case hi41 => simp only [List.getElem?_toArray, List.getElem?_cons_succ, List.getElem?_cons_zero]; rfl
                case hQ41 => exact fun _ _ _ h => h
                case hw41 => rfl
                case hy41 => (intro w hSw; (try dsimp only at hSw); go_simp; try with_reducible rfl)
                simp only [Act.put, List.setIfInBounds_toArray, List.set_cons_zero, List.set_cons_succ]
                refine' wpAnyH_take (i := 42) (oi := _) (v := _) ?hi42 (by kernel_rfl) (by kernel_rfl) (by kernel_rfl) ?hQ42 (Or.inl ⟨?hw42, ?hy42⟩) (by assumption) ?rest42
                case hi42 => simp only [List.getElem?_toArray, List.getElem?_cons_succ, List.getElem?_cons_zero]; rfl
                case hQ42 => exact fun _ _ _ h => h
                case hw42 => rfl
                case hy42 => (intro w hSw; (try dsimp only at hSw); go_simp; try with_reducible rfl)
                simp only [Act.put, List.setIfInBounds_toArray, List.set_cons_zero, List.set_cons_succ]
                refine wpAnyH_done (by kernel_rfl) ?_ _
                all_goals
                  (go_wp2_with fail
                   go_meet
                   exact ⟨congrArg Value.bool HAH.out.symm, by assumption⟩)
              · have e3 : (p.h.toList == q.h.toList) = false := by rw [bs_toList, bs_toList]; simpa using hpq
                have HAH : Hid (aheadB p.pt q.pt = false) := by show _ = _; rw [HAD.out, decide_eq_true hp0, decide_eq_false hpq]; simp
                clear hp0 hpq
                obtain ⟨c0, c1, c2, c3, c4, c5⟩ := HCC.out _ (Below.refl _ _)
                go_quiet (fail)
                go_wp2_with fail
                go_meet
                exact ⟨congrArg Value.bool HAH.out.symm, below_drew3 (Below.refl _ _) _⟩
            · have e1 : p.h.toList.isEmpty = false := by rw [bs_toList]; simpa using hp0
              by_cases hq0 : bs q.h = []
              · have e2 : q.h.toList.isEmpty = true := by rw [bs_toList]; simpa using hq0
                have HAH : Hid (aheadB p.pt q.pt = true) := by show _ = _; rw [HAD.out, decide_eq_false hp0, decide_eq_true hq0]; simp
                clear hp0 hq0
                obtain ⟨c0, c1, c2, c3, c4, c5⟩ := HCC.out _ (Below.refl _ _)
                go_quiet (fail)
                go_wp2_with fail
                go_meet
                exact ⟨congrArg Value.bool HAH.out.symm, below_drew3 (Below.refl _ _) _⟩
              · have e2 : q.h.toList.isEmpty = false := by rw [bs_toList]; simpa using hq0
                by_cases hpq : bs p.h = bs q.h
                · have e3 : (p.h.toList == q.h.toList) = true := by rw [bs_toList, bs_toList]; simpa using hpq
                  have HAH : Hid (aheadB p.pt q.pt = sb) := by show _ = _; rw [HAD.out, decide_eq_false hq0, decide_eq_true hpq]; simp
                  clear hp0 hq0 hpq
                  (first
                  | (go_region_held3 (fun w' => w'.cell? ⟨wr.heap.size, 0, none⟩ = some (.string p.m) ∧ w'.cell? ⟨wr.heap.size, 1, none⟩ = some (.string p.h) ∧ w'.cell? ⟨wr.heap.size, 2, none⟩ = some (.slice Y p.l.length yc) ∧ w'.cell? ⟨b, o + b' * 3, none⟩ = some (.string q.m) ∧ w'.cell? ⟨b, o + b' * 3 + 1, none⟩ = some (.string q.h) ∧ w'.cell? ⟨b, o + b' * 3 + 2, none⟩ = some (.slice Z q.l.length zc))
                  (first | exact HCC.out _ (by assumption))
                  (first
                    | (go_at_call 38; (with_reducible refine (HBP.out _ (by assumption)).mono ?_); rintro e wx ⟨rfl, hbx⟩)
                    | (go_at_call 37; (with_reducible refine (HBM.out _).mono ?_); rintro e wm ⟨rfl, rfl⟩)
                    | (go_at_call 36; (with_reducible refine (HCO.out _).mono ?_); rintro e wn ⟨rfl, rfl⟩)))
                  | fail)
                  all_goals
                    (go_wp2_with fail
                     go_meet
                     exact ⟨congrArg Value.bool HAH.out.symm, by assumption⟩)
                · have e3 : (p.h.toList == q.h.toList) = false := by rw [bs_toList, bs_toList]; simpa using hpq
                  have HAH : Hid (aheadB p.pt q.pt = false) := by show _ = _; rw [HAD.out, decide_eq_false hq0, decide_eq_false hpq]; simp
                  clear hp0 hq0 hpq
                  obtain ⟨c0, c1, c2, c3, c4, c5⟩ := HCC.out _ (Below.refl _ _)
                  go_quiet (fail)
                  go_wp2_with fail
                  go_meet
                  exact ⟨congrArg Value.bool HAH.out.symm, below_drew3 (Below.refl _ _) _⟩
          case rest =>
            obtain ⟨rfl, hbc⟩ := hcut
            obtain ⟨wz, rfl⟩ : ∃ wz : World, wz = wc := ⟨_, rfl⟩
            have HBC : Hid (Below W0.heap.size W0 wz) := HB16.out.trans (hbc.mono HB16.out.size)
            clear hbc hd0 e9
            generalize aheadB p.pt q.pt = ah at HN2
            cases ah
            · have HN3 : Hid (bl (k + 1) = some b') := by show _ = _; rw [HN2.out]; rfl
              go_wp2_with fail
              go_roundw
              case rel => exact ⟨k + 1, by omega, by go_num, by rw [HN3.out]; rfl, HBC.out⟩
              case measure => simp [intOf]; omega
            · have HN3 : Hid (bl (k + 1) = some k) := by show _ = _; rw [HN2.out]; rfl
              go_wp2_with fail
              go_roundw
              case rel => exact ⟨k + 1, by omega, by go_num, by rw [HN3.out]; rfl, HBC.out⟩
              case measure => simp [intOf]; omega
    · have hke : k = ps.length := by omega
      subst hke
      go_wp2_with fail
      go_ret
      exact ⟨rfl, HU.out _ hb⟩
end Go.Proofs.YtgkhfcoieknjeaaDoor
