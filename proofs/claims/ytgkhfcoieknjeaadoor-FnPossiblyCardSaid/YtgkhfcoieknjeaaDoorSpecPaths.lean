/-
  Proved: spec.ByPaths and spec.Conflict answer as Kd.byPaths and confB. Condition: the patterns can be read, and have pieces, at most 2^31 - 1 each.
  Proved: spec.Conflict answers as confB. Condition: the patterns can be read and are good.
-/
import Derived.Test.YtgkhfcoieknjeaaDoorPair
import Derived.Test.YtgkhfcoieknjeaaDoorCmpSpec
import Derived.Deep.CutBlock
import Derived.Deep.DeepCutAuto
import Derived.Deep.RegionHeld3
import Derived.StillTailTactics
import Derived.Test.YtgkhfcoieknjeaaDoorShelf
import Derived.Test.YtgkhfcoieknjeaaDoorGoodKind
namespace Go.Proofs.YtgkhfcoieknjeaaDoor
open Go.RowKit

/-- What holds at the head of each round. -/
def SpR (l1 l2 : List Seg) (N : Nat) (W0 : World) (v5 v16 : Value) (wr : World) : Prop :=
  ∃ (k : Nat) (r : Rel), k ≤ N ∧ v16 = .int .i64 k ∧ v5 = .string r.text ∧ Hid (Kd.fold2 (kinds l1) (kinds l2) = r.comb (Kd.fold2 ((kinds l1).drop k) ((kinds l2).drop k))) ∧ Below W0.heap.size W0 wr

set_option maxRecDepth 100000 in
set_option maxHeartbeats 3200000 in
theorem spec_byPaths (m1 m2 h1 h2 : ByteArray) (v1 v2 : Value) (l1 l2 : List Seg) (w : World) (H1 : SegsAt w v1 l1) (H2 : SegsAt w v2 l2) (n1 : l1 ≠ []) (n2 : l2 ≠ []) (z1 : l1.length ≤ 2147483647) (z2 : l2.length ≤ 2147483647) :
    Calls Tryd.prog 38 #[.agg #[.string m1, .string h1, v1], .agg #[.string m2, .string h2, v2]] w fun e w' => e = .returned (.string (Kd.byPaths (kinds l1) (kinds l2)).text) ∧ Below w.heap.size w w' := by
  obtain ⟨g1, hg1⟩ : ∃ g, l1.getLast? = some g := by cases h : l1.getLast? with | some g => exact ⟨g, rfl⟩ | none => exact absurd (List.getLast?_eq_none_iff.1 h) n1
  obtain ⟨g2, hg2⟩ : ∃ g, l2.getLast? = some g := by cases h : l2.getLast? with | some g => exact ⟨g, rfl⟩ | none => exact absurd (List.getLast?_eq_none_iff.1 h) n2
  have hla := lastRest_kinds l1 g1 hg1
  have hlb := lastRest_kinds l2 g2 hg2
  rw [List.getLast?_eq_getElem?] at hg1 hg2
  obtain ⟨gs1, gw1, gm1⟩ := g1
  obtain ⟨gs2, gw2, gm2⟩ := g2
  have HLA : Hid (Kd.lastRest (kinds l1) = gm1) := hla
  have HLB : Hid (Kd.lastRest (kinds l2) = gm2) := hlb
  obtain ⟨A1, c1, rfl, _, hf1⟩ := H1
  obtain ⟨A2, c2, rfl, _, hf2⟩ := H2
  have n1' : 0 < l1.length := List.length_pos_iff.2 n1
  have n2' : 0 < l2.length := List.length_pos_iff.2 n2
  have HF1 := Lib.hid hf1
  have HF2 := Lib.hid hf2
  have HG1 := Lib.hid hg1
  have HG2 := Lib.hid hg2
  clear hla hlb hf1 hf2 hg1 hg2 n1 n2
  go_enter Tryd.func38, Tryd.ntmps38
  go_upto_region 1 with fail
  have hb1 := new0 w (.cells #[.string m1, .string h1, .slice A1 l1.length c1] 45)
  have hb2 := new1 w (.cells #[.string m1, .string h1, .slice A1 l1.length c1] 45) (.cells #[.string m2, .string h2, .slice A2 l2.length c2] 45)
  have hb1' := blk_alloc hb1 (.cells #[.string m2, .string h2, .slice A2 l2.length c2] 45)
  have HBW : Hid (Below w.heap.size w ((w.alloc (.cells #[.string m1, .string h1, .slice A1 l1.length c1] 45)).alloc (.cells #[.string m2, .string h2, .slice A2 l2.length c2] 45))) := ((Below.refl _ _).alloc (Nat.le_refl _) _).alloc (by simp) _
  obtain ⟨W0, hW0⟩ : ∃ W0, W0 = (w.alloc (.cells #[.string m1, .string h1, .slice A1 l1.length c1] 45)).alloc (.cells #[.string m2, .string h2, .slice A2 l2.length c2] 45) := ⟨_, rfl⟩
  rw [← hW0] at hb1' hb2 HBW ⊢
  have HS : Hid (∀ w' : World, Below W0.heap.size W0 w' → w'.cell? ⟨w.heap.size, 2, none⟩ = some (.slice A1 l1.length c1) ∧ w'.cell? ⟨w.heap.size + 1, 2, none⟩ = some (.slice A2 l2.length c2)) := fun w' hb =>
    ⟨blk_cell (blk_below hb1' hb) 2, blk_cell (blk_below hb2 hb) 2⟩
  have HU : Hid (∀ w', Below W0.heap.size W0 w' → Below w.heap.size w w') := fun w' hb => HBW.out.trans (hb.mono HBW.out.size)
  have s1 : W0.cell? ⟨w.heap.size, 2, none⟩ = some (.slice A1 l1.length c1) := blk_cell hb1' 2
  have s2 : W0.cell? ⟨w.heap.size + 1, 2, none⟩ = some (.slice A2 l2.length c2) := blk_cell hb2 2
  clear hW0 hb1 hb1' hb2
  obtain ⟨M, hN, hM1, hM2, hM3⟩ : ∃ M : Nat, min (l1.length : Int) (l2.length : Int) = (M : Int) + 1 ∧ M + 1 ≤ l1.length ∧ M + 1 ≤ l2.length ∧ (M + 1 = l1.length ∨ M + 1 = l2.length) := by
    rcases Nat.le_total l1.length l2.length with h | h
    · exact ⟨l1.length - 1, by omega, by omega, by omega, .inl (by omega)⟩
    · exact ⟨l2.length - 1, by omega, by omega, by omega, .inr (by omega)⟩
  go_wp2_with fail
  clear hN
  go_loopw [5, 16] (fun v5 v16 wr => SpR l1 l2 (M + 1) W0 v5 v16 wr) (fun _ v16 _ => M + 1 - (intOf v16).toNat)
  case atStart => exact ⟨0, .eqv, by omega, rfl, rfl, by show _ = _; rw [Kd.eqv_comb]; rfl, Below.refl _ _⟩
  case round =>
    obtain ⟨k, r, hk, rfl, rfl, HFO, hbr⟩ := hrel
    have HBR := Lib.hid hbr
    obtain ⟨t1, t2⟩ := HS.out wr hbr
    clear hbr s1 s2
    by_cases hlt : k < M + 1
    · have e1 : decide ((k : Int) < (M : Int) + 1) = true := decide_eq_true (by omega)
      obtain ⟨⟨s1, v1, u1⟩, hg1⟩ : ∃ g, l1[k]? = some g := ⟨_, List.getElem?_eq_getElem (by omega)⟩
      obtain ⟨⟨s2, v2, u2⟩, hg2⟩ : ∃ g, l2[k]? = some g := ⟨_, List.getElem?_eq_getElem (by omega)⟩
      obtain ⟨b1, o1, rfl, hbl, d0, d1, d2⟩ := HF1.out k _ hg1
      obtain ⟨b2, o2, rfl, hbl', f0, f1, f2⟩ := HF2.out k _ hg2
      obtain ⟨y, hy⟩ : ∃ y, y = Kd.by2 (kindOf ⟨s1, v1, u1⟩) (kindOf ⟨s2, v2, u2⟩) := ⟨_, rfl⟩
      have HCS : Hid (∀ W, Below W0.heap.size W0 W → Calls Tryd.prog 46 #[.agg #[.string ⟨s1.toArray⟩, .bool v1, .bool u1], .agg #[.string ⟨s2.toArray⟩, .bool v2, .bool u2]] W fun e w' => e = .returned (.string y.text) ∧ Below W0.heap.size W0 w') := by
        intro W hb
        rw [hy]
        exact (spec_bySegments ⟨s1, v1, u1⟩ ⟨s2, v2, u2⟩ W).mono fun e w' ⟨a, b⟩ => ⟨a, hb.trans (b.mono hb.size)⟩
      have HF2' : Hid (Kd.fold2 (kinds l1) (kinds l2) = (r.comb y).comb (Kd.fold2 ((kinds l1).drop (k + 1)) ((kinds l2).drop (k + 1)))) := by
        show _ = _
        rw [HFO.out, show (kinds l1).drop k = _ from drop_map_step l1 k _ hg1, show (kinds l2).drop k = _ from drop_map_step l2 k _ hg2, Rel.comb_assoc, hy]
        rfl
      have HS8 : Hid (∀ w' : World, Below W0.heap.size W0 w' → w'.cell? ⟨w.heap.size, 2, none⟩ = some (.slice (some ⟨b1, o1, none⟩) l1.length c1) ∧ w'.cell? ⟨w.heap.size + 1, 2, none⟩ = some (.slice (some ⟨b2, o2, none⟩) l2.length c2) ∧ w'.cell? ⟨b1, o1 + k * 3, none⟩ = some (.string ⟨s1.toArray⟩) ∧ w'.cell? ⟨b1, o1 + k * 3 + 1, none⟩ = some (.bool v1) ∧ w'.cell? ⟨b1, o1 + k * 3 + 2, none⟩ = some (.bool u1) ∧ w'.cell? ⟨b2, o2 + k * 3, none⟩ = some (.string ⟨s2.toArray⟩) ∧ w'.cell? ⟨b2, o2 + k * 3 + 1, none⟩ = some (.bool v2) ∧ w'.cell? ⟨b2, o2 + k * 3 + 2, none⟩ = some (.bool u2)) := fun w' hb =>
        ⟨(HS.out w' hb).1, (HS.out w' hb).2, ((HU.out w' hb).cell hbl).trans d0, ((HU.out w' hb).cell hbl).trans d1, ((HU.out w' hb).cell hbl).trans d2, ((HU.out w' hb).cell hbl').trans f0, ((HU.out w' hb).cell hbl').trans f1, ((HU.out w' hb).cell hbl').trans f2⟩
      have i0 : (0 : Int) ≤ (k : Int) := by omega
      have i1 : (k : Int) < (l1.length : Int) := by omega
      have i2 : (k : Int) < (l2.length : Int) := by omega
      have hdr : Below W0.heap.size W0 wr.drew := HBR.out.trans (below_drew3 (Below.refl _ _) 1)
      clear d0 d1 d2 f0 f1 f2 hy hg1 hg2 HFO t1 t2
      go_upto_region 6 with fail
      go_region_held3 (fun w' => w'.cell? ⟨w.heap.size, 2, none⟩ = some (.slice (some ⟨b1, o1, none⟩) l1.length c1) ∧ w'.cell? ⟨w.heap.size + 1, 2, none⟩ = some (.slice (some ⟨b2, o2, none⟩) l2.length c2) ∧ w'.cell? ⟨b1, o1 + k * 3, none⟩ = some (.string ⟨s1.toArray⟩) ∧ w'.cell? ⟨b1, o1 + k * 3 + 1, none⟩ = some (.bool v1) ∧ w'.cell? ⟨b1, o1 + k * 3 + 2, none⟩ = some (.bool u1) ∧ w'.cell? ⟨b2, o2 + k * 3, none⟩ = some (.string ⟨s2.toArray⟩) ∧ w'.cell? ⟨b2, o2 + k * 3 + 1, none⟩ = some (.bool v2) ∧ w'.cell? ⟨b2, o2 + k * 3 + 2, none⟩ = some (.bool u2))
        (exact HS8.out _ (by assumption))
        (first
          | (go_at_call 46; (with_reducible refine (HCS.out _ ?_).mono ?_); assumption; rintro e wx ⟨rfl, hbx⟩)
          | (go_at_call 36; (with_reducible refine (spec_combine r y _).mono ?_); rintro e w8 ⟨rfl, rfl⟩))
      have HBX := Lib.hid hbx
      clear hbx hdr
      go_wp2_with fail
      go_roundw
      case rel => exact ⟨k + 1, _, by omega, by go_num, rfl, HF2', HBX.out⟩
      case measure => simp [intOf]; omega
    · have e1 : decide ((k : Int) < (M : Int) + 1) = false := decide_eq_false (by omega)
      obtain rfl : k = M + 1 := by omega
      have HFR : Hid (Kd.fold2 (kinds l1) (kinds l2) = r) := by
        show _ = _
        rw [HFO.out]
        rcases hM3 with h | h
        · rw [List.drop_of_length_le (i := M + 1) (l := kinds l1) (by unfold kinds; rw [List.length_map]; omega), Kd.fold2_nil_left, Kd.comb_eqv]
        · rw [List.drop_of_length_le (i := M + 1) (l := kinds l2) (by unfold kinds; rw [List.length_map]; omega), Kd.fold2_nil_right, Kd.comb_eqv]
      have hkl1 : (kinds l1).length = l1.length := List.length_map ..
      have hkl2 : (kinds l2).length = l2.length := List.length_map ..
      rcases Nat.lt_trichotomy l1.length l2.length with h | h | h
      · have HR : Hid (Kd.byPaths (kinds l1) (kinds l2) = if gm1 then r.comb .gen else .dis) := by
          show _ = _
          unfold Kd.byPaths
          rw [hkl1, hkl2, if_neg (by omega), if_pos h, HFR.out, HLA.out]
        have hM : M + 1 = l1.length := by omega
        have hgm := HG1.out
        rw [← hM, Nat.add_sub_cancel] at hgm
        obtain ⟨b1, o1, rfl, hbl, _, _, d2⟩ := HF1.out M _ hgm
        have x2 : wr.cell? ⟨b1, o1 + M * 3 + 2, none⟩ = some (.bool gm1) := ((HU.out wr HBR.out).cell hbl).trans d2
        have e3 : ((l1.length : Int) == (l2.length : Int)) = false := by rw [beq_eq_false_iff_ne]; omega
        have e4 : ((l1.length : Int) == (M : Int) + 1) = true := by rw [beq_iff_eq]; omega
        have e5 : ((l2.length : Int) == (M : Int) + 1) = false := by rw [beq_eq_false_iff_ne]; omega
        have i1 : (M : Int) < (l1.length : Int) := by omega
        clear hkl1 hkl2 h hM hgm d2 HFO
        cases gm1
        · go_wp2_with fail
          go_ret
          exact ⟨congrArg (fun x => Ending.returned (Value.string (Rel.text x))) HR.out.symm, HU.out _ HBR.out⟩
        · go_wp2_with (go_at_call 36; refine (spec_combine r .gen _).mono ?_; rintro e w8 ⟨rfl, rfl⟩)
          go_ret
          exact ⟨congrArg (fun x => Ending.returned (Value.string (Rel.text x))) HR.out.symm, HU.out _ HBR.out⟩
      · have HR : Hid (Kd.byPaths (kinds l1) (kinds l2) = r) := by
          show _ = _
          unfold Kd.byPaths
          rw [hkl1, hkl2, if_pos h, HFR.out]
        have e3 : ((l1.length : Int) == (l2.length : Int)) = true := by rw [beq_iff_eq]; omega
        clear hkl1 hkl2 h HFO
        go_wp2_with fail
        go_ret
        exact ⟨congrArg (fun x => Ending.returned (Value.string (Rel.text x))) HR.out.symm, HU.out _ HBR.out⟩
      · have HR : Hid (Kd.byPaths (kinds l1) (kinds l2) = if gm2 then r.comb .spc else .dis) := by
          show _ = _
          unfold Kd.byPaths
          rw [hkl1, hkl2, if_neg (by omega), if_neg (by omega), HFR.out, HLB.out]
        have hM : M + 1 = l2.length := by omega
        have hgm := HG2.out
        rw [← hM, Nat.add_sub_cancel] at hgm
        obtain ⟨b2, o2, rfl, hbl, _, _, d2⟩ := HF2.out M _ hgm
        have x2 : wr.cell? ⟨b2, o2 + M * 3 + 2, none⟩ = some (.bool gm2) := ((HU.out wr HBR.out).cell hbl).trans d2
        have e3 : ((l1.length : Int) == (l2.length : Int)) = false := by rw [beq_eq_false_iff_ne]; omega
        have e4 : ((l1.length : Int) == (M : Int) + 1) = false := by rw [beq_eq_false_iff_ne]; omega
        have e5 : ((l2.length : Int) == (M : Int) + 1) = true := by rw [beq_iff_eq]; omega
        have i1 : (M : Int) < (l2.length : Int) := by omega
        clear hkl1 hkl2 h hM hgm d2 HFO
        cases gm2
        · go_wp2_with fail
          go_ret
          exact ⟨congrArg (fun x => Ending.returned (Value.string (Rel.text x))) HR.out.symm, HU.out _ HBR.out⟩
        · go_wp2_with (go_at_call 36; refine (spec_combine r .spc _).mono ?_; rintro e w8 ⟨rfl, rfl⟩)
          go_ret
          exact ⟨congrArg (fun x => Ending.returned (Value.string (Rel.text x))) HR.out.symm, HU.out _ HBR.out⟩
end Go.Proofs.YtgkhfcoieknjeaaDoor

namespace Go.Proofs.YtgkhfcoieknjeaaDoor
open Go.RowKit

set_option maxRecDepth 100000 in
set_option maxHeartbeats 3200000 in
theorem spec_conflict (m1 m2 h1 h2 : ByteArray) (v1 v2 : Value) (l1 l2 : List Seg) (w : World) (H1 : SegsAt w v1 l1) (H2 : SegsAt w v2 l2) (G1 : GoodP (bs m1) (bs h1) l1) (G2 : GoodP (bs m2) (bs h2) l2) :
    Calls Tryd.prog 23 #[.agg #[.string m1, .string h1, v1], .agg #[.string m2, .string h2, v2]] w fun e w' => e = .returned (.bool (confB (bs m1) (bs m2) (bs h1) (bs h2) l1 l2)) ∧ Below w.heap.size w w' := by
  have HXP : Hid (∀ W, Below w.heap.size w W → Calls Tryd.prog 38 #[.agg #[.string m1, .string h1, v1], .agg #[.string m2, .string h2, v2]] W fun e w' => e = .returned (.string (Kd.byPaths (kinds l1) (kinds l2)).text) ∧ Below W.heap.size W w') := fun W hb => spec_byPaths m1 m2 h1 h2 v1 v2 l1 l2 W (H1.keep hb) (H2.keep hb) G1.some_ G2.some_ (good_len G1) (good_len G2)
  have HM : Hid (∀ W, Calls Tryd.prog 37 #[.string m1, .string m2] W fun e w' => e = .returned (.string (byM (bs m1) (bs m2)).text) ∧ W = w') := fun W => spec_byMethods m1 m2 W
  obtain ⟨X, xc, rfl, _, _⟩ := H1
  obtain ⟨Y, yc, rfl, _, _⟩ := H2
  have HC : Hid ((confB (bs m1) (bs m2) (bs h1) (bs h2) l1 l2) = (decide (bs h1 = bs h2) && isConf (Rel.comb (byM (bs m1) (bs m2)) (Kd.byPaths (kinds l1) (kinds l2))))) := rfl
  obtain ⟨c, hc⟩ : ∃ c, c = (confB (bs m1) (bs m2) (bs h1) (bs h2) l1 l2) := ⟨_, rfl⟩
  rw [← hc] at HC ⊢
  clear hc G1 G2
  generalize (byM (bs m1) (bs m2)) = rm at HM HC
  generalize (Kd.byPaths (kinds l1) (kinds l2)) = rp at HXP HC
  go_enter Tryd.func23, Tryd.ntmps23
  go_upto_region 1 with fail
  have hb1 := new0 w (.cells #[.string m1, .string h1, .slice X l1.length xc] 45)
  have hb2 := new1 w (.cells #[.string m1, .string h1, .slice X l1.length xc] 45) (.cells #[.string m2, .string h2, .slice Y l2.length yc] 45)
  have hb1' := blk_alloc hb1 (.cells #[.string m2, .string h2, .slice Y l2.length yc] 45)
  have HBW : Hid (Below w.heap.size w ((w.alloc (.cells #[.string m1, .string h1, .slice X l1.length xc] 45)).alloc (.cells #[.string m2, .string h2, .slice Y l2.length yc] 45))) := ((Below.refl _ _).alloc (Nat.le_refl _) _).alloc (by simp) _
  obtain ⟨W0, hW0⟩ : ∃ W0, W0 = (w.alloc (.cells #[.string m1, .string h1, .slice X l1.length xc] 45)).alloc (.cells #[.string m2, .string h2, .slice Y l2.length yc] 45) := ⟨_, rfl⟩
  rw [← hW0] at hb1' hb2 HBW ⊢
  have HS : Hid (∀ w' : World, Below W0.heap.size W0 w' → w'.cell? ⟨w.heap.size, 0, none⟩ = some (.string m1) ∧ w'.cell? ⟨w.heap.size, 1, none⟩ = some (.string h1) ∧ w'.cell? ⟨w.heap.size, 2, none⟩ = some (.slice X l1.length xc) ∧ w'.cell? ⟨w.heap.size + 1, 0, none⟩ = some (.string m2) ∧ w'.cell? ⟨w.heap.size + 1, 1, none⟩ = some (.string h2) ∧ w'.cell? ⟨w.heap.size + 1, 2, none⟩ = some (.slice Y l2.length yc)) := fun w' hb =>
    ⟨blk_cell (blk_below hb1' hb) 0, blk_cell (blk_below hb1' hb) 1, blk_cell (blk_below hb1' hb) 2, blk_cell (blk_below hb2 hb) 0, blk_cell (blk_below hb2 hb) 1, blk_cell (blk_below hb2 hb) 2⟩
  have HU : Hid (∀ w', Below W0.heap.size W0 w' → Below w.heap.size w w') := fun w' hb => HBW.out.trans (hb.mono HBW.out.size)
  have HYP : Hid (∀ W, Below W0.heap.size W0 W → Calls Tryd.prog 38 #[.agg #[.string m1, .string h1, .slice X l1.length xc], .agg #[.string m2, .string h2, .slice Y l2.length yc]] W fun e w' => e = .returned (.string rp.text) ∧ Below W0.heap.size W0 w') := fun W hb => (HXP.out W (HU.out W hb)).mono fun e w' ⟨x, y⟩ => ⟨x, hb.trans (y.mono hb.size)⟩
  clear hW0 hb1 hb1' hb2 HXP
  go_cut [5] (fun v wx => v = .string (Rel.comb rm rp).text ∧ Below W0.heap.size W0 wx)
  case first =>
    have hd0 : Below W0.heap.size W0 W0.drew := below_drew3 (Below.refl _ _) 1
    go_region_held3 (fun w' => w'.cell? ⟨w.heap.size, 0, none⟩ = some (.string m1) ∧ w'.cell? ⟨w.heap.size, 1, none⟩ = some (.string h1) ∧ w'.cell? ⟨w.heap.size, 2, none⟩ = some (.slice X l1.length xc) ∧ w'.cell? ⟨w.heap.size + 1, 0, none⟩ = some (.string m2) ∧ w'.cell? ⟨w.heap.size + 1, 1, none⟩ = some (.string h2) ∧ w'.cell? ⟨w.heap.size + 1, 2, none⟩ = some (.slice Y l2.length yc))
      (exact HS.out _ (by assumption))
      (first
        | (go_at_call 38; (with_reducible refine (HYP.out _ ?_).mono ?_); assumption; rintro e wx ⟨rfl, hbx⟩)
        | (go_at_call 37; (with_reducible refine (HM.out _).mono ?_); rintro e wm ⟨rfl, rfl⟩)
        | (go_at_call 36; (with_reducible refine (spec_combine rm rp _).mono ?_); rintro e wn ⟨rfl, rfl⟩))
    all_goals
      go_wp2_with fail
      go_meet
      exact ⟨rfl, by assumption⟩
  case rest =>
    obtain ⟨rfl, hbc⟩ := hcut
    have HBC := Lib.hid hbc
    obtain ⟨s0, s1, s2, s3, s4, s5⟩ := HS.out _ hbc
    clear hbc
    obtain ⟨rr, hrr⟩ : ∃ rr, rr = Rel.comb rm rp := ⟨_, rfl⟩
    rw [← hrr] at HC ⊢
    clear hrr
    by_cases he : bs h1 = bs h2
    · have e0 : (h1.toList == h2.toList) = true := by rw [bs_toList, bs_toList]; simpa using he
      have HC2 : Hid (c = isConf rr) := by show _ = _; rw [HC.out, he]; simp
      clear he
      cases rr
      all_goals
        simp only [Rel.text, isConf] at HC2 ⊢
        go_wp2_with fail
        go_ret
        exact ⟨congrArg (fun x => Ending.returned (Value.bool x)) HC2.out.symm, HU.out _ HBC.out⟩
    · have e0 : (h1.toList == h2.toList) = false := by rw [bs_toList, bs_toList]; simpa using he
      have HC2 : Hid (c = false) := by show _ = _; rw [HC.out]; simp [he]
      clear he
      go_wp2_with fail
      go_ret
      exact ⟨congrArg (fun x => Ending.returned (Value.bool x)) HC2.out.symm, HU.out _ HBC.out⟩
end Go.Proofs.YtgkhfcoieknjeaaDoor
