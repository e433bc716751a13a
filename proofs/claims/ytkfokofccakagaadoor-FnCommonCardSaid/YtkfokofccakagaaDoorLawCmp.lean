/-
  Proved: what the laws' thin callers paths, methods, both and conflicts return at two good patterns. Condition: the patterns can be read; the table unicode.properties is as it was laid.
-/
import Derived.Test.YtkfokofccakagaaDoorCompare
namespace Go.Proofs.YtkfokofccakagaaDoor
open Go.RowKit

set_option maxRecDepth 100000 in
set_option maxHeartbeats 800000 in
theorem conflictsWith_any (a b : Nat) (m1 m2 h1 h2 : ByteArray) (l1 l2 : List Seg) (w : World) (H1 : PatAt w a m1 h1 l1) (H2 : PatAt w b m2 h2 l2) (G1 : GoodP (bs m1) (bs h1) l1) (G2 : GoodP (bs m2) (bs h2) l2) :
    Calls Tryd.prog 60 #[.pointer (some ⟨a, 0, none⟩), .pointer (some ⟨b, 0, none⟩)] w fun e w' => e = .returned (.bool (confB (bs m1) (bs m2) (bs h1) (bs h2) l1 l2)) ∧ Below w.heap.size w w' := by
  have c1 := H1.2.2.1
  have c2 := H2.2.2.1
  by_cases he : bs h1 = bs h2
  · have e0 : (h1.toList == h2.toList) = true := by rw [bs_toList, bs_toList]; simpa using he
    obtain ⟨r, hr⟩ : ∃ r, r = byBoth (bs m1) (bs m2) l1 l2 := ⟨_, rfl⟩
    have HC : Hid (∀ w', Below w.heap.size w w' → Calls Tryd.prog 57 #[.pointer (some ⟨a, 0, none⟩), .pointer (some ⟨b, 0, none⟩)] w' fun e w'' => e = .returned (.string r.text) ∧ Below w'.heap.size w' w'') := by
      intro w' hb
      rw [hr]
      exact compareBoth_any a b m1 m2 h1 h2 l1 l2 w' (H1.keep hb) (H2.keep hb) G1 G2
    have HR : Hid (confB (bs m1) (bs m2) (bs h1) (bs h2) l1 l2 = isConf r) := by show _ = _; unfold confB; rw [hr, he]; simp
    clear hr he H1 H2 G1 G2
    go_enter Tryd.func60, Tryd.ntmps60
    go_wp2_with fail
    go_quiet (fail)
    go_upto_region 4 with (go_at_call 57; (with_reducible refine (HC.out _ (below_drew3 (Below.refl _ _) _)).mono ?_); rintro e w1 ⟨rfl, hb1⟩; have HB1 := Lib.hid ((below_drew3 (Below.refl w.heap.size w) nq).trans (hb1.mono (Nat.le_refl _))); clear hb1)
    have HE := Lib.hid (congrArg (fun x => Ending.returned (Value.bool x)) HR.out.symm)
    clear HR HC
    cases r
    all_goals
      simp only [Rel.text, isConf] at HE ⊢
      go_wp2_with fail
      go_ret
      exact ⟨HE.out, HB1.out⟩
  · have e0 : (h1.toList == h2.toList) = false := by rw [bs_toList, bs_toList]; simpa using he
    have HR : Hid (confB (bs m1) (bs m2) (bs h1) (bs h2) l1 l2 = false) := by show _ = _; unfold confB; simp [he]
    clear he H1 H2 G1 G2
    go_enter Tryd.func60, Tryd.ntmps60
    go_wp2_with fail
    go_quiet (fail)
    go_wp2_with fail
    go_ret
    exact ⟨congrArg (fun x => Ending.returned (Value.bool x)) HR.out.symm, below_drew3 (Below.refl _ _) _⟩

set_option maxRecDepth 100000 in
set_option maxHeartbeats 800000 in
theorem implConflicts_any (m1 m2 h1 h2 : ByteArray) (l1 l2 : List Seg) (w : World) (G1 : GoodP (bs m1) (bs h1) l1) (G2 : GoodP (bs m2) (bs h2) l2) (hprops : PropsAt w) :
    Calls Tryd.prog 46 #[.string (writeS m1 h1 l1), .string (writeS m2 h2 l2)] w fun e w' => e = .returned (.bool (confB (bs m1) (bs m2) (bs h1) (bs h2) l1 l2)) ∧ Below w.heap.size w w' := by
  have HM1 := Lib.hid (show Calls Tryd.prog 50 #[.string (writeS m1 h1 l1)] w (MustEnd w m1 h1 l1) from must_written m1 h1 l1 w G1 hprops)
  have HM2 : Hid (∀ w', Below w.heap.size w w' → Calls Tryd.prog 50 #[.string (writeS m2 h2 l2)] w' (MustEnd w' m2 h2 l2)) := fun w' hb => must_written m2 h2 l2 w' G2 (hprops.below hb)
  have HG1 := Lib.hid G1
  have HG2 := Lib.hid G2
  clear hprops G1 G2
  generalize writeS m1 h1 l1 = t1 at HM1 ⊢
  generalize writeS m2 h2 l2 = t2 at HM2 ⊢
  go_enter Tryd.func46, Tryd.ntmps46
  go_wp2_with (first
    | (go_at_call 52; go_in)
    | (go_at_call 50; (with_reducible refine HM1.out.mono ?_); rintro e w1 ⟨a, rfl, hp1, hb1⟩; have HP1 := Lib.hid hp1; have HB1 := Lib.hid hb1; clear hp1 hb1)
    | (go_at_call 50; (with_reducible refine (HM2.out _ HB1.out).mono ?_); rintro e w2 ⟨b, rfl, hp2, hb2⟩; have HP2 := Lib.hid hp2; have HB2 := Lib.hid hb2; clear hp2 hb2)
    | (go_at_call 60; refine (conflictsWith_any a b m1 m2 h1 h2 l1 l2 _ (HP1.out.keep HB2.out) HP2.out HG1.out HG2.out).mono ?_; rintro e w3 ⟨rfl, hb3⟩; have HB3 := Lib.hid hb3; clear hb3))
  go_ret
  exact ⟨rfl, (HB1.out.trans (HB2.out.mono HB1.out.size)).trans (HB3.out.mono (by have := HB1.out.size; have := HB2.out.size; omega))⟩

theorem good_sizes {m h : ByteArray} {l : List Seg} (G : GoodP (bs m) (bs h) l) : m.size ≤ 2147483647 ∧ h.size ≤ 2147483647 ∧ ∀ g ∈ l, g.s.length ≤ 16 := by
  have h3 := G.method
  have h4 := G.host
  simp only [methodB, hostB, Bool.and_eq_true, decide_eq_true_eq] at h3 h4
  have e1 := bs_size m
  have e2 := bs_size h
  refine ⟨by omega, by omega, fun g hg => ?_⟩
  obtain ⟨i, hi⟩ := List.mem_iff_getElem?.1 hg
  exact (G.seg i g hi).1

set_option maxRecDepth 100000 in
set_option maxHeartbeats 1600000 in
theorem law_paths (m1 m2 h1 h2 : ByteArray) (v1 v2 : Value) (l1 l2 : List Seg) (w : World) (H1 : SegsAt w v1 l1) (H2 : SegsAt w v2 l2) (G1 : GoodP (bs m1) (bs h1) l1) (G2 : GoodP (bs m2) (bs h2) l2) (hprops : PropsAt w) :
    Calls Tryd.prog 26 #[.agg #[.string m1, .string h1, v1], .agg #[.string m2, .string h2, v2]] w fun e w' => e = .returned (.string (Kd.byPaths (kinds l1) (kinds l2)).text) ∧ Below w.heap.size w w' := by
  have k1 := G1.seg
  have k2 := G2.seg
  have z1 := good_sizes G1
  have z2 := good_sizes G2
  have HX1 : Hid (∀ W, Below w.heap.size w W → Calls Tryd.prog 18 #[.agg #[.string m1, .string h1, v1]] W fun e w' => e = .returned (.string (writeS m1 h1 l1)) ∧ Below W.heap.size W w') := fun W hb => write_any m1 h1 v1 l1 W (H1.keep hb) (by omega) (by omega) G1.six z1.2.2
  have HX2 : Hid (∀ W, Below w.heap.size w W → Calls Tryd.prog 18 #[.agg #[.string m2, .string h2, v2]] W fun e w' => e = .returned (.string (writeS m2 h2 l2)) ∧ Below W.heap.size W w') := fun W hb => write_any m2 h2 v2 l2 W (H2.keep hb) (by omega) (by omega) G2.six z2.2.2
  have HXC : Hid (∀ W, Below w.heap.size w W → Calls Tryd.prog 41 #[.string (writeS m1 h1 l1), .string (writeS m2 h2 l2)] W fun e w' => e = .returned (.tuple #[.string (byBoth (bs m1) (bs m2) l1 l2).text, .string (byM (bs m1) (bs m2)).text, .string (Kd.byPaths (kinds l1) (kinds l2)).text]) ∧ Below W.heap.size W w') := fun W hb => implCompare_any m1 m2 h1 h2 l1 l2 W G1 G2 (hprops.below hb)
  obtain ⟨A1, c1, rfl, _, _⟩ := H1
  obtain ⟨A2, c2, rfl, _, _⟩ := H2
  generalize writeS m1 h1 l1 = t1 at HX1 HXC
  generalize writeS m2 h2 l2 = t2 at HX2 HXC
  clear k1 k2 z1 z2 G1 G2 hprops
  go_enter Tryd.func26, Tryd.ntmps26
  go_upto_region 1 with fail
  have hb1 := new0 w (.cells #[.string m1, .string h1, .slice A1 l1.length c1] 28)
  have hb2 := new1 w (.cells #[.string m1, .string h1, .slice A1 l1.length c1] 28) (.cells #[.string m2, .string h2, .slice A2 l2.length c2] 28)
  have hb1' := blk_alloc hb1 (.cells #[.string m2, .string h2, .slice A2 l2.length c2] 28)
  have HBW : Hid (Below w.heap.size w ((w.alloc (.cells #[.string m1, .string h1, .slice A1 l1.length c1] 28)).alloc (.cells #[.string m2, .string h2, .slice A2 l2.length c2] 28))) := ((Below.refl _ _).alloc (Nat.le_refl _) _).alloc (by simp) _
  obtain ⟨W0, hW0⟩ : ∃ W0, W0 = (w.alloc (.cells #[.string m1, .string h1, .slice A1 l1.length c1] 28)).alloc (.cells #[.string m2, .string h2, .slice A2 l2.length c2] 28) := ⟨_, rfl⟩
  rw [← hW0] at hb1' hb2 HBW ⊢
  have HS : Hid (∀ w' : World, Below W0.heap.size W0 w' → w'.cell? ⟨w.heap.size, 0, none⟩ = some (.string m1) ∧ w'.cell? ⟨w.heap.size, 1, none⟩ = some (.string h1) ∧ w'.cell? ⟨w.heap.size, 2, none⟩ = some (.slice A1 l1.length c1) ∧ w'.cell? ⟨w.heap.size + 1, 0, none⟩ = some (.string m2) ∧ w'.cell? ⟨w.heap.size + 1, 1, none⟩ = some (.string h2) ∧ w'.cell? ⟨w.heap.size + 1, 2, none⟩ = some (.slice A2 l2.length c2)) := fun w' hb =>
    ⟨blk_cell (blk_below hb1' hb) 0, blk_cell (blk_below hb1' hb) 1, blk_cell (blk_below hb1' hb) 2, blk_cell (blk_below hb2 hb) 0, blk_cell (blk_below hb2 hb) 1, blk_cell (blk_below hb2 hb) 2⟩
  have HU : Hid (∀ w', Below W0.heap.size W0 w' → Below w.heap.size w w') := fun w' hb => HBW.out.trans (hb.mono HBW.out.size)
  have HY1 : Hid (∀ W, Below W0.heap.size W0 W → Calls Tryd.prog 18 #[.agg #[.string m1, .string h1, .slice A1 l1.length c1]] W fun e w' => e = .returned (.string t1) ∧ Below W0.heap.size W0 w') := fun W hb => (HX1.out W (HU.out W hb)).mono fun e w' ⟨x, y⟩ => ⟨x, hb.trans (y.mono hb.size)⟩
  have HY2 : Hid (∀ W, Below W0.heap.size W0 W → Calls Tryd.prog 18 #[.agg #[.string m2, .string h2, .slice A2 l2.length c2]] W fun e w' => e = .returned (.string t2) ∧ Below W0.heap.size W0 w') := fun W hb => (HX2.out W (HU.out W hb)).mono fun e w' ⟨x, y⟩ => ⟨x, hb.trans (y.mono hb.size)⟩
  have HYC : Hid (∀ W, Below W0.heap.size W0 W → Calls Tryd.prog 41 #[.string t1, .string t2] W fun e w' => e = .returned (.tuple #[.string (byBoth (bs m1) (bs m2) l1 l2).text, .string (byM (bs m1) (bs m2)).text, .string (Kd.byPaths (kinds l1) (kinds l2)).text]) ∧ Below W0.heap.size W0 w') := fun W hb => (HXC.out W (HU.out W hb)).mono fun e w' ⟨x, y⟩ => ⟨x, hb.trans (y.mono hb.size)⟩
  have hd : Below W0.heap.size W0 W0.drew := below_drew3 (Below.refl _ _) 1
  clear HX1 HX2 HXC hW0 hb1 hb1' hb2
  go_region_held3 (fun w' => w'.cell? ⟨w.heap.size, 0, none⟩ = some (.string m1) ∧ w'.cell? ⟨w.heap.size, 1, none⟩ = some (.string h1) ∧ w'.cell? ⟨w.heap.size, 2, none⟩ = some (.slice A1 l1.length c1) ∧ w'.cell? ⟨w.heap.size + 1, 0, none⟩ = some (.string m2) ∧ w'.cell? ⟨w.heap.size + 1, 1, none⟩ = some (.string h2) ∧ w'.cell? ⟨w.heap.size + 1, 2, none⟩ = some (.slice A2 l2.length c2))
    (exact HS.out _ (by assumption))
    (first
      | (go_at_call 18; (with_reducible refine (HY1.out _ ?_).mono ?_); assumption; rintro e wx ⟨rfl, hbx⟩)
      | (go_at_call 18; (with_reducible refine (HY2.out _ ?_).mono ?_); assumption; rintro e wy ⟨rfl, hby⟩)
      | (go_at_call 41; (with_reducible refine (HYC.out _ ?_).mono ?_); assumption; rintro e wz ⟨rfl, hbz⟩))
  all_goals
    go_wp2_with fail
    go_ret
    exact ⟨rfl, HU.out _ hbz⟩

set_option maxRecDepth 100000 in
set_option maxHeartbeats 1600000 in
theorem law_methods (m1 m2 h1 h2 : ByteArray) (v1 v2 : Value) (l1 l2 : List Seg) (w : World) (H1 : SegsAt w v1 l1) (H2 : SegsAt w v2 l2) (G1 : GoodP (bs m1) (bs h1) l1) (G2 : GoodP (bs m2) (bs h2) l2) (hprops : PropsAt w) :
    Calls Tryd.prog 23 #[.agg #[.string m1, .string h1, v1], .agg #[.string m2, .string h2, v2]] w fun e w' => e = .returned (.string (byM (bs m1) (bs m2)).text) ∧ Below w.heap.size w w' := by
  have k1 := G1.seg
  have k2 := G2.seg
  have z1 := good_sizes G1
  have z2 := good_sizes G2
  have HX1 : Hid (∀ W, Below w.heap.size w W → Calls Tryd.prog 18 #[.agg #[.string m1, .string h1, v1]] W fun e w' => e = .returned (.string (writeS m1 h1 l1)) ∧ Below W.heap.size W w') := fun W hb => write_any m1 h1 v1 l1 W (H1.keep hb) (by omega) (by omega) G1.six z1.2.2
  have HX2 : Hid (∀ W, Below w.heap.size w W → Calls Tryd.prog 18 #[.agg #[.string m2, .string h2, v2]] W fun e w' => e = .returned (.string (writeS m2 h2 l2)) ∧ Below W.heap.size W w') := fun W hb => write_any m2 h2 v2 l2 W (H2.keep hb) (by omega) (by omega) G2.six z2.2.2
  have HXC : Hid (∀ W, Below w.heap.size w W → Calls Tryd.prog 41 #[.string (writeS m1 h1 l1), .string (writeS m2 h2 l2)] W fun e w' => e = .returned (.tuple #[.string (byBoth (bs m1) (bs m2) l1 l2).text, .string (byM (bs m1) (bs m2)).text, .string (Kd.byPaths (kinds l1) (kinds l2)).text]) ∧ Below W.heap.size W w') := fun W hb => implCompare_any m1 m2 h1 h2 l1 l2 W G1 G2 (hprops.below hb)
  obtain ⟨A1, c1, rfl, _, _⟩ := H1
  obtain ⟨A2, c2, rfl, _, _⟩ := H2
  generalize writeS m1 h1 l1 = t1 at HX1 HXC
  generalize writeS m2 h2 l2 = t2 at HX2 HXC
  clear k1 k2 z1 z2 G1 G2 hprops
  go_enter Tryd.func23, Tryd.ntmps23
  go_upto_region 1 with fail
  have hb1 := new0 w (.cells #[.string m1, .string h1, .slice A1 l1.length c1] 28)
  have hb2 := new1 w (.cells #[.string m1, .string h1, .slice A1 l1.length c1] 28) (.cells #[.string m2, .string h2, .slice A2 l2.length c2] 28)
  have hb1' := blk_alloc hb1 (.cells #[.string m2, .string h2, .slice A2 l2.length c2] 28)
  have HBW : Hid (Below w.heap.size w ((w.alloc (.cells #[.string m1, .string h1, .slice A1 l1.length c1] 28)).alloc (.cells #[.string m2, .string h2, .slice A2 l2.length c2] 28))) := ((Below.refl _ _).alloc (Nat.le_refl _) _).alloc (by simp) _
  obtain ⟨W0, hW0⟩ : ∃ W0, W0 = (w.alloc (.cells #[.string m1, .string h1, .slice A1 l1.length c1] 28)).alloc (.cells #[.string m2, .string h2, .slice A2 l2.length c2] 28) := ⟨_, rfl⟩
  rw [← hW0] at hb1' hb2 HBW ⊢
  have HS : Hid (∀ w' : World, Below W0.heap.size W0 w' → w'.cell? ⟨w.heap.size, 0, none⟩ = some (.string m1) ∧ w'.cell? ⟨w.heap.size, 1, none⟩ = some (.string h1) ∧ w'.cell? ⟨w.heap.size, 2, none⟩ = some (.slice A1 l1.length c1) ∧ w'.cell? ⟨w.heap.size + 1, 0, none⟩ = some (.string m2) ∧ w'.cell? ⟨w.heap.size + 1, 1, none⟩ = some (.string h2) ∧ w'.cell? ⟨w.heap.size + 1, 2, none⟩ = some (.slice A2 l2.length c2)) := fun w' hb =>
    ⟨blk_cell (blk_below hb1' hb) 0, blk_cell (blk_below hb1' hb) 1, blk_cell (blk_below hb1' hb) 2, blk_cell (blk_below hb2 hb) 0, blk_cell (blk_below hb2 hb) 1, blk_cell (blk_below hb2 hb) 2⟩
  have HU : Hid (∀ w', Below W0.heap.size W0 w' → Below w.heap.size w w') := fun w' hb => HBW.out.trans (hb.mono HBW.out.size)
  have HY1 : Hid (∀ W, Below W0.heap.size W0 W → Calls Tryd.prog 18 #[.agg #[.string m1, .string h1, .slice A1 l1.length c1]] W fun e w' => e = .returned (.string t1) ∧ Below W0.heap.size W0 w') := fun W hb => (HX1.out W (HU.out W hb)).mono fun e w' ⟨x, y⟩ => ⟨x, hb.trans (y.mono hb.size)⟩
  have HY2 : Hid (∀ W, Below W0.heap.size W0 W → Calls Tryd.prog 18 #[.agg #[.string m2, .string h2, .slice A2 l2.length c2]] W fun e w' => e = .returned (.string t2) ∧ Below W0.heap.size W0 w') := fun W hb => (HX2.out W (HU.out W hb)).mono fun e w' ⟨x, y⟩ => ⟨x, hb.trans (y.mono hb.size)⟩
  have HYC : Hid (∀ W, Below W0.heap.size W0 W → Calls Tryd.prog 41 #[.string t1, .string t2] W fun e w' => e = .returned (.tuple #[.string (byBoth (bs m1) (bs m2) l1 l2).text, .string (byM (bs m1) (bs m2)).text, .string (Kd.byPaths (kinds l1) (kinds l2)).text]) ∧ Below W0.heap.size W0 w') := fun W hb => (HXC.out W (HU.out W hb)).mono fun e w' ⟨x, y⟩ => ⟨x, hb.trans (y.mono hb.size)⟩
  have hd : Below W0.heap.size W0 W0.drew := below_drew3 (Below.refl _ _) 1
  clear HX1 HX2 HXC hW0 hb1 hb1' hb2
  go_region_held3 (fun w' => w'.cell? ⟨w.heap.size, 0, none⟩ = some (.string m1) ∧ w'.cell? ⟨w.heap.size, 1, none⟩ = some (.string h1) ∧ w'.cell? ⟨w.heap.size, 2, none⟩ = some (.slice A1 l1.length c1) ∧ w'.cell? ⟨w.heap.size + 1, 0, none⟩ = some (.string m2) ∧ w'.cell? ⟨w.heap.size + 1, 1, none⟩ = some (.string h2) ∧ w'.cell? ⟨w.heap.size + 1, 2, none⟩ = some (.slice A2 l2.length c2))
    (exact HS.out _ (by assumption))
    (first
      | (go_at_call 18; (with_reducible refine (HY1.out _ ?_).mono ?_); assumption; rintro e wx ⟨rfl, hbx⟩)
      | (go_at_call 18; (with_reducible refine (HY2.out _ ?_).mono ?_); assumption; rintro e wy ⟨rfl, hby⟩)
      | (go_at_call 41; (with_reducible refine (HYC.out _ ?_).mono ?_); assumption; rintro e wz ⟨rfl, hbz⟩))
  all_goals
    go_wp2_with fail
    go_ret
    exact ⟨rfl, HU.out _ hbz⟩

set_option maxRecDepth 100000 in
set_option maxHeartbeats 1600000 in
theorem law_both (m1 m2 h1 h2 : ByteArray) (v1 v2 : Value) (l1 l2 : List Seg) (w : World) (H1 : SegsAt w v1 l1) (H2 : SegsAt w v2 l2) (G1 : GoodP (bs m1) (bs h1) l1) (G2 : GoodP (bs m2) (bs h2) l2) (hprops : PropsAt w) :
    Calls Tryd.prog 20 #[.agg #[.string m1, .string h1, v1], .agg #[.string m2, .string h2, v2]] w fun e w' => e = .returned (.string (byBoth (bs m1) (bs m2) l1 l2).text) ∧ Below w.heap.size w w' := by
  have k1 := G1.seg
  have k2 := G2.seg
  have z1 := good_sizes G1
  have z2 := good_sizes G2
  have HX1 : Hid (∀ W, Below w.heap.size w W → Calls Tryd.prog 18 #[.agg #[.string m1, .string h1, v1]] W fun e w' => e = .returned (.string (writeS m1 h1 l1)) ∧ Below W.heap.size W w') := fun W hb => write_any m1 h1 v1 l1 W (H1.keep hb) (by omega) (by omega) G1.six z1.2.2
  have HX2 : Hid (∀ W, Below w.heap.size w W → Calls Tryd.prog 18 #[.agg #[.string m2, .string h2, v2]] W fun e w' => e = .returned (.string (writeS m2 h2 l2)) ∧ Below W.heap.size W w') := fun W hb => write_any m2 h2 v2 l2 W (H2.keep hb) (by omega) (by omega) G2.six z2.2.2
  have HXC : Hid (∀ W, Below w.heap.size w W → Calls Tryd.prog 41 #[.string (writeS m1 h1 l1), .string (writeS m2 h2 l2)] W fun e w' => e = .returned (.tuple #[.string (byBoth (bs m1) (bs m2) l1 l2).text, .string (byM (bs m1) (bs m2)).text, .string (Kd.byPaths (kinds l1) (kinds l2)).text]) ∧ Below W.heap.size W w') := fun W hb => implCompare_any m1 m2 h1 h2 l1 l2 W G1 G2 (hprops.below hb)
  obtain ⟨A1, c1, rfl, _, _⟩ := H1
  obtain ⟨A2, c2, rfl, _, _⟩ := H2
  generalize writeS m1 h1 l1 = t1 at HX1 HXC
  generalize writeS m2 h2 l2 = t2 at HX2 HXC
  clear k1 k2 z1 z2 G1 G2 hprops
  go_enter Tryd.func20, Tryd.ntmps20
  go_upto_region 1 with fail
  have hb1 := new0 w (.cells #[.string m1, .string h1, .slice A1 l1.length c1] 28)
  have hb2 := new1 w (.cells #[.string m1, .string h1, .slice A1 l1.length c1] 28) (.cells #[.string m2, .string h2, .slice A2 l2.length c2] 28)
  have hb1' := blk_alloc hb1 (.cells #[.string m2, .string h2, .slice A2 l2.length c2] 28)
  have HBW : Hid (Below w.heap.size w ((w.alloc (.cells #[.string m1, .string h1, .slice A1 l1.length c1] 28)).alloc (.cells #[.string m2, .string h2, .slice A2 l2.length c2] 28))) := ((Below.refl _ _).alloc (Nat.le_refl _) _).alloc (by simp) _
  obtain ⟨W0, hW0⟩ : ∃ W0, W0 = (w.alloc (.cells #[.string m1, .string h1, .slice A1 l1.length c1] 28)).alloc (.cells #[.string m2, .string h2, .slice A2 l2.length c2] 28) := ⟨_, rfl⟩
  rw [← hW0] at hb1' hb2 HBW ⊢
  have HS : Hid (∀ w' : World, Below W0.heap.size W0 w' → w'.cell? ⟨w.heap.size, 0, none⟩ = some (.string m1) ∧ w'.cell? ⟨w.heap.size, 1, none⟩ = some (.string h1) ∧ w'.cell? ⟨w.heap.size, 2, none⟩ = some (.slice A1 l1.length c1) ∧ w'.cell? ⟨w.heap.size + 1, 0, none⟩ = some (.string m2) ∧ w'.cell? ⟨w.heap.size + 1, 1, none⟩ = some (.string h2) ∧ w'.cell? ⟨w.heap.size + 1, 2, none⟩ = some (.slice A2 l2.length c2)) := fun w' hb =>
    ⟨blk_cell (blk_below hb1' hb) 0, blk_cell (blk_below hb1' hb) 1, blk_cell (blk_below hb1' hb) 2, blk_cell (blk_below hb2 hb) 0, blk_cell (blk_below hb2 hb) 1, blk_cell (blk_below hb2 hb) 2⟩
  have HU : Hid (∀ w', Below W0.heap.size W0 w' → Below w.heap.size w w') := fun w' hb => HBW.out.trans (hb.mono HBW.out.size)
  have HY1 : Hid (∀ W, Below W0.heap.size W0 W → Calls Tryd.prog 18 #[.agg #[.string m1, .string h1, .slice A1 l1.length c1]] W fun e w' => e = .returned (.string t1) ∧ Below W0.heap.size W0 w') := fun W hb => (HX1.out W (HU.out W hb)).mono fun e w' ⟨x, y⟩ => ⟨x, hb.trans (y.mono hb.size)⟩
  have HY2 : Hid (∀ W, Below W0.heap.size W0 W → Calls Tryd.prog 18 #[.agg #[.string m2, .string h2, .slice A2 l2.length c2]] W fun e w' => e = .returned (.string t2) ∧ Below W0.heap.size W0 w') := fun W hb => (HX2.out W (HU.out W hb)).mono fun e w' ⟨x, y⟩ => ⟨x, hb.trans (y.mono hb.size)⟩
  have HYC : Hid (∀ W, Below W0.heap.size W0 W → Calls Tryd.prog 41 #[.string t1, .string t2] W fun e w' => e = .returned (.tuple #[.string (byBoth (bs m1) (bs m2) l1 l2).text, .string (byM (bs m1) (bs m2)).text, .string (Kd.byPaths (kinds l1) (kinds l2)).text]) ∧ Below W0.heap.size W0 w') := fun W hb => (HXC.out W (HU.out W hb)).mono fun e w' ⟨x, y⟩ => ⟨x, hb.trans (y.mono hb.size)⟩
  have hd : Below W0.heap.size W0 W0.drew := below_drew3 (Below.refl _ _) 1
  clear HX1 HX2 HXC hW0 hb1 hb1' hb2
  go_region_held3 (fun w' => w'.cell? ⟨w.heap.size, 0, none⟩ = some (.string m1) ∧ w'.cell? ⟨w.heap.size, 1, none⟩ = some (.string h1) ∧ w'.cell? ⟨w.heap.size, 2, none⟩ = some (.slice A1 l1.length c1) ∧ w'.cell? ⟨w.heap.size + 1, 0, none⟩ = some (.string m2) ∧ w'.cell? ⟨w.heap.size + 1, 1, none⟩ = some (.string h2) ∧ w'.cell? ⟨w.heap.size + 1, 2, none⟩ = some (.slice A2 l2.length c2))
    (exact HS.out _ (by assumption))
    (first
      | (go_at_call 18; (with_reducible refine (HY1.out _ ?_).mono ?_); assumption; rintro e wx ⟨rfl, hbx⟩)
      | (go_at_call 18; (with_reducible refine (HY2.out _ ?_).mono ?_); assumption; rintro e wy ⟨rfl, hby⟩)
      | (go_at_call 41; (with_reducible refine (HYC.out _ ?_).mono ?_); assumption; rintro e wz ⟨rfl, hbz⟩))
  all_goals
    go_wp2_with fail
    go_ret
    exact ⟨rfl, HU.out _ hbz⟩

set_option maxRecDepth 100000 in
set_option maxHeartbeats 1600000 in
theorem law_conflicts (m1 m2 h1 h2 : ByteArray) (v1 v2 : Value) (l1 l2 : List Seg) (w : World) (H1 : SegsAt w v1 l1) (H2 : SegsAt w v2 l2) (G1 : GoodP (bs m1) (bs h1) l1) (G2 : GoodP (bs m2) (bs h2) l2) (hprops : PropsAt w) :
    Calls Tryd.prog 33 #[.agg #[.string m1, .string h1, v1], .agg #[.string m2, .string h2, v2]] w fun e w' => e = .returned (.bool (confB (bs m1) (bs m2) (bs h1) (bs h2) l1 l2)) ∧ Below w.heap.size w w' := by
  have k1 := G1.seg
  have k2 := G2.seg
  have z1 := good_sizes G1
  have z2 := good_sizes G2
  have HX1 : Hid (∀ W, Below w.heap.size w W → Calls Tryd.prog 18 #[.agg #[.string m1, .string h1, v1]] W fun e w' => e = .returned (.string (writeS m1 h1 l1)) ∧ Below W.heap.size W w') := fun W hb => write_any m1 h1 v1 l1 W (H1.keep hb) (by omega) (by omega) G1.six z1.2.2
  have HX2 : Hid (∀ W, Below w.heap.size w W → Calls Tryd.prog 18 #[.agg #[.string m2, .string h2, v2]] W fun e w' => e = .returned (.string (writeS m2 h2 l2)) ∧ Below W.heap.size W w') := fun W hb => write_any m2 h2 v2 l2 W (H2.keep hb) (by omega) (by omega) G2.six z2.2.2
  have HXC : Hid (∀ W, Below w.heap.size w W → Calls Tryd.prog 46 #[.string (writeS m1 h1 l1), .string (writeS m2 h2 l2)] W fun e w' => e = .returned (.bool (confB (bs m1) (bs m2) (bs h1) (bs h2) l1 l2)) ∧ Below W.heap.size W w') := fun W hb => implConflicts_any m1 m2 h1 h2 l1 l2 W G1 G2 (hprops.below hb)
  obtain ⟨A1, c1, rfl, _, _⟩ := H1
  obtain ⟨A2, c2, rfl, _, _⟩ := H2
  generalize writeS m1 h1 l1 = t1 at HX1 HXC
  generalize writeS m2 h2 l2 = t2 at HX2 HXC
  clear k1 k2 z1 z2 G1 G2 hprops
  go_enter Tryd.func33, Tryd.ntmps33
  go_upto_region 1 with fail
  have hb1 := new0 w (.cells #[.string m1, .string h1, .slice A1 l1.length c1] 28)
  have hb2 := new1 w (.cells #[.string m1, .string h1, .slice A1 l1.length c1] 28) (.cells #[.string m2, .string h2, .slice A2 l2.length c2] 28)
  have hb1' := blk_alloc hb1 (.cells #[.string m2, .string h2, .slice A2 l2.length c2] 28)
  have HBW : Hid (Below w.heap.size w ((w.alloc (.cells #[.string m1, .string h1, .slice A1 l1.length c1] 28)).alloc (.cells #[.string m2, .string h2, .slice A2 l2.length c2] 28))) := ((Below.refl _ _).alloc (Nat.le_refl _) _).alloc (by simp) _
  obtain ⟨W0, hW0⟩ : ∃ W0, W0 = (w.alloc (.cells #[.string m1, .string h1, .slice A1 l1.length c1] 28)).alloc (.cells #[.string m2, .string h2, .slice A2 l2.length c2] 28) := ⟨_, rfl⟩
  rw [← hW0] at hb1' hb2 HBW ⊢
  have HS : Hid (∀ w' : World, Below W0.heap.size W0 w' → w'.cell? ⟨w.heap.size, 0, none⟩ = some (.string m1) ∧ w'.cell? ⟨w.heap.size, 1, none⟩ = some (.string h1) ∧ w'.cell? ⟨w.heap.size, 2, none⟩ = some (.slice A1 l1.length c1) ∧ w'.cell? ⟨w.heap.size + 1, 0, none⟩ = some (.string m2) ∧ w'.cell? ⟨w.heap.size + 1, 1, none⟩ = some (.string h2) ∧ w'.cell? ⟨w.heap.size + 1, 2, none⟩ = some (.slice A2 l2.length c2)) := fun w' hb =>
    ⟨blk_cell (blk_below hb1' hb) 0, blk_cell (blk_below hb1' hb) 1, blk_cell (blk_below hb1' hb) 2, blk_cell (blk_below hb2 hb) 0, blk_cell (blk_below hb2 hb) 1, blk_cell (blk_below hb2 hb) 2⟩
  have HU : Hid (∀ w', Below W0.heap.size W0 w' → Below w.heap.size w w') := fun w' hb => HBW.out.trans (hb.mono HBW.out.size)
  have HY1 : Hid (∀ W, Below W0.heap.size W0 W → Calls Tryd.prog 18 #[.agg #[.string m1, .string h1, .slice A1 l1.length c1]] W fun e w' => e = .returned (.string t1) ∧ Below W0.heap.size W0 w') := fun W hb => (HX1.out W (HU.out W hb)).mono fun e w' ⟨x, y⟩ => ⟨x, hb.trans (y.mono hb.size)⟩
  have HY2 : Hid (∀ W, Below W0.heap.size W0 W → Calls Tryd.prog 18 #[.agg #[.string m2, .string h2, .slice A2 l2.length c2]] W fun e w' => e = .returned (.string t2) ∧ Below W0.heap.size W0 w') := fun W hb => (HX2.out W (HU.out W hb)).mono fun e w' ⟨x, y⟩ => ⟨x, hb.trans (y.mono hb.size)⟩
  have HYC : Hid (∀ W, Below W0.heap.size W0 W → Calls Tryd.prog 46 #[.string t1, .string t2] W fun e w' => e = .returned (.bool (confB (bs m1) (bs m2) (bs h1) (bs h2) l1 l2)) ∧ Below W0.heap.size W0 w') := fun W hb => (HXC.out W (HU.out W hb)).mono fun e w' ⟨x, y⟩ => ⟨x, hb.trans (y.mono hb.size)⟩
  have hd : Below W0.heap.size W0 W0.drew := below_drew3 (Below.refl _ _) 1
  clear HX1 HX2 HXC hW0 hb1 hb1' hb2
  go_region_held3 (fun w' => w'.cell? ⟨w.heap.size, 0, none⟩ = some (.string m1) ∧ w'.cell? ⟨w.heap.size, 1, none⟩ = some (.string h1) ∧ w'.cell? ⟨w.heap.size, 2, none⟩ = some (.slice A1 l1.length c1) ∧ w'.cell? ⟨w.heap.size + 1, 0, none⟩ = some (.string m2) ∧ w'.cell? ⟨w.heap.size + 1, 1, none⟩ = some (.string h2) ∧ w'.cell? ⟨w.heap.size + 1, 2, none⟩ = some (.slice A2 l2.length c2))
    (exact HS.out _ (by assumption))
    (first
      | (go_at_call 18; (with_reducible refine (HY1.out _ ?_).mono ?_); assumption; rintro e wx ⟨rfl, hbx⟩)
      | (go_at_call 18; (with_reducible refine (HY2.out _ ?_).mono ?_); assumption; rintro e wy ⟨rfl, hby⟩)
      | (go_at_call 46; (with_reducible refine (HYC.out _ ?_).mono ?_); assumption; rintro e wz ⟨rfl, hbz⟩))
  all_goals
    go_wp2_with fail
    go_ret
    exact ⟨rfl, HU.out _ hbz⟩

end Go.Proofs.YtkfokofccakagaaDoor
