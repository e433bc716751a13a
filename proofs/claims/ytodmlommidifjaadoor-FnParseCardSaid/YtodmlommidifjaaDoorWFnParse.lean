/-
  Proved: the walks of laws.FnParse and laws.FnRefuse: they return true and write nothing that was there. Condition: the table unicode.properties is as it was laid.
-/
import Derived.Test.YtodmlommidifjaaDoorRead
import Derived.Test.YtodmlommidifjaaDoorPP
import Derived.Test.YtodmlommidifjaaDoorSame
import Derived.Test.YtodmlommidifjaaDoorImplParse
import Derived.Deep.RegionHeld3
namespace Go.Proofs.YtodmlommidifjaaDoor
open Go.RowKit

theorem ppAt_props {w : World} (h : PropsAt w) : PropsAt (World.ppAt w) :=
  h.below (((Below.refl _ _).alloc (Nat.le_refl _) _).alloc (by simp) _)

theorem parse_fine (s m h : ByteArray) (sg : List Seg) (W : World) (hs : s.size ≤ 2147483647) (hl : sg.length ≤ 120) (hp : PPText (bs s)) (hq : parseL (bs s) = some (bs m, bs h, sg)) (hprops : PropsAt W) :
    Calls Tryd.prog 13 #[.string s] W fun e w' => ∃ sv', e = .returned (.tuple #[.agg #[.string m, .string h, sv'], .bool true]) ∧ SegsAt w' sv' sg ∧ Below W.heap.size W w' := by
  refine implParse_good s m h sg W (by omega) ?_
  refine (pp_any s (World.ppAt W) hs hp (ppAt_props hprops)).mono fun e w' hg => ?_
  rw [hq] at hg
  have hm : (⟨(bs m).toArray⟩ : ByteArray) = m := (bs_inj (a := m) rfl).symm
  have hh : (⟨(bs h).toArray⟩ : ByteArray) = h := (bs_inj (a := h) rfl).symm
  unfold PPOut at hg
  simp only [hm, hh] at hg
  exact hg

theorem parse_wrong (s : ByteArray) (W : World) (hs : s.size ≤ 2147483647) (hp : bs s = [] ∨ (PPText (bs s) ∧ parseL (bs s) = none)) (hprops : PropsAt W) :
    Calls Tryd.prog 13 #[.string s] W fun e w' => e = .returned (.tuple #[.agg #[.string ⟨#[]⟩, .string ⟨#[]⟩, .slice none 0 0], .bool false]) ∧ Below W.heap.size W w' := by
  refine implParse_bad s W ?_
  rcases hp with he | ⟨h1, h2⟩
  · have : s = ⟨#[]⟩ := bs_inj (a := s) (by rw [he])
    rw [this]
    exact pp_empty _
  · refine (pp_any s (World.ppAt W) hs h1 (ppAt_props hprops)).mono fun e w' hg => ?_
    rw [h2] at hg
    exact hg

/-- How Parse ends. -/
def ImplEnd (w : World) (ok : Bool) (m h : ByteArray) (sg : List Seg) (e : Ending) (w' : World) : Prop :=
  ∃ m' h' sv', e = .returned (.tuple #[.agg #[.string m', .string h', sv'], .bool ok]) ∧ (ok = true → m' = m ∧ h' = h ∧ SegsAt w' sv' sg) ∧ Below w.heap.size w w'

set_option maxRecDepth 100000 in
set_option maxHeartbeats 1600000 in
theorem walk_refuse (s : ByteArray) (w : World) (hs : s.size ≤ 9223372036854775807) (hprops : PropsAt w) :
    Calls Tryd.prog 6 #[.string s] w fun e w' => e = .returned (.bool true) ∧ Below w.heap.size w w' := by
  by_cases hz : 2147483647 < s.size
  · have e0 : (2147483647 : Int) < (s.size : Int) := by omega
    go_enter Tryd.func6, Tryd.ntmps6
    go_wp2_with fail
    go_ret
    exact ⟨rfl, Below.refl _ _⟩
  have e0 : ¬ ((2147483647 : Int) < (s.size : Int)) := by omega
  have HRD := Lib.hid (read_any s w (by omega))
  have HPR := Lib.hid hprops
  unfold ReadEnd at HRD
  clear hprops
  go_enter Tryd.func6, Tryd.ntmps6
  go_upto_region 4 with (go_at_call 12; (with_reducible refine HRD.out.mono ?_); rintro e w1 ⟨m, h, A0, n0, cp0, st, sg, rfl, hsg, hro, hb⟩; have HSG := Lib.hid hsg; have HRO := Lib.hid hro; have HB1 := Lib.hid hb; clear hsg hro hb)
  have HB2 : Hid (Below w.heap.size w (w1.alloc (.cells #[.string m, .string h, .slice A0 n0 cp0] 30))) := HB1.out.alloc HB1.out.size _
  rcases HRO.out with h0 | ⟨h1, h2, h3⟩ | ⟨h1, h2⟩
  · subst h0
    go_wp2_with fail
    go_ret
    exact ⟨rfl, HB2.out⟩
  · subst h1
    have HP := Lib.hid (parse_fine s m h sg _ (by omega) (HSG.out rfl).2 h2 h3 (HPR.out.below HB2.out))
    clear h2 h3
    go_wp2_with (go_at_call 13; (with_reducible refine HP.out.mono ?_); rintro e w2 ⟨sv', rfl, ⟨_, _, rfl, _, _⟩, hb⟩; have HB3 := Lib.hid hb; clear hb)
    go_ret
    exact ⟨rfl, (HB2.out.trans (HB3.out.mono HB2.out.size)).alloc (by have := HB2.out.size; have := HB3.out.size; omega) _⟩
  · subst h1
    have HP := Lib.hid (parse_wrong s _ (by omega) h2 (HPR.out.below HB2.out))
    clear h2
    go_wp2_with (go_at_call 13; (with_reducible refine HP.out.mono ?_); rintro e w2 ⟨rfl, hb⟩; have HB3 := Lib.hid hb; clear hb)
    go_ret
    exact ⟨rfl, (HB2.out.trans (HB3.out.mono HB2.out.size)).alloc (by have := HB2.out.size; have := HB3.out.size; omega) _⟩

set_option maxRecDepth 100000 in
set_option maxHeartbeats 3200000 in
theorem walk_parse (s : ByteArray) (w : World) (hs : s.size ≤ 9223372036854775807) (hprops : PropsAt w) :
    Calls Tryd.prog 5 #[.string s] w fun e w' => e = .returned (.bool true) ∧ Below w.heap.size w w' := by
  by_cases hz : 2147483647 < s.size
  · have e0 : (2147483647 : Int) < (s.size : Int) := by omega
    go_enter Tryd.func5, Tryd.ntmps5
    go_wp2_with fail
    go_ret
    exact ⟨rfl, Below.refl _ _⟩
  have e0 : ¬ ((2147483647 : Int) < (s.size : Int)) := by omega
  have HRD := Lib.hid (read_any s w (by omega))
  have HPR := Lib.hid hprops
  unfold ReadEnd at HRD
  clear hprops
  go_enter Tryd.func5, Tryd.ntmps5
  go_upto_region 4 with (go_at_call 12; (with_reducible refine HRD.out.mono ?_); rintro e w1 ⟨m, h, A0, n0, cp0, st, sg, rfl, hsg, hro, hb⟩; have HSG := Lib.hid hsg; have HRO := Lib.hid hro; have HB1 := Lib.hid hb; clear hsg hro hb)
  have HB2 : Hid (Below w.heap.size w (w1.alloc (.cells #[.string m, .string h, .slice A0 n0 cp0] 30))) := HB1.out.alloc HB1.out.size _
  rcases HRO.out with h0 | ⟨h1, h2, h3⟩ | ⟨h1, h2⟩
  · subst h0
    go_wp2_with fail
    go_ret
    exact ⟨rfl, HB2.out⟩
  · subst h1
    obtain ⟨hsv, hl1⟩ := HSG.out rfl
    have HSV := Lib.hid hsv
    obtain ⟨X, xc, hxe, _, _⟩ := hsv
    obtain ⟨e1, e2, e3⟩ : X = A0 ∧ sg.length = n0 ∧ xc = cp0 := by
      simp only [Value.slice.injEq] at hxe
      exact ⟨hxe.1.symm, hxe.2.1.symm, hxe.2.2.symm⟩
    subst e1; subst e2; subst e3
    have HP := Lib.hid (parse_fine s m h sg _ (by omega) hl1 h2 h3 (HPR.out.below HB2.out))
    have hbl := new0 w1 (.cells #[.string m, .string h, .slice X sg.length xc] 30)
    have HSV2 : Hid (SegsAt (w1.alloc (.cells #[.string m, .string h, .slice X sg.length xc] 30)) (.slice X sg.length xc) sg) := HSV.out.keep ((Below.refl _ _).alloc (Nat.le_refl _) _)
    have hlw1 : w1.heap.size < (w1.alloc (.cells #[.string m, .string h, .slice X sg.length xc] 30)).heap.size := by simp
    obtain ⟨w3, hw3⟩ : ∃ w3, w3 = w1.alloc (.cells #[.string m, .string h, .slice X sg.length xc] 30) := ⟨_, rfl⟩
    rw [← hw3] at hbl HSV2 HP HB2 hlw1 ⊢
    have HBL := Lib.hid hbl
    clear h2 h3 hw3 hbl HSV HSG HRO HRD
    go_upto_region 7 with (go_at_call 13; (with_reducible refine HP.out.mono ?_); rintro e w5 ⟨gv, rfl, hgv, hb5⟩; obtain ⟨Y, yc, rfl, hyl, hyf⟩ := hgv; have HGV : Hid (SegsAt w5 (.slice Y sg.length yc) sg) := ⟨Y, yc, rfl, hyl, hyf⟩; clear hyf; have HB5 := Lib.hid hb5; clear hb5)
    have HBW5 : Hid (Below w.heap.size w (w5.alloc (.cells #[.string m, .string h, .slice Y sg.length yc] 35))) := (HB2.out.trans (HB5.out.mono HB2.out.size)).alloc (by have := HB5.out.size; have := HB2.out.size; omega) _
    have HB35 : Hid (Below w3.heap.size w3 (w5.alloc (.cells #[.string m, .string h, .slice Y sg.length yc] 35))) := HB5.out.alloc HB5.out.size _
    have hb3 := blk_below HBL.out HB35.out
    have k0 := blk_cell hb3 0
    have k1 := blk_cell hb3 1
    have k2 := blk_cell hb3 2
    have HSX5 : Hid (SegsAt (w5.alloc (.cells #[.string m, .string h, .slice Y sg.length yc] 35)) (.slice X sg.length xc) sg) := HSV2.out.keep HB35.out
    have HSY5 : Hid (SegsAt (w5.alloc (.cells #[.string m, .string h, .slice Y sg.length yc] 35)) (.slice Y sg.length yc) sg) := HGV.out.keep ((Below.refl _ _).alloc (Nat.le_refl _) _)
    have hsz5 : w1.heap.size < w5.heap.size := by have := HB5.out.size; omega
    have n0 := blk_cell (new0 w5 (.cells #[.string m, .string h, .slice Y sg.length yc] 35)) 0
    have n1 := blk_cell (new0 w5 (.cells #[.string m, .string h, .slice Y sg.length yc] 35)) 1
    have n2 := blk_cell (new0 w5 (.cells #[.string m, .string h, .slice Y sg.length yc] 35)) 2
    have hlw : w5.heap.size < (w5.alloc (.cells #[.string m, .string h, .slice Y sg.length yc] 35)).heap.size := by simp
    clear HB35 hb3
    obtain ⟨w6, hw6⟩ : ∃ w6, w6 = w5.alloc (.cells #[.string m, .string h, .slice Y sg.length yc] 35) := ⟨_, rfl⟩
    rw [← hw6] at HBW5 k0 k1 k2 HSX5 HSY5 n0 n1 n2 hlw ⊢
    clear hw6
    have q0 : w6.drew.cell? ⟨w5.heap.size, 0, none⟩ = some (.string m) := n0
    have q1 : w6.drew.cell? ⟨w5.heap.size, 1, none⟩ = some (.string h) := n1
    have q2 : w6.drew.cell? ⟨w5.heap.size, 2, none⟩ = some (.slice Y sg.length yc) := n2
    have q3 : w6.drew.cell? ⟨w1.heap.size, 0, none⟩ = some (.string m) := k0
    have q4 : w6.drew.cell? ⟨w1.heap.size, 1, none⟩ = some (.string h) := k1
    have q5 : w6.drew.cell? ⟨w1.heap.size, 2, none⟩ = some (.slice X sg.length xc) := k2
    have HD : Hid (Below w6.heap.size w6 w6.drew) := below_drew3 (Below.refl _ _) 1
    have HSXd : Hid (SegsAt w6.drew (.slice X sg.length xc) sg) := HSX5.out.keep HD.out
    have HSYd : Hid (SegsAt w6.drew (.slice Y sg.length yc) sg) := HSY5.out.keep HD.out
    have HBWd : Hid (Below w.heap.size w w6.drew) := HBW5.out.trans (HD.out.mono HBW5.out.size)
    have hlwd : w5.heap.size < w6.drew.heap.size := hlw
    clear n0 n1 n2 k0 k1 k2 HSX5 HSY5 hlw
    go_region_held3 (fun w' => w'.cell? ⟨w5.heap.size, 0, none⟩ = some (.string m) ∧ w'.cell? ⟨w5.heap.size, 1, none⟩ = some (.string h) ∧ w'.cell? ⟨w5.heap.size, 2, none⟩ = some (.slice Y sg.length yc) ∧
        w'.cell? ⟨w1.heap.size, 0, none⟩ = some (.string m) ∧ w'.cell? ⟨w1.heap.size, 1, none⟩ = some (.string h) ∧ w'.cell? ⟨w1.heap.size, 2, none⟩ = some (.slice X sg.length xc))
      (first | exact ⟨q0, q1, q2, q3, q4, q5⟩ | exact ⟨r0, r1, r2, r3, r4, r5⟩ | exact ⟨p0, p1, p2, p3, p4, p5⟩)
      (first
        | (go_at_call 15; refine (conv_any m h _ sg _ HSYd.out (by omega)).mono ?_; rintro e w7 ⟨zv, rfl, hown7, hb7⟩; obtain ⟨Z, zc, rfl, _, _, _⟩ := own_form hown7; have r0 := (hb7.cell (p := ⟨w5.heap.size, 0, none⟩) hlwd).trans q0; have r1 := (hb7.cell (p := ⟨w5.heap.size, 1, none⟩) hlwd).trans q1; have r2 := (hb7.cell (p := ⟨w5.heap.size, 2, none⟩) hlwd).trans q2; have r3 := (hb7.cell (p := ⟨w1.heap.size, 0, none⟩) (Nat.lt_trans hsz5 hlwd)).trans q3; have r4 := (hb7.cell (p := ⟨w1.heap.size, 1, none⟩) (Nat.lt_trans hsz5 hlwd)).trans q4; have r5 := (hb7.cell (p := ⟨w1.heap.size, 2, none⟩) (Nat.lt_trans hsz5 hlwd)).trans q5; have HOWN7 := Lib.hid hown7; have HB7 := Lib.hid hb7; clear hown7 hb7)
        | (go_at_call 14; refine (same_true m h _ _ sg _ (SegsAt.of_own HOWN7.out) (HSXd.out.keep HB7.out) (by omega)).mono ?_; rintro e w8 ⟨rfl, hb8⟩; have hl7 := Nat.lt_of_lt_of_le hlwd HB7.out.size; have p0 := (hb8.cell (p := ⟨w5.heap.size, 0, none⟩) hl7).trans r0; have p1 := (hb8.cell (p := ⟨w5.heap.size, 1, none⟩) hl7).trans r1; have p2 := (hb8.cell (p := ⟨w5.heap.size, 2, none⟩) hl7).trans r2; have p3 := (hb8.cell (p := ⟨w1.heap.size, 0, none⟩) (Nat.lt_trans hsz5 hl7)).trans r3; have p4 := (hb8.cell (p := ⟨w1.heap.size, 1, none⟩) (Nat.lt_trans hsz5 hl7)).trans r4; have p5 := (hb8.cell (p := ⟨w1.heap.size, 2, none⟩) (Nat.lt_trans hsz5 hl7)).trans r5; have HB8 := Lib.hid hb8; clear hb8))
    all_goals
      go_wp2_with fail
      go_ret
      exact ⟨rfl, (HBWd.out.trans (HB7.out.mono HBWd.out.size)).trans (HB8.out.mono (by have := HB7.out.size; have := HBWd.out.size; omega))⟩
  · subst h1
    go_wp2_with fail
    go_ret
    exact ⟨rfl, HB2.out⟩
end Go.Proofs.YtodmlommidifjaaDoor
