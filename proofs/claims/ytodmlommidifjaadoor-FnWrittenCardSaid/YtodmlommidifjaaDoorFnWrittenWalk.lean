/-
  Proved: the walk of laws.FnWritten: it returns true and writes nothing that was there. Condition: the argument can be read; the table unicode.properties is as it was laid.
-/
import Derived.Test.YtodmlommidifjaaDoorPP
import Derived.Test.YtodmlommidifjaaDoorWritten
import Derived.Test.YtodmlommidifjaaDoorSame
import Derived.Test.YtodmlommidifjaaDoorFits
namespace Go.Proofs.YtodmlommidifjaaDoor
open Go.RowKit

theorem writeL_len {m h : List UInt8} {l : List Seg} (G : GoodP m h l) : (writeL m h l).length ≤ 200 := by
  have h1 := segsText_len l fun g hg => by
    obtain ⟨i, hi⟩ := List.mem_iff_getElem?.1 hg
    exact (G.seg i g hi).1
  have h2 := G.six
  have h3 := G.method
  have h4 := G.host
  simp only [methodB, hostB, Bool.and_eq_true, decide_eq_true_eq] at h3 h4
  unfold writeL headText
  split
  · rw [List.length_append]; omega
  · rw [List.length_append, List.length_append, List.length_cons]; omega

/-- parsePattern at what is written. -/
theorem pp_written (m h : ByteArray) (l : List Seg) (w : World) (G : GoodP (bs m) (bs h) l) (hprops : PropsAt w) :
    Calls Tryd.prog 31 #[.string ⟨(writeL (bs m) (bs h) l).toArray⟩] w fun e w' => PPGood w w' e m h l := by
  have e : bs (⟨(writeL (bs m) (bs h) l).toArray⟩ : ByteArray) = writeL (bs m) (bs h) l := by simp [bs]
  have h1 := pp_any ⟨(writeL (bs m) (bs h) l).toArray⟩ w (by have := writeL_len G; show (writeL (bs m) (bs h) l).toArray.size ≤ _; simp; omega) (by rw [e]; exact pptext_written G) hprops
  rw [e, parse_written G] at h1
  refine h1.mono fun e _ hg => ?_
  have hm : (⟨(bs m).toArray⟩ : ByteArray) = m := (bs_inj (a := m) rfl).symm
  have hh : (⟨(bs h).toArray⟩ : ByteArray) = h := (bs_inj (a := h) rfl).symm
  unfold PPOut at hg
  simp only [hm, hh] at hg
  exact hg

theorem props_ppAt {w : World} (h : PropsAt w) : PropsAt (World.ppAt w) :=
  h.below (((Below.refl _ _).alloc (Nat.le_refl _) _).alloc (by simp) _)

theorem fits_bool {p : Prop} {w w' : World} {e : Ending} (h : FitsEnd p w e w') : ∃ b : Bool, e = .returned (.bool b) ∧ Hid (Below w.heap.size w w') ∧ Hid (b = true → p) := by
  obtain ⟨hb, rfl | ⟨rfl, hp⟩⟩ := h
  · exact ⟨false, rfl, hb, fun h => by cases h⟩
  · exact ⟨true, rfl, hb, fun _ => hp⟩

set_option maxRecDepth 100000 in
set_option maxHeartbeats 3200000 in
theorem walk_written (m h : ByteArray) (sv : Value) (l : List Seg) (w : World) (hm : m.size ≤ 9223372036854775807) (hh : h.size ≤ 9223372036854775807) (hsv : SegsAt w sv l) (hsh : Short l) (hll : l.length ≤ 9223372036854775807) (hprops : PropsAt w) :
    Calls Tryd.prog 7 #[.agg #[.string m, .string h, sv]] w fun e w' => e = .returned (.bool true) ∧ Below w.heap.size w w' := by
  have HF : Hid (∀ o, Calls Tryd.prog 16 #[.agg #[.string m, .string h, sv]] (w.alloc o) (FitsEnd (FitsP m h l) (w.alloc o))) := fun o => zfOne m h sv l _ (hsv.keep ((Below.refl _ _).alloc (Nat.le_refl _) o)) hsh hll hm hh
  have HSV := Lib.hid hsv
  have HPR := Lib.hid hprops
  obtain ⟨A, cap, rfl, hl1, hl2⟩ := hsv
  clear hsh hprops hl1 hl2
  go_enter Tryd.func7, Tryd.ntmps7
  go_upto_if 8 with (go_at_call 16; refine (HF.out _).mono ?_; intro e w1 hfe; obtain ⟨b1, rfl, HB1, HP1⟩ := fits_bool hfe; clear hfe)
  have hsz1 : w.heap.size < w1.heap.size := by have := HB1.out.size; simp at this; omega
  have HBW1 : Hid (Below w.heap.size w w1) := ((Below.refl w.heap.size w).alloc (Nat.le_refl _) _).trans (HB1.out.mono (by simp))
  have hbl1 : w1.heap[w.heap.size]? = some (.cells #[.string m, .string h, .slice A l.length cap] 35 (0, 0)) := (HB1.out.block _ (by simp)).trans (new0 _ _)
  have c0 : w1.cell? ⟨w.heap.size, 0, none⟩ = some (.string m) := blk_cell hbl1 0
  have c1 : w1.cell? ⟨w.heap.size, 1, none⟩ = some (.string h) := blk_cell hbl1 1
  have c2 : w1.cell? ⟨w.heap.size, 2, none⟩ = some (.slice A l.length cap) := blk_cell hbl1 2
  clear hbl1
  cases b1
  · go_wp2_with fail
    go_ret
    exact ⟨rfl, HBW1.out⟩
  · obtain ⟨hm1, hh1, hl1, _⟩ := HP1.out rfl
    have HSV1 : Hid (SegsAt w1 (.slice A l.length cap) l) := HSV.out.keep HBW1.out
    have hfl : FitsL l := ⟨hl1, by assumption⟩
    have HFL := Lib.hid hfl
    clear hfl
    go_upto_if 13 with (first
      | (go_at_call 15; refine (conv_any m h _ l _ HSV1.out hl1).mono ?_; rintro e w2 ⟨xv, rfl, hown2, hb2⟩; obtain ⟨X, xc, rfl, _, _, _⟩ := own_form hown2; have HOWN2 := Lib.hid hown2; have HB2 := Lib.hid hb2; clear hown2 hb2)
      | (go_at_call 17; refine (good_any m h _ l _ ((SegsAt.of_own HOWN2.out).keep ((Below.refl _ _).alloc (Nat.le_refl _) _)) HFL.out hm1 hh1).mono ?_; intro e w3 hfe; obtain ⟨b3, rfl, HB3, HP3⟩ := fits_bool hfe; clear hfe))
    have HBW2 : Hid (Below w.heap.size w w2) := HBW1.out.trans (HB2.out.mono HBW1.out.size)
    have HBW3 : Hid (Below w.heap.size w w3) := (HBW2.out.alloc HBW2.out.size _).trans (HB3.out.mono (by have := HBW2.out.size; simp; omega))
    have hbl2 : w3.heap[w2.heap.size]? = some (.cells #[.string m, .string h, .slice X l.length xc] 30 (0, 0)) := (HB3.out.block _ (by simp)).trans (new0 _ _)
    have d0 : w3.cell? ⟨w2.heap.size, 0, none⟩ = some (.string m) := blk_cell hbl2 0
    have d1 : w3.cell? ⟨w2.heap.size, 1, none⟩ = some (.string h) := blk_cell hbl2 1
    have d2 : w3.cell? ⟨w2.heap.size, 2, none⟩ = some (.slice X l.length xc) := blk_cell hbl2 2
    cases b3
    · go_wp2_with fail
      go_ret
      exact ⟨rfl, HBW3.out⟩
    · have G : GoodP (bs m) (bs h) l := HP3.out rfl
      have HG := Lib.hid G
      have hl3 := blk_lt hbl2
      have HSX : Hid (SegsAt w3 (.slice X l.length xc) l) := (SegsAt.of_own HOWN2.out).keep (((Below.refl _ _).alloc (Nat.le_refl _) _).trans (HB3.out.mono (by simp)))
      have HBL2 := Lib.hid hbl2
      clear hbl2 G c0 c1 c2
      go_upto_region 7 with (first
        | (go_at_call 18; refine (write_any m h _ l _ HSX.out (by omega) (by omega) HG.out.six (fun g hg => by obtain ⟨i, hi⟩ := List.mem_iff_getElem?.1 hg; exact (HG.out.seg i g hi).1)).mono ?_; rintro e w4 ⟨rfl, hb4⟩; have HB4 := Lib.hid hb4; clear hb4)
        | (go_at_call 13; refine (implParse_good _ m h l _ (by have := HG.out.six; omega) (pp_written m h l _ HG.out (props_ppAt (HPR.out.below (HBW3.out.trans (HB4.out.mono HBW3.out.size)))))).mono ?_; rintro e w5 ⟨gv, rfl, hgv, hb5⟩; obtain ⟨Y, yc, rfl, hyl, hyf⟩ := hgv; have HGV : Hid (SegsAt w5 (.slice Y l.length yc) l) := ⟨Y, yc, rfl, hyl, hyf⟩; clear hyf; have HB5 := Lib.hid hb5; clear hb5))
      have HBW5 : Hid (Below w.heap.size w (w5.alloc (.cells #[.string m, .string h, .slice Y l.length yc] 35))) := (((HBW3.out.trans (HB4.out.mono HBW3.out.size)).trans (HB5.out.mono (by have := HB4.out.size; have := HBW3.out.size; omega))).alloc (by have := HB5.out.size; have := HB4.out.size; have := HBW3.out.size; omega) _)
      have HB35 : Hid (Below w3.heap.size w3 (w5.alloc (.cells #[.string m, .string h, .slice Y l.length yc] 35))) := (HB4.out.trans (HB5.out.mono HB4.out.size)).alloc (by have := HB5.out.size; have := HB4.out.size; omega) _
      have k0 := (HB35.out.cell (p := ⟨w2.heap.size, 0, none⟩) hl3).trans d0
      have k1 := (HB35.out.cell (p := ⟨w2.heap.size, 1, none⟩) hl3).trans d1
      have k2 := (HB35.out.cell (p := ⟨w2.heap.size, 2, none⟩) hl3).trans d2
      have HSX5 : Hid (SegsAt (w5.alloc (.cells #[.string m, .string h, .slice Y l.length yc] 35)) (.slice X l.length xc) l) := HSX.out.keep HB35.out
      have HSY5 : Hid (SegsAt (w5.alloc (.cells #[.string m, .string h, .slice Y l.length yc] 35)) (.slice Y l.length yc) l) := HGV.out.keep ((Below.refl _ _).alloc (Nat.le_refl _) _)
      have hsz5 : w2.heap.size < w5.heap.size := by have := HB5.out.size; have := HB4.out.size; omega
      have n0 := blk_cell (new0 w5 (.cells #[.string m, .string h, .slice Y l.length yc] 35)) 0
      have n1 := blk_cell (new0 w5 (.cells #[.string m, .string h, .slice Y l.length yc] 35)) 1
      have n2 := blk_cell (new0 w5 (.cells #[.string m, .string h, .slice Y l.length yc] 35)) 2
      have hlw : w5.heap.size < (w5.alloc (.cells #[.string m, .string h, .slice Y l.length yc] 35)).heap.size := by simp
      clear d0 d1 d2 HB35
      obtain ⟨w6, hw6⟩ : ∃ w6, w6 = w5.alloc (.cells #[.string m, .string h, .slice Y l.length yc] 35) := ⟨_, rfl⟩
      rw [← hw6] at HBW5 k0 k1 k2 HSX5 HSY5 n0 n1 n2 hlw
      rw [← hw6]
      clear hw6
      have q0 : w6.drew.cell? ⟨w5.heap.size, 0, none⟩ = some (.string m) := n0
      have q1 : w6.drew.cell? ⟨w5.heap.size, 1, none⟩ = some (.string h) := n1
      have q2 : w6.drew.cell? ⟨w5.heap.size, 2, none⟩ = some (.slice Y l.length yc) := n2
      have q3 : w6.drew.cell? ⟨w2.heap.size, 0, none⟩ = some (.string m) := k0
      have q4 : w6.drew.cell? ⟨w2.heap.size, 1, none⟩ = some (.string h) := k1
      have q5 : w6.drew.cell? ⟨w2.heap.size, 2, none⟩ = some (.slice X l.length xc) := k2
      have HD : Hid (Below w6.heap.size w6 w6.drew) := below_drew3 (Below.refl _ _) 1
      have HSXd : Hid (SegsAt w6.drew (.slice X l.length xc) l) := HSX5.out.keep HD.out
      have HSYd : Hid (SegsAt w6.drew (.slice Y l.length yc) l) := HSY5.out.keep HD.out
      have HBWd : Hid (Below w.heap.size w w6.drew) := HBW5.out.trans (HD.out.mono HBW5.out.size)
      have hlwd : w5.heap.size < w6.drew.heap.size := hlw
      clear n0 n1 n2 k0 k1 k2 HSX5 HSY5 hlw
      go_region_held3 (fun w' => w'.cell? ⟨w5.heap.size, 0, none⟩ = some (.string m) ∧ w'.cell? ⟨w5.heap.size, 1, none⟩ = some (.string h) ∧ w'.cell? ⟨w5.heap.size, 2, none⟩ = some (.slice Y l.length yc) ∧
          w'.cell? ⟨w2.heap.size, 0, none⟩ = some (.string m) ∧ w'.cell? ⟨w2.heap.size, 1, none⟩ = some (.string h) ∧ w'.cell? ⟨w2.heap.size, 2, none⟩ = some (.slice X l.length xc))
        (first | exact ⟨q0, q1, q2, q3, q4, q5⟩ | exact ⟨r0, r1, r2, r3, r4, r5⟩ | exact ⟨p0, p1, p2, p3, p4, p5⟩)
        (first
          | (go_at_call 15; refine (conv_any m h _ l _ HSYd.out hl1).mono ?_; rintro e w7 ⟨zv, rfl, hown7, hb7⟩; obtain ⟨Z, zc, rfl, _, _, _⟩ := own_form hown7; have r0 := (hb7.cell (p := ⟨w5.heap.size, 0, none⟩) hlwd).trans q0; have r1 := (hb7.cell (p := ⟨w5.heap.size, 1, none⟩) hlwd).trans q1; have r2 := (hb7.cell (p := ⟨w5.heap.size, 2, none⟩) hlwd).trans q2; have r3 := (hb7.cell (p := ⟨w2.heap.size, 0, none⟩) (Nat.lt_trans hsz5 hlwd)).trans q3; have r4 := (hb7.cell (p := ⟨w2.heap.size, 1, none⟩) (Nat.lt_trans hsz5 hlwd)).trans q4; have r5 := (hb7.cell (p := ⟨w2.heap.size, 2, none⟩) (Nat.lt_trans hsz5 hlwd)).trans q5; have HOWN7 := Lib.hid hown7; have HB7 := Lib.hid hb7; clear hown7 hb7)
          | (go_at_call 14; refine (same_true m h _ _ l _ (SegsAt.of_own HOWN7.out) (HSXd.out.keep HB7.out) hl1).mono ?_; rintro e w8 ⟨rfl, hb8⟩; have hl7 := Nat.lt_of_lt_of_le hlwd HB7.out.size; have p0 := (hb8.cell (p := ⟨w5.heap.size, 0, none⟩) hl7).trans r0; have p1 := (hb8.cell (p := ⟨w5.heap.size, 1, none⟩) hl7).trans r1; have p2 := (hb8.cell (p := ⟨w5.heap.size, 2, none⟩) hl7).trans r2; have p3 := (hb8.cell (p := ⟨w2.heap.size, 0, none⟩) (Nat.lt_trans hsz5 hl7)).trans r3; have p4 := (hb8.cell (p := ⟨w2.heap.size, 1, none⟩) (Nat.lt_trans hsz5 hl7)).trans r4; have p5 := (hb8.cell (p := ⟨w2.heap.size, 2, none⟩) (Nat.lt_trans hsz5 hl7)).trans r5; have HB8 := Lib.hid hb8; clear hb8))
      all_goals
        go_wp2_with fail
        go_ret
        exact ⟨rfl, (HBWd.out.trans (HB7.out.mono HBWd.out.size)).trans (HB8.out.mono (by have := HB7.out.size; have := HBWd.out.size; omega))⟩
end Go.Proofs.YtodmlommidifjaaDoor
