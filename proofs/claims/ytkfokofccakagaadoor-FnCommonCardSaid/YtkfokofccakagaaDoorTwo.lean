/-
  Proved: laws.two copies two patterns, and answers true only if both are good. Condition: the patterns can be read and fit.
-/
import Derived.Test.YtkfokofccakagaaDoorSpecPaths
import Derived.Test.YtkfokofccakagaaDoorLawCmp
import Derived.Test.YtkfokofccakagaaDoorOpen
import Derived.Test.YtkfokofccakagaaDoorTwoLaw
namespace Go.Proofs.YtkfokofccakagaaDoor
open Go.RowKit

/-- What laws.two answers. -/
def TwoEnd (m1 h1 m2 h2 : ByteArray) (l1 l2 : List Seg) (w : World) (e : Ending) (w' : World) : Prop :=
  ∃ (X Y : Option Addr) (xc yc : Nat) (b : Bool), e = .returned (.tuple #[.agg #[.string m1, .string h1, .slice X l1.length xc], .agg #[.string m2, .string h2, .slice Y l2.length yc], .bool b]) ∧
    SegsAt w' (.slice X l1.length xc) l1 ∧ SegsAt w' (.slice Y l2.length yc) l2 ∧ (b = true → GoodP (bs m1) (bs h1) l1 ∧ GoodP (bs m2) (bs h2) l2) ∧ Below w.heap.size w w'

set_option maxRecDepth 100000 in
set_option maxHeartbeats 3200000 in
theorem two_any (m1 m2 h1 h2 : ByteArray) (v1 v2 : Value) (l1 l2 : List Seg) (w : World) (H1 : SegsAt w v1 l1) (H2 : SegsAt w v2 l2) (F1 : FitsP m1 h1 l1) (F2 : FitsP m2 h2 l2) :
    Calls Tryd.prog 14 #[.agg #[.string m1, .string h1, v1], .agg #[.string m2, .string h2, v2]] w (TwoEnd m1 h1 m2 h2 l1 l2 w) := by
  have HX1 : Hid (∀ W, Below w.heap.size w W → Calls Tryd.prog 31 #[.agg #[.string m1, .string h1, v1]] W fun e w' => ∃ sv', e = .returned (.agg #[.string m1, .string h1, sv']) ∧ w'.ownsRow W.heap.size 60 3 sv' l1.length (segCells l1) ∧ Below W.heap.size W w') := fun W hb => conv_any m1 h1 v1 l1 W (H1.keep hb) F1.2.2.1
  have HX2 : Hid (∀ W, Below w.heap.size w W → Calls Tryd.prog 31 #[.agg #[.string m2, .string h2, v2]] W fun e w' => ∃ sv', e = .returned (.agg #[.string m2, .string h2, sv']) ∧ w'.ownsRow W.heap.size 60 3 sv' l2.length (segCells l2) ∧ Below W.heap.size W w') := fun W hb => conv_any m2 h2 v2 l2 W (H2.keep hb) F2.2.2.1
  obtain ⟨A1, c1, rfl, _, _⟩ := H1
  obtain ⟨A2, c2, rfl, _, _⟩ := H2
  go_enter Tryd.func14, Tryd.ntmps14
  go_upto_region 1 with fail
  have hb1 := blk_alloc (blk_alloc (blk_alloc (new0 w (.cells #[.string m1, .string h1, .slice A1 l1.length c1] 24)) (.cells #[.string m2, .string h2, .slice A2 l2.length c2] 24)) (.cells #[.string ⟨#[]⟩, .string ⟨#[]⟩, .slice none 0 0] 28)) (.cells #[.string ⟨#[]⟩, .string ⟨#[]⟩, .slice none 0 0] 28)
  have hb2 := blk_alloc (blk_alloc (new1 w (.cells #[.string m1, .string h1, .slice A1 l1.length c1] 24) (.cells #[.string m2, .string h2, .slice A2 l2.length c2] 24)) (.cells #[.string ⟨#[]⟩, .string ⟨#[]⟩, .slice none 0 0] 28)) (.cells #[.string ⟨#[]⟩, .string ⟨#[]⟩, .slice none 0 0] 28)
  have hb3 := blk_alloc (new2 w (.cells #[.string m1, .string h1, .slice A1 l1.length c1] 24) (.cells #[.string m2, .string h2, .slice A2 l2.length c2] 24) (.cells #[.string ⟨#[]⟩, .string ⟨#[]⟩, .slice none 0 0] 28)) (.cells #[.string ⟨#[]⟩, .string ⟨#[]⟩, .slice none 0 0] 28)
  have hb4 : (((((w.alloc (.cells #[.string m1, .string h1, .slice A1 l1.length c1] 24)).alloc (.cells #[.string m2, .string h2, .slice A2 l2.length c2] 24)).alloc (.cells #[.string ⟨#[]⟩, .string ⟨#[]⟩, .slice none 0 0] 28)).alloc (.cells #[.string ⟨#[]⟩, .string ⟨#[]⟩, .slice none 0 0] 28))).heap[w.heap.size + 1 + 1 + 1]? = some (.cells zeroPat 28 (0, 0)) := by have h := heap_alloc_new (((w.alloc (.cells #[.string m1, .string h1, .slice A1 l1.length c1] 24)).alloc (.cells #[.string m2, .string h2, .slice A2 l2.length c2] 24)).alloc (.cells #[.string ⟨#[]⟩, .string ⟨#[]⟩, .slice none 0 0] 28)) (.cells #[.string ⟨#[]⟩, .string ⟨#[]⟩, .slice none 0 0] 28); simpa [zeroPat] using h
  have HBW : Hid (Below w.heap.size w ((((w.alloc (.cells #[.string m1, .string h1, .slice A1 l1.length c1] 24)).alloc (.cells #[.string m2, .string h2, .slice A2 l2.length c2] 24)).alloc (.cells #[.string ⟨#[]⟩, .string ⟨#[]⟩, .slice none 0 0] 28)).alloc (.cells #[.string ⟨#[]⟩, .string ⟨#[]⟩, .slice none 0 0] 28))) := ((((Below.refl _ _).alloc (Nat.le_refl _) _).alloc (by simp) _).alloc (by simp; omega) _).alloc (by simp; omega) _
  obtain ⟨W0, hW0⟩ : ∃ W0, W0 = ((((w.alloc (.cells #[.string m1, .string h1, .slice A1 l1.length c1] 24)).alloc (.cells #[.string m2, .string h2, .slice A2 l2.length c2] 24)).alloc (.cells #[.string ⟨#[]⟩, .string ⟨#[]⟩, .slice none 0 0] 28)).alloc (.cells #[.string ⟨#[]⟩, .string ⟨#[]⟩, .slice none 0 0] 28)) := ⟨_, rfl⟩
  rw [← hW0] at hb1 hb2 hb3 hb4 HBW ⊢
  have HS : Hid (∀ w' : World, Below W0.heap.size W0 w' → w'.cell? ⟨w.heap.size, 0, none⟩ = some (.string m1) ∧ w'.cell? ⟨w.heap.size, 1, none⟩ = some (.string h1) ∧ w'.cell? ⟨w.heap.size, 2, none⟩ = some (.slice A1 l1.length c1) ∧ w'.cell? ⟨w.heap.size + 1, 0, none⟩ = some (.string m2) ∧ w'.cell? ⟨w.heap.size + 1, 1, none⟩ = some (.string h2) ∧ w'.cell? ⟨w.heap.size + 1, 2, none⟩ = some (.slice A2 l2.length c2)) := fun w' hb =>
    ⟨blk_cell (blk_below hb1 hb) 0, blk_cell (blk_below hb1 hb) 1, blk_cell (blk_below hb1 hb) 2, blk_cell (blk_below hb2 hb) 0, blk_cell (blk_below hb2 hb) 1, blk_cell (blk_below hb2 hb) 2⟩
  have HU : Hid (∀ w', Below W0.heap.size W0 w' → Below w.heap.size w w') := fun w' hb => HBW.out.trans (hb.mono HBW.out.size)
  have HB1 := Lib.hid hb1
  have HB2 := Lib.hid hb2
  have HB3 := Lib.hid hb3
  have HB4 := Lib.hid hb4
  have HY1 : Hid (∀ W, Below W0.heap.size W0 W → Calls Tryd.prog 31 #[.agg #[.string m1, .string h1, .slice A1 l1.length c1]] W fun e w' => ∃ X xc, e = .returned (.agg #[.string m1, .string h1, .slice X l1.length xc]) ∧ Hid (RowOK W0.heap.size w' X xc l1) ∧ Hid (∀ g, X = some ⟨g, 0, none⟩ → W.heap.size ≤ g) ∧ Hid (Below W.heap.size W w')) := fun W hb => (HX1.out W (HU.out W hb)).mono fun e w' ⟨x, y, z, t⟩ => by
    obtain ⟨X, xc, rfl, hr, hg⟩ := own_row z
    exact ⟨X, xc, y, hr.mono hb.size, hg, t⟩
  have HY2 : Hid (∀ W, Below W0.heap.size W0 W → Calls Tryd.prog 31 #[.agg #[.string m2, .string h2, .slice A2 l2.length c2]] W fun e w' => ∃ X xc, e = .returned (.agg #[.string m2, .string h2, .slice X l2.length xc]) ∧ Hid (RowOK W0.heap.size w' X xc l2) ∧ Hid (∀ g, X = some ⟨g, 0, none⟩ → W.heap.size ≤ g) ∧ Hid (Below W.heap.size W w')) := fun W hb => (HX2.out W (HU.out W hb)).mono fun e w' ⟨x, y, z, t⟩ => by
    obtain ⟨X, xc, rfl, hr, hg⟩ := own_row z
    exact ⟨X, xc, y, hr.mono hb.size, hg, t⟩
  have hd0 : Below W0.heap.size W0 W0.drew := below_drew3 (Below.refl _ _) 1
  clear HX1 HX2 hW0 hb1 hb2 hb3 hb4
  go_cut [7, 8] (fun v7 v8 wx => ∃ (p q : Nat) (X Y : Option Addr) (xc yc : Nat), v7 = .pointer (some ⟨p, 0, none⟩) ∧ v8 = .pointer (some ⟨q, 0, none⟩) ∧ Lanes W0 wx m1 h1 m2 h2 l1 l2 true true true true true true X xc p Y yc q)
  case first =>
    refine wp_region_inv (by kernel_rfl) (fun l a w' => ∃ (f0 f1 f2 f3 f4 f5 f6 f7 : Bool) (X Y : Option Addr) (xc yc p q : Nat), l = #[f0, f1, f2, f3, f4, f5, f6, f7] ∧
      a = ⟨#[.agg #[.string m1, .string h1, .slice A1 l1.length c1], .agg #[.string m2, .string h2, .slice A2 l2.length c2], .pointer (some ⟨w.heap.size, 0, none⟩), .pointer (some ⟨w.heap.size + 1, 0, none⟩), .pointer (some ⟨w.heap.size + 1 + 1, 0, none⟩), .pointer (some ⟨w.heap.size + 1 + 1 + 1, 0, none⟩), .bool false,
        (slotV f4 (.pointer (some ⟨p, 0, none⟩))), (slotV f5 (.pointer (some ⟨q, 0, none⟩))), (slotV f0 (.agg #[.string m1, .string h1, .slice A1 l1.length c1])), (slotV f1 (.agg #[.string m1, .string h1, .slice X l1.length xc])),
        (slotV f2 (.agg #[.string m2, .string h2, .slice A2 l2.length c2])), (slotV f3 (.agg #[.string m2, .string h2, .slice Y l2.length yc])), undef, undef, undef, undef, undef, undef, undef, undef], []⟩ ∧ Lanes W0 w' m1 h1 m2 h2 l1 l2 f1 f4 f6 f3 f5 f7 X xc p Y yc q) (by kernel_rfl) ?_ ?_ ?_ ?_
    · rintro l a w' ⟨f0, f1, f2, f3, f4, f5, f6, f7, X, Y, xc, yc, p, q, rfl, _⟩
      rfl
    · rintro l a w' i K ⟨f0, f1, f2, f3, f4, f5, f6, f7, X, Y, xc, yc, p, q, rfl, rfl, HL⟩ hi hf hd hK
      have hi8 : i < 8 := hi
      obtain ⟨x0, x1, x2, x3, x4, x5⟩ := HS.out _ HL.bel
      have HK := Lib.hid hK
      clear hi hK
      match i, hi8 with
      | 0, _ =>
        obtain rfl : f0 = false := hf
        clear hd
        refine wpOp_step rfl (fun K' hK' => ?_)
        have HKK : Hid (∀ a w, K a w → K' a w) := hK'
        clear hK'
        go_simp
        exact HKK.out _ _ (HK.out _ _ ⟨true, f1, f2, f3, f4, f5, f6, f7, X, Y, xc, yc, p, q, rfl, rfl, HL⟩)
      | 1, _ =>
        obtain rfl : f1 = false := hf
        have h0 : f0 = true := by cases f0 <;> simp [depB, Region.binds] at hd ⊢
        subst h0
        clear hd
        refine wpOp_step rfl (fun K' hK' => ?_)
        have HKK : Hid (∀ a w, K a w → K' a w) := hK'
        clear hK'
        simp only [slotV_true]
        go_simp
        go_wp2_with (go_at_call 31; (with_reducible refine (HY1.out _ HL.bel).mono ?_); rintro e wx ⟨X', xc', rfl, HR, HG, HBB⟩)
        exact HKK.out _ _ (HK.out _ _ ⟨true, true, f2, f3, f4, f5, f6, f7, X', Y, xc', yc, p, q, rfl, rfl, HL.copied HBB.out HR.out HG.out⟩)
      | 2, _ =>
        obtain rfl : f2 = false := hf
        clear hd
        refine wpOp_step rfl (fun K' hK' => ?_)
        have HKK : Hid (∀ a w, K a w → K' a w) := hK'
        clear hK'
        go_simp
        exact HKK.out _ _ (HK.out _ _ ⟨f0, f1, true, f3, f4, f5, f6, f7, X, Y, xc, yc, p, q, rfl, rfl, HL⟩)
      | 3, _ =>
        obtain rfl : f3 = false := hf
        have h2 : f2 = true := by cases f2 <;> simp [depB, Region.binds] at hd ⊢
        subst h2
        clear hd
        refine wpOp_step rfl (fun K' hK' => ?_)
        have HKK : Hid (∀ a w, K a w → K' a w) := hK'
        clear hK'
        simp only [slotV_true]
        go_simp
        go_wp2_with (go_at_call 31; (with_reducible refine (HY2.out _ HL.bel).mono ?_); rintro e wx ⟨X', xc', rfl, HR, HG, HBB⟩)
        exact HKK.out _ _ (HK.out _ _ ⟨f0, f1, true, true, f4, f5, f6, f7, X, X', xc, xc', p, q, rfl, rfl, (HL.swap.copied HBB.out HR.out HG.out).swap⟩)
      | 4, _ =>
        obtain rfl : f4 = false := hf
        clear hd
        refine wpOp_step rfl (fun K' hK' => ?_)
        have HKK : Hid (∀ a w, K a w → K' a w) := hK'
        clear hK'
        go_simp
        exact HKK.out _ _ (HK.out _ _ ⟨f0, f1, f2, f3, true, f5, f6, f7, X, Y, xc, yc, w'.heap.size, q, rfl, rfl, HL.made⟩)
      | 5, _ =>
        obtain rfl : f5 = false := hf
        clear hd
        refine wpOp_step rfl (fun K' hK' => ?_)
        have HKK : Hid (∀ a w, K a w → K' a w) := hK'
        clear hK'
        go_simp
        exact HKK.out _ _ (HK.out _ _ ⟨f0, f1, f2, f3, f4, true, f6, f7, X, Y, xc, yc, p, w'.heap.size, rfl, rfl, HL.swap.made.swap⟩)
      | 6, _ =>
        obtain rfl : f6 = false := hf
        have h4 : f4 = true := by cases f4 <;> simp [depB, Region.binds] at hd ⊢
        subst h4
        have h1 : f1 = true := by cases f1 <;> simp [depB, Region.binds] at hd ⊢
        subst h1
        obtain ⟨hp1, hp2⟩ := HL.one.blk rfl
        have p0 : w'.cell? ⟨p, 0, none⟩ = some (.string ⟨#[]⟩) := blk_cell hp2 0
        have p1 : w'.cell? ⟨p, 1, none⟩ = some (.string ⟨#[]⟩) := blk_cell hp2 1
        have p2 : w'.cell? ⟨p, 2, none⟩ = some (.slice none 0 0) := blk_cell hp2 2
        have r0 := blk_free hp2 0
        have r1 := blk_free hp2 1
        have r2 := blk_free hp2 2
        clear hd
        refine wpOp_step rfl (fun K' hK' => ?_)
        have HKK : Hid (∀ a w, K a w → K' a w) := hK'
        clear hK'
        simp only [slotV_true]
        go_simp
        exact HKK.out _ _ (HK.out _ _ ⟨f0, true, f2, f3, true, f5, true, f7, X, Y, xc, yc, p, q, rfl, rfl, HL.stored⟩)
      | 7, _ =>
        obtain rfl : f7 = false := hf
        have h5 : f5 = true := by cases f5 <;> simp [depB, Region.binds] at hd ⊢
        subst h5
        have h3 : f3 = true := by cases f3 <;> simp [depB, Region.binds] at hd ⊢
        subst h3
        obtain ⟨hp1, hp2⟩ := HL.two.blk rfl
        have p0 : w'.cell? ⟨q, 0, none⟩ = some (.string ⟨#[]⟩) := blk_cell hp2 0
        have p1 : w'.cell? ⟨q, 1, none⟩ = some (.string ⟨#[]⟩) := blk_cell hp2 1
        have p2 : w'.cell? ⟨q, 2, none⟩ = some (.slice none 0 0) := blk_cell hp2 2
        have r0 := blk_free hp2 0
        have r1 := blk_free hp2 1
        have r2 := blk_free hp2 2
        clear hd
        refine wpOp_step rfl (fun K' hK' => ?_)
        have HKK : Hid (∀ a w, K a w → K' a w) := hK'
        clear hK'
        simp only [slotV_true]
        go_simp
        exact HKK.out _ _ (HK.out _ _ ⟨f0, f1, f2, true, f4, true, f6, true, X, Y, xc, yc, p, q, rfl, rfl, HL.swap.stored.swap⟩)
    · rintro l a w' ⟨f0, f1, f2, f3, f4, f5, f6, f7, X, Y, xc, yc, p, q, rfl, rfl, HL⟩ hall
      obtain rfl : f0 = true := hall 0
      obtain rfl : f1 = true := hall 1
      obtain rfl : f2 = true := hall 2
      obtain rfl : f3 = true := hall 3
      obtain rfl : f4 = true := hall 4
      obtain rfl : f5 = true := hall 5
      obtain rfl : f6 = true := hall 6
      obtain rfl : f7 = true := hall 7
      simp only [slotV_true]
      go_wp2_with fail
      go_meet
      exact ⟨p, q, X, Y, xc, yc, rfl, rfl, HL⟩
    · exact ⟨false, false, false, false, false, false, false, false, none, none, 0, 0, 0, 0, rfl, rfl, ⟨⟨(fun h => by cases h), (fun h => by cases h), (fun h => by cases h), (fun h => by cases h)⟩, ⟨(fun h => by cases h), (fun h => by cases h), (fun h => by cases h), (fun h => by cases h)⟩, (fun h => by cases h), (fun h => by cases h), (fun h => by cases h), hd0⟩⟩
  case rest =>
    obtain ⟨p, q, X, Y, xc, yc, rfl, rfl, HL⟩ := hcut
    obtain ⟨wb, rfl⟩ : ∃ wb : World, wb = wc := ⟨_, rfl⟩
    go_upto_region 2 with fail
    have HL0 := Lib.hid HL
    have hF1 := Lib.hid F1
    have hF2 := Lib.hid F2
    clear HL F1 F2 HY1 HY2 hd0
    refine wp_region_inv (by kernel_rfl) (fun l a w' => ∃ (f0 f1 f2 f3 f4 f5 f6 f7 f8 f9 f10 b1 b2 : Bool), l = #[f0, f1, f2, f3, f4, f5, f6, f7, f8, f9, f10] ∧
      a = ⟨#[.agg #[.string m1, .string h1, .slice A1 l1.length c1], .agg #[.string m2, .string h2, .slice A2 l2.length c2], .pointer (some ⟨w.heap.size, 0, none⟩), .pointer (some ⟨w.heap.size + 1, 0, none⟩), .pointer (some ⟨w.heap.size + 1 + 1, 0, none⟩), .pointer (some ⟨w.heap.size + 1 + 1 + 1, 0, none⟩),
        slotU f10 (.bool (b1 && b2)) (.bool false), .pointer (some ⟨p, 0, none⟩), .pointer (some ⟨q, 0, none⟩), u9, u10, u11, u12, slotU f0 (.agg #[.string m1, .string h1, .slice X l1.length xc]) u13, slotU f1 (.agg #[.string m2, .string h2, .slice Y l2.length yc]) u14, slotU f2 (.agg #[.string m1, .string h1, .slice X l1.length xc]) u15,
        slotU f3 (.bool b1) u16, slotU f4 (.bool b1) u17, slotU f5 (slotV b1 (.agg #[.string m2, .string h2, .slice Y l2.length yc])) u18, slotU f6 (slotV b1 (.bool b2)) u19, slotU f7 (.bool (b1 && b2)) u20], []⟩ ∧ Half w m1 h1 m2 h2 l1 l2 W0 X xc p Y yc q (w.heap.size + 1 + 1) (w.heap.size + 1 + 1 + 1) f8 f9 w' ∧ Hid (f3 = true → b1 = true → GoodP (bs m1) (bs h1) l1) ∧ Hid (f6 = true → b1 = true → b2 = true → GoodP (bs m2) (bs h2) l2) ∧ Hid ((f4 = true → f3 = true) ∧ (f5 = true → f4 = true) ∧ (f6 = true → f5 = true) ∧ (f7 = true → f6 = true) ∧ (f10 = true → f7 = true))) (by kernel_rfl) ?_ ?_ ?_ ?_
    · rintro l a w' ⟨f0, f1, f2, f3, f4, f5, f6, f7, f8, f9, f10, b1, b2, rfl, _⟩
      rfl
    · rintro l a w' i K ⟨f0, f1, f2, f3, f4, f5, f6, f7, f8, f9, f10, b1, b2, rfl, rfl, HH, HG1, HG2, HDP⟩ hi hf hd hK
      have hi8 : i < 11 := hi
      have HK := Lib.hid hK
      clear hi hK
      match i, hi8 with
      | 0, _ =>
        obtain rfl : f0 = false := hf
        clear hd
        refine wpOp_step rfl (fun K' hK' => ?_)
        have HKK : Hid (∀ a w, K a w → K' a w) := hK'
        clear hK'
        have x0 : w'.cell? ⟨p, 0, none⟩ = some (.string m1) := blk_cell HH.hp 0
        have x1 : w'.cell? ⟨p, 1, none⟩ = some (.string h1) := blk_cell HH.hp 1
        have x2 : w'.cell? ⟨p, 2, none⟩ = some (.slice X l1.length xc) := blk_cell HH.hp 2
        go_simp
        exact HKK.out _ _ (HK.out _ _ ⟨true, f1, f2, f3, f4, f5, f6, f7, f8, f9, f10, b1, b2, rfl, rfl, HH, HG1, HG2, HDP⟩)
      | 1, _ =>
        obtain rfl : f1 = false := hf
        clear hd
        refine wpOp_step rfl (fun K' hK' => ?_)
        have HKK : Hid (∀ a w, K a w → K' a w) := hK'
        clear hK'
        have x0 : w'.cell? ⟨q, 0, none⟩ = some (.string m2) := blk_cell HH.hq 0
        have x1 : w'.cell? ⟨q, 1, none⟩ = some (.string h2) := blk_cell HH.hq 1
        have x2 : w'.cell? ⟨q, 2, none⟩ = some (.slice Y l2.length yc) := blk_cell HH.hq 2
        go_simp
        exact HKK.out _ _ (HK.out _ _ ⟨f0, true, f2, f3, f4, f5, f6, f7, f8, f9, f10, b1, b2, rfl, rfl, HH, HG1, HG2, HDP⟩)
      | 2, _ =>
        obtain rfl : f2 = false := hf
        clear hd
        refine wpOp_step rfl (fun K' hK' => ?_)
        have HKK : Hid (∀ a w, K a w → K' a w) := hK'
        clear hK'
        have x0 : w'.cell? ⟨p, 0, none⟩ = some (.string m1) := blk_cell HH.hp 0
        have x1 : w'.cell? ⟨p, 1, none⟩ = some (.string h1) := blk_cell HH.hp 1
        have x2 : w'.cell? ⟨p, 2, none⟩ = some (.slice X l1.length xc) := blk_cell HH.hp 2
        go_simp
        exact HKK.out _ _ (HK.out _ _ ⟨f0, f1, true, f3, f4, f5, f6, f7, f8, f9, f10, b1, b2, rfl, rfl, HH, HG1, HG2, HDP⟩)
      | 3, _ =>
        obtain rfl : f3 = false := hf
        have h2 : f2 = true := by cases f2 <;> simp [depB, Region.binds] at hd ⊢
        subst h2
        obtain rfl : f4 = false := by cases f4 <;> first | rfl | exact absurd (HDP.out.1 rfl) (by simp)
        obtain rfl : f5 = false := by cases f5 <;> first | rfl | exact absurd (HDP.out.2.1 rfl) (by simp)
        obtain rfl : f6 = false := by cases f6 <;> first | rfl | exact absurd (HDP.out.2.2.1 rfl) (by simp)
        obtain rfl : f7 = false := by cases f7 <;> first | rfl | exact absurd (HDP.out.2.2.2.1 rfl) (by simp)
        obtain rfl : f10 = false := by cases f10 <;> first | rfl | exact absurd (HDP.out.2.2.2.2 rfl) (by simp)
        clear hd
        refine wpOp_step rfl (fun K' hK' => ?_)
        have HKK : Hid (∀ a w, K a w → K' a w) := hK'
        clear hK'
        simp only [slotU_true]
        go_simp
        go_wp2_with (go_at_call 32; refine (good_any m1 h1 _ l1 _ HH.rowX.1 hF1.out.2.2 hF1.out.1 hF1.out.2.1).mono ?_; intro e wx hfe; obtain ⟨b, rfl, HBB, HPP⟩ := fits_bool hfe; clear hfe)
        exact HKK.out _ _ (HK.out _ _ ⟨f0, f1, true, true, false, false, false, false, f8, f9, false, b, b2, rfl, rfl, HH.keep HBB.out, fun _ hb => HPP.out hb, (fun h => by cases h), ⟨(fun h => by cases h), (fun h => by cases h), (fun h => by cases h), (fun h => by cases h), (fun h => by cases h)⟩⟩)
      | 4, _ =>
        obtain rfl : f4 = false := hf
        have h3 : f3 = true := by cases f3 <;> simp [depB, Region.binds] at hd ⊢
        subst h3
        clear hd
        refine wpOp_step rfl (fun K' hK' => ?_)
        have HKK : Hid (∀ a w, K a w → K' a w) := hK'
        clear hK'
        simp only [slotU_true]
        go_simp
        exact HKK.out _ _ (HK.out _ _ ⟨f0, f1, f2, true, true, f5, f6, f7, f8, f9, f10, b1, b2, rfl, rfl, HH, HG1, HG2, ⟨fun _ => rfl, fun _ => rfl, HDP.out.2.2⟩⟩)
      | 5, _ =>
        obtain rfl : f5 = false := hf
        have h4 : f4 = true := by cases f4 <;> simp [depB, Region.binds] at hd ⊢
        subst h4
        clear hd
        refine wpOp_step rfl (fun K' hK' => ?_)
        have HKK : Hid (∀ a w, K a w → K' a w) := hK'
        clear hK'
        have x0 : w'.cell? ⟨q, 0, none⟩ = some (.string m2) := blk_cell HH.hq 0
        have x1 : w'.cell? ⟨q, 1, none⟩ = some (.string h2) := blk_cell HH.hq 1
        have x2 : w'.cell? ⟨q, 2, none⟩ = some (.slice Y l2.length yc) := blk_cell HH.hq 2
        simp only [slotU_true]
        cases b1
        · go_simp
          exact HKK.out _ _ (HK.out _ _ ⟨f0, f1, f2, f3, true, true, f6, f7, f8, f9, f10, false, b2, rfl, rfl, HH, HG1, HG2, ⟨HDP.out.1, fun _ => rfl, fun _ => rfl, HDP.out.2.2.2⟩⟩)
        · go_simp
          exact HKK.out _ _ (HK.out _ _ ⟨f0, f1, f2, f3, true, true, f6, f7, f8, f9, f10, true, b2, rfl, rfl, HH, HG1, HG2, ⟨HDP.out.1, fun _ => rfl, fun _ => rfl, HDP.out.2.2.2⟩⟩)
      | 6, _ =>
        obtain rfl : f6 = false := hf
        have h5 : f5 = true := by cases f5 <;> simp [depB, Region.binds] at hd ⊢
        subst h5
        have h4 : f4 = true := by cases f4 <;> simp [depB, Region.binds] at hd ⊢
        subst h4
        obtain rfl : f7 = false := by cases f7 <;> first | rfl | exact absurd (HDP.out.2.2.2.1 rfl) (by simp)
        obtain rfl : f10 = false := by cases f10 <;> first | rfl | exact absurd (HDP.out.2.2.2.2 rfl) (by simp)
        clear hd
        refine wpOp_step rfl (fun K' hK' => ?_)
        have HKK : Hid (∀ a w, K a w → K' a w) := hK'
        clear hK'
        simp only [slotU_true]
        cases b1
        · go_simp
          exact HKK.out _ _ (HK.out _ _ ⟨f0, f1, f2, f3, true, true, true, false, f8, f9, false, false, b2, rfl, rfl, HH, HG1, (fun _ h => by cases h), ⟨HDP.out.1, HDP.out.2.1, fun _ => rfl, (fun h => by cases h), (fun h => by cases h)⟩⟩)
        · simp only [slotV_true]
          go_simp
          go_wp2_with (go_at_call 32; refine (good_any m2 h2 _ l2 _ HH.rowY.1 hF2.out.2.2 hF2.out.1 hF2.out.2.1).mono ?_; intro e wx hfe; obtain ⟨b, rfl, HBB, HPP⟩ := fits_bool hfe; clear hfe)
          exact HKK.out _ _ (HK.out _ _ ⟨f0, f1, f2, f3, true, true, true, false, f8, f9, false, true, b, rfl, rfl, HH.keep HBB.out, (by show _ → _ → _; have h := HG1.out; simpa using h), fun _ _ hb => HPP.out hb, (by show _ ∧ _; have h := HDP.out; simpa using h)⟩)
      | 7, _ =>
        obtain rfl : f7 = false := hf
        have h6 : f6 = true := by cases f6 <;> simp [depB, Region.binds] at hd ⊢
        subst h6
        have h4 : f4 = true := by cases f4 <;> simp [depB, Region.binds] at hd ⊢
        subst h4
        clear hd
        refine wpOp_step rfl (fun K' hK' => ?_)
        have HKK : Hid (∀ a w, K a w → K' a w) := hK'
        clear hK'
        simp only [slotU_true]
        cases b1
        · go_simp
          exact HKK.out _ _ (HK.out _ _ ⟨f0, f1, f2, f3, true, f5, true, true, f8, f9, f10, false, b2, rfl, rfl, HH, HG1, HG2, ⟨HDP.out.1, HDP.out.2.1, HDP.out.2.2.1, fun _ => rfl, fun _ => rfl⟩⟩)
        · simp only [slotV_true]
          go_simp
          exact HKK.out _ _ (HK.out _ _ ⟨f0, f1, f2, f3, true, f5, true, true, f8, f9, f10, true, b2, rfl, rfl, HH, HG1, HG2, ⟨HDP.out.1, HDP.out.2.1, HDP.out.2.2.1, fun _ => rfl, fun _ => rfl⟩⟩)
      | 8, _ =>
        obtain rfl : f8 = false := hf
        have h0 : f0 = true := by cases f0 <;> simp [depB, Region.binds] at hd ⊢
        subst h0
        clear hd
        refine wpOp_step rfl (fun K' hK' => ?_)
        have HKK : Hid (∀ a w, K a w → K' a w) := hK'
        clear hK'
        have z0 : w'.cell? ⟨w.heap.size + 1 + 1, 0, none⟩ = some (.string ⟨#[]⟩) := blk_cell HH.c1 0
        have z1 : w'.cell? ⟨w.heap.size + 1 + 1, 1, none⟩ = some (.string ⟨#[]⟩) := blk_cell HH.c1 1
        have z2 : w'.cell? ⟨w.heap.size + 1 + 1, 2, none⟩ = some (.slice none 0 0) := blk_cell HH.c1 2
        have y0 := blk_free HH.c1 0
        have y1 := blk_free HH.c1 1
        have y2 := blk_free HH.c1 2
        simp only [slotU_true]
        go_simp
        exact HKK.out _ _ (HK.out _ _ ⟨true, f1, f2, f3, f4, f5, f6, f7, true, f9, f10, b1, b2, rfl, rfl, HH.store1, HG1, HG2, HDP⟩)
      | 9, _ =>
        obtain rfl : f9 = false := hf
        have h1 : f1 = true := by cases f1 <;> simp [depB, Region.binds] at hd ⊢
        subst h1
        clear hd
        refine wpOp_step rfl (fun K' hK' => ?_)
        have HKK : Hid (∀ a w, K a w → K' a w) := hK'
        clear hK'
        have z0 : w'.cell? ⟨w.heap.size + 1 + 1 + 1, 0, none⟩ = some (.string ⟨#[]⟩) := blk_cell HH.c2 0
        have z1 : w'.cell? ⟨w.heap.size + 1 + 1 + 1, 1, none⟩ = some (.string ⟨#[]⟩) := blk_cell HH.c2 1
        have z2 : w'.cell? ⟨w.heap.size + 1 + 1 + 1, 2, none⟩ = some (.slice none 0 0) := blk_cell HH.c2 2
        have y0 := blk_free HH.c2 0
        have y1 := blk_free HH.c2 1
        have y2 := blk_free HH.c2 2
        simp only [slotU_true]
        go_simp
        exact HKK.out _ _ (HK.out _ _ ⟨f0, true, f2, f3, f4, f5, f6, f7, f8, true, f10, b1, b2, rfl, rfl, HH.store2, HG1, HG2, HDP⟩)
      | 10, _ =>
        obtain rfl : f10 = false := hf
        have h7 : f7 = true := by cases f7 <;> simp [depB, Region.binds] at hd ⊢
        subst h7
        clear hd
        refine wpOp_step rfl (fun K' hK' => ?_)
        have HKK : Hid (∀ a w, K a w → K' a w) := hK'
        clear hK'
        simp only [slotU_true]
        go_simp
        exact HKK.out _ _ (HK.out _ _ ⟨f0, f1, f2, f3, f4, f5, f6, true, f8, f9, true, b1, b2, rfl, rfl, HH, HG1, HG2, ⟨HDP.out.1, HDP.out.2.1, HDP.out.2.2.1, HDP.out.2.2.2.1, fun _ => rfl⟩⟩)
    · rintro l a w' ⟨f0, f1, f2, f3, f4, f5, f6, f7, f8, f9, f10, b1, b2, rfl, rfl, HH, HG1, HG2, HDP⟩ hall
      obtain rfl : f0 = true := hall 0
      obtain rfl : f1 = true := hall 1
      obtain rfl : f2 = true := hall 2
      obtain rfl : f3 = true := hall 3
      obtain rfl : f4 = true := hall 4
      obtain rfl : f5 = true := hall 5
      obtain rfl : f6 = true := hall 6
      obtain rfl : f7 = true := hall 7
      obtain rfl : f8 = true := hall 8
      obtain rfl : f9 = true := hall 9
      obtain rfl : f10 = true := hall 10
      simp only [slotU_true]
      have k0 : w'.cell? ⟨w.heap.size + 1 + 1, 0, none⟩ = some (.string m1) := blk_cell HH.c1 0
      have k1 : w'.cell? ⟨w.heap.size + 1 + 1, 1, none⟩ = some (.string h1) := blk_cell HH.c1 1
      have k2 : w'.cell? ⟨w.heap.size + 1 + 1, 2, none⟩ = some (.slice X l1.length xc) := blk_cell HH.c1 2
      have n0 : w'.cell? ⟨w.heap.size + 1 + 1 + 1, 0, none⟩ = some (.string m2) := blk_cell HH.c2 0
      have n1 : w'.cell? ⟨w.heap.size + 1 + 1 + 1, 1, none⟩ = some (.string h2) := blk_cell HH.c2 1
      have n2 : w'.cell? ⟨w.heap.size + 1 + 1 + 1, 2, none⟩ = some (.slice Y l2.length yc) := blk_cell HH.c2 2
      go_wp2_with fail
      refine bodyPost_ret (v := .tuple #[.agg #[.string m1, .string h1, .slice X l1.length xc], .agg #[.string m2, .string h2, .slice Y l2.length yc], .bool (b1 && b2)]) (by simp [results, Tryd.results14, go_sem, k0, k1, k2, n0, n1, n2]) rfl ⟨X, Y, xc, yc, b1 && b2, rfl, HH.rowX.1, HH.rowY.1, ?_, HH.bel⟩
      intro hb
      simp only [Bool.and_eq_true] at hb
      have g1 : b1 = true → GoodP (bs m1) (bs h1) l1 := by have h := HG1.out; simpa using h
      have g2 : b1 = true → b2 = true → GoodP (bs m2) (bs h2) l2 := by have h := HG2.out; simpa using h
      exact ⟨g1 hb.1, g2 hb.1 hb.2⟩
    · have HL := HL0.out
      exact ⟨false, false, false, false, false, false, false, false, false, false, false, false, false, rfl, rfl, ⟨below_drew3 (HU.out _ HL.bel) 1, (HL.one.blk rfl).2, (HL.two.blk rfl).2, blk_below (blk_below HB3.out HL.bel) (below_drew3 (Below.refl _ _) 1), blk_below (blk_below HB4.out HL.bel) (below_drew3 (Below.refl _ _) 1), (HL.one.row rfl).keep (below_drew3 (Below.refl _ _) 1), (HL.two.row rfl).keep (below_drew3 (Below.refl _ _) 1), blk_lt HB3.out, blk_lt HB4.out, by omega, by omega, by omega, (HL.one.blk rfl).1, (HL.two.blk rfl).1⟩, (fun h => by cases h), (fun h => by cases h), ⟨(fun h => by cases h), (fun h => by cases h), (fun h => by cases h), (fun h => by cases h), (fun h => by cases h)⟩⟩
end Go.Proofs.YtkfokofccakagaaDoor
