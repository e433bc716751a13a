/-
  Proved, in plain words of lists: two patterns that take a request and do not conflict: one is more special, or the hosts differ.
  Proved: spec.Takes tells whether a pattern takes a request ('takesB'); it writes nothing that was there. Condition: the pattern and the pieces of the path can be read.
-/
import Derived.Test.YtgkhfcoieknjeaaDoorServes
import Derived.Test.YtgkhfcoieknjeaaDoorGoodKind
import Derived.Test.YtgkhfcoieknjeaaDoorMatches
namespace Go.Proofs.YtgkhfcoieknjeaaDoor
open Go.RowKit

/-- A pattern takes a request. -/
def takesB (m h : List UInt8) (l : List Seg) (rm rh : List UInt8) (its : List (List UInt8)) : Bool :=
  Kd.mt (kinds l) its && (decide (h = []) || decide (h = rh)) && servesB m rm

theorem byM_meet (a b m : List UInt8) (h1 : servesB a m = true) (h2 : servesB b m = true) : byM a b ≠ .dis := by
  by_cases hm : m = []
  · subst hm
    have e1 : a = [] := by
      simp only [servesB, Bool.or_eq_true, decide_eq_true_eq, Bool.and_eq_true] at h1
      rcases h1 with (h | h) | h
      · exact h
      · exact h
      · exact absurd h.2 (by simp)
    have e2 : b = [] := by
      simp only [servesB, Bool.or_eq_true, decide_eq_true_eq, Bool.and_eq_true] at h2
      rcases h2 with (h | h) | h
      · exact h
      · exact h
      · exact absurd h.2 (by simp)
    subst e1; subst e2
    unfold byM
    rw [if_pos rfl]; simp
  · exact fun e => (byM_says a b m hm).1.2.2.2 e ⟨h1, h2⟩

/-- Two patterns that take a request and do not conflict: one is more special, or the hosts differ. -/
theorem noconf_law {m1 m2 h1 h2 rm rh : List UInt8} {l1 l2 : List Seg} {its : List (List UInt8)} (G1 : GoodP m1 h1 l1) (G2 : GoodP m2 h2 l2)
    (t1 : takesB m1 h1 l1 rm rh its = true) (t2 : takesB m2 h2 l2 rm rh its = true) (he : h1 = h2) :
    confB m1 m2 h1 h2 l1 l2 = true ∨ ((byM m1 m2).comb (Kd.byPaths (kinds l1) (kinds l2)) = .gen ∨ (byM m1 m2).comb (Kd.byPaths (kinds l1) (kinds l2)) = .spc) := by
  simp only [takesB, Bool.and_eq_true] at t1 t2
  have hm := byM_meet m1 m2 rm t1.2 t2.2
  have hp := (Kd.says_byR (kinds l1) (kinds l2) its).2.2.2
  rw [← byPaths_good G1 G2] at hp
  have hp2 : Kd.byPaths (kinds l1) (kinds l2) ≠ .dis := fun e => hp e ⟨t1.1.1, t2.1.1⟩
  unfold confB byBoth
  rw [decide_eq_true he, Bool.true_and]
  cases h : byM m1 m2 <;> cases h' : Kd.byPaths (kinds l1) (kinds l2) <;> simp [Rel.comb, isConf, h, h'] at hm hp2 ⊢

end Go.Proofs.YtgkhfcoieknjeaaDoor

namespace Go.Proofs.YtgkhfcoieknjeaaDoor
open Go.RowKit

set_option maxRecDepth 100000 in
set_option maxHeartbeats 1600000 in
theorem takes_any (m h rm rh rp : ByteArray) (sv iv : Value) (l : List Seg) (its : List (List UInt8)) (w : World) (H : SegsAt w sv l) (HI : StrsAt w iv its) (zl : l.length ≤ 2147483647) (HSI : SmallIts its) :
    Calls Tryd.prog 16 #[.agg #[.string m, .string h, sv], .agg #[.string rm, .string rh, .string rp], iv] w fun e w' =>
      (∃ x, e = .returned (.tuple #[x, .bool (takesB (bs m) (bs h) l (bs rm) (bs rh) its)])) ∧ Below w.heap.size w w' := by
  have HM : Hid (∀ W, Below w.heap.size w W → Calls Tryd.prog 28 #[.agg #[.string m, .string h, sv], iv] W fun e w' => ∃ x, e = .returned (.tuple #[x, .bool (Kd.mt (kinds l) its)]) ∧ Below W.heap.size W w') := fun W hb =>
    (matches_any m h sv iv l its W (H.keep hb) (HI.keep hb) zl HSI).mono fun e w' ⟨⟨x, y⟩, z⟩ => ⟨x, y, z⟩
  have HSV : Hid (∀ W, Calls Tryd.prog 29 #[.string m, .string rm] W fun e w' => e = .returned (.bool (servesB (bs m) (bs rm))) ∧ W = w') := fun W => serves_any m rm W
  obtain ⟨A, cap, rfl, _, _⟩ := H
  have hp := blk_alloc (new0 w (.cells #[.string m, .string h, .slice A l.length cap] 45)) (.cells #[.string rm, .string rh, .string rp] 29)
  have hq := new1 w (.cells #[.string m, .string h, .slice A l.length cap] 45) (.cells #[.string rm, .string rh, .string rp] 29)
  have HB0 : Hid (Below w.heap.size w ((w.alloc (.cells #[.string m, .string h, .slice A l.length cap] 45)).alloc (.cells #[.string rm, .string rh, .string rp] 29))) := ((Below.refl _ _).alloc (Nat.le_refl _) _).alloc (by simp) _
  obtain ⟨W0, hW0⟩ : ∃ W0, W0 = (w.alloc (.cells #[.string m, .string h, .slice A l.length cap] 45)).alloc (.cells #[.string rm, .string rh, .string rp] 29) := ⟨_, rfl⟩
  rw [← hW0] at hp hq HB0
  have HC : Hid (∀ w', Below W0.heap.size W0 w' → w'.cell? ⟨w.heap.size, 0, none⟩ = some (.string m) ∧ w'.cell? ⟨w.heap.size, 1, none⟩ = some (.string h) ∧ w'.cell? ⟨w.heap.size, 2, none⟩ = some (.slice A l.length cap) ∧ w'.cell? ⟨w.heap.size + 1, 0, none⟩ = some (.string rm) ∧ w'.cell? ⟨w.heap.size + 1, 1, none⟩ = some (.string rh) ∧ w'.cell? ⟨w.heap.size + 1, 2, none⟩ = some (.string rp)) := fun w' hb =>
    ⟨blk_cell (blk_below hp hb) 0, blk_cell (blk_below hp hb) 1, blk_cell (blk_below hp hb) 2, blk_cell (blk_below hq hb) 0, blk_cell (blk_below hq hb) 1, blk_cell (blk_below hq hb) 2⟩
  clear hp hq HI zl HSI
  obtain ⟨mb, hmb⟩ : ∃ b, b = Kd.mt (kinds l) its := ⟨_, rfl⟩
  obtain ⟨sb, hsb⟩ : ∃ b, b = servesB (bs m) (bs rm) := ⟨_, rfl⟩
  have HT : Hid (takesB (bs m) (bs h) l (bs rm) (bs rh) its = (mb && (decide (bs h = []) || decide (bs h = bs rh)) && sb)) := by
    show _ = _
    rw [hmb, hsb]; rfl
  rw [← hmb] at HM
  rw [← hsb] at HSV
  generalize takesB (bs m) (bs h) l (bs rm) (bs rh) its = tb at HT ⊢
  clear hmb hsb
  go_enter Tryd.func16, Tryd.ntmps16
  go_upto_region 1 with fail
  rw [← hW0]
  clear hW0
  obtain ⟨s0, s1, s2, s3, s4, s5⟩ := HC.out _ (Below.refl _ _)
  go_upto_region 2 with (go_at_call 28; (with_reducible refine (HM.out _ HB0.out).mono ?_); rintro e w1 ⟨x, rfl, hb⟩; have HBB := Lib.hid hb; clear hb)
  obtain ⟨x0, x1, x2, x3, x4, x5⟩ := HC.out _ HBB.out
  clear s0 s1 s2 s3 s4 s5
  have HR : Hid (Below w.heap.size w w1) := HB0.out.trans (HBB.out.mono HB0.out.size)
  clear HB0 HBB HM HC
  cases mb
  · have HT2 : Hid (tb = false) := HT.out.trans (by simp)
    go_wp2_with fail
    go_ret2
    refine ⟨?_, HR.out⟩
    rw [HT2.out]
    exact ⟨_, rfl⟩
  by_cases h0 : bs h = []
  · have e0 : h.toList.isEmpty = true := by rw [bs_toList]; simpa using h0
    have HT2 : Hid (tb = sb) := HT.out.trans (by simp [h0])
    clear h0
    go_wp2_with (go_at_call 29; (with_reducible refine (HSV.out _).mono ?_); rintro e wm ⟨rfl, rfl⟩)
    go_ret2
    refine ⟨?_, HR.out⟩
    rw [HT2.out]
    exact ⟨_, rfl⟩
  have e0 : h.toList.isEmpty = false := by rw [bs_toList]; simpa using h0
  by_cases h1 : bs h = bs rh
  · have e1 : (h.toList == rh.toList) = true := by rw [bs_toList, bs_toList]; simpa using h1
    have HT2 : Hid (tb = sb) := HT.out.trans (by simp [h1])
    clear h0 h1
    go_wp2_with (go_at_call 29; (with_reducible refine (HSV.out _).mono ?_); rintro e wm ⟨rfl, rfl⟩)
    go_ret2
    refine ⟨?_, HR.out⟩
    rw [HT2.out]
    exact ⟨_, rfl⟩
  · have e1 : (h.toList == rh.toList) = false := by rw [bs_toList, bs_toList]; simpa using h1
    have HT2 : Hid (tb = false) := HT.out.trans (by simp [h0, h1])
    clear h0 h1
    go_wp2_with fail
    go_ret2
    refine ⟨?_, HR.out⟩
    rw [HT2.out]
    exact ⟨_, rfl⟩
end Go.Proofs.YtgkhfcoieknjeaaDoor
