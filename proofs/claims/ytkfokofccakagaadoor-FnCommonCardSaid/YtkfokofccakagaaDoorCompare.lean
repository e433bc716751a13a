/-
  Proved: what Compare and Conflicts answer at two good patterns as spec.Write writes them, and so for the thin callers paths, methods, both, conflicts of the laws. Condition: the table unicode.properties is as it was laid.
-/
import Derived.Test.YtkfokofccakagaaDoorPaths
import Derived.Test.YtkfokofccakagaaDoorMust
import Derived.Test.YtkfokofccakagaaDoorPair
namespace Go.Proofs.YtkfokofccakagaaDoor
open Go.RowKit

set_option maxRecDepth 100000 in
set_option maxHeartbeats 800000 in
theorem compareBoth_any (a b : Nat) (m1 m2 h1 h2 : ByteArray) (l1 l2 : List Seg) (w : World) (H1 : PatAt w a m1 h1 l1) (H2 : PatAt w b m2 h2 l2) (G1 : GoodP (bs m1) (bs h1) l1) (G2 : GoodP (bs m2) (bs h2) l2) :
    Calls Tryd.prog 57 #[.pointer (some ⟨a, 0, none⟩), .pointer (some ⟨b, 0, none⟩)] w fun e w' => e = .returned (.string (byBoth (bs m1) (bs m2) l1 l2).text) ∧ Below w.heap.size w w' := by
  obtain ⟨r, hr⟩ : ∃ r, r = byM (bs m1) (bs m2) := ⟨_, rfl⟩
  obtain ⟨s, hs⟩ : ∃ s, s = Kd.byPaths (kinds l1) (kinds l2) := ⟨_, rfl⟩
  have HM : Hid (Calls Tryd.prog 58 #[.pointer (some ⟨a, 0, none⟩), .pointer (some ⟨b, 0, none⟩)] w fun e w' => e = .returned (.string r.text) ∧ Below w.heap.size w w') := by
    show Calls Tryd.prog 58 _ _ _
    rw [hr]
    exact compareMethods_any a b m1 m2 h1 h2 l1 l2 w H1 H2
  have HP : Hid (∀ w', Below w.heap.size w w' → Calls Tryd.prog 59 #[.pointer (some ⟨a, 0, none⟩), .pointer (some ⟨b, 0, none⟩)] w' fun e w'' => e = .returned (.string s.text) ∧ Below w'.heap.size w' w'') := by
    intro w' hb
    rw [hs]
    exact comparePaths_any a b m1 m2 h1 h2 l1 l2 w' (H1.keep hb) (H2.keep hb) G1.some_ G2.some_ (good_len G1) (good_len G2)
  have HR : Hid (byBoth (bs m1) (bs m2) l1 l2 = r.comb s) := by show _ = _; rw [hr, hs]; rfl
  clear hr hs H1 H2 G1 G2
  by_cases hd : r = .dis
  · subst hd
    have HR2 : Hid (byBoth (bs m1) (bs m2) l1 l2 = .dis) := by show _ = _; rw [HR.out]; cases s <;> rfl
    simp only [Rel.text] at HM
    go_enter Tryd.func57, Tryd.ntmps57
    go_wp2_with (go_at_call 58; (with_reducible refine HM.out.mono ?_); rintro e w1 ⟨rfl, hb1⟩; have HB1 := Lib.hid hb1; clear hb1)
    go_ret
    exact ⟨congrArg (fun x => Ending.returned (Value.string (Rel.text x))) HR2.out.symm, HB1.out⟩
  · have e1 : (r.text.toList == [100, 105, 115, 106, 111, 105, 110, 116]) = false := by
      rw [bs_toList]
      cases r <;> first | exact absurd rfl hd | rfl
    clear hd
    go_enter Tryd.func57, Tryd.ntmps57
    go_wp2_with (first
      | (go_at_call 58; (with_reducible refine HM.out.mono ?_); rintro e w1 ⟨rfl, hb1⟩; have HB1 := Lib.hid hb1; clear hb1)
      | (go_at_call 59; (with_reducible refine (HP.out _ HB1.out).mono ?_); rintro e w2 ⟨rfl, hb2⟩; have HB2 := Lib.hid hb2; clear hb2)
      | (go_at_call 73; (with_reducible refine (combine_any r s _).mono ?_); rintro e w3 ⟨rfl, rfl⟩))
    go_ret
    exact ⟨congrArg (fun x => Ending.returned (Value.string (Rel.text x))) HR.out.symm, HB1.out.trans (HB2.out.mono HB1.out.size)⟩

/-- What Compare answers. -/
def CmpEnd (m1 m2 : List UInt8) (l1 l2 : List Seg) (w : World) (e : Ending) (w' : World) : Prop :=
  e = .returned (.tuple #[.string (byBoth m1 m2 l1 l2).text, .string (byM m1 m2).text, .string (Kd.byPaths (kinds l1) (kinds l2)).text]) ∧ Below w.heap.size w w'

set_option maxRecDepth 100000 in
set_option maxHeartbeats 1600000 in
theorem compare_any (m1 m2 h1 h2 : ByteArray) (l1 l2 : List Seg) (w : World) (G1 : GoodP (bs m1) (bs h1) l1) (G2 : GoodP (bs m2) (bs h2) l2) (hprops : PropsAt w) :
    Calls Tryd.prog 51 #[.string (writeS m1 h1 l1), .string (writeS m2 h2 l2)] w (CmpEnd (bs m1) (bs m2) l1 l2 w) := by
  have HM1 := Lib.hid (show Calls Tryd.prog 50 #[.string (writeS m1 h1 l1)] w (MustEnd w m1 h1 l1) from must_written m1 h1 l1 w G1 hprops)
  have HM2 : Hid (∀ w', Below w.heap.size w w' → Calls Tryd.prog 50 #[.string (writeS m2 h2 l2)] w' (MustEnd w' m2 h2 l2)) := fun w' hb => must_written m2 h2 l2 w' G2 (hprops.below hb)
  have HG1 := Lib.hid G1
  have HG2 := Lib.hid G2
  clear hprops G1 G2
  generalize writeS m1 h1 l1 = t1 at HM1 ⊢
  generalize writeS m2 h2 l2 = t2 at HM2 ⊢
  go_enter Tryd.func51, Tryd.ntmps51
  go_upto_region 2 with (first
    | (go_at_call 50; (with_reducible refine HM1.out.mono ?_); rintro e w1 ⟨a, rfl, hp1, hb1⟩; have HP1 := Lib.hid hp1; have HB1 := Lib.hid hb1; clear hp1 hb1)
    | (go_at_call 50; (with_reducible refine (HM2.out _ HB1.out).mono ?_); rintro e w2 ⟨b, rfl, hp2, hb2⟩; have HP2 := Lib.hid hp2; have HB2 := Lib.hid hb2; clear hp2 hb2))
  have HB := Lib.hid (HB1.out.trans (HB2.out.mono HB1.out.size))
  have HP1' := Lib.hid (HP1.out.keep HB2.out)
  go_wp2_with (first
    | (go_at_call 57; refine (compareBoth_any a b m1 m2 h1 h2 l1 l2 _ HP1'.out HP2.out HG1.out HG2.out).mono ?_; rintro e w3 ⟨rfl, hb3⟩; have HB3 := Lib.hid hb3; clear hb3)
    | (go_at_call 58; refine (compareMethods_any a b m1 m2 h1 h2 l1 l2 _ (HP1'.out.keep HB3.out) (HP2.out.keep HB3.out)).mono ?_; rintro e w4 ⟨rfl, hb4⟩; have HB4 := Lib.hid (HB3.out.trans (hb4.mono HB3.out.size)); clear hb4)
    | (go_at_call 59; refine (comparePaths_any a b m1 m2 h1 h2 l1 l2 _ (HP1'.out.keep HB4.out) (HP2.out.keep HB4.out) HG1.out.some_ HG2.out.some_ (good_len HG1.out) (good_len HG2.out)).mono ?_; rintro e w5 ⟨rfl, hb5⟩; have HB5 := Lib.hid (HB4.out.trans (hb5.mono HB4.out.size)); clear hb5))
  go_ret3
  exact ⟨rfl, HB.out.trans (HB5.out.mono HB.out.size)⟩

set_option maxRecDepth 100000 in
set_option maxHeartbeats 800000 in
theorem implCompare_any (m1 m2 h1 h2 : ByteArray) (l1 l2 : List Seg) (w : World) (G1 : GoodP (bs m1) (bs h1) l1) (G2 : GoodP (bs m2) (bs h2) l2) (hprops : PropsAt w) :
    Calls Tryd.prog 41 #[.string (writeS m1 h1 l1), .string (writeS m2 h2 l2)] w (CmpEnd (bs m1) (bs m2) l1 l2 w) := by
  have HC := Lib.hid (compare_any m1 m2 h1 h2 l1 l2 w G1 G2 hprops)
  clear hprops G1 G2
  generalize writeS m1 h1 l1 = t1 at HC ⊢
  generalize writeS m2 h2 l2 = t2 at HC ⊢
  go_enter Tryd.func41, Tryd.ntmps41
  go_wp2_with (go_at_call 51; (with_reducible refine HC.out.mono ?_); rintro e w3 ⟨rfl, hb3⟩; have HB3 := Lib.hid hb3; clear hb3)
  go_ret3
  exact ⟨rfl, HB3.out⟩
end Go.Proofs.YtkfokofccakagaaDoor
