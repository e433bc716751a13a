/-
  Proved: commonPath, and so CommonPath at two good patterns as they are written, answers the path in common ('slashed (ctext ..)'). Condition: the table unicode.properties is as it was laid.
-/
import Derived.Test.YtkfokofccakagaaDoorBuilder
import Derived.Test.YtkfokofccakagaaDoorCompare
namespace Go.Proofs.YtkfokofccakagaaDoor
open Go.RowKit Go.Lib.Pa

theorem slashed_append : ∀ a b : List (List UInt8), slashed (a ++ b) = slashed a ++ slashed b
  | [], b => rfl
  | x :: a, b => by simp [slashed, slashed_append a b]

theorem map_take (l : List Seg) (k : Nat) (g : Seg) (h : l[k]? = some g) (acc : List UInt8) : acc ++ slashed ((l.take (k + 1)).map wtext) = (acc ++ slashed ((l.take k).map wtext)) ++ 47 :: wtext g := by
  rw [List.take_add_one, h]
  simp [slashed_append, slashed]

set_option maxRecDepth 100000 in
set_option maxHeartbeats 1600000 in
theorem writeMatchingPath_any (B : Nat) (l : List Seg) (sv : Value) (acc : List UInt8) (w : World) (H : BldAt B acc w) (HS : SegsAt w sv l) (hb : ∀ b o n c, sv = .slice (some ⟨b, o, none⟩) n c → b < B) (hl : acc.length ≤ 10000) (hn : l.length ≤ 6) (hs : ∀ g ∈ l, g.s.length ≤ 16) :
    Calls Tryd.prog 54 #[.pointer (some ⟨B, 0, none⟩), sv] w fun e w' => e = .returned (.tuple #[]) ∧ BldAt B (acc ++ slashed (l.map wtext)) w' ∧ Below B w w' := by
  obtain ⟨A, cap, rfl, hlc, hf⟩ := HS
  have HF : Hid (∀ j g, l[j]? = some g → ∃ b o, A = some ⟨b, o, none⟩ ∧ b < B ∧ w.cell? ⟨b, o + j * 3, none⟩ = some (strV g.s) ∧ w.cell? ⟨b, o + j * 3 + 1, none⟩ = some (.bool g.wild) ∧ w.cell? ⟨b, o + j * 3 + 2, none⟩ = some (.bool g.multi)) := by
    intro j g hj
    obtain ⟨b, o, rfl, hbl, h1, h2, h3⟩ := hf j g hj
    exact ⟨b, o, rfl, hb b o _ _ rfl, h1, h2, h3⟩
  have HSS := Lib.hid hs
  have HH := Lib.hid H
  clear hf hb hs H
  go_enter Tryd.func54, Tryd.ntmps54
  go_wp2_with fail
  go_loopw [8] (fun kv wr => ∃ k : Nat, k ≤ l.length ∧ kv = .int .i64 k ∧ Hid (BldAt B (acc ++ slashed ((l.take k).map wtext)) wr) ∧ Hid ((slashed ((l.take k).map wtext)).length ≤ k * 17) ∧ Below B w wr) (fun kv _ => l.length - (intOf kv).toNat)
  case atStart => exact ⟨0, Nat.zero_le _, rfl, by show BldAt _ _ _; simpa [slashed] using HH.out, by show _ ≤ _; simp [slashed], Below.refl _ _⟩
  case round =>
    obtain ⟨k, hk, rfl, HB, HLn, hbw⟩ := hrel
    have HBW := Lib.hid hbw
    by_cases hlt : k < l.length
    · obtain ⟨g, hg⟩ : ∃ g, l[k]? = some g := ⟨_, List.getElem?_eq_getElem hlt⟩
      obtain ⟨b, o, rfl, hbl, h1, h2, h3⟩ := HF.out k g hg
      have g1 : wr.cell? ⟨b, o + k * 3, none⟩ = some (.string ⟨g.s.toArray⟩) := (hbw.cell (p := ⟨b, o + k * 3, none⟩) hbl).trans h1
      have g2 : wr.cell? ⟨b, o + k * 3 + 1, none⟩ = some (.bool g.wild) := (hbw.cell (p := ⟨b, o + k * 3 + 1, none⟩) hbl).trans h2
      have g3 : wr.cell? ⟨b, o + k * 3 + 2, none⟩ = some (.bool g.multi) := (hbw.cell (p := ⟨b, o + k * 3 + 2, none⟩) hbl).trans h3
      have hgl : g.s.length ≤ 16 := HSS.out g (List.mem_of_getElem? hg)
      have hln := HLn.out
      have hwt : (wtext g).length ≤ 16 := by
        unfold wtext
        split
        · exact hgl
        · simp
      have HT : Hid (acc ++ slashed ((l.take (k + 1)).map wtext) = (acc ++ slashed ((l.take k).map wtext)) ++ 47 :: wtext g) := map_take l k g hg acc
      have HL2 : Hid ((slashed ((l.take (k + 1)).map wtext)).length ≤ (k + 1) * 17) := by
        show _ ≤ _
        have := congrArg List.length (map_take l k g hg [])
        simp only [List.nil_append, List.length_append, List.length_cons] at this
        omega
      have HWS : Hid (∀ W, Below B wr W → BldAt B (acc ++ slashed ((l.take k).map wtext)) W → Calls Tryd.prog 53 #[.pointer (some ⟨B, 0, none⟩), .agg #[.string ⟨g.s.toArray⟩, .bool g.wild, .bool g.multi]] W fun e w' => e = .returned (.tuple #[]) ∧ BldAt B (acc ++ slashed ((l.take (k + 1)).map wtext)) w' ∧ Below B w w') := by
        intro W hW hbd
        refine (writeSegment_any B g _ W hbd (by rw [List.length_append]; omega) (by omega)).mono ?_
        rintro e w' ⟨x, y, z⟩
        exact ⟨x, by rw [HT.out]; exact y, (HBW.out.trans hW).trans z⟩
      have HBN : Hid (BldAt B (acc ++ slashed ((l.take k).map wtext)) (wr.alloc (.cells #[.string ⟨g.s.toArray⟩, .bool g.wild, .bool g.multi] 78)) ∧ Below B wr (wr.alloc (.cells #[.string ⟨g.s.toArray⟩, .bool g.wild, .bool g.multi] 78))) := ⟨HB.out.alloc _, (Below.refl _ _).alloc (by have := HB.out.lt; omega) _⟩
      clear h1 h2 h3 hg hln hwt hbw
      obtain ⟨gs, gw, gm⟩ := g
      simp only at g1 g2 g3 HWS HBN
      go_wp2_with (go_at_call 53; (with_reducible refine (HWS.out _ HBN.out.2 HBN.out.1).mono ?_); rintro e w2 ⟨rfl, h2, b2⟩; have H2 := Lib.hid h2; have B2 := Lib.hid b2; clear h2 b2)
      go_roundw
      case rel => exact ⟨k + 1, by omega, by go_num, H2.out, HL2.out, B2.out⟩
      case measure => simp [intOf]; omega
    · go_wp2_with fail
      go_end0
      refine ⟨rfl, ?_, HBW.out⟩
      have := HB.out
      rwa [List.take_of_length_le (by omega)] at this

theorem SegsAt.drop {w : World} {A : Option Addr} {l : List Seg} {cap k q : Nat} {B : Option Addr} {p : Nat} (H : SegsAt w (.slice A l.length cap) l) (hp : p + k = l.length) (hq : p ≤ q) (hB : 0 < p → ∃ b o, A = some ⟨b, o, none⟩ ∧ B = some ⟨b, o + k * 3, none⟩) : SegsAt w (.slice B p q) (l.drop k) := by
  obtain ⟨A', cap', hv, hlc, hf⟩ := H
  cases hv
  refine ⟨B, q, by rw [List.length_drop]; congr 1; omega, by rw [List.length_drop]; omega, fun j g hj => ?_⟩
  rw [List.getElem?_drop] at hj
  have hlt := (List.getElem?_eq_some_iff.1 hj).1
  obtain ⟨b, o, rfl, hbl, h1, h2, h3⟩ := hf (k + j) g hj
  obtain ⟨b', o', he, hB'⟩ := hB (by omega)
  simp only [Option.some.injEq, Addr.mk.injEq, and_true] at he
  obtain ⟨rfl, rfl⟩ := he
  have e : o + (k + j) * 3 = o + k * 3 + j * 3 := by omega
  rw [e] at h1 h2 h3
  exact ⟨b, o + k * 3, hB', hbl, h1, h2, h3⟩

theorem ctext_step (l1 l2 : List Seg) (k : Nat) (g1 g2 : Seg) (h1 : l1[k]? = some g1) (h2 : l2[k]? = some g2) : slashed (ctext (l1.drop k) (l2.drop k)) = (47 :: wtext (if g1.wild then g2 else g1)) ++ slashed (ctext (l1.drop (k + 1)) (l2.drop (k + 1))) := by
  obtain ⟨a, rfl⟩ := List.getElem?_eq_some_iff.1 h1
  obtain ⟨b, rfl⟩ := List.getElem?_eq_some_iff.1 h2
  rw [List.drop_eq_getElem_cons a, List.drop_eq_getElem_cons b]
  simp [ctext, slashed]

/-- What holds at the head of each round. -/
def ComR (b1 o1 b2 o2 : Nat) (l1 l2 : List Seg) (w : World) (v5 v6 : Value) (wr : World) : Prop :=
  ∃ (k p1 q1 p2 q2 : Nat) (B1 B2 : Option Addr) (acc : List UInt8), p1 + k = l1.length ∧ p2 + k = l2.length ∧ p1 ≤ q1 ∧ p2 ≤ q2 ∧ v5 = .slice B1 p1 q1 ∧ v6 = .slice B2 p2 q2 ∧
    Hid (0 < p1 → B1 = some ⟨b1, o1 + k * 3, none⟩) ∧ Hid (0 < p2 → B2 = some ⟨b2, o2 + k * 3, none⟩) ∧
    Hid (slashed (ctext l1 l2) = acc ++ slashed (ctext (l1.drop k) (l2.drop k))) ∧ Hid (acc.length ≤ k * 17) ∧ Hid (BldAt w.heap.size acc wr) ∧ Below w.heap.size w wr

set_option maxRecDepth 100000 in
set_option maxHeartbeats 3200000 in
theorem commonPath_any (a b : Nat) (m1 m2 h1 h2 : ByteArray) (l1 l2 : List Seg) (w : World) (H1 : PatAt w a m1 h1 l1) (H2 : PatAt w b m2 h2 l2) (G1 : GoodP (bs m1) (bs h1) l1) (G2 : GoodP (bs m2) (bs h2) l2) :
    Calls Tryd.prog 49 #[.pointer (some ⟨a, 0, none⟩), .pointer (some ⟨b, 0, none⟩)] w fun e w' => e = .returned (.string ⟨(slashed (ctext l1 l2)).toArray⟩) ∧ Below w.heap.size w w' := by
  have hsx1 := G1.six
  have hsx2 := G2.six
  have HS1 : Hid (∀ g ∈ l1, g.s.length ≤ 16) := fun g hg => by
    obtain ⟨i, hi⟩ := List.mem_iff_getElem?.1 hg
    exact (G1.seg i g hi).1
  have HS2 : Hid (∀ g ∈ l2, g.s.length ≤ 16) := fun g hg => by
    obtain ⟨i, hi⟩ := List.mem_iff_getElem?.1 hg
    exact (G2.seg i g hi).1
  obtain ⟨ha, _, _, sv1, ca, hv1⟩ := H1
  obtain ⟨hb, _, _, sv2, cb, hv2⟩ := H2
  have HV1 := Lib.hid hv1
  have HV2 := Lib.hid hv2
  obtain ⟨A1, cap1, rfl, hlc1, hf1⟩ := hv1
  obtain ⟨A2, cap2, rfl, hlc2, hf2⟩ := hv2
  have HF1 := Lib.hid hf1
  have HF2 := Lib.hid hf2
  obtain ⟨x1, hx1⟩ : ∃ g, l1[0]? = some g := ⟨_, List.getElem?_eq_getElem (List.length_pos_iff.2 G1.some_)⟩
  obtain ⟨x2, hx2⟩ : ∃ g, l2[0]? = some g := ⟨_, List.getElem?_eq_getElem (List.length_pos_iff.2 G2.some_)⟩
  obtain ⟨b1, o1, rfl, hb1, _⟩ := hf1 0 x1 hx1
  obtain ⟨b2, o2, rfl, hb2, _⟩ := hf2 0 x2 hx2
  have ca' : (w.alloc (.cells #[.pointer none, .slice none 0 0] 73)).cell? ⟨a, 3, none⟩ = some (.slice (some ⟨b1, o1, none⟩) l1.length cap1) := (((Below.refl w.heap.size w).alloc (Nat.le_refl _) _).cell (p := ⟨a, 3, none⟩) ha).trans ca
  have cb' : (w.alloc (.cells #[.pointer none, .slice none 0 0] 73)).cell? ⟨b, 3, none⟩ = some (.slice (some ⟨b2, o2, none⟩) l2.length cap2) := (((Below.refl w.heap.size w).alloc (Nat.le_refl _) _).cell (p := ⟨b, 3, none⟩) hb).trans cb
  have HB0 : Hid (BldAt w.heap.size [] (w.alloc (.cells #[.pointer none, .slice none 0 0] 73))) := Lib.IsBuilderF.of (Lib.fresh_isBuilder _ _ w)
  clear hf1 hf2 hx1 hx2 ca cb G1 G2
  go_enter Tryd.func49, Tryd.ntmps49
  go_upto_region 3 with fail
  go_quiet (fail)
  go_wp2_with fail
  go_loopw [6, 7] (fun v5 v6 wr => ComR b1 o1 b2 o2 l1 l2 w v5 v6 wr) (fun v5 _ _ => sliceLen v5)
  case atStart =>
    exact ⟨0, l1.length, cap1, l2.length, cap2, _, _, [], rfl, rfl, hlc1, hlc2, rfl, rfl, fun _ => rfl, fun _ => rfl, by show _ = _; rfl, by show _ ≤ _; simp, HB0.out.drew _, below_drew3 ((Below.refl _ _).alloc (Nat.le_refl _) _) _⟩
  case round =>
    obtain ⟨k, p1, q1, p2, q2, B1, B2, acc, hk1, hk2, hq1, hq2, rfl, rfl, HB1, HB2, HFO, HAL, HBD, hbr⟩ := hrel
    have HBR := Lib.hid hbr
    clear hbr ca' cb'
    have hal := HAL.out
    have HST : Hid (∀ W l, BldAt w.heap.size l W → Calls Tryd.prog 55 #[.pointer (some ⟨w.heap.size, 0, none⟩)] W fun e w' => e = .returned (.string ⟨l.toArray⟩) ∧ Below w.heap.size W w') := fun W l hW => (Tryd.Builder_String_any_k w.heap.size w.heap.size l W hW (by have := hW.lt; omega)).mono fun e w' ⟨x, _, y, _⟩ => ⟨x, y⟩
    cases p1 with
    | zero =>
      cases p2 with
      | zero =>
        have HR : Hid (slashed (ctext l1 l2) = acc) := by
          show _ = _
          rw [HFO.out, List.drop_of_length_le (by omega), List.drop_of_length_le (by omega)]
          simp [ctext, slashed]
        go_wp2_with (go_at_call 55; (with_reducible refine (HST.out _ _ HBD.out).mono ?_); rintro e w7 ⟨rfl, hb7⟩; have HB7 := Lib.hid hb7; clear hb7)
        go_ret
        exact ⟨congrArg (fun x : List UInt8 => Ending.returned (Value.string ⟨x.toArray⟩)) HR.out.symm, HBR.out.trans HB7.out⟩
      | succ n2 =>
        have HR : Hid (slashed (ctext l1 l2) = acc ++ slashed ((l2.drop k).map wtext)) := by
          show _ = _
          rw [HFO.out, List.drop_of_length_le (l := l1) (by omega)]
          rfl
        have HWM : Hid (Calls Tryd.prog 54 #[.pointer (some ⟨w.heap.size, 0, none⟩), .slice B2 (n2 + 1) q2] wr fun e w' => e = .returned (.tuple #[]) ∧ BldAt w.heap.size (acc ++ slashed ((l2.drop k).map wtext)) w' ∧ Below w.heap.size wr w') := by
          obtain rfl := HB2.out (by omega)
          refine writeMatchingPath_any w.heap.size (l2.drop k) _ acc wr HBD.out ((HV2.out.keep HBR.out).drop hk2 hq2 fun _ => ⟨b2, o2, rfl, rfl⟩) ?_ (by omega) (by rw [List.length_drop]; omega) (fun g hg => HS2.out g (List.drop_subset _ _ hg))
          rintro b o n c he
          cases he
          exact hb2
        have i1 : (0 : Int) < (n2 : Int) + 1 := by omega
        obtain ⟨T2, hT2⟩ : ∃ T, T = (l2.drop k).map wtext := ⟨_, rfl⟩
        rw [← hT2] at HR HWM
        clear hT2
        go_wp2_with  (first
          | (go_at_call 54; (with_reducible refine HWM.out.mono ?_); rintro e w6 ⟨rfl, hbd, hb6⟩; have HB6 := Lib.hid (HBR.out.trans hb6); have HBD2 := Lib.hid hbd; clear hb6 hbd)
          | (go_at_call 55; (with_reducible refine (HST.out _ _ HBD2.out).mono ?_); rintro e w7 ⟨rfl, hb7⟩; have HB7 := Lib.hid hb7; clear hb7))
        go_ret
        exact ⟨congrArg (fun x : List UInt8 => Ending.returned (Value.string ⟨x.toArray⟩)) HR.out.symm, HB6.out.trans HB7.out⟩
    | succ n1 =>
      have i1 : (0 : Int) < (n1 : Int) + 1 := by omega
      cases p2 with
      | zero =>
        have HR : Hid (slashed (ctext l1 l2) = acc ++ slashed ((l1.drop k).map wtext)) := by
          show _ = _
          rw [HFO.out, List.drop_of_length_le (l := l2) (by omega), ctext_right]
        have HWM : Hid (Calls Tryd.prog 54 #[.pointer (some ⟨w.heap.size, 0, none⟩), .slice B1 (n1 + 1) q1] wr fun e w' => e = .returned (.tuple #[]) ∧ BldAt w.heap.size (acc ++ slashed ((l1.drop k).map wtext)) w' ∧ Below w.heap.size wr w') := by
          obtain rfl := HB1.out (by omega)
          refine writeMatchingPath_any w.heap.size (l1.drop k) _ acc wr HBD.out ((HV1.out.keep HBR.out).drop hk1 hq1 fun _ => ⟨b1, o1, rfl, rfl⟩) ?_ (by omega) (by rw [List.length_drop]; omega) (fun g hg => HS1.out g (List.drop_subset _ _ hg))
          rintro b o n c he
          cases he
          exact hb1
        obtain ⟨T1, hT1⟩ : ∃ T, T = (l1.drop k).map wtext := ⟨_, rfl⟩
        rw [← hT1] at HR HWM
        clear hT1
        go_wp2_with (first
          | (go_at_call 54; (with_reducible refine HWM.out.mono ?_); rintro e w6 ⟨rfl, hbd, hb6⟩; have HB6 := Lib.hid (HBR.out.trans hb6); have HBD2 := Lib.hid hbd; clear hb6 hbd)
          | (go_at_call 55; (with_reducible refine (HST.out _ _ HBD2.out).mono ?_); rintro e w7 ⟨rfl, hb7⟩; have HB7 := Lib.hid hb7; clear hb7))
        go_ret
        exact ⟨congrArg (fun x : List UInt8 => Ending.returned (Value.string ⟨x.toArray⟩)) HR.out.symm, HB6.out.trans HB7.out⟩
      | succ n2 =>
        have i2 : (0 : Int) < (n2 : Int) + 1 := by omega
        obtain ⟨c1, rfl⟩ : ∃ c, q1 = c + 1 := ⟨q1 - 1, by omega⟩
        obtain ⟨c2, rfl⟩ : ∃ c, q2 = c + 1 := ⟨q2 - 1, by omega⟩
        obtain rfl := HB1.out (by omega)
        obtain rfl := HB2.out (by omega)
        obtain ⟨⟨s1, v1, u1⟩, hg1⟩ : ∃ g, l1[k]? = some g := ⟨_, List.getElem?_eq_getElem (by omega)⟩
        obtain ⟨⟨s2, v2, u2⟩, hg2⟩ : ∃ g, l2[k]? = some g := ⟨_, List.getElem?_eq_getElem (by omega)⟩
        obtain ⟨b, o, hbo, hbl, d0, d1, d2⟩ := HF1.out k _ hg1
        simp only [Option.some.injEq, Addr.mk.injEq, and_true] at hbo
        obtain ⟨rfl, rfl⟩ := hbo
        obtain ⟨b', o', hbo, hbl', f0, f1, f2⟩ := HF2.out k _ hg2
        simp only [Option.some.injEq, Addr.mk.injEq, and_true] at hbo
        obtain ⟨rfl, rfl⟩ := hbo
        have g0 : wr.cell? ⟨b1, o1 + k * 3, none⟩ = some (.string ⟨s1.toArray⟩) := (HBR.out.cell hbl).trans d0
        have g1 : wr.cell? ⟨b1, o1 + k * 3 + 1, none⟩ = some (.bool v1) := (HBR.out.cell hbl).trans d1
        have g2 : wr.cell? ⟨b1, o1 + k * 3 + 2, none⟩ = some (.bool u1) := (HBR.out.cell hbl).trans d2
        have hsz : w.heap.size ≤ wr.heap.size := HBR.out.size
        have HA : Hid (Below w.heap.size w (wr.alloc (.cells #[.string ⟨s1.toArray⟩, .bool v1, .bool u1] 78))) := HBR.out.alloc hsz _
        have j0 : (wr.alloc (.cells #[.string ⟨s1.toArray⟩, .bool v1, .bool u1] 78)).cell? ⟨b2, o2 + k * 3, none⟩ = some (.string ⟨s2.toArray⟩) := (HA.out.cell hbl').trans f0
        have j1 : (wr.alloc (.cells #[.string ⟨s1.toArray⟩, .bool v1, .bool u1] 78)).cell? ⟨b2, o2 + k * 3 + 1, none⟩ = some (.bool v2) := (HA.out.cell hbl').trans f1
        have j2 : (wr.alloc (.cells #[.string ⟨s1.toArray⟩, .bool v1, .bool u1] 78)).cell? ⟨b2, o2 + k * 3 + 2, none⟩ = some (.bool u2) := (HA.out.cell hbl').trans f2
        have hw1 : s1.length ≤ 16 := HS1.out _ (List.mem_of_getElem? hg1)
        have hw2 : s2.length ≤ 16 := HS2.out _ (List.mem_of_getElem? hg2)
        obtain ⟨gx, hgx⟩ : ∃ gx : Seg, gx = if v1 then ⟨s2, v2, u2⟩ else ⟨s1, v1, u1⟩ := ⟨_, rfl⟩
        have hgl : gx.s.length ≤ 16 := by rw [hgx]; cases v1 <;> assumption
        have hwt : (wtext gx).length ≤ 16 := by
          unfold wtext
          split
          · exact hgl
          · simp
        have HF2' : Hid (slashed (ctext l1 l2) = (acc ++ 47 :: wtext gx) ++ slashed (ctext (l1.drop (k + 1)) (l2.drop (k + 1)))) := by
          show _ = _
          rw [HFO.out, ctext_step l1 l2 k _ _ hg1 hg2, hgx, List.append_assoc]
        have HWS : Hid (∀ W, BldAt w.heap.size acc W → Below w.heap.size w W → Calls Tryd.prog 53 #[.pointer (some ⟨w.heap.size, 0, none⟩), .agg #[.string ⟨gx.s.toArray⟩, .bool gx.wild, .bool gx.multi]] W fun e w' => e = .returned (.tuple #[]) ∧ BldAt w.heap.size (acc ++ 47 :: wtext gx) w' ∧ Below w.heap.size w w') := by
          intro W hW hbW
          exact (writeSegment_any w.heap.size gx acc W hW (by omega) (by omega)).mono fun e w' ⟨x, y, z⟩ => ⟨x, y, hbW.trans z⟩
        have HBA : Hid (BldAt w.heap.size acc (wr.alloc (.cells #[.string ⟨s1.toArray⟩, .bool v1, .bool u1] 78))) := HBD.out.alloc _
        have HLN : Hid ((acc ++ 47 :: wtext gx).length ≤ (k + 1) * 17) := by
          show _ ≤ _
          rw [List.length_append, List.length_cons]; omega
        have i3 : (1 : Int) ≤ (n1 : Int) + 1 := by omega
        have i4 : (1 : Int) ≤ (n2 : Int) + 1 := by omega
        have HK1 := Lib.hid hk1
        have HK2 := Lib.hid hk2
        clear d0 d1 d2 f0 f1 f2 hg1 hg2 hk1 hk2 HB1 HB2 HFO hgl hwt hw1 hw2 hal
        cases v1
        all_goals
          simp only [if_true, if_false, Bool.false_eq_true] at hgx
          subst hgx
          go_upto_region 5 with (go_at_call 53; (with_reducible refine (HWS.out _ HBA.out HA.out).mono ?_); rintro e w7 ⟨rfl, hbd, hb7⟩; have HBD2 := Lib.hid hbd; have HBX := Lib.hid hb7; clear hbd hb7)
          go_quiet (fail)
          go_wp2_with fail
          have hk1 := HK1.out
          have hk2 := HK2.out
          refine ⟨⟨k + 1, n1, c1, n2, c2, _, _, _, by omega, by omega, by omega, by omega, rfl, rfl, ?_, ?_, HF2', HLN, HBD2.out.drew _, below_drew3 HBX.out _⟩, ?_⟩
          · intro h
            rw [if_neg (by omega), show o1 + k * 3 + 3 = o1 + (k + 1) * 3 by omega]
          · intro h
            rw [if_neg (by omega), show o2 + k * 3 + 3 = o2 + (k + 1) * 3 by omega]
          · show n1 < n1 + 1
            omega

set_option maxRecDepth 100000 in
set_option maxHeartbeats 1600000 in
theorem implCommon_any (m1 m2 h1 h2 : ByteArray) (l1 l2 : List Seg) (w : World) (G1 : GoodP (bs m1) (bs h1) l1) (G2 : GoodP (bs m2) (bs h2) l2) (hprops : PropsAt w) :
    Calls Tryd.prog 17 #[.string (writeS m1 h1 l1), .string (writeS m2 h2 l2)] w fun e w' => e = .returned (.string ⟨(slashed (ctext l1 l2)).toArray⟩) ∧ Below w.heap.size w w' := by
  have HM1 := Lib.hid (show Calls Tryd.prog 50 #[.string (writeS m1 h1 l1)] w (MustEnd w m1 h1 l1) from must_written m1 h1 l1 w G1 hprops)
  have HM2 : Hid (∀ w', Below w.heap.size w w' → Calls Tryd.prog 50 #[.string (writeS m2 h2 l2)] w' (MustEnd w' m2 h2 l2)) := fun w' hb => must_written m2 h2 l2 w' G2 (hprops.below hb)
  have HG1 := Lib.hid G1
  have HG2 := Lib.hid G2
  clear hprops G1 G2
  generalize writeS m1 h1 l1 = t1 at HM1 ⊢
  generalize writeS m2 h2 l2 = t2 at HM2 ⊢
  go_enter Tryd.func17, Tryd.ntmps17
  go_wp2_with (first
    | (go_at_call 40; go_in)
    | (go_at_call 50; (with_reducible refine HM1.out.mono ?_); rintro e w1 ⟨a, rfl, hp1, hb1⟩; have HP1 := Lib.hid hp1; have HB1 := Lib.hid hb1; clear hp1 hb1)
    | (go_at_call 50; (with_reducible refine (HM2.out _ HB1.out).mono ?_); rintro e w2 ⟨b, rfl, hp2, hb2⟩; have HP2 := Lib.hid hp2; have HB2 := Lib.hid hb2; clear hp2 hb2)
    | (go_at_call 49; refine (commonPath_any a b m1 m2 h1 h2 l1 l2 _ (HP1.out.keep HB2.out) HP2.out HG1.out HG2.out).mono ?_; rintro e w3 ⟨rfl, hb3⟩; have HB3 := Lib.hid hb3; clear hb3))
  go_ret
  exact ⟨rfl, (HB1.out.trans (HB2.out.mono HB1.out.size)).trans (HB3.out.mono (by have := HB1.out.size; have := HB2.out.size; omega))⟩
end Go.Proofs.YtkfokofccakagaaDoor
