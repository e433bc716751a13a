/-
  Proved: comparePaths answers as Kd.byPaths of what the pieces stand for. Condition: the patterns can be read, and have pieces, at most 2^31 - 1 each.
-/
import Derived.Test.YtkfokofccakagaaDoorCmp
import Derived.Deep.CutBlock
import Derived.Deep.DeepCutAuto
import Derived.Deep.RegionHeld3
import Derived.StillTailTactics
namespace Go.Proofs.YtkfokofccakagaaDoor
open Go.RowKit

/-- What lastSegment answers. -/
def LastEnd (w : World) (g : Seg) (e : Ending) (w' : World) : Prop := e = .returned (.agg #[.string ⟨g.s.toArray⟩, .bool g.wild, .bool g.multi]) ∧ Below w.heap.size w w'

set_option maxRecDepth 100000 in
set_option maxHeartbeats 1600000 in
theorem last_any (a : Nat) (m h : ByteArray) (l : List Seg) (g : Seg) (w : World) (H : PatAt w a m h l) (hg : l.getLast? = some g) (hl : l.length ≤ 2147483647) :
    Calls Tryd.prog 74 #[.pointer (some ⟨a, 0, none⟩)] w (LastEnd w g) := by
  obtain ⟨n, hn⟩ : ∃ n, l.length = n + 1 := ⟨l.length - 1, by cases l with | nil => simp at hg | cons x t => simp⟩
  have hgn : l[n]? = some g := by rw [List.getLast?_eq_getElem?, hn] at hg; exact hg
  obtain ⟨_, _, _, sv, c3, A, cap, rfl, hlc, hf⟩ := H
  obtain ⟨b, o, rfl, hb, d0, d1, d2⟩ := hf n g hgn
  rw [hn] at c3 hlc hl
  have d0' : w.cell? ⟨b, o + n * 3, none⟩ = some (.string ⟨g.s.toArray⟩) := d0
  have i1 : (0 : Int) ≤ (n : Int) := by omega
  clear hf hg hgn hn d0
  go_enter Tryd.func74, Tryd.ntmps74
  go_wp2_with fail
  go_region
  go_wp2_with fail
  refine bodyPost_ret (v := .agg #[.string ⟨g.s.toArray⟩, .bool g.wild, .bool g.multi]) (by simp [results, Tryd.results74, go_sem]) rfl ⟨rfl, ?_⟩
  exact below_drew3 ((Below.refl _ _).alloc (Nat.le_refl _) _) 1

theorem field2 (x : List UInt8) (a b : Bool) (w : World) : (Instr.field 78 (.agg #[.string ⟨x.toArray⟩, .bool a, .bool b]) 2).run Tryd.prog w = .ok (.bool b) w := by kernel_rfl

/-- What holds at the head of each round: k pieces are compared, p1 and p2 are left. -/
def PathR (b1 o1 b2 o2 : Nat) (l1 l2 : List Seg) (w : World) (v5 v6 v7 : Value) (wr : World) : Prop :=
  ∃ (k p1 q1 p2 q2 : Nat) (B1 B2 : Option Addr) (r : Rel), p1 + k = l1.length ∧ p2 + k = l2.length ∧ p1 ≤ q1 ∧ p2 ≤ q2 ∧ v5 = .slice B1 p1 q1 ∧ v6 = .slice B2 p2 q2 ∧ v7 = .string r.text ∧
    Hid (0 < p1 → B1 = some ⟨b1, o1 + k * 3, none⟩) ∧ Hid (0 < p2 → B2 = some ⟨b2, o2 + k * 3, none⟩) ∧
    Hid (Kd.fold2 (l1.map kindOf) (l2.map kindOf) = r.comb (Kd.fold2 ((l1.map kindOf).drop k) ((l2.map kindOf).drop k))) ∧ Hid (r ≠ .dis) ∧ Below w.heap.size w wr

set_option maxRecDepth 100000 in
set_option maxHeartbeats 3200000 in
theorem comparePaths_any (a b : Nat) (m1 m2 h1 h2 : ByteArray) (l1 l2 : List Seg) (w : World) (H1 : PatAt w a m1 h1 l1) (H2 : PatAt w b m2 h2 l2) (n1 : l1 ≠ []) (n2 : l2 ≠ []) (z1 : l1.length ≤ 2147483647) (z2 : l2.length ≤ 2147483647) :
    Calls Tryd.prog 59 #[.pointer (some ⟨a, 0, none⟩), .pointer (some ⟨b, 0, none⟩)] w fun e w' => e = .returned (.string (Kd.byPaths (l1.map kindOf) (l2.map kindOf)).text) ∧ Below w.heap.size w w' := by
  obtain ⟨g1, hg1⟩ : ∃ g, l1.getLast? = some g := by cases h : l1.getLast? with | some g => exact ⟨g, rfl⟩ | none => exact absurd (List.getLast?_eq_none_iff.1 h) n1
  obtain ⟨g2, hg2⟩ : ∃ g, l2.getLast? = some g := by cases h : l2.getLast? with | some g => exact ⟨g, rfl⟩ | none => exact absurd (List.getLast?_eq_none_iff.1 h) n2
  have HL1 : Hid (∀ w', Below w.heap.size w w' → Calls Tryd.prog 74 #[.pointer (some ⟨a, 0, none⟩)] w' (LastEnd w' g1)) := fun w' hb => last_any a m1 h1 l1 g1 w' (H1.keep hb) hg1 z1
  have HL2 : Hid (∀ w', Below w.heap.size w w' → Calls Tryd.prog 74 #[.pointer (some ⟨b, 0, none⟩)] w' (LastEnd w' g2)) := fun w' hb => last_any b m2 h2 l2 g2 w' (H2.keep hb) hg2 z2
  have hla := lastRest_kinds l1 g1 hg1
  have hlb := lastRest_kinds l2 g2 hg2
  obtain ⟨gs1, gw1, gm1⟩ := g1
  obtain ⟨gs2, gw2, gm2⟩ := g2
  simp only at hla hlb
  have HLA := Lib.hid hla
  have HLB := Lib.hid hlb
  obtain ⟨ha, _, _, sv1, ca, A1, cap1, rfl, hlc1, hf1⟩ := H1
  obtain ⟨hb, _, _, sv2, cb, A2, cap2, rfl, hlc2, hf2⟩ := H2
  have HF1 := Lib.hid hf1
  have HF2 := Lib.hid hf2
  have HN1 := Lib.hid n1
  have HN2 := Lib.hid n2
  clear hla hlb hg1 hg2 hf1 hf2 n1 n2
  have hfld := field2
  go_enter Tryd.func59, Tryd.ntmps59
  go_upto_region 1 with fail
  go_cut [30] (fun c wx => ∃ q : Bool, c = .bool q ∧ Hid (q = (decide (l1.length ≠ l2.length) && !gm1 && !gm2)) ∧ Below w.heap.size w wx)
  case first =>
    by_cases he : l1.length = l2.length
    · have e0 : ((l1.length : Int) != (l2.length : Int)) = false := by rw [bne_eq_false_iff_eq]; omega
      have HQ : Hid (false = (decide (l1.length ≠ l2.length) && !gm1 && !gm2)) := by show _ = _; simp [he]
      clear he
      go_quiet (fail)
      go_wp2
      go_meet
      exact ⟨_, rfl, HQ, below_drew3 (Below.refl _ _) _⟩
    · have e0 : ((l1.length : Int) != (l2.length : Int)) = true := by rw [bne_iff_ne]; omega
      have HD : Hid (Below w.heap.size w w.drew) := below_drew3 (Below.refl _ _) 1
      go_still_tail 12, (by kernel_rfl)
      change wpList _ _ _ _ _ w.drew
      obtain ⟨wd, hwd⟩ : ∃ wd, wd = w.drew := ⟨_, rfl⟩
      rw [← hwd] at HD
      rw [← hwd]
      clear hwd
      cases gm1
      · have HQ : Hid ((!gm2) = (decide (l1.length ≠ l2.length) && !false && !gm2)) := by show _ = _; simp [he]
        clear he
        go_wp2_with (first | (go_at_call 74; (with_reducible refine (HL1.out _ HD.out).mono ?_); rintro e w7 ⟨rfl, hb7⟩; have HB7 := Lib.hid (HD.out.trans (hb7.mono HD.out.size)); clear hb7) | (go_at_call 74; (with_reducible refine (HL2.out _ HB7.out).mono ?_); rintro e w8 ⟨rfl, hb8⟩; have HB8 := Lib.hid (HB7.out.trans (hb8.mono HB7.out.size)); clear hb8))
        go_meet
        exact ⟨_, rfl, HQ, HB8.out⟩
      · have HQ : Hid (false = (decide (l1.length ≠ l2.length) && !true && !gm2)) := by show _ = _; simp
        clear he
        go_wp2_with (go_at_call 74; (with_reducible refine (HL1.out _ HD.out).mono ?_); rintro e w7 ⟨rfl, hb7⟩; have HB7 := Lib.hid (HD.out.trans (hb7.mono HD.out.size)); clear hb7)
        go_meet
        exact ⟨_, rfl, HQ, HB7.out⟩
  case rest =>
    obtain ⟨q, rfl, HQ, hbc⟩ := hcut
    obtain ⟨wb, rfl⟩ : ∃ wb : World, wb = wc := ⟨_, rfl⟩
    have HBC := Lib.hid hbc
    have ca' : wb.cell? ⟨a, 3, none⟩ = some (.slice A1 l1.length cap1) := (hbc.cell (p := ⟨a, 3, none⟩) ha).trans ca
    have cb' : wb.cell? ⟨b, 3, none⟩ = some (.slice A2 l2.length cap2) := (hbc.cell (p := ⟨b, 3, none⟩) hb).trans cb
    obtain ⟨x1, hx1⟩ : ∃ g, l1[0]? = some g := ⟨_, List.getElem?_eq_getElem (List.length_pos_iff.2 HN1.out)⟩
    obtain ⟨x2, hx2⟩ : ∃ g, l2[0]? = some g := ⟨_, List.getElem?_eq_getElem (List.length_pos_iff.2 HN2.out)⟩
    obtain ⟨b1, o1, rfl, hb1, _⟩ := HF1.out 0 x1 hx1
    obtain ⟨b2, o2, rfl, hb2, _⟩ := HF2.out 0 x2 hx2
    clear hbc ca cb hx1 hx2
    cases q
    · go_upto_region 5 with fail
      go_quiet (fail)
      go_wp2_with fail
      go_loopw [5, 6, 7] (fun v5 v6 v7 wr => PathR b1 o1 b2 o2 l1 l2 w v5 v6 v7 wr) (fun v5 _ _ _ => sliceLen v5)
      case atStart =>
        exact ⟨0, l1.length, cap1, l2.length, cap2, _, _, .eqv, rfl, rfl, hlc1, hlc2, rfl, rfl, rfl, fun _ => rfl, fun _ => rfl, by show _ = _; rw [Kd.eqv_comb]; rfl, by show _ ≠ _; simp, below_drew3 HBC.out _⟩
      case round =>
        obtain ⟨k, p1, q1, p2, q2, B1, B2, r, hk1, hk2, hq1, hq2, rfl, rfl, rfl, HB1, HB2, HFO, HNR, hbr⟩ := hrel
        have HBR := Lib.hid hbr
        have HK1 := Lib.hid hk1
        have HK2 := Lib.hid hk2
        clear hbr ca' cb'
        cases p1 with
        | zero =>
          have HFR : Hid (Kd.fold2 (l1.map kindOf) (l2.map kindOf) = r) := by
            show _ = _
            rw [HFO.out, List.drop_of_length_le (i := k) (by rw [List.length_map]; omega), Kd.fold2_nil_left, Kd.comb_eqv]
          cases p2 with
          | zero =>
            have HR : Hid (Kd.byPaths (l1.map kindOf) (l2.map kindOf) = r) := by
              show _ = _
              unfold Kd.byPaths
              rw [List.length_map, List.length_map, if_pos (by omega), HFR.out]
            clear hk1 hk2
            go_wp2_with fail
            go_ret
            exact ⟨congrArg (fun x => Ending.returned (Value.string (Rel.text x))) HR.out.symm, HBR.out⟩
          | succ n2 =>
            have HR : Hid (Kd.byPaths (l1.map kindOf) (l2.map kindOf) = if gm1 then r.comb .gen else .dis) := by
              show _ = _
              unfold Kd.byPaths
              rw [List.length_map, List.length_map, if_neg (by omega), if_pos (by omega), HFR.out, HLA.out]
            have hz2 : n2 + 1 ≤ 2147483647 := by omega
            clear hk1 hk2
            cases gm1
            · go_wp2_with (go_at_call 74; (with_reducible refine (HL1.out _ HBR.out).mono ?_); rintro e w7 ⟨rfl, hb7⟩; have HB7 := Lib.hid (HBR.out.trans (hb7.mono HBR.out.size)); clear hb7)
              go_ret
              exact ⟨congrArg (fun x => Ending.returned (Value.string (Rel.text x))) HR.out.symm, HB7.out⟩
            · go_wp2_with (first
                | (go_at_call 74; (with_reducible refine (HL1.out _ HBR.out).mono ?_); rintro e w7 ⟨rfl, hb7⟩; have HB7 := Lib.hid (HBR.out.trans (hb7.mono HBR.out.size)); clear hb7)
                | (go_at_call 73; refine (combine_any r .gen _).mono ?_; rintro e w8 ⟨rfl, rfl⟩))
              go_ret
              exact ⟨congrArg (fun x => Ending.returned (Value.string (Rel.text x))) HR.out.symm, HB7.out⟩
        | succ n1 =>
          cases p2 with
          | zero =>
            have HFR : Hid (Kd.fold2 (l1.map kindOf) (l2.map kindOf) = r) := by
              show _ = _
              rw [HFO.out, List.drop_of_length_le (i := k) (l := l2.map kindOf) (by rw [List.length_map]; omega), Kd.fold2_nil_right, Kd.comb_eqv]
            have HR : Hid (Kd.byPaths (l1.map kindOf) (l2.map kindOf) = if gm2 then r.comb .spc else .dis) := by
              show _ = _
              unfold Kd.byPaths
              rw [List.length_map, List.length_map, if_neg (by omega), if_neg (by omega), HFR.out, HLB.out]
            have hz1 : n1 + 1 ≤ 2147483647 := by omega
            clear hk1 hk2
            cases gm2
            · go_wp2_with (go_at_call 74; (with_reducible refine (HL2.out _ HBR.out).mono ?_); rintro e w7 ⟨rfl, hb7⟩; have HB7 := Lib.hid (HBR.out.trans (hb7.mono HBR.out.size)); clear hb7)
              go_ret
              exact ⟨congrArg (fun x => Ending.returned (Value.string (Rel.text x))) HR.out.symm, HB7.out⟩
            · go_wp2_with (first
                | (go_at_call 74; (with_reducible refine (HL2.out _ HBR.out).mono ?_); rintro e w7 ⟨rfl, hb7⟩; have HB7 := Lib.hid (HBR.out.trans (hb7.mono HBR.out.size)); clear hb7)
                | (go_at_call 73; refine (combine_any r .spc _).mono ?_; rintro e w8 ⟨rfl, rfl⟩))
              go_ret
              exact ⟨congrArg (fun x => Ending.returned (Value.string (Rel.text x))) HR.out.symm, HB7.out⟩
          | succ n2 =>
            obtain ⟨c1, rfl⟩ : ∃ c, q1 = c + 1 := ⟨q1 - 1, by omega⟩
            obtain ⟨c2, rfl⟩ : ∃ c, q2 = c + 1 := ⟨q2 - 1, by omega⟩
            obtain rfl := HB1.out (by omega)
            obtain rfl := HB2.out (by omega)
            obtain ⟨⟨s1, v1, u1⟩, hg1⟩ : ∃ g, l1[k]? = some g := ⟨_, List.getElem?_eq_getElem (by omega)⟩
            obtain ⟨⟨s2, v2, u2⟩, hg2⟩ : ∃ g, l2[k]? = some g := ⟨_, List.getElem?_eq_getElem (by omega)⟩
            obtain ⟨b, o, hbo, hbl, d0, d1, d2⟩ := HF1.out k _ hg1
            simp only [Option.some.injEq, Addr.mk.injEq, and_true] at hbo
            obtain ⟨rfl, rfl⟩ := hbo
            obtain ⟨b', o', hbo, hbl', f0, f1, f2⟩ := HF2.out k _ hg2
            simp only [Option.some.injEq, Addr.mk.injEq, and_true] at hbo
            obtain ⟨rfl, rfl⟩ := hbo
            have g0 : wr.cell? ⟨b1, o1 + k * 3, none⟩ = some (.string ⟨s1.toArray⟩) := (HBR.out.cell hbl).trans d0
            have g1 : wr.cell? ⟨b1, o1 + k * 3 + 1, none⟩ = some (.bool v1) := (HBR.out.cell hbl).trans d1
            have g2 : wr.cell? ⟨b1, o1 + k * 3 + 2, none⟩ = some (.bool u1) := (HBR.out.cell hbl).trans d2
            have j0 : wr.cell? ⟨b2, o2 + k * 3, none⟩ = some (.string ⟨s2.toArray⟩) := (HBR.out.cell hbl').trans f0
            have j1 : wr.cell? ⟨b2, o2 + k * 3 + 1, none⟩ = some (.bool v2) := (HBR.out.cell hbl').trans f1
            have j2 : wr.cell? ⟨b2, o2 + k * 3 + 2, none⟩ = some (.bool u2) := (HBR.out.cell hbl').trans f2
            obtain ⟨y, hy⟩ : ∃ y, y = Kd.by2 (kindOf ⟨s1, v1, u1⟩) (kindOf ⟨s2, v2, u2⟩) := ⟨_, rfl⟩
            have HCS : Hid (∀ w, Calls Tryd.prog 75 #[.agg #[.string ⟨s1.toArray⟩, .bool v1, .bool u1], .agg #[.string ⟨s2.toArray⟩, .bool v2, .bool u2]] w fun e w' => e = .returned (.string y.text) ∧ Below w.heap.size w w') := by
              intro w
              rw [hy]
              exact compareSegments_any ⟨s1, v1, u1⟩ ⟨s2, v2, u2⟩ w
            have HF2' : Hid (Kd.fold2 (l1.map kindOf) (l2.map kindOf) = (r.comb y).comb (Kd.fold2 ((l1.map kindOf).drop (k + 1)) ((l2.map kindOf).drop (k + 1)))) := by
              show _ = _
              rw [HFO.out, drop_map_step l1 k _ hg1, drop_map_step l2 k _ hg2, Rel.comb_assoc, hy]
              rfl
            have HM1 := Lib.hid (show n1 + 1 ≤ 2147483647 by omega)
            have HM2 := Lib.hid (show n2 + 1 ≤ 2147483647 by omega)
            have i1 : (0 : Int) < (n1 : Int) + 1 := by omega
            have i2 : (0 : Int) < (n2 : Int) + 1 := by omega
            clear d0 d1 d2 f0 f1 f2 hy hg1 hg2 hk1 hk2 HB1 HB2 HFO
            go_upto_region 8 with fail
            go_cut [7] (fun v wx => v = .string (r.comb y).text ∧ Below wr.heap.size wr wx)
            case first =>
              have HD : Hid (Below wr.heap.size wr wr.drew) := below_drew3 (Below.refl _ _) 1
              have hsw := HBR.out.size
              have dg0 : wr.drew.cell? ⟨b1, o1 + k * 3, none⟩ = some (.string ⟨s1.toArray⟩) := g0
              have dg1 : wr.drew.cell? ⟨b1, o1 + k * 3 + 1, none⟩ = some (.bool v1) := g1
              have dg2 : wr.drew.cell? ⟨b1, o1 + k * 3 + 2, none⟩ = some (.bool u1) := g2
              have dj0 : wr.drew.cell? ⟨b2, o2 + k * 3, none⟩ = some (.string ⟨s2.toArray⟩) := j0
              have dj1 : wr.drew.cell? ⟨b2, o2 + k * 3 + 1, none⟩ = some (.bool v2) := j1
              have dj2 : wr.drew.cell? ⟨b2, o2 + k * 3 + 2, none⟩ = some (.bool u2) := j2
              clear g0 g1 g2 j0 j1 j2
              go_region_held3 (fun w' => w'.cell? ⟨b1, o1 + k * 3, none⟩ = some (.string ⟨s1.toArray⟩) ∧ w'.cell? ⟨b1, o1 + k * 3 + 1, none⟩ = some (.bool v1) ∧ w'.cell? ⟨b1, o1 + k * 3 + 2, none⟩ = some (.bool u1) ∧ w'.cell? ⟨b2, o2 + k * 3, none⟩ = some (.string ⟨s2.toArray⟩) ∧ w'.cell? ⟨b2, o2 + k * 3 + 1, none⟩ = some (.bool v2) ∧ w'.cell? ⟨b2, o2 + k * 3 + 2, none⟩ = some (.bool u2))
                (first | exact ⟨dg0, dg1, dg2, dj0, dj1, dj2⟩ | exact ⟨xg0, xg1, xg2, xj0, xj1, xj2⟩)
                (first
                  | (go_at_call 75; (with_reducible refine (HCS.out _).mono ?_); rintro e w7 ⟨rfl, hb7⟩; have xg0 := (hb7.cell (p := ⟨b1, o1 + k * 3, none⟩) (Nat.lt_of_lt_of_le hbl hsw)).trans dg0; have xg1 := (hb7.cell (p := ⟨b1, o1 + k * 3 + 1, none⟩) (Nat.lt_of_lt_of_le hbl hsw)).trans dg1; have xg2 := (hb7.cell (p := ⟨b1, o1 + k * 3 + 2, none⟩) (Nat.lt_of_lt_of_le hbl hsw)).trans dg2; have xj0 := (hb7.cell (p := ⟨b2, o2 + k * 3, none⟩) (Nat.lt_of_lt_of_le hbl' hsw)).trans dj0; have xj1 := (hb7.cell (p := ⟨b2, o2 + k * 3 + 1, none⟩) (Nat.lt_of_lt_of_le hbl' hsw)).trans dj1; have xj2 := (hb7.cell (p := ⟨b2, o2 + k * 3 + 2, none⟩) (Nat.lt_of_lt_of_le hbl' hsw)).trans dj2; have HB7 := Lib.hid hb7; clear hb7)
                  | (go_at_call 73; refine (combine_any r y _).mono ?_; rintro e w8 ⟨rfl, rfl⟩))
              go_wp2_with fail
              go_meet
              exact ⟨rfl, HD.out.trans (HB7.out.mono HD.out.size)⟩
            case rest =>
              obtain ⟨rfl, hbw⟩ := hcut
              have HBX := Lib.hid (HBR.out.trans (hbw.mono HBR.out.size))
              clear hbw g0 g1 g2 j0 j1 j2
              obtain ⟨rr, hrr⟩ : ∃ rr, rr = r.comb y := ⟨_, rfl⟩
              rw [← hrr] at HF2'
              rw [← hrr]
              clear hrr
              by_cases hd : rr = .dis
              · subst hd
                have HR : Hid (Kd.byPaths (l1.map kindOf) (l2.map kindOf) = .dis) := by
                  show _ = _
                  have h1 := HF2'.out
                  rw [show ∀ z, Rel.dis.comb z = Rel.dis from fun z => by cases z <;> rfl] at h1
                  unfold Kd.byPaths
                  rw [h1]
                  split
                  · rfl
                  · split <;> split <;> rfl
                simp only [Rel.text]
                go_wp2_with fail
                go_ret
                exact ⟨congrArg (fun x => Ending.returned (Value.string (Rel.text x))) HR.out.symm, HBX.out⟩
              · have e1 : (rr.text.toList == [100, 105, 115, 106, 111, 105, 110, 116]) = false := by
                  rw [bs_toList]
                  cases rr <;> first | exact absurd rfl hd | rfl
                have HNR2 := Lib.hid hd
                clear hd
                have i3 : (1 : Int) ≤ (n1 : Int) + 1 := by omega
                have i4 : (1 : Int) ≤ (n2 : Int) + 1 := by omega
                go_upto_region 7 with fail
                go_quiet (fail)
                go_wp2_with fail
                have hk1 := HK1.out
                have hk2 := HK2.out
                refine ⟨⟨k + 1, n1, c1, n2, c2, _, _, rr, by omega, by omega, by omega, by omega, rfl, rfl, rfl, ?_, ?_, HF2', HNR2, below_drew3 HBX.out _⟩, ?_⟩
                · intro h
                  rw [if_neg (by omega), show o1 + k * 3 + 3 = o1 + (k + 1) * 3 by omega]
                · intro h
                  rw [if_neg (by omega), show o2 + k * 3 + 3 = o2 + (k + 1) * 3 by omega]
                · show n1 < n1 + 1
                  omega
    · have HD : Hid (Kd.byPaths (l1.map kindOf) (l2.map kindOf) = .dis) := by
        show _ = _
        have h := HQ.out.symm
        simp only [Bool.and_eq_true, Bool.not_eq_true', decide_eq_true_eq] at h
        unfold Kd.byPaths
        rw [List.length_map, List.length_map, if_neg h.1.1, HLA.out, HLB.out, h.1.2, h.2]
        split <;> rfl
      go_wp2_with fail
      go_ret
      exact ⟨congrArg (fun x => Ending.returned (Value.string (Rel.text x))) HD.out.symm, HBC.out⟩
end Go.Proofs.YtkfokofccakagaaDoor
