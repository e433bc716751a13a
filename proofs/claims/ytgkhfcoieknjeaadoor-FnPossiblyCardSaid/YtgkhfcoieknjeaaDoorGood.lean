/-
  Proved: spec.Good of a pattern returns true only if the pattern is 'GoodP'; it writes nothing that was there. Condition: the pattern can be read, its texts are shorter than 2^31 bytes.
-/
import Derived.Test.YtgkhfcoieknjeaaDoorFits
import Derived.Test.YtgkhfcoieknjeaaDoorClasses
import Derived.Test.YtgkhfcoieknjeaaDoorName
import Derived.Deep.CutBlock
namespace Go.Proofs.YtgkhfcoieknjeaaDoor
open Go.RowKit

/-- A piece by itself, which is the last one or not. -/
def okSeg (last : Bool) (g : Seg) : Prop :=
  g.s.length ≤ 16 ∧ (g.multi = true → g.wild = true ∧ last = true ∧ (g.s = [] ∨ nameB g.s = true)) ∧ (g.wild = true → g.multi = false → nameB g.s = true) ∧
    (g.wild = false → g.s = [47] → last = true) ∧ (g.wild = false → g.s ≠ [47] → literalB g.s = true)

/-- No two wildcards of one name. -/
def Apart (g g' : Seg) : Prop := ¬ (g.wild = true ∧ g'.wild = true ∧ g.s = g'.s)

structure GoodP (m h : List UInt8) (l : List Seg) : Prop where
  method : methodB m = true
  host : hostB h = true
  some_ : l ≠ []
  six : l.length ≤ 6
  seg : ∀ (i : Nat) (g : Seg), l[i]? = some g → okSeg (decide (i + 1 = l.length)) g
  apart : ∀ (i j : Nat) (g g' : Seg), l[i]? = some g → l[j]? = some g' → j < i → Apart g g'

/-- What is known of the first k pieces. -/
def GoodTo (l : List Seg) (k : Nat) : Prop := (∀ (i : Nat) (g : Seg), i < k → l[i]? = some g → okSeg (decide (i + 1 = l.length)) g) ∧ ∀ (i j : Nat) (g g' : Seg), i < k → l[i]? = some g → l[j]? = some g' → j < i → Apart g g'

theorem str_ne {s t : List UInt8} : ((s == t) = true) ↔ s = t := beq_iff_eq

set_option maxRecDepth 100000 in
set_option maxHeartbeats 4000000 in
theorem good_any (m h : ByteArray) (sv : Value) (l : List Seg) (w : World) (hsv : SegsAt w sv l) (hsh : FitsL l) (hm : m.size ≤ 2147483647) (hh : h.size ≤ 2147483647) :
    Calls Tryd.prog 18 #[.agg #[.string m, .string h, sv]] w (FitsEnd (GoodP (bs m) (bs h) l) w) := by
  obtain ⟨A, cap, rfl, hlc, hf⟩ := hsv
  have HF := Lib.hid hf
  have HS := Lib.hid hsh.2
  have hll := hsh.1
  clear hf hsh
  have hM : ∀ w, Calls Tryd.prog 31 #[.string m] w fun e w' => e = .returned (.bool (methodB (bs m))) ∧ w = w' := fun w => method_loop m w (by omega)
  have hH : ∀ w, Calls Tryd.prog 32 #[.string h] w fun e w' => e = .returned (.bool (hostB (bs h))) ∧ w = w' := fun w => host_loop h w (by omega)
  have hb0 : Below w.heap.size w (w.alloc (.cells #[.string m, .string h, .slice A l.length cap] 45)) := (Below.refl _ _).alloc (Nat.le_refl _) _
  have HB0 := Lib.hid hb0
  clear hb0
  cases hbm : methodB (bs m)
  · rw [hbm] at hM
    have HM := Lib.hid hM
    clear hM hH hbm
    go_enter Tryd.func18, Tryd.ntmps18
    go_wp2_with (go_at_call 31; refine (HM.out _).mono ?_; rintro e w' ⟨rfl, rfl⟩)
    go_ret
    exact ⟨HB0.out, .inl rfl⟩
  rw [hbm] at hM
  have HM := Lib.hid hM
  have HbM := Lib.hid hbm
  clear hM hbm
  cases hbh : hostB (bs h)
  · rw [hbh] at hH
    have HH := Lib.hid hH
    clear hH hbh
    go_enter Tryd.func18, Tryd.ntmps18
    go_wp2_with (first | (go_at_call 31; refine (HM.out _).mono ?_; rintro e w' ⟨rfl, rfl⟩) | (go_at_call 32; refine (HH.out _).mono ?_; rintro e w' ⟨rfl, rfl⟩))
    go_ret
    exact ⟨HB0.out, .inl rfl⟩
  rw [hbh] at hH
  have HH := Lib.hid hH
  have HbH := Lib.hid hbh
  clear hH hbh
  by_cases hl0 : l.length = 0
  · have t0 : ((l.length : Int) == 0) = true := by rw [hl0]; rfl
    clear hl0
    go_enter Tryd.func18, Tryd.ntmps18
    go_wp2_with (first | (go_at_call 31; refine (HM.out _).mono ?_; rintro e w' ⟨rfl, rfl⟩) | (go_at_call 32; refine (HH.out _).mono ?_; rintro e w' ⟨rfl, rfl⟩))
    go_ret
    exact ⟨HB0.out, .inl rfl⟩
  have t0 : ((l.length : Int) == 0) = false := by simpa using hl0
  have HL0 := Lib.hid hl0
  clear hl0
  by_cases hl6 : 6 < l.length
  · have t6 : decide ((6 : Int) < l.length) = true := by simp; omega
    go_enter Tryd.func18, Tryd.ntmps18
    go_wp2_with (first | (go_at_call 31; refine (HM.out _).mono ?_; rintro e w' ⟨rfl, rfl⟩) | (go_at_call 32; refine (HH.out _).mono ?_; rintro e w' ⟨rfl, rfl⟩))
    go_ret
    exact ⟨HB0.out, .inl rfl⟩
  have t6 : decide ((6 : Int) < l.length) = false := by simp; omega
  go_enter Tryd.func18, Tryd.ntmps18
  go_wp2_with (first | (go_at_call 31; refine (HM.out _).mono ?_; rintro e w' ⟨rfl, rfl⟩) | (go_at_call 32; refine (HH.out _).mono ?_; rintro e w' ⟨rfl, rfl⟩))
  go_loopw [33] (fun iv wr => ∃ k : Nat, k ≤ l.length ∧ iv = .int .i64 k ∧ Hid (GoodTo l k) ∧ Below (w.heap.size + 1) (w.alloc (.cells #[.string m, .string h, .slice A l.length cap] 45)) wr) (fun iv _ => l.length - (intOf iv).toNat)
  case atStart => exact ⟨0, Nat.zero_le _, rfl, ⟨fun i g hi => by omega, fun i j g g' hi => by omega⟩, Below.refl _ _⟩
  case round =>
    obtain ⟨k, hk, rfl, HK, hb⟩ := hrel
    have hbw : Below w.heap.size w wr := HB0.out.trans (hb.mono (by omega))
    have HBW := Lib.hid hbw
    have hp2 : wr.cell? ⟨w.heap.size, 2, none⟩ = some (.slice A l.length cap) := (hb.cell (p := ⟨w.heap.size, 2, none⟩) (by simp)).trans (by rw [World.cell?_alloc_new]; rfl)
    clear hbw
    by_cases hlt : k < l.length
    · obtain ⟨g, hg⟩ : ∃ g, l[k]? = some g := ⟨_, List.getElem?_eq_getElem hlt⟩
      obtain ⟨b, o, rfl, hbl, h1, h2, h3⟩ := HF.out k g hg
      have g1 : wr.cell? ⟨b, o + k * 3, none⟩ = some (.string ⟨g.s.toArray⟩) := (HBW.out.cell hbl).trans h1
      have g2 : wr.cell? ⟨b, o + k * 3 + 1, none⟩ = some (.bool g.wild) := (HBW.out.cell hbl).trans h2
      have g3 : wr.cell? ⟨b, o + k * 3 + 2, none⟩ = some (.bool g.multi) := (HBW.out.cell hbl).trans h3
      have HG := Lib.hid hg
      have hgs : g.s.length ≤ 2147483647 := HS.out g (List.mem_of_getElem? hg)
      have hbsz : w.heap.size < wr.heap.size := by have := hb.size; simp at this; omega
      clear h1 h2 h3 hg
      obtain ⟨gs, gw, gm⟩ := g
      simp only at g1 g2 g3 hgs
      have hN : ∀ w, Calls Tryd.prog 33 #[.string ⟨gs.toArray⟩] w fun e w' => e = .returned (.bool (nameB gs)) ∧ w = w' := fun w => name_any ⟨gs.toArray⟩ w (by show gs.length ≤ _; omega)
      have hL : ∀ w, Calls Tryd.prog 34 #[.string ⟨gs.toArray⟩] w fun e w' => e = .returned (.bool (literalB gs)) ∧ w = w' := fun w => literal_any ⟨gs.toArray⟩ w (by show gs.length ≤ _; omega)
      have HN0 := Lib.hid hN
      have HL0t := Lib.hid hL
      clear hN hL
      go_upto_block 2 with fail
      go_cut [5, 43] (fun _ _ wx => Hid (okSeg (decide (k + 1 = l.length)) ⟨gs, gw, gm⟩) ∧ wr.alloc (.cells #[.string ⟨gs.toArray⟩, .bool gw, .bool gm] 64) = wx)
      case first =>
        have hret : Below w.heap.size w (wr.alloc (.cells #[.string ⟨gs.toArray⟩, .bool gw, .bool gm] 64)) := HBW.out.alloc HBW.out.size _
        have HR := Lib.hid hret
        clear hret HBW HB0 hb HF HS HM HH HK HG
        by_cases h16 : 16 < gs.length
        · have f16 : decide ((16 : Int) < gs.length) = true := by simp; omega
          clear h16 HN0 HL0t
          go_wp2_with fail
          go_ret
          exact ⟨HR.out, .inl rfl⟩
        have f16 : decide ((16 : Int) < gs.length) = false := by simp; omega
        cases gm
        · cases gw
          · by_cases h47 : gs = [47]
            · have e47 : (gs == [47]) = true := by rw [h47]; rfl
              by_cases hlast : k + 1 = l.length
              · have ek : ((k : Int) == (l.length : Int) - 1) = true := by rw [beq_iff_eq]; omega
                have HO : Hid (okSeg (decide (k + 1 = l.length)) ⟨gs, false, false⟩) := ⟨by show gs.length ≤ 16; omega, by simp, by simp, by simp [hlast], by simp [h47]⟩
                clear h47 hlast h16 HN0 HL0t
                go_wp2_with fail
                go_meet
                exact ⟨HO, rfl⟩
              · have ek : ((k : Int) == (l.length : Int) - 1) = false := by rw [beq_eq_false_iff_ne]; omega
                clear h47 hlast h16 HN0 HL0t
                go_wp2_with fail
                go_ret
                exact ⟨HR.out, .inl rfl⟩
            · have e47 : (gs == [47]) = false := by simpa using h47
              cases hlit : literalB gs
              · have hL := HL0t.out
                rw [hlit] at hL
                have HLt := Lib.hid hL
                have HN := HN0
                clear h47 h16 hlit hL
                go_wp2_with (first | (go_at_call 33; refine (HN.out _).mono ?_; rintro e w' ⟨rfl, rfl⟩) | (go_at_call 34; refine (HLt.out _).mono ?_; rintro e w' ⟨rfl, rfl⟩))
                go_ret
                exact ⟨HR.out, .inl rfl⟩
              · have hL := HL0t.out
                rw [hlit] at hL
                have HLt := Lib.hid hL
                have HN := HN0
                have HO : Hid (okSeg (decide (k + 1 = l.length)) ⟨gs, false, false⟩) := ⟨by show gs.length ≤ 16; omega, by simp, by simp, fun _ h => absurd h h47, fun _ _ => hlit⟩
                clear h47 h16 hlit hL
                go_wp2_with (first | (go_at_call 33; refine (HN.out _).mono ?_; rintro e w' ⟨rfl, rfl⟩) | (go_at_call 34; refine (HLt.out _).mono ?_; rintro e w' ⟨rfl, rfl⟩))
                go_meet
                exact ⟨HO, rfl⟩
          · cases hnm : nameB gs
            · have hN := HN0.out
              rw [hnm] at hN
              have HN := Lib.hid hN
              have HLt := HL0t
              clear h16 hnm hN
              go_wp2_with (first | (go_at_call 33; refine (HN.out _).mono ?_; rintro e w' ⟨rfl, rfl⟩) | (go_at_call 34; refine (HLt.out _).mono ?_; rintro e w' ⟨rfl, rfl⟩))
              go_ret
              exact ⟨HR.out, .inl rfl⟩
            · have hN := HN0.out
              rw [hnm] at hN
              have HN := Lib.hid hN
              have HLt := HL0t
              have HO : Hid (okSeg (decide (k + 1 = l.length)) ⟨gs, true, false⟩) := ⟨by show gs.length ≤ 16; omega, by simp, fun _ _ => hnm, by simp, by simp⟩
              clear h16 hnm hN
              go_wp2_with (first | (go_at_call 33; refine (HN.out _).mono ?_; rintro e w' ⟨rfl, rfl⟩) | (go_at_call 34; refine (HLt.out _).mono ?_; rintro e w' ⟨rfl, rfl⟩))
              go_meet
              exact ⟨HO, rfl⟩
        · cases gw
          · clear h16 HN0 HL0t
            go_wp2_with fail
            go_ret
            exact ⟨HR.out, .inl rfl⟩
          · by_cases hlast : k + 1 = l.length
            · have ek : ((k : Int) == (l.length : Int) - 1) = true := by rw [beq_iff_eq]; omega
              by_cases hge : gs = []
              · have e0 : gs.isEmpty = true := by rw [hge]; rfl
                have HO : Hid (okSeg (decide (k + 1 = l.length)) ⟨gs, true, true⟩) := ⟨by show gs.length ≤ 16; omega, fun _ => ⟨rfl, by simp [hlast], .inl hge⟩, by simp, by simp, by simp⟩
                clear hge hlast h16 HN0 HL0t
                go_wp2_with fail
                go_meet
                exact ⟨HO, rfl⟩
              · have e0 : gs.isEmpty = false := by simpa using hge
                cases hnm : nameB gs
                · have hN := HN0.out
                  rw [hnm] at hN
                  have HN := Lib.hid hN
                  have HLt := HL0t
                  clear h16 hnm hN hge hlast
                  go_wp2_with (first | (go_at_call 33; refine (HN.out _).mono ?_; rintro e w' ⟨rfl, rfl⟩) | (go_at_call 34; refine (HLt.out _).mono ?_; rintro e w' ⟨rfl, rfl⟩))
                  go_ret
                  exact ⟨HR.out, .inl rfl⟩
                · have hN := HN0.out
                  rw [hnm] at hN
                  have HN := Lib.hid hN
                  have HLt := HL0t
                  have HO : Hid (okSeg (decide (k + 1 = l.length)) ⟨gs, true, true⟩) := ⟨by show gs.length ≤ 16; omega, fun _ => ⟨rfl, by simp [hlast], .inr hnm⟩, by simp, by simp, by simp⟩
                  clear h16 hnm hN hge hlast
                  go_wp2_with (first | (go_at_call 33; refine (HN.out _).mono ?_; rintro e w' ⟨rfl, rfl⟩) | (go_at_call 34; refine (HLt.out _).mono ?_; rintro e w' ⟨rfl, rfl⟩))
                  go_meet
                  exact ⟨HO, rfl⟩
            · have ek : ((k : Int) == (l.length : Int) - 1) = false := by rw [beq_eq_false_iff_ne]; omega
              clear hlast h16 HN0 HL0t
              go_wp2_with fail
              go_ret
              exact ⟨HR.out, .inl rfl⟩
      case rest =>
        obtain ⟨HOK, rfl⟩ := hcut
        have hW : Below w.heap.size w (wr.alloc (.cells #[.string ⟨gs.toArray⟩, .bool gw, .bool gm] 64)) := HBW.out.alloc HBW.out.size _
        have HW := Lib.hid hW
        have hblk : (wr.alloc (.cells #[.string ⟨gs.toArray⟩, .bool gw, .bool gm] 64)).heap[wr.heap.size]? = some (.cells #[.string ⟨gs.toArray⟩, .bool gw, .bool gm] 64 (0, 0)) := new0 _ _
        have HBl := Lib.hid hblk
        have hwlt : b < wr.heap.size := by omega
        clear hW hblk
        have hsw : wr.heap.size < (wr.alloc (.cells #[.string ⟨gs.toArray⟩, .bool gw, .bool gm] 64)).heap.size := by simp
        go_wp2_with fail
        obtain ⟨wo, rfl⟩ : ∃ wo : World, wo = wr := ⟨_, rfl⟩
        go_loopw [119] (fun iv wi => ∃ j : Nat, j ≤ k ∧ iv = .int .i64 j ∧ Hid (∀ (j' : Nat) (g' : Seg), j' < j → l[j']? = some g' → Apart ⟨gs, gw, gm⟩ g') ∧
            Below (wo.heap.size + 1) (wo.alloc (.cells #[.string ⟨gs.toArray⟩, .bool gw, .bool gm] 64)) wi) (fun iv _ => k - (intOf iv).toNat)
        case atStart => exact ⟨0, Nat.zero_le _, rfl, fun j' g' hj => by omega, Below.refl _ _⟩
        case round =>
          obtain ⟨j, hj, rfl, HJ, hbi⟩ := hrel
          have hbwi : Below w.heap.size w _ := HW.out.trans (hbi.mono (by omega))
          have HBWI := Lib.hid hbwi
          have s0 := (hbi.cell (p := ⟨wo.heap.size, 0, none⟩) (by simp)).trans (blk_cell HBl.out 0)
          have s1 := (hbi.cell (p := ⟨wo.heap.size, 1, none⟩) (by simp)).trans (blk_cell HBl.out 1)
          have hwi := hbi.size
          simp only [World.size_alloc] at hwi
          have hwl : wo.heap.size < wr.heap.size := by omega
          have hbr : b < wr.heap.size := by omega
          clear hbwi
          by_cases hjl : j < k
          · obtain ⟨g', hg'⟩ : ∃ g', l[j]? = some g' := ⟨_, List.getElem?_eq_getElem (by omega)⟩
            obtain ⟨b', o', hbo, hbl', h1, h2, h3⟩ := HF.out j g' hg'
            simp only [Option.some.injEq, Addr.mk.injEq, and_true] at hbo
            obtain ⟨rfl, rfl⟩ := hbo
            have q1 := (HBWI.out.cell (p := ⟨b, o + j * 3, none⟩) hbl').trans h1
            have q2 := (HBWI.out.cell (p := ⟨b, o + j * 3 + 1, none⟩) hbl').trans h2
            have q3 := (HBWI.out.cell (p := ⟨b, o + j * 3 + 2, none⟩) hbl').trans h3
            have HG' := Lib.hid hg'
            clear h1 h2 h3 hg'
            obtain ⟨gs', gw', gm'⟩ := g'
            simp only [strV] at q1 q2 q3
            have HNext : Hid (Apart ⟨gs, gw, gm⟩ ⟨gs', gw', gm'⟩ → ∀ (j' : Nat) (g' : Seg), j' < j + 1 → l[j']? = some g' → Apart ⟨gs, gw, gm⟩ g') := by
              intro ha j' x hj' hx
              by_cases he : j' = j
              · subst he
                rw [HG'.out] at hx
                simp only [Option.some.injEq] at hx
                rw [← hx]; exact ha
              · exact HJ.out j' x (by omega) hx
            have HRet := Lib.hid (HBWI.out.alloc HBWI.out.size (.cells #[.string ⟨gs'.toArray⟩, .bool gw', .bool gm'] 64))
            have HBn := Lib.hid (hbi.alloc (by omega) (.cells #[.string ⟨gs'.toArray⟩, .bool gw', .bool gm'] 64))
            cases gw
            · have HA := Lib.hid (HNext.out (by simp [Apart]))
              clear HB0 HBW HS HM HH hb hp2 g1 g2 g3 HN0 HL0t t0 t6
              go_wp2_with fail
              go_roundw
              case rel => exact ⟨j + 1, by omega, by go_num, HA, HBn.out⟩
              case measure => simp [intOf]; omega
            · cases gw'
              · have HA := Lib.hid (HNext.out (by simp [Apart]))
                clear HB0 HBW HS HM HH hb hp2 g1 g2 g3 HN0 HL0t t0 t6
                go_wp2_with fail
                go_roundw
                case rel => exact ⟨j + 1, by omega, by go_num, HA, HBn.out⟩
                case measure => simp [intOf]; omega
              · by_cases hss : gs = gs'
                · have es : (gs == gs') = true := by simpa using hss
                  clear HB0 HBW HS HM HH hb hp2 g1 g2 g3 HN0 HL0t t0 t6 hss
                  go_wp2_with fail
                  go_ret
                  exact ⟨HRet.out, .inl rfl⟩
                · have es : (gs == gs') = false := by simpa using hss
                  have HA := Lib.hid (HNext.out (by simp [Apart, hss]))
                  clear HB0 HBW HS HM HH hb hp2 g1 g2 g3 HN0 HL0t t0 t6 hss
                  go_wp2_with fail
                  go_roundw
                  case rel => exact ⟨j + 1, by omega, by go_num, HA, HBn.out⟩
                  case measure => simp [intOf]; omega
          · have HTo : Hid (GoodTo l (k + 1)) := by
              refine ⟨fun i x hi hx => ?_, fun i j' x x' hi hx hx' hji => ?_⟩
              · by_cases he : i = k
                · subst he
                  rw [HG.out] at hx
                  simp only [Option.some.injEq] at hx
                  rw [← hx]; exact HOK.out
                · exact HK.out.1 i x (by omega) hx
              · by_cases he : i = k
                · subst he
                  rw [HG.out] at hx
                  simp only [Option.some.injEq] at hx
                  rw [← hx]; exact HJ.out j' x' (by omega) hx'
                · exact HK.out.2 i j' x x' (by omega) hx hx' hji
            have HBn := Lib.hid ((hb.alloc (by omega) (.cells #[.string ⟨gs.toArray⟩, .bool gw, .bool gm] 64)).trans (hbi.mono (by omega)))
            clear HB0 HBW HS HM HH hb hp2 g1 g2 g3 HN0 HL0t t0 t6 s0 s1
            go_wp2_with fail
            go_roundw
            case rel => exact ⟨k + 1, by omega, by go_num, HTo, HBn.out⟩
            case measure => simp [intOf]; omega
    · have HGood : Hid (GoodP (bs m) (bs h) l) := ⟨HbM.out, HbH.out, fun e => HL0.out (by rw [e]; rfl), by omega,
        fun i x hx => HK.out.1 i x (by have := (List.getElem?_eq_some_iff.1 hx).1; omega) hx, fun i j x x' hx hx' hji => HK.out.2 i j x x' (by have := (List.getElem?_eq_some_iff.1 hx).1; omega) hx hx' hji⟩
      clear HB0 HF HS HM HH hb hp2 t0 t6 HK
      go_wp2_with fail
      go_ret
      exact ⟨HBW.out, .inr ⟨rfl, HGood.out⟩⟩
end Go.Proofs.YtgkhfcoieknjeaaDoor
