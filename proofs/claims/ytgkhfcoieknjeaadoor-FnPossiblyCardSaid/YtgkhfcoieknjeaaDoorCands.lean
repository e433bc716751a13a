/-
  Proved: Candidates gives texts of patterns of the list alone, and those of all that conflict; laws.in tells whether a text is in a list. Conditions: the patterns are good and at most ten, their texts can be read; the table unicode.properties is as it was laid.
-/
import Derived.Test.YtgkhfcoieknjeaaDoorPoss
import Derived.Test.YtgkhfcoieknjeaaDoorMustFull
namespace Go.Proofs.YtgkhfcoieknjeaaDoor
open Go.RowKit

/-- What is told of the list. -/
def CandT (ps : List PtB) (p : PtB) (L : List (List UInt8)) : Prop :=
  (∀ s ∈ L, ∃ q ∈ ps, q.text = s) ∧ ∀ (j : Nat) (q : PtB), ps[j]? = some q → p.pt.conf q.pt = true → q.text ∈ L

theorem cand_of {ps : List PtB} {xs : List Cl} {X : Ix} {p : PtB} {L : List (List UInt8)} (hx : xs.map (·.p) = ps) (hM : X.M = xs.filter fun x => multiL x.p.l) (hG : ∀ i s, X.G i s = xs.filter fun x => hitB x.p i s)
    (hg : ∀ (i : Nat) (q : PtB), ps[i]? = some q → q.pt.good) (hp : p.pt.good) (hs : Sound X L) (hc : Cover p.l X L) : CandT ps p L := by
  constructor
  · intro s hsL
    obtain ⟨x, h1, h2⟩ := hs s hsL
    have hmem : x ∈ xs := by
      rcases h1 with h | ⟨i, k, h⟩
      · rw [hM] at h; exact (List.mem_filter.1 h).1
      · rw [hG] at h; exact (List.mem_filter.1 h).1
    exact ⟨x.p, by rw [← hx]; exact List.mem_map.2 ⟨x, hmem, rfl⟩, h2⟩
  · intro j q hq hcf
    have hqg := hg j q hq
    obtain ⟨x, hxm, rfl⟩ : ∃ x ∈ xs, x.p = q := by
      have h1 : q ∈ xs.map (·.p) := by rw [hx]; exact List.mem_of_getElem? hq
      obtain ⟨x, h2, h3⟩ := List.mem_map.1 h1
      exact ⟨x, h2, h3⟩
    have hcf' : confB (bs p.m) (bs x.p.m) (bs p.h) (bs x.p.h) p.l x.p.l = true := hcf
    cases hml : multiL x.p.l
    · have hin : ∀ (i : Nat) (s : List UInt8) (g : Seg), x.p.l[i]? = some g → keyS g = s → x ∈ X.G i s := by
        intro i s g h1 h2
        rw [hG]
        refine List.mem_filter.2 ⟨hxm, ?_⟩
        rw [hit_at hml h1, h2]
        simp
      rcases hc.2 with ⟨g, h1, h2, h3⟩ | ⟨i, g, h1, h2, h3, h4⟩ | h
      · obtain ⟨g', h5, h6⟩ := conf_dollar hp hqg hcf' hml h1 h2 (slash_lit hp h1 h2)
        exact h3 x (hin _ _ g' h5 h6)
      · obtain ⟨g', h5, h6⟩ := conf_lit hp hqg hcf' hml h1 h2
        rcases h6 with h6 | h6
        · exact h3 x (hin _ _ g' h5 h6)
        · exact h4 x (hin _ _ g' h5 h6)
      · obtain ⟨g, h5⟩ : ∃ g, x.p.l[0]? = some g := ⟨_, List.getElem?_eq_getElem (List.length_pos_iff.2 (GoodP.some_ hqg))⟩
        have hl := (GoodP.seg hqg 0 g h5).1
        refine h 0 (keyS g) (by omega) ?_ x (hin 0 _ g h5 rfl)
        unfold keyS
        split
        · simp
        · omega
    · exact hc.1 x (by rw [hM]; exact List.mem_filter.2 ⟨hxm, hml⟩)

/-- How Candidates ends. -/
def CandEnd (ps : List PtB) (p : PtB) (w : World) (e : Ending) (w' : World) : Prop := ∃ v L, e = .returned v ∧ StrsAt w' v L ∧ CandT ps p L ∧ L.length ≤ 10000 ∧ Below w.heap.size w w'

set_option maxRecDepth 100000 in
set_option maxHeartbeats 6400000 in
theorem cands_any (ps : List PtB) (p : PtB) (sv : Value) (w : World) (HS : StrsAt w sv (ps.map PtB.text)) (hn : ps.length ≤ 10) (hgood : ∀ (i : Nat) (q : PtB), ps[i]? = some q → q.pt.good) (hp : p.pt.good) (hprops : PropsAt w) :
    Calls Tryd.prog 35 #[sv, .string ⟨p.text.toArray⟩] w (CandEnd ps p w) := by
  obtain ⟨A, cap, rfl, hlc, hcm, hf⟩ := HS
  have HF := Lib.hid hf
  have HG := Lib.hid hgood
  have HPG := Lib.hid hp
  have HPR := Lib.hid hprops
  have hl : (ps.map PtB.text).length = ps.length := List.length_map ..
  rw [hl] at hlc ⊢
  have HI0 := Lib.hid (idx0 w)
  have hmf : ∀ (fn : Fn) (first cap : Array Value) (w : World), (Instr.makeFunc fn first cap).run Tryd.prog w = .ok (.func fn first cap) w := fun _ _ _ _ => rfl
  obtain ⟨pt, hpt⟩ : ∃ pt : ByteArray, pt = ⟨p.text.toArray⟩ := ⟨_, rfl⟩
  have HPT : Hid (∀ W, PropsAt W → Calls Tryd.prog 43 #[.string pt] W fun e w' => ∃ b, e = .returned (.pointer (some ⟨b, 0, none⟩)) ∧ PatFull w' b p ∧ Below W.heap.size W w') := fun W h => by rw [hpt]; exact must_full p W hp h
  rw [← hpt]
  clear hf hgood hprops hl hp hpt
  unfold maxLen at hcm
  go_enter Tryd.func35, Tryd.ntmps35
  go_wp2_with fail
  go_loopw [11] (fun kv wr => ∃ (k : Nat) (xs : List Cl) (X : Ix), k ≤ ps.length ∧ kv = .int .i64 (k : Int) ∧ Hid (xs.map (·.p) = ps.take k) ∧ Hid (IdxAt wr w.heap.size (6 * k) w.heap.size X) ∧ Hid (X.M = xs.filter fun x => multiL x.p.l) ∧ Hid (∀ i s, X.G i s = xs.filter fun x => hitB x.p i s) ∧
      Hid (∀ x ∈ xs, PatFull wr x.a x.p) ∧ w.heap.size < wr.heap.size ∧ Below w.heap.size w wr) (fun kv _ => ps.length - (intOf kv).toNat)
  case atStart => exact ⟨0, [], ix0, Nat.zero_le _, rfl, rfl, HI0.out, rfl, fun _ _ => rfl, fun x hx => (by cases hx), (by simp), (Below.refl _ _).alloc (Nat.le_refl _) _⟩
  case round =>
    obtain ⟨k, xs, X, hk, rfl, HXS, HI, HM, HGX, HPF, hsz, hbw⟩ := hrel
    have HBW := Lib.hid hbw
    have hxl : xs.length = k := by
      have := congrArg List.length HXS.out
      simp at this
      omega
    by_cases hlt : k < ps.length
    · obtain ⟨q, hq⟩ : ∃ q, ps[k]? = some q := ⟨_, List.getElem?_eq_getElem hlt⟩
      obtain ⟨b, o, rfl, hbl, hcell⟩ := HF.out k q.text (by rw [List.getElem?_map, hq]; rfl)
      have g0 : wr.cell? ⟨b, o + k, none⟩ = some (.string ⟨q.text.toArray⟩) := (hbw.cell (p := ⟨b, o + k, none⟩) hbl).trans hcell
      have hqg := HG.out k q hq
      have HQG := Lib.hid hqg
      have HTK : Hid (ps.take (k + 1) = ps.take k ++ [q]) := by show _ = _; rw [List.take_add_one, hq]; rfl
      have HMU : Hid (Calls Tryd.prog 43 #[.string ⟨q.text.toArray⟩] wr fun e w' => ∃ b, e = .returned (.pointer (some ⟨b, 0, none⟩)) ∧ PatFull w' b q ∧ Below wr.heap.size wr w') := must_full q wr hqg (HPR.out.below HBW.out)
      have hfm : X.M.length ≤ 100 := by rw [HM.out]; exact Nat.le_trans (List.length_filter_le _ _) (by omega)
      have hfg : ∀ i s, (X.G i s).length ≤ 100 := fun i s => by rw [HGX.out]; exact Nat.le_trans (List.length_filter_le _ _) (by omega)
      have HADD : Hid (∀ (w2 : World) (pb : Nat), PatFull w2 pb q → Below wr.heap.size wr w2 → Calls Tryd.prog 42 #[.pointer (some ⟨w.heap.size, 0, none⟩), .pointer (some ⟨pb, 0, none⟩)] w2 (AddIdx w2 w.heap.size (6 * k) w.heap.size X ⟨pb, q⟩)) := by
        intro w2 pb h1 h2
        exact addPattern_idx (x := ⟨pb, q⟩) (HI.out.below h2) (by have := h2.size; omega) h1 hqg hfm hfg (by omega)
      unfold AddIdx at HADD
      obtain ⟨qt, hqt⟩ : ∃ qt : ByteArray, qt = ⟨q.text.toArray⟩ := ⟨_, rfl⟩
      rw [← hqt] at g0 HMU
      clear hcell hq hbw hqg hfm hfg hqt
      go_wp2_with (first
        | (go_at_call 43; (with_reducible refine HMU.out.mono ?_); rintro e w2 ⟨pb, rfl, hp2, hb2⟩; have HP2 := Lib.hid hp2; have HB2 := Lib.hid hb2; clear hp2 hb2)
        | (go_at_call 42; (with_reducible refine (HADD.out _ pb HP2.out HB2.out).mono ?_); rintro e w3 ⟨rfl, X', hx1, hx2, hx3, hx4, hx5⟩; have HX1 := Lib.hid hx1; have HX2 := Lib.hid hx2; have HX3 := Lib.hid hx3; have HX4 := Lib.hid hx4; have HX5 := Lib.hid hx5; clear hx1 hx2 hx3 hx4 hx5))
      go_roundw
      case rel =>
        have h2 := HB2.out.size
        have h3 := HX4.out.size
        have hkp : Keeps wr w3 := (Keeps.of_below HB2.out).trans HX5.out
        refine ⟨k + 1, xs ++ [⟨pb, q⟩], X', by omega, by go_num, ?_, HX1.out, ?_, fun i s => ?_, fun x hx => ?_, by omega, (HBW.out.trans (HB2.out.mono (by omega))).trans HX4.out⟩
        · show _ = _
          rw [HTK.out, ← HXS.out, List.map_append]; rfl
        · show _ = _
          rw [HX2.out, HM.out, List.filter_append]
          simp [List.filter_cons]
        · rw [HX3.out, HGX.out, List.filter_append]
          simp [List.filter_cons]
        · rcases List.mem_append.1 hx with hx | hx
          · exact (HPF.out x hx).keep hkp
          · simp only [List.mem_singleton] at hx
            subst hx
            exact HP2.out.keep HX5.out
      case measure => simp [intOf]; omega
    · have hke : k = ps.length := by omega
      have HXE : Hid (xs.map (·.p) = ps) := by
        have := HXS.out
        rwa [List.take_of_length_le (by omega)] at this
      have hm10 : X.M.length ≤ 10 := by rw [HM.out]; exact Nat.le_trans (List.length_filter_le _ _) (by omega)
      have HG10 : Hid (∀ i s, (X.G i s).length ≤ 10) := fun i s => by rw [HGX.out]; exact Nat.le_trans (List.length_filter_le _ _) (by omega)
      have HM10 := Lib.hid hm10
      have hb1 : Below wr.heap.size wr (wr.alloc (.cells #[.slice none 0 0] 30)) := (Below.refl _ _).alloc (Nat.le_refl _) _
      have HB1 := Lib.hid hb1
      have HLB := Lib.hid (new0 wr (.cells #[.slice none 0 0] 30))
      have HP1 : Hid (PropsAt (wr.alloc (.cells #[.slice none 0 0] 30))) := HPR.out.below (HBW.out.trans (hb1.mono (by omega)))
      have HPO : Hid (∀ (w2 : World) (pb : Nat), PatFull w2 pb p → Below (wr.alloc (.cells #[.slice none 0 0] 30)).heap.size (wr.alloc (.cells #[.slice none 0 0] 30)) w2 →
          Calls Tryd.prog 44 #[.pointer (some ⟨w.heap.size, 0, none⟩), .pointer (some ⟨pb, 0, none⟩), .func (.func 45) #[] #[.pointer (some ⟨wr.heap.size, 0, none⟩)]] w2 (PossEnd w2 wr.heap.size p.l X)) := by
        intro w2 pb h1 h2
        have hb2 : Below wr.heap.size wr w2 := hb1.trans (h2.mono (by simp))
        have hkp := Keeps.of_below hb2
        exact poss_any (HI.out.below hb2) (blk_below HLB.out h2) h1 HPG.out (fun x hx => (HPF.out x (by rw [HM.out] at hx; exact (List.mem_filter.1 hx).1)).keep hkp) (fun i s x hx => (HPF.out x (by rw [HGX.out] at hx; exact (List.mem_filter.1 hx).1)).keep hkp) HM10.out HG10.out (by omega)
      unfold PossEnd at HPO
      clear hbw hb1 hm10
      go_wp2_with (first
        | (go_at_call 43; (with_reducible refine (HPT.out _ HP1.out).mono ?_); rintro e w2 ⟨pb, rfl, hp2, hb2⟩; have HP2 := Lib.hid hp2; have HB2 := Lib.hid hb2; clear hp2 hb2)
        | (go_at_call 44; (with_reducible refine (HPO.out _ pb HP2.out HB2.out).mono ?_); rintro e w3 ⟨rfl, L, base, ⟨v, hv1, hv2⟩, hso, hco, hln, hbt⟩; have hcv := blk_cell hv1 0; have HV2 := Lib.hid hv2; have HSO := Lib.hid hso; have HCO := Lib.hid hco; have HBT := Lib.hid hbt; clear hv1 hv2 hso hco hbt))
      go_ret
      have h2 := HB2.out.size
      simp at h2
      refine ⟨v, L, rfl, StrsAt.of_own HV2.out, cand_of HXE.out HM.out HGX.out HG.out HPG.out HSO.out HCO.out, hln, ?_⟩
      exact ((HBW.out.trans (HB1.out.mono (by omega))).trans (HB2.out.mono (by simp; omega))).trans (HBT.out.below (by omega) (by omega))

set_option maxRecDepth 100000 in
theorem icands_any (ps : List PtB) (p : PtB) (sv : Value) (w : World) (HS : StrsAt w sv (ps.map PtB.text)) (hn : ps.length ≤ 10) (hgood : ∀ (i : Nat) (q : PtB), ps[i]? = some q → q.pt.good) (hp : p.pt.good) (hprops : PropsAt w) :
    Calls Tryd.prog 21 #[sv, .string ⟨p.text.toArray⟩] w (CandEnd ps p w) := by
  have HP : Hid (Calls Tryd.prog 35 #[sv, .string ⟨p.text.toArray⟩] w (CandEnd ps p w)) := cands_any ps p sv w HS hn hgood hp hprops
  clear HS hgood hp hprops
  go_enter Tryd.func21, Tryd.ntmps21
  go_wp2_with (go_at_call 35; (with_reducible refine HP.out.mono ?_); rintro e w1 ⟨v, L, rfl, hc⟩; have HC := Lib.hid hc; clear hc)
  go_ret
  exact ⟨v, L, rfl, HC.out⟩

set_option maxRecDepth 100000 in
set_option maxHeartbeats 1600000 in
theorem in_any (v : Value) (l : List (List UInt8)) (s : List UInt8) (w : World) (H : StrsAt w v l) :
    Calls Tryd.prog 24 #[v, .string ⟨s.toArray⟩] w fun e w' => e = .returned (.bool (decide (s ∈ l))) ∧ w = w' := by
  obtain ⟨A, cap, rfl, hlc, hcm, hf⟩ := H
  have HF := Lib.hid hf
  unfold maxLen at hcm
  obtain ⟨d, hd⟩ : ∃ d, d = decide (s ∈ l) := ⟨_, rfl⟩
  have HD : Hid (d = decide (s ∈ l)) := hd
  rw [← hd]
  clear hf hd
  go_enter Tryd.func24, Tryd.ntmps24
  go_wp2_with fail
  go_loopw [9] (fun iv wr => ∃ k : Nat, k ≤ l.length ∧ iv = .int .i64 k ∧ Hid (s ∉ l.take k) ∧ w = wr) (fun iv _ => l.length - (intOf iv).toNat)
  case atStart => exact ⟨0, Nat.zero_le _, rfl, by show ¬ _; simp, rfl⟩
  case round =>
    obtain ⟨k, hk, rfl, HN, rfl⟩ := hrel
    by_cases hlt : k < l.length
    · obtain ⟨x, hx⟩ : ∃ x, l[k]? = some x := ⟨_, List.getElem?_eq_getElem hlt⟩
      obtain ⟨b, o, rfl, hbl, h1⟩ := HF.out k x hx
      have g1 : w.cell? ⟨b, o + k, none⟩ = some (.string ⟨x.toArray⟩) := h1
      have HX := Lib.hid hx
      clear h1 hx
      by_cases hxs : x = s
      · have e0 : (x == s) = true := by simpa using hxs
        have hR : d = true := by
          rw [HD.out, ← hxs]
          exact decide_eq_true (List.mem_of_getElem? HX.out)
        clear hxs HD
        subst hR
        go_wp2_with fail
        go_ret
        exact ⟨rfl, rfl⟩
      · have e0 : (x == s) = false := by simpa using hxs
        have HN2 : Hid (s ∉ l.take (k + 1)) := by
          show ¬ _
          rw [List.take_add_one, HX.out]
          simp only [Option.toList_some, List.mem_append, List.mem_singleton, not_or]
          exact ⟨HN.out, fun e => hxs e.symm⟩
        clear hxs
        go_wp2_with fail
        go_roundw
        case rel => exact ⟨k + 1, by omega, by go_num, HN2.out, by first | rfl | trivial⟩
        case measure => simp [intOf]; omega
    · have hR : d = false := by
        have := HN.out
        rw [List.take_of_length_le (by omega)] at this
        rw [HD.out]
        exact decide_eq_false this
      clear HD
      subst hR
      go_wp2_with fail
      go_ret
      exact ⟨rfl, rfl⟩
end Go.Proofs.YtgkhfcoieknjeaaDoor
