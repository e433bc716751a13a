/-
  Proved: the walk of laws.FnMatchMore: it returns true and writes nothing that was there. Conditions: the arguments can be read; the table unicode.properties is as it was laid.
-/
import Derived.Test.YtgkhfcoieknjeaaDoorTake
import Derived.Test.YtgkhfcoieknjeaaDoorTakes
import Derived.Test.YtgkhfcoieknjeaaDoorPair
import Derived.Deep.AppendLies
namespace Go.Proofs.YtgkhfcoieknjeaaDoor
open Go.RowKit

theorem more_agree {ps : List PtB} {p : PtB} {rm rh : List UInt8} {its : List (List UInt8)} {w1 w2 : World} {i k : Int} {v u : Value} (hg : AllGoodB (ps ++ [p])) (hno : p.pt.takes rm rh its = false)
    (h : (i = -1 ∧ v = .slice none 0 0 ∧ ∀ (j : Nat) (q : PtB), ps[j]? = some q → q.pt.takes rm rh its = false) ∨ ∃ (n : Nat) (q : PtB), i = (n : Int) ∧ IsBest (ps.map PtB.pt) rm rh its n ∧ ps[n]? = some q ∧ StrsAt w1 v (vals q.l its))
    (h' : (k = -1 ∧ u = .slice none 0 0 ∧ ∀ (j : Nat) (q : PtB), (ps ++ [p])[j]? = some q → q.pt.takes rm rh its = false) ∨ ∃ (n : Nat) (q : PtB), k = (n : Int) ∧ IsBest ((ps ++ [p]).map PtB.pt) rm rh its n ∧ (ps ++ [p])[n]? = some q ∧ StrsAt w2 u (vals q.l its)) :
    (i = -1 ∧ k = -1 ∧ v = .slice none 0 0 ∧ u = .slice none 0 0) ∨ ∃ (n : Nat) (l : List (List UInt8)), i = (n : Int) ∧ k = (n : Int) ∧ n < ps.length ∧ StrsAt w1 v l ∧ StrsAt w2 u l := by
  have hag : AllGoodP ((ps ++ [p]).map PtB.pt) := by
    intro i q hq
    rw [List.getElem?_map] at hq
    obtain ⟨q', hq', rfl⟩ := Option.map_eq_some_iff.1 hq
    exact hg i q' hq'
  have tk : ∀ (n : Nat) (q : PtB) (qs : List PtB), IsBest (qs.map PtB.pt) rm rh its n → qs[n]? = some q → q.pt.takes rm rh its = true := by
    rintro n q qs ⟨q', h1, h2, _⟩ hq
    rw [List.getElem?_map, hq] at h1
    rw [Option.some.inj h1]
    exact h2
  have ap : ∀ (n : Nat) (q : PtB), (ps ++ [p])[n]? = some q → q.pt.takes rm rh its = true → n < ps.length ∧ ps[n]? = some q := by
    intro n q hq ht
    rcases Nat.lt_or_ge n ps.length with hl | hl
    · rw [List.getElem?_append_left hl] at hq
      exact ⟨hl, hq⟩
    · exfalso
      rw [List.getElem?_append_right hl] at hq
      have hz : n - ps.length = 0 := by
        rcases Nat.eq_zero_or_pos (n - ps.length) with h0 | h0
        · exact h0
        · rw [List.getElem?_eq_none (by simp; omega)] at hq; cases hq
      rw [hz] at hq
      simp at hq
      rw [← hq, hno] at ht
      cases ht
  have fw : ∀ (n : Nat) (q : PtB), ps[n]? = some q → (ps ++ [p])[n]? = some q := fun n q hq => by
    rw [List.getElem?_append_left (List.getElem?_eq_some_iff.1 hq).1]; exact hq
  rcases h with ⟨rfl, rfl, h1⟩ | ⟨n, q, rfl, hb, hq, hs⟩
  · rcases h' with ⟨rfl, rfl, _⟩ | ⟨n', q', rfl, hb', hq', hs'⟩
    · exact .inl ⟨rfl, rfl, rfl, rfl⟩
    · exfalso
      have ht := tk n' q' _ hb' hq'
      rw [h1 _ _ (ap n' q' hq' ht).2] at ht
      cases ht
  · have ht := tk n q _ hb hq
    rcases h' with ⟨rfl, rfl, h1⟩ | ⟨n', q', rfl, hb', hq', hs'⟩
    · exfalso
      rw [h1 _ _ (fw n q hq)] at ht
      cases ht
    · have hb2 : IsBest ((ps ++ [p]).map PtB.pt) rm rh its n := by
        obtain ⟨x, b1, b2, b3⟩ := hb
        have e1 : ((ps ++ [p]).map PtB.pt)[n]? = some x := by
          rw [List.getElem?_map, hq] at b1
          rw [List.getElem?_map, fw n q hq]
          exact b1
        refine ⟨x, e1, b2, fun j y hy hj hyt => ?_⟩
        rw [List.getElem?_map] at hy
        obtain ⟨y', hy', rfl⟩ := Option.map_eq_some_iff.1 hy
        refine b3 j _ ?_ hj hyt
        rw [List.getElem?_map, (ap j y' hy' hyt).2]; rfl
      have hn := isBest_one hag hb2 hb'
      subst hn
      rw [fw n q hq] at hq'
      cases hq'
      exact .inr ⟨n, _, rfl, rfl, (List.getElem?_eq_some_iff.1 hq).1, hs, hs'⟩

theorem more_good {ps : List PtB} {p : PtB} (h : AllGoodB (ps ++ [p])) : AllGoodB ps := fun i q hq => h i q (by rw [List.getElem?_append_left (List.getElem?_eq_some_iff.1 hq).1]; exact hq)
theorem more_peace {ps : List PtB} {p : PtB} (h : PeaceB (ps ++ [p])) : PeaceB ps := fun i j q r hq hr hij =>
  h i j q r (by rw [List.getElem?_append_left (List.getElem?_eq_some_iff.1 hq).1]; exact hq) (by rw [List.getElem?_append_left (List.getElem?_eq_some_iff.1 hr).1]; exact hr) hij
theorem more_last {ps : List PtB} {p : PtB} (h : AllGoodB (ps ++ [p])) : p.pt.good := h ps.length p (by rw [List.getElem?_append_right (Nat.le_refl _)]; simp)
theorem one_good {p : PtB} (h : p.pt.good) : AllGoodB [p] := fun i q hq => by
  cases i with
  | zero => simp at hq; rw [← hq]; exact h
  | succ i => simp at hq
theorem one_peace {p : PtB} : PeaceB [p] := fun i j q r hq hr hij => by
  cases i with
  | zero => cases j with
    | zero => exact absurd rfl hij
    | succ j => simp at hr
  | succ i => simp at hq

/-- A row of one pattern. -/
theorem PatsAt.one {w : World} {m h : ByteArray} {sv : Value} {l : List Seg} {b : Nat} (hb : w.heap[b]? = some (.cells #[.string m, .string h, sv] 45 (0, 0))) (hs : SegsAt w sv l) : PatsAt w (.slice (some ⟨b, 0, none⟩) 1 1) [⟨m, h, l⟩] := by
  refine ⟨some ⟨b, 0, none⟩, 1, rfl, Nat.le_refl _, by unfold maxLen; omega, fun j p hj => ?_⟩
  cases j with
  | zero =>
    simp at hj
    subst hj
    exact ⟨b, 0, sv, rfl, blk_lt hb, by simpa using blk_cell hb 0, by simpa using blk_cell hb 1, by simpa using blk_cell hb 2, hs⟩
  | succ j => simp at hj

/-- What one taking means at a row of one pattern. -/
theorem one_taken {p : PtB} {rm rh : List UInt8} {its : List (List UInt8)} {w : World} {i : Int} {v : Value} {w' : World} (ht : p.pt.takes rm rh its = true) (h : MatchRes [p] rm rh its w (.returned (.tuple #[.int .i64 i, v])) w') : i = 0 := by
  rcases h.parts with ⟨_, _, h1⟩ | ⟨n, q, rfl, _, hq, _⟩
  · rw [h1 0 p rfl] at ht
    cases ht
  · cases n with
    | zero => rfl
    | succ n => simp at hq

set_option maxRecDepth 100000 in
set_option maxHeartbeats 12800000 in
theorem walk_FnMatchMore (v0 : Value) (ps : List PtB) (m h : ByteArray) (sv : Value) (l : List Seg) (rm rh rp : ByteArray) (w : World) (HV0 : PatsAt w v0 ps ∧ SizesP ps)
    (qm : m.size ≤ 9223372036854775807) (qh : h.size ≤ 9223372036854775807) (hsg : SegsAt w sv l) (hsh : Short l) (hll : l.length ≤ 9223372036854775807)
    (zm : rm.size ≤ 9223372036854775807) (zh : rh.size ≤ 9223372036854775807) (zp : rp.size ≤ 9223372036854775807) (hprops : PropsAt w) :
    Calls Tryd.prog 7 #[v0, .agg #[.string m, .string h, sv], .agg #[.string rm, .string rh, .string rp]] w fun e w' => e = .returned (.bool true) ∧ Below w.heap.size w w' := by
  obtain ⟨H0, HSZ⟩ := HV0
  have HX5 : Hid (∀ W, Below w.heap.size w W → Calls Tryd.prog 8 #[v0] W (FitsEnd (ps.length ≤ 2147483647 ∧ ∀ p ∈ ps, FitsB p) W)) := fun W hb => fits5_any v0 ps W (H0.keep hb) HSZ
  have HX1 : Hid (∀ W, Below w.heap.size w W → Calls Tryd.prog 17 #[.agg #[.string m, .string h, sv]] W (FitsEnd (FitsP m h l) W)) := fun W hb => zfOne m h sv l W (hsg.keep hb) hsh hll qm qh
  have HX4 : Hid (∀ W, Calls Tryd.prog 9 #[.agg #[.string rm, .string rh, .string rp]] W (FitsEnd (FitsR rm rh rp) W)) := fun W => zfFour rm rh rp W zm zh zp
  have HXA : Hid (∀ W, Below w.heap.size w W → ps.length ≤ 2147483647 → (∀ p ∈ ps, FitsB p) → Calls Tryd.prog 10 #[v0] W fun e w' => ∃ v' qs, e = .returned v' ∧ qs.map Prod.fst = ps ∧ PatsOwn w' W.heap.size v' qs ∧ Below W.heap.size W w') := fun W hb h1 h2 => all_any v0 ps W (H0.keep hb) h1 h2
  have HXV : Hid (∀ W, Below w.heap.size w W → l.length ≤ 2147483647 → Calls Tryd.prog 19 #[.agg #[.string m, .string h, sv]] W fun e w' => ∃ sv', e = .returned (.agg #[.string m, .string h, sv']) ∧ w'.ownsRow W.heap.size 64 3 sv' l.length (segCells l) ∧ Below W.heap.size W w') := fun W hb hl => conv_any m h sv l W (hsg.keep hb) hl
  have HXC : Hid (∀ W, FitsR rm rh rp → Calls Tryd.prog 11 #[.agg #[.string rm, .string rh, .string rp]] W (ReqEnd rm rh rp W)) := fun W hf => request_any rm rh rp W hf
  have HPR := Lib.hid hprops
  obtain ⟨i0, hi, hz0, hz1, hzz2⟩ := info_parts info_specPat
  obtain ⟨A0, c0, rfl, hc0, hcm0, -⟩ := H0
  obtain ⟨Y0, y0, rfl, -, -⟩ := hsg
  clear hprops HSZ zm zh zp qm qh hsh hll
  go_enter Tryd.func7, Tryd.ntmps7
  go_upto_region 1 with fail
  have hb1 := blk_alloc (new0 w (.cells #[.string m, .string h, .slice Y0 l.length y0] 36)) (.cells #[.string rm, .string rh, .string rp] 24)
  have hb2 := new1 w (.cells #[.string m, .string h, .slice Y0 l.length y0] 36) (.cells #[.string rm, .string rh, .string rp] 24)
  have HBW : Hid (Below w.heap.size w ((w.alloc (.cells #[.string m, .string h, .slice Y0 l.length y0] 36)).alloc (.cells #[.string rm, .string rh, .string rp] 24))) := ((Below.refl _ _).alloc (Nat.le_refl _) _).alloc (by simp) _
  obtain ⟨W0, hW0⟩ : ∃ W0, W0 = (w.alloc (.cells #[.string m, .string h, .slice Y0 l.length y0] 36)).alloc (.cells #[.string rm, .string rh, .string rp] 24) := ⟨_, rfl⟩
  rw [← hW0] at hb1 hb2 HBW ⊢
  have HS : Hid (∀ w' : World, Below W0.heap.size W0 w' → (w'.cell? ⟨w.heap.size, 0, none⟩ = some (.string m) ∧ w'.cell? ⟨w.heap.size, 1, none⟩ = some (.string h) ∧ w'.cell? ⟨w.heap.size, 2, none⟩ = some (.slice Y0 l.length y0)) ∧ (w'.cell? ⟨w.heap.size + 1, 0, none⟩ = some (.string rm) ∧ w'.cell? ⟨w.heap.size + 1, 1, none⟩ = some (.string rh) ∧ w'.cell? ⟨w.heap.size + 1, 2, none⟩ = some (.string rp))) := fun w' hb => ⟨⟨blk_cell (blk_below hb1 hb) 0, blk_cell (blk_below hb1 hb) 1, blk_cell (blk_below hb1 hb) 2⟩, blk_cell (blk_below hb2 hb) 0, blk_cell (blk_below hb2 hb) 1, blk_cell (blk_below hb2 hb) 2⟩
  have HU : Hid (∀ w', Below W0.heap.size W0 w' → Below w.heap.size w w') := fun w' hb => HBW.out.trans (hb.mono HBW.out.size)
  clear hW0 hb1 hb2
  go_cut [31] (fun c wx => ∃ q : Bool, c = .bool q ∧ Hid (q = false → (ps.length ≤ 2147483647 ∧ ∀ p ∈ ps, FitsB p) ∧ FitsP m h l ∧ FitsR rm rh rp) ∧ Below W0.heap.size W0 wx)
  case first =>
    obtain ⟨⟨s0, s1, s2⟩, s3, s4, s5⟩ := HS.out _ (Below.refl _ _)
    go_wp2_with (first
      | (go_at_call 8; (with_reducible refine (HX5.out _ ?_).mono ?_); exact HU.out _ (Below.refl _ _); intro e w1 hfe; obtain ⟨b1, rfl, HB1, HP1⟩ := fits_bool hfe; clear hfe; obtain ⟨⟨x0, x1, x2⟩, x3, x4, x5⟩ := HS.out _ HB1.out; cases b1)
      | (go_at_call 17; (with_reducible refine (HX1.out _ ?_).mono ?_); exact HU.out _ HB1.out; intro e w2 hfe; obtain ⟨b2, rfl, HB2, HP2⟩ := fits_bool hfe; clear hfe; have HB12 : Hid (Below W0.heap.size W0 w2) := HB1.out.trans (HB2.out.mono HB1.out.size); obtain ⟨⟨t0, t1, t2⟩, t3, t4, t5⟩ := HS.out _ HB12.out; cases b2)
      | (go_at_call 9; (with_reducible refine (HX4.out _).mono ?_); intro e w3 hfe; obtain ⟨b3, rfl, HB3, HP3⟩ := fits_bool hfe; clear hfe))
    · go_meet
      exact ⟨true, rfl, (fun h => by cases h), HB1.out⟩
    · go_meet
      exact ⟨true, rfl, (fun h => by cases h), HB12.out⟩
    · go_meet
      refine ⟨!b3, rfl, ?_, HB12.out.trans (HB3.out.mono HB12.out.size)⟩
      show _ → _
      intro h
      have hb3 : b3 = true := by simpa using h
      have g1 := HP1.out
      have g2 := HP2.out
      exact ⟨by simpa using g1, by simpa using g2, HP3.out hb3⟩
  case rest =>
    obtain ⟨q, rfl, HQ, hbc⟩ := hcut
    obtain ⟨wb, rfl⟩ : ∃ wb : World, wb = wc := ⟨_, rfl⟩
    have HBC := Lib.hid hbc
    clear hbc
    cases q
    case true =>
      go_wp2_with fail
      go_ret
      exact ⟨rfl, HU.out _ HBC.out⟩
    case false =>
      obtain ⟨⟨hn5, hF5⟩, hF1, hF4⟩ := HQ.out rfl
      have HF4 := Lib.hid hF4
      have HF5 := Lib.hid hF5
      have HF1 := Lib.hid hF1
      have hl7 : l.length ≤ 2147483647 := hF1.2.2.1
      clear hF4 hF5 hF1 HX5 HX1 HX4 HQ
      go_upto_region 3 with fail
      go_cut [7] (fun c wx => ∃ X xc, c = .slice X (ps.length + 1) xc ∧ Hid (PatsAt wx (.slice X (ps.length + 1) xc) (ps ++ [⟨m, h, l⟩])) ∧ Below W0.heap.size W0 wx)
      case first =>
        have hwb0 : Below W0.heap.size W0 wb := HBC.out
        go_region_held3 (fun w' => w'.cell? ⟨w.heap.size, 0, none⟩ = some (.string m) ∧ w'.cell? ⟨w.heap.size, 1, none⟩ = some (.string h) ∧ w'.cell? ⟨w.heap.size, 2, none⟩ = some (.slice Y0 l.length y0))
          (first | exact (HS.out _ HBC.out).1 | exact (HS.out _ (by assumption)).1 | exact (HS.out _ (HB2.out.alloc HB2.out.size _)).1)
          (first
            | (go_at_call 10; (with_reducible refine (HXA.out _ (HU.out _ (Below.drew HBC.out)) hn5 HF5.out).mono ?_); rintro e wt ⟨va, qs, rfl, hqs, hpo, hbt⟩; have hb1 : Below W0.heap.size W0 wt := (Below.drew HBC.out).trans (hbt.mono (Below.drew HBC.out).size); have HPO : Hid (PatsOwn wt wb.heap.size va qs) := hpo; have HQS := Lib.hid hqs; have HBT : Hid (Below wb.heap.size wb wt) := ⟨hbt.os, hbt.tape, hbt.output, hbt.size, hbt.block⟩; clear hpo hqs hbt)
            | (go_at_call 19; (with_reducible refine (HXV.out _ (HU.out _ hb1) hl7).mono ?_); rintro e w2 ⟨sv2, rfl, hown2, hb2⟩; obtain ⟨X2, x2, rfl, -, -, -⟩ := own_form hown2; have HB2 : Hid (Below W0.heap.size W0 w2) := hb1.trans (hb2.mono hb1.size); have HO2 := Lib.hid hown2; have HB12 := Lib.hid hb2; clear hown2 hb2)
            | (have hql : qs.length = ps.length := (by have := congrArg List.length HQS.out; simpa using this); have hzt := HBT.out.size; have hz2 := HB12.out.size; obtain ⟨v3, w3, hrun, hown3, hgrow3, -, hv3⟩ := run_append_own_at (P := Tryd.prog) (w2.alloc (.cells #[.string m, .string h, .slice X2 l.length x2] 45)) wb.heap.size 27 27 45 i0 (.agg #[.string ⟨#[]⟩, .string ⟨#[]⟩, .slice none 0 0]) 3 56 Tryd.underlying27 hi hz0 hz1 hzz2 rfl (by decide) va qs.length (cellsP qs) ((HPO.out.below HB12.out).row.alloc _) ⟨w2.heap.size, 0, none⟩ 1 1 [_, _, _] rfl (cells3_new _ _ _ _ _ _ (by simp)) (by simp [Value.oneCell']) (by unfold maxLen; omega) (by omega) (by simp; omega); have HO3 := Lib.hid hown3; have HG3 := Lib.hid hgrow3; have HV3 := Lib.hid hv3; have HRU := Lib.hid hrun; clear hown3 hgrow3 hv3 hrun; have hb3 : Below W0.heap.size W0 w3 := (HB2.out.alloc HB2.out.size _).grown HG3.out (by have := HB2.out.size; simp; omega) (fun g hg => by have := (HPO.out.row.lt g hg).1; have := HBC.out.size; omega); refine step_append_run rfl (.tmp 33) (.tmp 36) 27 rfl rfl va (.slice (some ⟨w2.heap.size, 0, none⟩) 1 1) (by simp [Act.eval]) (by simp [Act.eval]) v3 w3 HRU.out ?_))
        all_goals
          (have HP' : Hid (PatsOwn w3 wb.heap.size v3 (qs ++ [(⟨m, h, l⟩, .slice X2 l.length x2)])) := by
             have hal : Below w2.heap.size w2 (w2.alloc (.cells #[.string m, .string h, .slice X2 l.length x2] 45)) := (Below.refl _ _).alloc (Nat.le_refl _) _
             refine PatsOwn.snoc ((HPO.out.below HB12.out).below hal) (own_below (own_lower HO2.out HBT.out.size) hal) (fun g hg e => ?_) HO3.out HG3.out HV3.out
             have h1 := (HPO.out.row.lt g e).2
             have h2 := (HO2.out.lt g hg).1
             omega
           have hpt := HP'.out.at
           have hqs : (qs ++ [((⟨m, h, l⟩ : PtB), Value.slice X2 l.length x2)]).map Prod.fst = ps ++ [⟨m, h, l⟩] := by rw [List.map_append, HQS.out]; rfl
           rw [hqs] at hpt
           obtain ⟨X, xc, hvx, -, -, -⟩ := id hpt
           have hlen : (ps ++ [(⟨m, h, l⟩ : PtB)]).length = ps.length + 1 := by simp
           rw [hlen] at hvx
           subst hvx
           clear hlen hqs
           have HPT := Lib.hid hpt
           clear hpt
           go_wp2_with fail
           go_meet
           exact ⟨X, xc, rfl, HPT.out, hb3⟩)
      case rest =>
        obtain ⟨X, xc, rfl, HPA0, hbd⟩ := hcut
        obtain ⟨wd, rfl⟩ : ∃ wd : World, wd = wc := ⟨_, rfl⟩
        have HBD := Lib.hid hbd
        obtain ⟨ps2, hps2⟩ : ∃ ps2, ps2 = ps ++ [(⟨m, h, l⟩ : PtB)] := ⟨_, rfl⟩
        have HE : Hid (ps2 = ps ++ [(⟨m, h, l⟩ : PtB)]) := hps2
        have HPA : Hid (PatsAt wd (.slice X (ps.length + 1) xc) ps2) := by rw [hps2]; exact HPA0.out
        have HF2 : Hid (∀ p ∈ ps2, FitsB p) := by
          intro q hq
          rw [hps2] at hq
          rcases List.mem_append.1 hq with hq | hq
          · exact HF5.out q hq
          · simp only [List.mem_singleton] at hq
            subst hq
            exact HF1.out
        have hl2 : ps2.length ≤ 4294967296 := by rw [hps2, List.length_append]; simp; omega
        clear hbd hps2 HPA0 HF1
        obtain ⟨_, s3, s4, s5⟩ := HS.out _ HBD.out
        go_upto_region 5 with (go_at_call 11; (with_reducible refine (HXC.out _ HF4.out).mono ?_); rintro e wv ⟨vi, fine, its, rfl, hfi, hbv⟩; have HFI := Lib.hid hfi; have HBV := Lib.hid hbv; clear hfi hbv)
        clear s3 s4 s5
        have hn3 := new0 wv (.cells #[.string rm, .string rh, .string rp] 29)
        have HBDV : Hid (Below wd.heap.size wd (wv.alloc (.cells #[.string rm, .string rh, .string rp] 29))) := HBV.out.alloc HBV.out.size _
        have HBVV : Hid (Below wv.heap.size wv (wv.alloc (.cells #[.string rm, .string rh, .string rp] 29))) := (Below.refl _ _).alloc (Nat.le_refl _) _
        obtain ⟨W2, hW2⟩ : ∃ W2, W2 = wv.alloc (.cells #[.string rm, .string rh, .string rp] 29) := ⟨_, rfl⟩
        rw [← hW2] at hn3 HBDV HBVV ⊢
        have HB02 : Hid (Below W0.heap.size W0 W2) := HBD.out.trans (HBDV.out.mono HBD.out.size)
        have HB2 : Hid (∀ w', Below W2.heap.size W2 w' → Below w.heap.size w w') := fun w' hb => HU.out _ (HB02.out.trans (hb.mono HB02.out.size))
        have HT : Hid (∀ w' : World, Below W2.heap.size W2 w' → (w'.cell? ⟨w.heap.size, 0, none⟩ = some (.string m) ∧ w'.cell? ⟨w.heap.size, 1, none⟩ = some (.string h) ∧ w'.cell? ⟨w.heap.size, 2, none⟩ = some (.slice Y0 l.length y0)) ∧ (w'.cell? ⟨w.heap.size + 1, 0, none⟩ = some (.string rm) ∧ w'.cell? ⟨w.heap.size + 1, 1, none⟩ = some (.string rh) ∧ w'.cell? ⟨w.heap.size + 1, 2, none⟩ = some (.string rp)) ∧ (w'.cell? ⟨wv.heap.size, 0, none⟩ = some (.string rm) ∧ w'.cell? ⟨wv.heap.size, 1, none⟩ = some (.string rh) ∧ w'.cell? ⟨wv.heap.size, 2, none⟩ = some (.string rp))) := fun w' hb =>
          ⟨(HS.out _ (HB02.out.trans (hb.mono HB02.out.size))).1, (HS.out _ (HB02.out.trans (hb.mono HB02.out.size))).2, blk_cell (blk_below hn3 hb) 0, blk_cell (blk_below hn3 hb) 1, blk_cell (blk_below hn3 hb) 2⟩
        have HPV : Hid (∀ w' : World, Below W2.heap.size W2 w' → PatsAt w' (.slice X (ps.length + 1) xc) ps2) := fun w' hb => (HPA.out.keep HBDV.out).keep hb
        have HRI : Hid (fine = true → AskOk (bs rm) (bs rh) (bs rp) its ∧ ∀ w', Below W2.heap.size W2 w' → StrsAt w' vi its) := fun h => ⟨(HFI.out h).1, fun w' hb => ((HFI.out h).2.keep HBVV.out).keep hb⟩
        have HRP : Hid (∀ w', Below W2.heap.size W2 w' → PropsAt w') := fun w' hb => HPR.out.below (HB2.out w' hb)
        clear hW2 hn3 HFI HXC HBVV HPA HBDV HBD HBC HBV
        go_cut [55] (fun c wx => ∃ q : Bool, c = .bool q ∧ Hid (q = false → fine = true ∧ (ps2.length ≤ 10 ∧ AllGoodB ps2) ∧ PeaceB ps2) ∧ Below W2.heap.size W2 wx)
        case first =>
          cases fine
          · go_wp2_with fail
            go_meet
            exact ⟨true, rfl, (fun h => by cases h), Below.refl _ _⟩
          · go_wp2_with (first
              | (go_at_call 12; (with_reducible refine (allGood_any4 _ ps2 _ (HPV.out _ (Below.refl _ _)) hl2 HF2.out).mono ?_); intro e w5 hfe; obtain ⟨b5, rfl, HB5, HP5⟩ := fits_bool hfe; clear hfe; cases b5)
              | (go_at_call 13; (with_reducible refine (peace_any _ ps2 _ (HPV.out _ HB5.out) (by simpa using HP5.out : ps2.length ≤ 10 ∧ AllGoodB ps2).1 (by simpa using HP5.out : ps2.length ≤ 10 ∧ AllGoodB ps2).2).mono ?_); intro e w6 hfe; obtain ⟨b6, rfl, HB6, HP6⟩ := fits_bool hfe; clear hfe))
            · go_meet
              exact ⟨true, rfl, (fun h => by cases h), HB5.out⟩
            · go_meet
              refine ⟨!b6, rfl, ?_, HB5.out.trans (HB6.out.mono HB5.out.size)⟩
              show _ → _
              intro h
              have hb6 : b6 = true := by simpa using h
              exact ⟨by first | rfl | trivial, by simpa using HP5.out, HP6.out hb6⟩
        case rest =>
          obtain ⟨q, rfl, HQ2, hbq⟩ := hcut
          obtain ⟨wq, rfl⟩ : ∃ wq : World, wq = wc := ⟨_, rfl⟩
          have HBQ := Lib.hid hbq
          clear hbq
          cases q
          case true =>
            go_wp2_with fail
            go_ret
            exact ⟨rfl, HB2.out _ HBQ.out⟩
          case false =>
            obtain ⟨rfl, ⟨hn10, hgood⟩, hpeace⟩ := HQ2.out rfl
            obtain ⟨hak, hst⟩ := HRI.out rfl
            have HG := Lib.hid hgood
            have HPC := Lib.hid hpeace
            have HAK := Lib.hid hak
            have HST := Lib.hid hst
            have HSM := Lib.hid (items_small _ _ hak.1)
            have hga : AllGoodB (ps ++ [(⟨m, h, l⟩ : PtB)]) := by rw [← HE.out]; exact hgood
            have hpa : PeaceB (ps ++ [(⟨m, h, l⟩ : PtB)]) := by rw [← HE.out]; exact hpeace
            have HGP : Hid ((⟨m, h, l⟩ : PtB).pt.good) := more_last hga
            have HGS : Hid (AllGoodB ps ∧ PeaceB ps) := ⟨more_good hga, more_peace hpa⟩
            have hn9 : ps.length ≤ 10 := by have := congrArg List.length HE.out; simp at this; omega
            clear hgood hpeace hak hst HQ2 HRI hga hpa hl2 HF2
            have HALL : Hid (∀ W, Below W2.heap.size W2 W → Calls Tryd.prog 10 #[.slice A0 ps.length c0] W fun e w' => ∃ B bc, e = .returned (.slice B ps.length bc) ∧ PatsAt w' (.slice B ps.length bc) ps ∧ Below W2.heap.size W2 w') := by
              intro W hb
              refine (HXA.out W (HB2.out W hb) hn5 HF5.out).mono ?_
              rintro e w' ⟨v', qs', rfl, hqs', hpo', hb'⟩
              have hpa := hpo'.at
              rw [hqs'] at hpa
              obtain ⟨B, bc, rfl, -⟩ := id hpa
              exact ⟨B, bc, rfl, hpa, hb.trans (hb'.mono hb.size)⟩
            have HCV : Hid (∀ W, Below W2.heap.size W2 W → Calls Tryd.prog 19 #[.agg #[.string m, .string h, .slice Y0 l.length y0]] W fun e w' => ∃ X3 x3, e = .returned (.agg #[.string m, .string h, .slice X3 l.length x3]) ∧ Hid (SegsAt w' (.slice X3 l.length x3) l) ∧ Below W2.heap.size W2 w') := by
              intro W hb
              refine (HXV.out W (HB2.out W hb) hl7).mono ?_
              rintro e w' ⟨sv', rfl, hown, hb'⟩
              obtain ⟨X3, x3, rfl, -⟩ := own_form hown
              exact ⟨X3, x3, rfl, SegsAt.of_own hown, hb.trans (hb'.mono hb.size)⟩
            have HTK : Hid (∀ (V W : World) (u : Value) (qs : List PtB), Below W2.heap.size W2 V → Below V.heap.size V W → PatsAt W u qs → qs.length ≤ 10 → AllGoodB qs → PeaceB qs → Calls Tryd.prog 14 #[u, .agg #[.string rm, .string rh, .string rp]] W fun e w' => ∃ (i : Int) (v' : Value), e = .returned (.tuple #[.int .i64 i, v']) ∧ Hid (MatchRes qs (bs rm) (bs rh) its V (.returned (.tuple #[.int .i64 i, v'])) w') ∧ Below V.heap.size V w') := by
              intro V W u qs hV hW hu h1 h2 h3
              refine (take_any u qs its rh rm rp W hu h1 h2 h3 (HRP.out W (hV.trans (hW.mono hV.size))) HAK.out).mono ?_
              intro e w' hm
              obtain ⟨i, v', rfl, HM⟩ := (hm.rebase hW).uni
              exact ⟨i, v', rfl, HM, hW.trans (hm.1.mono hW.size)⟩
            obtain ⟨tb, htb⟩ : ∃ tb, tb = takesB (bs m) (bs h) l (bs rm) (bs rh) its := ⟨_, rfl⟩
            have HTB : Hid (tb = (⟨m, h, l⟩ : PtB).pt.takes (bs rm) (bs rh) its) := htb
            have HTS : Hid (∀ (W : World) (u : Value), Below W2.heap.size W2 W → SegsAt W u l → Calls Tryd.prog 16 #[.agg #[.string m, .string h, u], .agg #[.string rm, .string rh, .string rp], vi] W fun e w' => ∃ x, e = .returned (.tuple #[x, .bool tb]) ∧ Below W2.heap.size W2 w') := by
              intro W u hb hs
              rw [htb]
              exact (takes_any m h rm rh rp u vi l its W hs (HST.out W hb) (good_len HGP.out) HSM.out).mono fun e w' ⟨⟨x, y⟩, z⟩ => ⟨x, y, hb.trans (z.mono hb.size)⟩
            clear htb HXA HXV HRP HB02
            go_upto_region 7 with fail
            go_region_held3 (fun w' => (w'.cell? ⟨w.heap.size, 0, none⟩ = some (.string m) ∧ w'.cell? ⟨w.heap.size, 1, none⟩ = some (.string h) ∧ w'.cell? ⟨w.heap.size, 2, none⟩ = some (.slice Y0 l.length y0)) ∧ (w'.cell? ⟨wv.heap.size, 0, none⟩ = some (.string rm) ∧ w'.cell? ⟨wv.heap.size, 1, none⟩ = some (.string rh) ∧ w'.cell? ⟨wv.heap.size, 2, none⟩ = some (.string rp)))
              (first | exact ⟨(HT.out _ HBQ.out).1, (HT.out _ HBQ.out).2.2⟩ | exact ⟨(HT.out _ (by assumption)).1, (HT.out _ (by assumption)).2.2⟩)
              (first
                | (go_at_call 19; (with_reducible refine (HCV.out _ (Below.drew HBQ.out)).mono ?_); rintro e wa ⟨X3, x3, rfl, HS3, hba⟩)
                | (go_at_call 16; (with_reducible refine (HTS.out _ _ hba HS3.out).mono ?_); rintro e wt ⟨x, rfl, hbt⟩))
            all_goals
              (have HBT := Lib.hid hbt
               clear hba hbt HS3 HTS)
            cases tb
            case true =>
              go_upto_region 9 with fail
              go_region_held3 (fun w' => (w'.cell? ⟨w.heap.size, 0, none⟩ = some (.string m) ∧ w'.cell? ⟨w.heap.size, 1, none⟩ = some (.string h) ∧ w'.cell? ⟨w.heap.size, 2, none⟩ = some (.slice Y0 l.length y0)) ∧ (w'.cell? ⟨w.heap.size + 1, 0, none⟩ = some (.string rm) ∧ w'.cell? ⟨w.heap.size + 1, 1, none⟩ = some (.string rh) ∧ w'.cell? ⟨w.heap.size + 1, 2, none⟩ = some (.string rp)))
                (first | exact ⟨(HT.out _ HBT.out).1, (HT.out _ HBT.out).2.1⟩ | exact ⟨(HT.out _ (by assumption)).1, (HT.out _ (by assumption)).2.1⟩ | exact ⟨(HT.out _ (Below.alloc (by assumption) (Below.size (by assumption)) _)).1, (HT.out _ (Below.alloc (by assumption) (Below.size (by assumption)) _)).2.1⟩)
                (first
                  | (go_at_call 19; (with_reducible refine (HCV.out _ (Below.drew HBT.out)).mono ?_); rintro e wa ⟨X3, x3, rfl, HS3, hba⟩)
                  | (go_at_call 14; (with_reducible refine (HTK.out W2 _ _ [⟨m, h, l⟩] (Below.refl _ _) (hba.alloc hba.size _) (PatsAt.one (new0 _ _) (HS3.out.keep ((Below.refl _ _).alloc (Nat.le_refl _) _))) (by simp) (one_good HGP.out) one_peace).mono ?_); rintro e wk ⟨i, vk, rfl, HM, hbk⟩))
              all_goals
                (obtain rfl : i = 0 := one_taken HTB.out.symm HM.out
                 go_wp2_with fail
                 go_ret
                 exact ⟨rfl, HB2.out _ hbk⟩)
            case false =>
              go_upto_region 11 with fail
              go_region_held3 (fun w' => w'.cell? ⟨w.heap.size + 1, 0, none⟩ = some (.string rm) ∧ w'.cell? ⟨w.heap.size + 1, 1, none⟩ = some (.string rh) ∧ w'.cell? ⟨w.heap.size + 1, 2, none⟩ = some (.string rp))
                (first | exact (HT.out _ HBT.out).2.1 | exact (HT.out _ (by assumption)).2.1)
                (first
                  | (go_at_call 10; (with_reducible refine (HALL.out _ (Below.drew HBT.out)).mono ?_); rintro e wa ⟨B, bc, rfl, hpa1, hba⟩; have HPA1 := Lib.hid hpa1; clear hpa1)
                  | (go_at_call 14; (with_reducible refine (HTK.out W2 _ _ ps (Below.refl _ _) hba HPA1.out hn9 HGS.out.1 HGS.out.2).mono ?_); rintro e wk ⟨i, vk, rfl, HM, hbk⟩))
              all_goals
                (have HBK := Lib.hid hbk
                 clear hba hbk HPA1)
              obtain ⟨_, ⟨r0, r1, r2⟩, _⟩ := HT.out _ HBK.out
              go_upto_region 13 with (go_at_call 14; (with_reducible refine (HTK.out _ _ _ ps2 HBK.out (Below.refl _ _) (HPV.out _ HBK.out) hn10 HG.out HPC.out).mono ?_); rintro e wm ⟨k, vm, rfl, HM2, hbm⟩)
              have HBM := Lib.hid hbm
              clear r0 r1 r2 hbm
              have HFIN : Hid (Below w.heap.size w wm) := HB2.out _ (HBK.out.trans (HBM.out.mono HBK.out.size))
              have hg2 : AllGoodB (ps ++ [(⟨m, h, l⟩ : PtB)]) := by rw [← HE.out]; exact HG.out
              have hm2 := HM2.out.parts
              rw [HE.out] at hm2
              have hagr := more_agree hg2 HTB.out.symm HM.out.parts hm2
              clear hm2 hg2 HTK HALL HCV
              rcases hagr with ⟨rfl, rfl, rfl, rfl⟩ | ⟨n, L, rfl, rfl, hnn, hs1, hs2⟩
              · have HNI : StrsAt wm (.slice none 0 0) [] := ⟨none, 0, rfl, Nat.le_refl _, by unfold maxLen; omega, fun j x h => by simp at h⟩
                have HST2 : Hid (Calls Tryd.prog 15 #[.slice none 0 0, .slice none 0 0] wm fun e w' => e = .returned (.bool true) ∧ Below wm.heap.size wm w') := sameTexts_any _ _ [] wm HNI HNI
                have i3 : (-1 : Int) < (ps.length : Int) := by omega
                clear HNI HM HM2
                go_wp2_with (go_at_call 15; (with_reducible refine HST2.out.mono ?_); rintro e wz ⟨rfl, hbz⟩)
                go_ret
                exact ⟨rfl, HFIN.out.trans (hbz.mono HFIN.out.size)⟩
              · have HST2 : Hid (Calls Tryd.prog 15 #[vk, vm] wm fun e w' => e = .returned (.bool true) ∧ Below wm.heap.size wm w') := sameTexts_any vk vm L wm (hs1.keep HBM.out) hs2
                have i1 : (-1 : Int) ≤ (n : Int) := by omega
                have i3 : (n : Int) < (ps.length : Int) := by omega
                clear hs1 hs2 hnn HM HM2
                go_wp2_with (go_at_call 15; (with_reducible refine HST2.out.mono ?_); rintro e wz ⟨rfl, hbz⟩)
                go_ret
                exact ⟨rfl, HFIN.out.trans (hbz.mono HFIN.out.size)⟩
end Go.Proofs.YtgkhfcoieknjeaaDoor

