/-
  Proved: the walk of laws.FnMatchOrder: it returns true and writes nothing that was there. Conditions: the arguments can be read; the table unicode.properties is as it was laid.
-/
import Derived.Test.YtgkhfcoieknjeaaDoorTake
import Derived.Test.YtgkhfcoieknjeaaDoorTakes
import Derived.Test.YtgkhfcoieknjeaaDoorPair
namespace Go.Proofs.YtgkhfcoieknjeaaDoor
open Go.RowKit

theorem rev_at {α : Type} (l : List α) (i : Nat) (hi : i < l.length) : l.reverse[i]? = l[l.length - 1 - i]? := List.getElem?_reverse hi

theorem rev_best {ps : List Pt} {rm rh : List UInt8} {its : List (List UInt8)} {n : Nat} (h : IsBest ps.reverse rm rh its n) : n < ps.length ∧ IsBest ps rm rh its (ps.length - 1 - n) := by
  obtain ⟨p, h1, h2, h3⟩ := h
  have hn : n < ps.length := by simpa using (List.getElem?_eq_some_iff.1 h1).1
  refine ⟨hn, p, by rw [← rev_at ps n hn]; exact h1, h2, fun j q hq hj ht => ?_⟩
  have hjl : j < ps.length := (List.getElem?_eq_some_iff.1 hq).1
  refine h3 (ps.length - 1 - j) q ?_ (by omega) ht
  rw [rev_at ps _ (by omega)]
  have : ps.length - 1 - (ps.length - 1 - j) = j := by omega
  rw [this]
  exact hq

theorem rev_good {ps : List PtB} (h : AllGoodB ps) : AllGoodB ps.reverse := by
  intro i q hq
  have hi : i < ps.length := by simpa using (List.getElem?_eq_some_iff.1 hq).1
  rw [rev_at ps i hi] at hq
  exact h _ q hq
theorem rev_peace {ps : List PtB} (h : PeaceB ps) : PeaceB ps.reverse := by
  intro i j q r hq hr hij
  have hi : i < ps.length := by simpa using (List.getElem?_eq_some_iff.1 hq).1
  have hj : j < ps.length := by simpa using (List.getElem?_eq_some_iff.1 hr).1
  rw [rev_at ps i hi] at hq
  rw [rev_at ps j hj] at hr
  exact h _ _ q r hq hr (by omega)

theorem order_agree {ps : List PtB} {rm rh : List UInt8} {its : List (List UInt8)} {w1 w2 : World} {i i' : Int} {v v' : Value} (hg : AllGoodB ps)
    (h : (i = -1 ∧ v = .slice none 0 0 ∧ ∀ (j : Nat) (q : PtB), ps[j]? = some q → q.pt.takes rm rh its = false) ∨ ∃ (n : Nat) (p : PtB), i = (n : Int) ∧ IsBest (ps.map PtB.pt) rm rh its n ∧ ps[n]? = some p ∧ StrsAt w1 v (vals p.l its))
    (h' : (i' = -1 ∧ v' = .slice none 0 0 ∧ ∀ (j : Nat) (q : PtB), ps.reverse[j]? = some q → q.pt.takes rm rh its = false) ∨ ∃ (n : Nat) (p : PtB), i' = (n : Int) ∧ IsBest (ps.reverse.map PtB.pt) rm rh its n ∧ ps.reverse[n]? = some p ∧ StrsAt w2 v' (vals p.l its)) :
    (i = -1 ∧ v = .slice none 0 0 ∧ i' = -1 ∧ v' = .slice none 0 0) ∨ ∃ (n n' : Nat) (l : List (List UInt8)), i = (n : Int) ∧ i' = (n' : Int) ∧ (ps.length : Int) - 1 - (n : Int) = (n' : Int) ∧ StrsAt w1 v l ∧ StrsAt w2 v' l := by
  have hag : AllGoodP (ps.map PtB.pt) := by
    intro i p hp
    rw [List.getElem?_map] at hp
    obtain ⟨q, hq, rfl⟩ := Option.map_eq_some_iff.1 hp
    exact hg i q hq
  have tk : ∀ (n : Nat) (p : PtB) (qs : List PtB), IsBest (qs.map PtB.pt) rm rh its n → qs[n]? = some p → p.pt.takes rm rh its = true := by
    rintro n p qs ⟨q, h1, h2, _⟩ hp
    rw [List.getElem?_map, hp] at h1
    rw [Option.some.inj h1]
    exact h2
  rcases h with ⟨rfl, rfl, h1⟩ | ⟨n, p, rfl, hb, hp, hs⟩
  · rcases h' with ⟨rfl, rfl, _⟩ | ⟨n', p', rfl, hb', hp', hs'⟩
    · exact .inl ⟨rfl, rfl, rfl, rfl⟩
    · exfalso
      have hl : n' < ps.length := by simpa using (List.getElem?_eq_some_iff.1 hp').1
      have := tk n' p' _ hb' hp'
      rw [rev_at ps n' hl] at hp'
      rw [h1 _ _ hp'] at this
      cases this
  · rcases h' with ⟨rfl, rfl, h1⟩ | ⟨n', p', rfl, hb', hp', hs'⟩
    · exfalso
      have hl : n < ps.length := (List.getElem?_eq_some_iff.1 hp).1
      have := tk n p _ hb hp
      have hr : ps.reverse[ps.length - 1 - n]? = some p := by
        rw [rev_at ps _ (by omega)]
        have : ps.length - 1 - (ps.length - 1 - n) = n := by omega
        rw [this]; exact hp
      rw [h1 _ _ hr] at this
      cases this
    · have hr : (ps.reverse.map PtB.pt) = (ps.map PtB.pt).reverse := by simp
      rw [hr] at hb'
      obtain ⟨g1, g2⟩ := rev_best hb'
      simp only [List.length_map] at g1 g2
      have hn := isBest_one hag hb g2
      rw [rev_at ps n' g1, ← hn, hp] at hp'
      cases hp'
      exact .inr ⟨n, n', _, rfl, rfl, by omega, hs, hs'⟩

set_option maxRecDepth 100000 in
set_option maxHeartbeats 6400000 in
theorem walk_FnMatchOrder (v0 : Value) (ps : List PtB) (rm rh rp : ByteArray) (w : World) (HV0 : PatsAt w v0 ps ∧ SizesP ps)
    (zm : rm.size ≤ 9223372036854775807) (zh : rh.size ≤ 9223372036854775807) (zp : rp.size ≤ 9223372036854775807) (hprops : PropsAt w) :
    Calls Tryd.prog 3 #[v0, .agg #[.string rm, .string rh, .string rp]] w fun e w' => e = .returned (.bool true) ∧ Below w.heap.size w w' := by
  obtain ⟨H0, HSZ⟩ := HV0
  have HX5 : Hid (∀ W, Below w.heap.size w W → Calls Tryd.prog 8 #[v0] W (FitsEnd (ps.length ≤ 2147483647 ∧ ∀ p ∈ ps, FitsB p) W)) := fun W hb => fits5_any v0 ps W (H0.keep hb) HSZ
  have HX4 : Hid (∀ W, Calls Tryd.prog 9 #[.agg #[.string rm, .string rh, .string rp]] W (FitsEnd (FitsR rm rh rp) W)) := fun W => zfFour rm rh rp W zm zh zp
  have HXA : Hid (∀ W, Below w.heap.size w W → ps.length ≤ 2147483647 → (∀ p ∈ ps, FitsB p) → Calls Tryd.prog 10 #[v0] W fun e w' => ∃ v' qs, e = .returned v' ∧ qs.map Prod.fst = ps ∧ PatsOwn w' W.heap.size v' qs ∧ Below W.heap.size W w') := fun W hb h1 h2 => all_any v0 ps W (H0.keep hb) h1 h2
  have HXC : Hid (∀ W, FitsR rm rh rp → Calls Tryd.prog 11 #[.agg #[.string rm, .string rh, .string rp]] W (ReqEnd rm rh rp W)) := fun W hf => request_any rm rh rp W hf
  have HPR := Lib.hid hprops
  have HH0 := Lib.hid H0
  obtain ⟨A0, c0, rfl, hc0, hcm0, -⟩ := H0
  clear hprops HSZ zm zh zp
  go_enter Tryd.func3, Tryd.ntmps3
  go_upto_region 1 with fail
  have hb1 := new0 w (.cells #[.string rm, .string rh, .string rp] 24)
  have HBW : Hid (Below w.heap.size w (w.alloc (.cells #[.string rm, .string rh, .string rp] 24))) := (Below.refl _ _).alloc (Nat.le_refl _) _
  obtain ⟨W0, hW0⟩ : ∃ W0, W0 = w.alloc (.cells #[.string rm, .string rh, .string rp] 24) := ⟨_, rfl⟩
  rw [← hW0] at hb1 HBW ⊢
  have HS : Hid (∀ w' : World, Below W0.heap.size W0 w' → w'.cell? ⟨w.heap.size, 0, none⟩ = some (.string rm) ∧ w'.cell? ⟨w.heap.size, 1, none⟩ = some (.string rh) ∧ w'.cell? ⟨w.heap.size, 2, none⟩ = some (.string rp)) := fun w' hb => ⟨blk_cell (blk_below hb1 hb) 0, blk_cell (blk_below hb1 hb) 1, blk_cell (blk_below hb1 hb) 2⟩
  have HU : Hid (∀ w', Below W0.heap.size W0 w' → Below w.heap.size w w') := fun w' hb => HBW.out.trans (hb.mono HBW.out.size)
  clear hW0 hb1
  go_cut [22] (fun c wx => ∃ q : Bool, c = .bool q ∧ Hid (q = false → (ps.length ≤ 2147483647 ∧ ∀ p ∈ ps, FitsB p) ∧ FitsR rm rh rp) ∧ Below W0.heap.size W0 wx)
  case first =>
    obtain ⟨s0, s1, s2⟩ := HS.out _ (Below.refl _ _)
    go_wp2_with (first
      | (go_at_call 8; (with_reducible refine (HX5.out _ ?_).mono ?_); exact HU.out _ (Below.refl _ _); intro e w1 hfe; obtain ⟨b1, rfl, HB1, HP1⟩ := fits_bool hfe; clear hfe; obtain ⟨x0, x1, x2⟩ := HS.out _ HB1.out; cases b1)
      | (go_at_call 9; (with_reducible refine (HX4.out _).mono ?_); intro e w3 hfe; obtain ⟨b3, rfl, HB3, HP3⟩ := fits_bool hfe; clear hfe))
    · go_meet
      exact ⟨true, rfl, (fun h => by cases h), HB1.out⟩
    · go_meet
      refine ⟨!b3, rfl, ?_, HB1.out.trans (HB3.out.mono HB1.out.size)⟩
      show _ → _
      intro h
      have hb3 : b3 = true := by simpa using h
      have g1 := HP1.out
      exact ⟨by simpa using g1, HP3.out hb3⟩
  case rest =>
    obtain ⟨q, rfl, HQ, hbc⟩ := hcut
    obtain ⟨wb, rfl⟩ : ∃ wb : World, wb = wc := ⟨_, rfl⟩
    have HBC := Lib.hid hbc
    clear hbc
    cases q
    case true =>
      go_wp2_with fail
      go_ret
      exact ⟨rfl, HU.out _ HBC.out⟩
    case false =>
      obtain ⟨⟨hn5, hF5⟩, hF4⟩ := HQ.out rfl
      have HF4 := Lib.hid hF4
      have HF5 := Lib.hid hF5
      obtain ⟨s0, s1, s2⟩ := HS.out _ HBC.out
      clear hF4 hF5
      go_upto_region 4 with (go_at_call 10; (with_reducible refine (HXA.out _ (HU.out _ HBC.out) hn5 HF5.out).mono ?_); rintro e wt ⟨va, qs, rfl, hqs, hpo, hbt⟩; have hpa := hpo.at; rw [hqs] at hpa; obtain ⟨X, xc, rfl, hxc, hxm, -⟩ := id hpa; have HPA := Lib.hid hpa; have HBT := Lib.hid hbt; have HPO := Lib.hid hpo; have HQS := Lib.hid hqs; clear hpa hbt hpo hqs)
      clear s0 s1 s2
      have HB0T : Hid (Below W0.heap.size W0 wt) := HBC.out.trans (HBT.out.mono HBC.out.size)
      obtain ⟨s0, s1, s2⟩ := HS.out _ HB0T.out
      go_upto_region 5 with (go_at_call 11; (with_reducible refine (HXC.out _ HF4.out).mono ?_); rintro e wv ⟨vi, fine, its, rfl, hfi, hbv⟩; have HFI := Lib.hid hfi; have HBV := Lib.hid hbv; clear hfi hbv)
      clear s0 s1 s2
      have hn3 := new0 wv (.cells #[.string rm, .string rh, .string rp] 29)
      have HBTV : Hid (Below wt.heap.size wt (wv.alloc (.cells #[.string rm, .string rh, .string rp] 29))) := HBV.out.alloc HBV.out.size _
      have HBVV : Hid (Below wv.heap.size wv (wv.alloc (.cells #[.string rm, .string rh, .string rp] 29))) := (Below.refl _ _).alloc (Nat.le_refl _) _
      obtain ⟨W2, hW2⟩ : ∃ W2, W2 = wv.alloc (.cells #[.string rm, .string rh, .string rp] 29) := ⟨_, rfl⟩
      rw [← hW2] at hn3 HBTV HBVV ⊢
      have HB02 : Hid (Below W0.heap.size W0 W2) := HB0T.out.trans (HBTV.out.mono HB0T.out.size)
      have HB2 : Hid (∀ w', Below W2.heap.size W2 w' → Below w.heap.size w w') := fun w' hb => HU.out _ (HB02.out.trans (hb.mono HB02.out.size))
      have HT : Hid (∀ w' : World, Below W2.heap.size W2 w' → (w'.cell? ⟨w.heap.size, 0, none⟩ = some (.string rm) ∧ w'.cell? ⟨w.heap.size, 1, none⟩ = some (.string rh) ∧ w'.cell? ⟨w.heap.size, 2, none⟩ = some (.string rp)) ∧ (w'.cell? ⟨wv.heap.size, 0, none⟩ = some (.string rm) ∧ w'.cell? ⟨wv.heap.size, 1, none⟩ = some (.string rh) ∧ w'.cell? ⟨wv.heap.size, 2, none⟩ = some (.string rp))) := fun w' hb =>
        ⟨HS.out _ (HB02.out.trans (hb.mono HB02.out.size)), blk_cell (blk_below hn3 hb) 0, blk_cell (blk_below hn3 hb) 1, blk_cell (blk_below hn3 hb) 2⟩
      have HPV : Hid (∀ w' : World, Below W2.heap.size W2 w' → PatsAt w' (.slice X ps.length xc) ps) := fun w' hb => (HPA.out.keep HBTV.out).keep hb
      have HPV0 : Hid (∀ w' : World, Below W2.heap.size W2 w' → PatsAt w' (.slice A0 ps.length c0) ps) := fun w' hb => HH0.out.keep (HB2.out w' hb)
      have HRI : Hid (fine = true → AskOk (bs rm) (bs rh) (bs rp) its ∧ ∀ w', Below W2.heap.size W2 w' → StrsAt w' vi its) := fun h => ⟨(HFI.out h).1, fun w' hb => ((HFI.out h).2.keep HBVV.out).keep hb⟩
      have HRP : Hid (∀ w', Below W2.heap.size W2 w' → PropsAt w') := fun w' hb => HPR.out.below (HB2.out w' hb)
      clear hW2 hn3 HFI HX5 HX4 HXC HQ HBVV
      go_cut [42] (fun c wx => ∃ q : Bool, c = .bool q ∧ Hid (q = false → fine = true ∧ (ps.length ≤ 10 ∧ AllGoodB ps) ∧ PeaceB ps) ∧ Below W2.heap.size W2 wx)
      case first =>
        cases fine
        · go_wp2_with fail
          go_meet
          exact ⟨true, rfl, (fun h => by cases h), Below.refl _ _⟩
        · go_wp2_with (first
            | (go_at_call 12; (with_reducible refine (allGood_any _ ps _ (HPV.out _ (Below.refl _ _)) hn5 HF5.out).mono ?_); intro e w5 hfe; obtain ⟨b5, rfl, HB5, HP5⟩ := fits_bool hfe; clear hfe; cases b5)
            | (go_at_call 13; (with_reducible refine (peace_any _ ps _ (HPV.out _ HB5.out) (by simpa using HP5.out : ps.length ≤ 10 ∧ AllGoodB ps).1 (by simpa using HP5.out : ps.length ≤ 10 ∧ AllGoodB ps).2).mono ?_); intro e w6 hfe; obtain ⟨b6, rfl, HB6, HP6⟩ := fits_bool hfe; clear hfe))
          · go_meet
            exact ⟨true, rfl, (fun h => by cases h), HB5.out⟩
          · go_meet
            refine ⟨!b6, rfl, ?_, HB5.out.trans (HB6.out.mono HB5.out.size)⟩
            show _ → _
            intro h
            have hb6 : b6 = true := by simpa using h
            exact ⟨by first | rfl | trivial, by simpa using HP5.out, HP6.out hb6⟩
      case rest =>
        obtain ⟨q, rfl, HQ2, hbq⟩ := hcut
        obtain ⟨wq, rfl⟩ : ∃ wq : World, wq = wc := ⟨_, rfl⟩
        have HBQ := Lib.hid hbq
        clear hbq
        cases q
        case true =>
          go_wp2_with fail
          go_ret
          exact ⟨rfl, HB2.out _ HBQ.out⟩
        case false =>
          obtain ⟨rfl, ⟨hn10, hgood⟩, hpeace⟩ := HQ2.out rfl
          obtain ⟨hak, hst⟩ := HRI.out rfl
          have HG := Lib.hid hgood
          have HPC := Lib.hid hpeace
          have HAK := Lib.hid hak
          have HST := Lib.hid hst
          have HSM := Lib.hid (items_small _ _ hak.1)
          clear hgood hpeace hak hst HQ2 HRI
          have HALL : Hid (∀ W, Below W2.heap.size W2 W → Calls Tryd.prog 10 #[.slice A0 ps.length c0] W fun e w' => ∃ B bc, e = .returned (.slice B ps.length bc) ∧ PatsAt w' (.slice B ps.length bc) ps ∧ Below W2.heap.size W2 w') := by
            intro W hb
            refine (HXA.out W (HB2.out W hb) hn5 HF5.out).mono ?_
            rintro e w' ⟨v', qs', rfl, hqs', hpo', hb'⟩
            have hpa := hpo'.at
            rw [hqs'] at hpa
            obtain ⟨B, bc, rfl, -⟩ := id hpa
            exact ⟨B, bc, rfl, hpa, hb.trans (hb'.mono hb.size)⟩
          have HTK : Hid (∀ (W : World) (u : Value), Below W2.heap.size W2 W → PatsAt W u ps → Calls Tryd.prog 14 #[u, .agg #[.string rm, .string rh, .string rp]] W fun e w' => ∃ (i : Int) (v' : Value), e = .returned (.tuple #[.int .i64 i, v']) ∧ Hid (MatchRes ps (bs rm) (bs rh) its W2 (.returned (.tuple #[.int .i64 i, v'])) w') ∧ Below W2.heap.size W2 w') := by
            intro W u hb hu
            refine (take_any u ps its rh rm rp W hu hn10 HG.out HPC.out (HRP.out W hb) HAK.out).mono ?_
            intro e w' hm
            obtain ⟨i, v', rfl, HM⟩ := (hm.rebase hb).uni
            exact ⟨i, v', rfl, HM, hb.trans (hm.1.mono hb.size)⟩
          have HTS : Hid (∀ (W : World) (p : PtB) (sv : Value), Below W2.heap.size W2 W → p.pt.good → SegsAt W sv p.l → Calls Tryd.prog 16 #[.agg #[.string p.m, .string p.h, sv], .agg #[.string rm, .string rh, .string rp], vi] W fun e w' => ∃ x, e = .returned (.tuple #[x, .bool (p.pt.takes (bs rm) (bs rh) its)]) ∧ Below W2.heap.size W2 w') :=
            fun W p sv hb hg hs => (takes_any p.m p.h rm rh rp sv vi p.l its W hs (HST.out W hb) (good_len hg) HSM.out).mono fun e w' ⟨⟨x, y⟩, z⟩ => ⟨x, y, hb.trans (z.mono hb.size)⟩
          clear HBTV HB0T HB02 HBC HBT HBV
          have HSG : Hid (∀ (W : World) (x : PtB × Value), Below W2.heap.size W2 W → SegsAt w x.2 x.1.l → SegsAt W x.2 x.1.l) := fun W x hb hs => hs.keep (HB2.out W hb)
          obtain ⟨i0, hi, hz0, hz1, hz2⟩ := info_parts info_implPat
          obtain ⟨xa, xb, xd, -, -, hf⟩ := HH0.out
          simp only [Value.slice.injEq, true_and] at xd
          obtain ⟨rfl, rfl⟩ := xd
          have HF := Lib.hid hf
          clear hf
          have hwq := (HB2.out _ HBQ.out).size
          have HBWQ : Hid (Below w.heap.size w wq) := HB2.out _ HBQ.out
          go_wp2_with fail
          go_loopw [9, 46] (fun cur kv wr => ∃ (k : Nat) (qs : List (PtB × Value)), k ≤ ps.length ∧ kv = .int .i64 k ∧ Hid (qs.map Prod.fst = ps.reverse.take k) ∧ Hid (∀ x ∈ qs, SegsAt w x.2 x.1.l) ∧ wr.ownsRow wq.heap.size 36 3 cur qs.length (cellsP qs) ∧ Below wq.heap.size wq wr)
            (fun _ kv _ => ps.length - (intOf kv).toNat)
          case atStart =>
            exact ⟨0, [], Nat.zero_le _, rfl, rfl, fun x hx => by simp at hx, by simpa [cellsP] using World.ownsRow_made wq #[] 0 (by simp) (by decide) (by decide), (Below.refl _ _).alloc (Nat.le_refl _) _⟩
          case round =>
            obtain ⟨k, qs', hk, rfl, HQ3, HSS, hown, hb⟩ := hrel
            by_cases hlt : k < ps.length
            · obtain ⟨j, hj⟩ : ∃ j : Nat, j = ps.length - 1 - k := ⟨_, rfl⟩
              have hjl : j < ps.length := by omega
              have hji : (ps.length : Int) - 1 - (k : Int) = (j : Int) := by omega
              obtain ⟨p, hp⟩ : ∃ p, ps[j]? = some p := ⟨_, List.getElem?_eq_getElem hjl⟩
              obtain ⟨b, o, sv, rfl, hbl, h1, h2, h3, h4⟩ := HF.out j p hp
              have HPK : Hid (ps.reverse.take (k + 1) = ps.reverse.take k ++ [p]) := by
                show _ = _
                rw [List.take_add_one, rev_at ps k hlt, ← hj, hp]; rfl
              have HS4 : Hid (SegsAt w sv p.l) := h4
              obtain ⟨Y, yc, rfl, -, -⟩ := h4
              have hbw : Below w.heap.size w wr := HBWQ.out.trans (hb.mono hwq)
              have g1 : wr.cell? ⟨b, o + j * 3, none⟩ = some (.string p.m) := (hbw.cell hbl).trans h1
              have g2 : wr.cell? ⟨b, o + j * 3 + 1, none⟩ = some (.string p.h) := (hbw.cell hbl).trans h2
              have g3 : wr.cell? ⟨b, o + j * 3 + 2, none⟩ = some (.slice Y p.l.length yc) := (hbw.cell hbl).trans h3
              have hql : qs'.length = k := by
                have := congrArg List.length HQ3.out
                simpa [Nat.min_eq_left hk] using this
              have HQL := Lib.hid hql
              have HB9 := Lib.hid hb
              have HO9 := Lib.hid hown
              have hsz9 := hb.size
              clear h1 h2 h3 hp hql hb hown hbw hj hbl
              go_wp2_with (at_builtin; refine wpList_append_own_at _ rfl _ _ 22 rfl wq.heap.size 36 i0 (.agg #[.string ⟨#[]⟩, .string ⟨#[]⟩, .slice none 0 0]) 3 56 Tryd.underlying22 hi hz0 hz1 hz2 rfl (by decide) _ _ _ rfl (HO9.out.alloc _) ⟨wr.heap.size, 0, none⟩ 1 1 [_, _, _] rfl rfl (cells3_new _ _ _ _ _ _ (by simp)) (by simp [Value.oneCell']) (by unfold maxLen; rw [HQL.out]; omega) (by rw [HQL.out]; omega) (by simp; omega) ?_; intro v' w3 hown3 hgrow _ hv3)
              have hb3 : Below wq.heap.size wq w3 := (HB9.out.alloc HB9.out.size _).grown hgrow (by simp; omega) (fun g hg => (HO9.out.lt g hg).1)
              clear hgrow hv3
              go_roundw
              case rel =>
                refine ⟨k + 1, qs' ++ [(p, .slice Y p.l.length yc)], by omega, by go_num, ?_, ?_, ?_, hb3⟩
                · show _ = _
                  rw [HPK.out, ← HQ3.out, List.map_append]; rfl
                · intro x hx
                  rcases List.mem_append.1 hx with hx | hx
                  · exact HSS.out x hx
                  · simp only [List.mem_singleton] at hx
                    subst hx
                    exact HS4.out
                · rw [cellsP_snoc]
                  simpa using hown3
              case measure => simp [intOf]; omega
            · have hke : k = ps.length := by omega
              subst hke
              have HQ4 : Hid (qs'.map Prod.fst = ps.reverse) := by
                have := HQ3.out
                rwa [List.take_of_length_le (by simp)] at this
              have HWR : Hid (Below W2.heap.size W2 wr) := HBQ.out.trans (hb.mono HBQ.out.size)
              have hpt := PatsAt.of_own hown fun x hx => (HSS.out x hx).keep (HBWQ.out.trans (hb.mono hwq))
              rw [HQ4.out] at hpt
              have hql : qs'.length = ps.length := by
                have := congrArg List.length HQ4.out
                simpa using this
              rw [hql] at hown
              obtain ⟨T, tc, rfl, -⟩ := own_form hown
              have HPT := Lib.hid hpt
              have HALLg : Hid (∀ (V W : World), Below W2.heap.size W2 V → Below V.heap.size V W → Calls Tryd.prog 10 #[.slice A0 ps.length c0] W fun e w' => ∃ B bc, e = .returned (.slice B ps.length bc) ∧ PatsAt w' (.slice B ps.length bc) ps ∧ Below V.heap.size V w') := by
                intro V W hV hW
                refine (HXA.out W (HB2.out W (hV.trans (hW.mono hV.size))) hn5 HF5.out).mono ?_
                rintro e w' ⟨v', qs2, rfl, hqs', hpo', hb'⟩
                have hpa := hpo'.at
                rw [hqs'] at hpa
                obtain ⟨B, bc, rfl, -⟩ := id hpa
                exact ⟨B, bc, rfl, hpa, hW.trans (hb'.mono hW.size)⟩
              have HALLr : Hid (∀ (V W : World), Below wr.heap.size wr V → Below V.heap.size V W → Calls Tryd.prog 10 #[.slice T ps.length tc] W fun e w' => ∃ B bc, e = .returned (.slice B ps.length bc) ∧ PatsAt w' (.slice B ps.length bc) ps.reverse ∧ Below V.heap.size V w') := by
                intro V W hV hW
                refine (all_any (.slice T ps.length tc) ps.reverse W (HPT.out.keep (hV.trans (hW.mono hV.size))) (by simpa using hn5) (fun p hp => HF5.out p (by simpa using hp))).mono ?_
                rintro e w' ⟨v', qs2, rfl, hqs', hpo', hb'⟩
                have hpa := hpo'.at
                rw [hqs'] at hpa
                obtain ⟨B, bc, rfl, -⟩ := id hpa
                refine ⟨B, bc, by simp, by simpa using hpa, hW.trans (hb'.mono hW.size)⟩
              have HTKg : Hid (∀ (V W : World) (u : Value) (qs : List PtB), Below W2.heap.size W2 V → Below V.heap.size V W → PatsAt W u qs → qs.length ≤ 10 → AllGoodB qs → PeaceB qs → Calls Tryd.prog 14 #[u, .agg #[.string rm, .string rh, .string rp]] W fun e w' => ∃ (i : Int) (v' : Value), e = .returned (.tuple #[.int .i64 i, v']) ∧ Hid (MatchRes qs (bs rm) (bs rh) its V (.returned (.tuple #[.int .i64 i, v'])) w') ∧ Below V.heap.size V w') := by
                intro V W u qs hV hW hu h1 h2 h3
                refine (take_any u qs its rh rm rp W hu h1 h2 h3 (HRP.out W (hV.trans (hW.mono hV.size))) HAK.out).mono ?_
                intro e w' hm
                obtain ⟨i, v', rfl, HM⟩ := (hm.rebase hW).uni
                exact ⟨i, v', rfl, HM, hW.trans (hm.1.mono hW.size)⟩
              have HRV : Hid (ps.reverse.length ≤ 10 ∧ AllGoodB ps.reverse ∧ PeaceB ps.reverse) := ⟨by simpa using hn10, rev_good HG.out, rev_peace HPC.out⟩
              obtain ⟨⟨x0, x1, x2⟩, _⟩ := HT.out _ HWR.out
              clear hown hpt hb hql HXA HALL HTK
              go_upto_region 13 with fail
              have hwr0 : Below wr.heap.size wr wr := Below.refl _ _
              go_region_held3 (fun w' => (w'.cell? ⟨w.heap.size, 0, none⟩ = some (.string rm) ∧ w'.cell? ⟨w.heap.size, 1, none⟩ = some (.string rh) ∧ w'.cell? ⟨w.heap.size, 2, none⟩ = some (.string rp)))
                (first | exact ⟨x0, x1, x2⟩ | exact (HT.out _ (HWR.out.trans (Below.mono (by assumption) HWR.out.size))).1)
                (first
                  | (go_at_call 10; (with_reducible refine (HALLg.out _ _ HWR.out (Below.drew hwr0)).mono ?_); rintro e wa ⟨B, bc, rfl, hpa1, hba⟩; have HPA1 := Lib.hid hpa1; clear hpa1)
                  | (go_at_call 14; (with_reducible refine (HTKg.out _ _ _ _ HWR.out hba HPA1.out hn10 HG.out HPC.out).mono ?_); rintro e wk ⟨i, vk, rfl, HM, hbk⟩))
              have HBK := Lib.hid hbk
              have HWK : Hid (Below W2.heap.size W2 wk) := HWR.out.trans (hbk.mono HWR.out.size)
              clear x0 x1 x2 hwr0 hba hbk HPA1
              obtain ⟨⟨x0, x1, x2⟩, _⟩ := HT.out _ HWK.out
              go_upto_region 14 with fail
              have hwk0 : Below wk.heap.size wk wk := Below.refl _ _
              go_region_held3 (fun w' => (w'.cell? ⟨w.heap.size, 0, none⟩ = some (.string rm) ∧ w'.cell? ⟨w.heap.size, 1, none⟩ = some (.string rh) ∧ w'.cell? ⟨w.heap.size, 2, none⟩ = some (.string rp)))
                (first | exact ⟨x0, x1, x2⟩ | exact (HT.out _ (HWK.out.trans (Below.mono (by assumption) HWK.out.size))).1)
                (first
                  | (go_at_call 10; (with_reducible refine (HALLr.out _ _ HBK.out (Below.drew hwk0)).mono ?_); rintro e wa ⟨B, bc, rfl, hpa1, hba⟩; have HPA1 := Lib.hid hpa1; clear hpa1)
                  | (go_at_call 14; (with_reducible refine (HTKg.out _ _ _ _ HWK.out hba HPA1.out HRV.out.1 HRV.out.2.1 HRV.out.2.2).mono ?_); rintro e wm ⟨i', vm, rfl, HM2, hbm⟩))
              have HBM := Lib.hid hbm
              clear x0 x1 x2 hwk0 hba hbm HPA1 HALLg HALLr HTKg HRV HTS
              have HFIN : Hid (Below w.heap.size w wm) := HB2.out _ (HWK.out.trans (HBM.out.mono HWK.out.size))
              have hagr := order_agree HG.out HM.out.parts HM2.out.parts
              rcases hagr with ⟨rfl, rfl, rfl, rfl⟩ | ⟨n, n', l, rfl, rfl, hnn, hs1, hs2⟩
              · go_wp2_with fail
                go_ret
                exact ⟨rfl, HFIN.out⟩
              · have HST2 : Hid (Calls Tryd.prog 15 #[vk, vm] wm fun e w' => e = .returned (.bool true) ∧ Below wm.heap.size wm w') := sameTexts_any vk vm l wm (hs1.keep HBM.out) hs2
                have i1 : (0 : Int) ≤ (n : Int) := by omega
                have i2 : (0 : Int) ≤ (n' : Int) := by omega
                have i3 : (ps.length : Int) - 1 - (n : Int) = (n' : Int) := hnn
                clear hs1 hs2 hnn HM HM2
                go_wp2_with (go_at_call 15; (with_reducible refine HST2.out.mono ?_); rintro e wz ⟨rfl, hbz⟩)
                go_ret
                exact ⟨rfl, HFIN.out.trans (hbz.mono HFIN.out.size)⟩
end Go.Proofs.YtgkhfcoieknjeaaDoor

