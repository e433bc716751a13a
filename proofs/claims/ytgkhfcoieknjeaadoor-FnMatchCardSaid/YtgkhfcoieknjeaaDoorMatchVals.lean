/-
  Proved: spec.Matches and spec.Takes tell whether a pattern matches pieces of a path, and takes a request, and hand back what its wildcards stand for ('vals'). Condition: the pattern and the pieces can be read, and something is stated of them.
-/
import Derived.Test.YtgkhfcoieknjeaaDoorMatchPath
import Derived.Test.YtgkhfcoieknjeaaDoorTakes
namespace Go.Proofs.YtgkhfcoieknjeaaDoor
open Go.RowKit

/-- How Matches ends, with the values. -/
def MatchValEnd (l : List Seg) (its : List (List UInt8)) (w : World) (e : Ending) (w' : World) : Prop :=
  (∃ v, e = .returned (.tuple #[v, .bool (Kd.mt (l.map kindOf) its)]) ∧ (Kd.mt (l.map kindOf) its = true → StrsAt w' v (vals l its))) ∧ Below w.heap.size w w'

theorem vals_at (l : List Seg) (its : List (List UInt8)) (k : Nat) (g : Seg) (x : List UInt8) (hg : l[k]? = some g) (hx : its[k]? = some x) :
    vals (l.drop k) (its.drop k) = if g.multi then (if g.s = [] then [] else [(joinT (its.drop k)).tail]) else if g.wild then x :: vals (l.drop (k + 1)) (its.drop (k + 1)) else vals (l.drop (k + 1)) (its.drop (k + 1)) := by
  have h1 : l.drop k = g :: l.drop (k + 1) := by
    obtain ⟨hl, rfl⟩ := List.getElem?_eq_some_iff.1 hg
    exact List.drop_eq_getElem_cons hl
  have h2 : its.drop k = x :: its.drop (k + 1) := by
    obtain ⟨hl, rfl⟩ := List.getElem?_eq_some_iff.1 hx
    exact List.drop_eq_getElem_cons hl
  rw [h1, h2, vals]

theorem joinT_snoc : ∀ (a : List (List UInt8)) (y : List UInt8), joinT (a ++ [y]) = joinT a ++ (if y = [47] then [47] else 47 :: y)
  | [], y => by simp [joinT]
  | x :: a, y => by
    have ih := joinT_snoc a y
    rw [List.cons_append, joinT, joinT, ih, List.append_assoc]

theorem joinT_ne (x : List UInt8) (a : List (List UInt8)) : joinT (x :: a) ≠ [] := by
  unfold joinT
  split <;> simp

/-- What stands for all that is left, one piece further. -/
theorem rest_step (its : List (List UInt8)) (k j : Nat) (y : List UInt8) (hy : its[k + j]? = some y) :
    (joinT ((its.drop k).take (j + 1))).tail = (joinT ((its.drop k).take j)).tail ++ (if j = 0 then (if y = [47] then [] else y) else if y = [47] then [47] else 47 :: y) := by
  have h1 : (its.drop k)[j]? = some y := by rw [List.getElem?_drop]; exact hy
  rw [List.take_add_one, h1, Option.toList_some, joinT_snoc]
  by_cases hj : j = 0
  · subst hj
    rw [if_pos rfl, List.take_zero]
    split <;> simp [joinT]
  · rw [if_neg hj]
    cases ht : (its.drop k).take j with
    | nil =>
      have hl := congrArg List.length ht
      have h2 := (List.getElem?_eq_some_iff.1 h1).1
      rw [List.length_take] at hl
      simp at hl
      simp at h2
      omega
    | cons a b => rw [List.tail_append_of_ne_nil (joinT_ne a b)]

set_option maxRecDepth 100000 in
set_option maxHeartbeats 6400000 in
theorem matches_vals (m h : ByteArray) (sv iv : Value) (l : List Seg) (its : List (List UInt8)) (w : World) (H : SegsAt w sv l) (HI : StrsAt w iv its) (zl : l.length ≤ 2147483647) (HSI : SmallIts its) :
    Calls Tryd.prog 28 #[.agg #[.string m, .string h, sv], iv] w (MatchValEnd l its w) := by
  obtain ⟨i0, hi, hz0, hz1, hz2⟩ := info_parts info_string
  obtain ⟨A, cap, rfl, hlc, hf⟩ := H
  obtain ⟨I, icap, rfl, hic, hicm, hif⟩ := HI
  have HF := Lib.hid hf
  have HIF := Lib.hid hif
  have HSM := Lib.hid HSI.2
  have zi := HSI.1
  clear HSI
  unfold maxLen at hicm
  clear hf hif
  go_enter Tryd.func28, Tryd.ntmps28
  go_wp2_with fail
  go_loopw [6, 16] (fun vs kv wr => ∃ (k n : Nat) (L : List (List UInt8)), k ≤ l.length ∧ n ≤ k ∧ kv = .int .i64 k ∧ Hid (Kd.mt (l.map kindOf) its = Kd.mt ((l.map kindOf).drop k) (its.drop k)) ∧ Hid (n = L.length ∧ vals l its = L ++ vals (l.drop k) (its.drop k)) ∧
      wr.ownsRow (w.heap.size + 1) 9 1 vs n (L.map strV) ∧ k ≤ its.length ∧ Below (w.heap.size + 1) (w.alloc (.cells #[.string m, .string h, .slice A l.length cap] 45)) wr)
    (fun _ kv _ => l.length - (intOf kv).toNat)
  case atStart => exact ⟨0, 0, [], Nat.zero_le _, Nat.le_refl _, rfl, rfl, ⟨rfl, rfl⟩, by simpa using World.ownsRow_made (w.alloc _) #[] 0 (by simp) (by decide) (by decide), Nat.zero_le _, (Below.refl _ _).alloc (by simp) _⟩
  case round =>
    obtain ⟨k, n, L, hk, hn, rfl, HM, HVK, hown, hki, hb⟩ := hrel
    have hsw : w.heap.size < wr.heap.size := by have := hb.size; simp at this; omega
    have HBW : Hid (Below w.heap.size w wr) := ((Below.refl w.heap.size w).alloc (Nat.le_refl _) (.cells #[.string m, .string h, .slice A l.length cap] 45)).trans (hb.mono (by simp))
    have hp2 : wr.cell? ⟨w.heap.size, 2, none⟩ = some (.slice A l.length cap) := (hb.cell (p := ⟨w.heap.size, 2, none⟩) (by simp)).trans (by rw [World.cell?_alloc_new]; rfl)
    by_cases hlt : k < l.length
    · obtain ⟨g, hg⟩ : ∃ g, l[k]? = some g := ⟨_, List.getElem?_eq_getElem hlt⟩
      obtain ⟨b, o, hA, hbl, h1, h2, h3⟩ := HF.out k g hg
      subst hA
      have g1 : wr.cell? ⟨b, o + k * 3, none⟩ = some (.string ⟨g.s.toArray⟩) := (HBW.out.cell hbl).trans h1
      have g2 : wr.cell? ⟨b, o + k * 3 + 1, none⟩ = some (.bool g.wild) := (HBW.out.cell hbl).trans h2
      have g3 : wr.cell? ⟨b, o + k * 3 + 2, none⟩ = some (.bool g.multi) := (HBW.out.cell hbl).trans h3
      have hbr : b < wr.heap.size := by omega
      have HRet : Hid (Below w.heap.size w (wr.alloc (.cells #[.string ⟨g.s.toArray⟩, .bool g.wild, .bool g.multi] 64))) := HBW.out.alloc HBW.out.size _
      by_cases hik : its.length ≤ k
      · have HR : Hid (Kd.mt (l.map kindOf) its = false) := HM.out.trans (mt_over l its k g hg hik)
        clear h1 h2 h3 hg hown HM hb HBW
        go_wp2_with fail
        go_ret2
        exact ⟨⟨.slice none 0 0, by rw [HR.out]; rfl, fun h => by rw [HR.out] at h; cases h⟩, HRet.out⟩
      · obtain ⟨x, hx⟩ : ∃ x, its[k]? = some x := ⟨_, List.getElem?_eq_getElem (by omega)⟩
        obtain ⟨bi, oi, rfl, hbi, hxc⟩ := HIF.out k x hx
        have i1 : wr.cell? ⟨bi, oi + k, none⟩ = some (.string ⟨x.toArray⟩) := (HBW.out.cell hbi).trans hxc
        have hbir : bi < wr.heap.size := by omega
        have hmt := HM.out.trans (mt_at l its k g x hg hx)
        have HMT := Lib.hid hmt
        have HVA := Lib.hid (vals_at l its k g x hg hx)
        have hon2 := hown.alloc (.cells #[.string ⟨g.s.toArray⟩, .bool g.wild, .bool g.multi] 64)
        have HON := Lib.hid hon2
        have HBN : Hid (Below (w.heap.size + 1) (w.alloc (.cells #[.string m, .string h, .slice (some ⟨b, o, none⟩) l.length cap] 45)) (wr.alloc (.cells #[.string ⟨g.s.toArray⟩, .bool g.wild, .bool g.multi] 64))) := hb.alloc (by omega) _
        clear h1 h2 h3 hg hxc hx hmt hon2 hown HM
        obtain ⟨gs, gw, gm⟩ := g
        simp only at g1 g2 g3 HMT HRet HON HBN HVA
        cases gm
        · cases gw
          · simp only at HMT
            by_cases hs : gs = x
            · have e0 : (gs == x) = true := by simpa using hs
              have HN : Hid (Kd.mt (l.map kindOf) its = Kd.mt ((l.map kindOf).drop (k + 1)) (its.drop (k + 1))) := HMT.out.trans (by rw [decide_eq_true hs, Bool.true_and])
              clear hs HBW
              have hk0 : (0 : Int) ≤ (k : Int) := by omega
              have hk1 : (k : Int) < (its.length : Int) := by omega
              go_wp2_with fail
              go_region
              go_wp2_with fail
              go_roundw
              case rel => exact ⟨k + 1, n, L, by omega, by omega, by go_num, HN, ⟨HVK.out.1, by rw [HVK.out.2, HVA.out]; rfl⟩, own_drew HON.out, by omega, below_drew3 HBN.out 1⟩
              case measure => simp [intOf]; omega
            · have e0 : (gs == x) = false := by simpa using hs
              have HR : Hid (Kd.mt (l.map kindOf) its = false) := HMT.out.trans (by rw [decide_eq_false hs, Bool.false_and])
              clear hs hb HBW
              have hk0 : (0 : Int) ≤ (k : Int) := by omega
              have hk1 : (k : Int) < (its.length : Int) := by omega
              go_wp2_with fail
              go_region
              go_wp2_with fail
              go_ret2
              exact ⟨⟨.slice none 0 0, by rw [HR.out]; rfl, fun h => by rw [HR.out] at h; cases h⟩, below_drew3 HRet.out 1⟩
          · simp only at HMT
            by_cases h47 : x = [47]
            · have e0 : (x == [47]) = true := by simpa using h47
              have HR : Hid (Kd.mt (l.map kindOf) its = false) := HMT.out.trans (by rw [decide_eq_false (by simpa using h47), Bool.false_and])
              clear h47 hb HBW
              go_wp2_with fail
              go_ret2
              exact ⟨⟨.slice none 0 0, by rw [HR.out]; rfl, fun h => by rw [HR.out] at h; cases h⟩, HRet.out⟩
            · have e0 : (x == [47]) = false := by simpa using h47
              have HN : Hid (Kd.mt (l.map kindOf) its = Kd.mt ((l.map kindOf).drop (k + 1)) (its.drop (k + 1))) := HMT.out.trans (by rw [decide_eq_true h47, Bool.true_and])
              have hbs := HBN.out.size
              simp only [World.size_alloc] at hbs
              clear h47 hb HBW
              go_wp2_with (at_builtin; refine wpList_append_own _ rfl _ _ 30 rfl (w.heap.size + 1) 9 i0 (.string ⟨#[]⟩) 1 16 Tryd.underlying30 hi hz0 hz1 hz2 rfl (by decide) _ _ _ rfl (HON.out.alloc _) ⟨wr.heap.size + 1, 0, none⟩ 1 1 [_] rfl rfl (cell1_new _ _ _ _ (by simp)) (by simp [Value.oneCell']) (by unfold maxLen; omega) (by omega) (by simp; omega) ?_; intro v' w1 hown' hgrow _)
              have hbn : Below (w.heap.size + 1) (w.alloc (.cells #[.string m, .string h, .slice (some ⟨b, o, none⟩) l.length cap] 45)) w1 := (HBN.out.alloc (by simp; omega) _).grown hgrow (by simp; omega) fun g hg => (HON.out.lt g hg).1
              clear hgrow
              go_roundw
              case rel => exact ⟨k + 1, n + 1, L ++ [x], by omega, by omega, by go_num, HN, ⟨by simp [HVK.out.1], by rw [HVK.out.2, HVA.out]; simp⟩, by simpa [strV] using hown', by omega, hbn⟩
              case measure => simp [intOf]; omega
        · simp only at HMT
          obtain ⟨wo, rfl⟩ : ∃ wo : World, wo = wr := ⟨_, rfl⟩
          have HBWo := HBW
          clear hb HBW i1
          go_wp2_with fail
          go_loopw [9, 32] (fun rv jv wi => ∃ (j : Nat) (r : ByteArray), j ≤ its.length - k ∧ jv = .int .i64 j ∧ rv = .string r ∧ r.size ≤ j * 121 ∧ Hid (bs r = (joinT ((its.drop k).take j)).tail) ∧ wo.alloc (.cells #[.string ⟨gs.toArray⟩, .bool gw, .bool true] 64) = wi) (fun _ jv _ => its.length - k - (intOf jv).toNat)
          case atStart => exact ⟨0, ⟨#[]⟩, Nat.zero_le _, rfl, rfl, by decide, rfl, rfl⟩
          case round =>
            obtain ⟨j, r, hj, rfl, rfl, hrs, HR0, rfl⟩ := hrel
            by_cases hjl : j < its.length - k
            · obtain ⟨y, hy⟩ : ∃ y, its[k + j]? = some y := ⟨_, List.getElem?_eq_getElem (by omega)⟩
              have hys : y.length ≤ 120 := HSM.out y (List.mem_of_getElem? hy)
              have HRN := Lib.hid (rest_step its k j y hy)
              obtain ⟨bj, oj, hbo, hblj, y1'⟩ := HIF.out (k + j) y hy
              simp only [Option.some.injEq, Addr.mk.injEq, and_true] at hbo
              obtain ⟨rfl, rfl⟩ := hbo
              have y1 : wo.cell? ⟨bi, oi + k + j, none⟩ = some (.string ⟨y.toArray⟩) := by rw [Nat.add_assoc]; exact (HBWo.out.cell hbi).trans y1'
              have hl1 : (ByteArray.mk y.toArray).size = y.length := by simp [ByteArray.size]
              have hl2 : (ByteArray.mk #[47]).size = 1 := rfl
              have hby : bs ⟨y.toArray⟩ = y := by simp [bs]
              have hb47 : bs ⟨#[47]⟩ = [47] := rfl
              have HBY := Lib.hid hby
              have HB47 := Lib.hid hb47
              clear y1' hy hby hb47
              by_cases hj0 : j = 0
              · by_cases hy47 : y = [47]
                · have e5 : (y == [47]) = true := by simpa using hy47
                  have HY := Lib.hid hy47
                  subst hj0
                  simp only [Nat.add_zero] at y1
                  clear hy47
                  go_wp2_with fail
                  go_roundw
                  case rel => exact ⟨1, _, by omega, by go_num, rfl, by omega, by show bs _ = (joinT (List.take (0 + 1) (List.drop k its))).tail; rw [HRN.out, HR0.out, if_pos rfl, if_pos HY.out]; simp, by first | rfl | trivial⟩
                  case measure => simp [intOf]; omega
                · have e5 : (y == [47]) = false := by simpa using hy47
                  have HY := Lib.hid hy47
                  subst hj0
                  simp only [Nat.add_zero] at y1
                  clear hy47
                  go_wp2_with fail
                  go_roundw
                  case rel => exact ⟨1, _, by omega, by go_num, rfl, by simp only [ByteArray.size_append]; omega, by show bs _ = (joinT (List.take (0 + 1) (List.drop k its))).tail; rw [HRN.out, bs_append, HR0.out, HBY.out, if_pos rfl, if_neg HY.out], by first | rfl | trivial⟩
                  case measure => simp [intOf]; omega
              · have e6 : (0 : Int) < (j : Int) := by omega
                by_cases hy47 : y = [47]
                · have e5 : (y == [47]) = true := by simpa using hy47
                  have HY := Lib.hid hy47
                  have HJ0 := Lib.hid hj0
                  clear hy47 hj0
                  go_wp2_with fail
                  go_roundw
                  case rel => exact ⟨j + 1, _, by omega, by go_num, rfl, by simp only [ByteArray.size_append]; omega, by show _ = _; rw [HRN.out, bs_append, HR0.out, HBY.out, if_neg HJ0.out, if_pos HY.out, HY.out], by first | rfl | trivial⟩
                  case measure => simp [intOf]; omega
                · have e5 : (y == [47]) = false := by simpa using hy47
                  have HY := Lib.hid hy47
                  have HJ0 := Lib.hid hj0
                  clear hy47 hj0
                  go_wp2_with fail
                  go_roundw
                  case rel => exact ⟨j + 1, _, by omega, by go_num, rfl, by simp only [ByteArray.size_append]; omega, by show _ = _; rw [HRN.out, bs_append, bs_append, HR0.out, HBY.out, HB47.out, if_neg HJ0.out, if_neg HY.out]; simp, by first | rfl | trivial⟩
                  case measure => simp [intOf]; omega
            · have HRE : Hid (bs r = (joinT (its.drop k)).tail) := by
                have := HR0.out
                rwa [List.take_of_length_le (by rw [List.length_drop]; omega)] at this
              by_cases hge : gs = []
              · have HGE := Lib.hid hge
                have e0 : gs.isEmpty = true := by rw [hge]; rfl
                clear hge
                go_wp2_with fail
                go_ret2
                refine ⟨?_, HRet.out⟩
                rw [HMT.out]
                have hve : vals l its = L := by rw [HVK.out.2, HVA.out, HGE.out]; simp
                exact ⟨_, rfl, fun _ => by rw [hve]; exact StrsAt.of_own (by rw [← HVK.out.1]; exact HON.out)⟩
              · have HGE := Lib.hid hge
                have e0 : gs.isEmpty = false := by simpa using hge
                have hbs := HBN.out.size
                simp only [World.size_alloc] at hbs
                clear hge
                go_wp2_with (at_builtin; refine wpList_append_own _ rfl _ _ 30 rfl (w.heap.size + 1) 9 i0 (.string ⟨#[]⟩) 1 16 Tryd.underlying30 hi hz0 hz1 hz2 rfl (by decide) _ _ _ rfl (HON.out.alloc _) ⟨wo.heap.size + 1, 0, none⟩ 1 1 [_] rfl rfl (cell1_new _ _ _ _ (by simp)) (by simp [Value.oneCell']) (by unfold maxLen; omega) (by omega) (by simp; omega) ?_; intro v' w1 hown' hgrow _)
                have hbn : Below w.heap.size w w1 := (HRet.out.alloc (by have := HRet.out.size; simpa using this) _).grown hgrow (by simp; omega) fun g hg => by have := (HON.out.lt g hg).1; omega
                clear hgrow
                go_ret2
                have hve : vals l its = L ++ [bs r] := by rw [HVK.out.2, HVA.out, HRE.out]; simp [HGE.out]
                have hsr : (.string r : Value) = strV (bs r) := (strV_bs r).symm
                rw [hsr] at hown'
                exact ⟨⟨v', by rw [HMT.out]; rfl, fun _ => by rw [hve]; exact StrsAt.of_own (by simpa [HVK.out.1] using hown')⟩, hbn⟩
    · have HR : Hid (Kd.mt (l.map kindOf) its = decide (its.length ≤ k)) := HM.out.trans (mt_end l its k (by omega))
      have hke : k = l.length := by omega
      have HOE := Lib.hid hown
      have e0 : ((its.length : Int) == (l.length : Int)) = decide (its.length ≤ k) := by
        rw [hke]
        by_cases h : its.length ≤ l.length
        · rw [decide_eq_true h, beq_iff_eq]; omega
        · rw [decide_eq_false h, beq_eq_false_iff_ne]; omega
      go_wp2_with fail
      go_region
      go_wp2_with fail
      go_ret2
      refine ⟨?_, below_drew3 HBW.out 1⟩
      have hve : vals l its = L := by rw [HVK.out.2, List.drop_of_length_le (by omega)]; simp [vals]
      rw [HR.out, hke]
      exact ⟨_, rfl, fun _ => by rw [hve]; exact StrsAt.of_own (by rw [← HVK.out.1]; exact HOE.out)⟩

set_option maxRecDepth 100000 in
set_option maxHeartbeats 1600000 in
theorem takes_vals (m h rm rh rp : ByteArray) (sv iv : Value) (l : List Seg) (its : List (List UInt8)) (w : World) (H : SegsAt w sv l) (HI : StrsAt w iv its) (zl : l.length ≤ 2147483647) (HSI : SmallIts its) :
    Calls Tryd.prog 16 #[.agg #[.string m, .string h, sv], .agg #[.string rm, .string rh, .string rp], iv] w fun e w' =>
      (∃ x, e = .returned (.tuple #[x, .bool (takesB (bs m) (bs h) l (bs rm) (bs rh) its)]) ∧ (takesB (bs m) (bs h) l (bs rm) (bs rh) its = true → StrsAt w' x (vals l its))) ∧ Below w.heap.size w w' := by
  have HM : Hid (∀ W, Below w.heap.size w W → Calls Tryd.prog 28 #[.agg #[.string m, .string h, sv], iv] W fun e w' => ∃ x, e = .returned (.tuple #[x, .bool (Kd.mt (kinds l) its)]) ∧ Hid (Kd.mt (kinds l) its = true → StrsAt w' x (vals l its)) ∧ Below W.heap.size W w') := fun W hb =>
    (matches_vals m h sv iv l its W (H.keep hb) (HI.keep hb) zl HSI).mono fun e w' ⟨⟨x, y, y'⟩, z⟩ => ⟨x, y, y', z⟩
  have HSV : Hid (∀ W, Calls Tryd.prog 29 #[.string m, .string rm] W fun e w' => e = .returned (.bool (servesB (bs m) (bs rm))) ∧ W = w') := fun W => serves_any m rm W
  obtain ⟨A, cap, rfl, _, _⟩ := H
  have hp := blk_alloc (new0 w (.cells #[.string m, .string h, .slice A l.length cap] 45)) (.cells #[.string rm, .string rh, .string rp] 29)
  have hq := new1 w (.cells #[.string m, .string h, .slice A l.length cap] 45) (.cells #[.string rm, .string rh, .string rp] 29)
  have HB0 : Hid (Below w.heap.size w ((w.alloc (.cells #[.string m, .string h, .slice A l.length cap] 45)).alloc (.cells #[.string rm, .string rh, .string rp] 29))) := ((Below.refl _ _).alloc (Nat.le_refl _) _).alloc (by simp) _
  obtain ⟨W0, hW0⟩ : ∃ W0, W0 = (w.alloc (.cells #[.string m, .string h, .slice A l.length cap] 45)).alloc (.cells #[.string rm, .string rh, .string rp] 29) := ⟨_, rfl⟩
  rw [← hW0] at hp hq HB0
  have HC : Hid (∀ w', Below W0.heap.size W0 w' → w'.cell? ⟨w.heap.size, 0, none⟩ = some (.string m) ∧ w'.cell? ⟨w.heap.size, 1, none⟩ = some (.string h) ∧ w'.cell? ⟨w.heap.size, 2, none⟩ = some (.slice A l.length cap) ∧ w'.cell? ⟨w.heap.size + 1, 0, none⟩ = some (.string rm) ∧ w'.cell? ⟨w.heap.size + 1, 1, none⟩ = some (.string rh) ∧ w'.cell? ⟨w.heap.size + 1, 2, none⟩ = some (.string rp)) := fun w' hb =>
    ⟨blk_cell (blk_below hp hb) 0, blk_cell (blk_below hp hb) 1, blk_cell (blk_below hp hb) 2, blk_cell (blk_below hq hb) 0, blk_cell (blk_below hq hb) 1, blk_cell (blk_below hq hb) 2⟩
  clear hp hq HI zl HSI
  obtain ⟨mb, hmb⟩ : ∃ b, b = Kd.mt (kinds l) its := ⟨_, rfl⟩
  obtain ⟨sb, hsb⟩ : ∃ b, b = servesB (bs m) (bs rm) := ⟨_, rfl⟩
  have HT : Hid (takesB (bs m) (bs h) l (bs rm) (bs rh) its = (mb && (decide (bs h = []) || decide (bs h = bs rh)) && sb)) := by
    show _ = _
    rw [hmb, hsb]; rfl
  rw [← hmb] at HM
  rw [← hsb] at HSV
  generalize takesB (bs m) (bs h) l (bs rm) (bs rh) its = tb at HT ⊢
  clear hmb hsb
  go_enter Tryd.func16, Tryd.ntmps16
  go_upto_region 1 with fail
  rw [← hW0]
  clear hW0
  obtain ⟨s0, s1, s2, s3, s4, s5⟩ := HC.out _ (Below.refl _ _)
  go_upto_region 2 with (go_at_call 28; (with_reducible refine (HM.out _ HB0.out).mono ?_); rintro e w1 ⟨x, rfl, HVV, hb⟩; have HBB := Lib.hid hb; clear hb)
  obtain ⟨x0, x1, x2, x3, x4, x5⟩ := HC.out _ HBB.out
  clear s0 s1 s2 s3 s4 s5
  have HR : Hid (Below w.heap.size w w1) := HB0.out.trans (HBB.out.mono HB0.out.size)
  clear HB0 HBB HM HC
  cases mb
  · have HT2 : Hid (tb = false) := HT.out.trans (by simp)
    go_wp2_with fail
    go_ret2
    refine ⟨?_, HR.out⟩
    rw [HT2.out]
    exact ⟨_, rfl, fun ht => by cases ht⟩
  by_cases h0 : bs h = []
  · have e0 : h.toList.isEmpty = true := by rw [bs_toList]; simpa using h0
    have HT2 : Hid (tb = sb) := HT.out.trans (by simp [h0])
    clear h0
    go_wp2_with (go_at_call 29; (with_reducible refine (HSV.out _).mono ?_); rintro e wm ⟨rfl, rfl⟩)
    go_ret2
    refine ⟨?_, HR.out⟩
    rw [HT2.out]
    exact ⟨_, rfl, fun ht => HVV.out (by first | rfl | trivial | simp_all)⟩
  have e0 : h.toList.isEmpty = false := by rw [bs_toList]; simpa using h0
  by_cases h1 : bs h = bs rh
  · have e1 : (h.toList == rh.toList) = true := by rw [bs_toList, bs_toList]; simpa using h1
    have HT2 : Hid (tb = sb) := HT.out.trans (by simp [h1])
    clear h0 h1
    go_wp2_with (go_at_call 29; (with_reducible refine (HSV.out _).mono ?_); rintro e wm ⟨rfl, rfl⟩)
    go_ret2
    refine ⟨?_, HR.out⟩
    rw [HT2.out]
    exact ⟨_, rfl, fun ht => HVV.out (by first | rfl | trivial | simp_all)⟩
  · have e1 : (h.toList == rh.toList) = false := by rw [bs_toList, bs_toList]; simpa using h1
    have HT2 : Hid (tb = false) := HT.out.trans (by simp [h0, h1])
    clear h0 h1
    go_wp2_with fail
    go_ret2
    refine ⟨?_, HR.out⟩
    rw [HT2.out]
    exact ⟨_, rfl, fun ht => HVV.out (by first | rfl | trivial | simp_all)⟩
end Go.Proofs.YtgkhfcoieknjeaaDoor
