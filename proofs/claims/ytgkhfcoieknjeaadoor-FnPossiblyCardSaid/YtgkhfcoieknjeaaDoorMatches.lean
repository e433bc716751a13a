/-
  Proved: spec.Matches tells whether the pieces of a pattern match pieces of a path ('Kd.mt'); it writes nothing that was there. Condition: the pattern and the pieces can be read, and there are at most 2^31 - 1 of each.
-/
import Derived.Test.YtgkhfcoieknjeaaDoorCmpSpec
import Derived.Test.YtgkhfcoieknjeaaDoorBase
import Derived.Deep.CutBlock
namespace Go.Proofs.YtgkhfcoieknjeaaDoor
open Go.RowKit

/-- How Matches ends. -/
def MatchEnd (l : List Seg) (its : List (List UInt8)) (w : World) (e : Ending) (w' : World) : Prop :=
  (∃ v, e = .returned (.tuple #[v, .bool (Kd.mt (l.map kindOf) its)])) ∧ Below w.heap.size w w'

theorem mt_over (l : List Seg) (its : List (List UInt8)) (k : Nat) (g : Seg) (hg : l[k]? = some g) (hk : its.length ≤ k) : Kd.mt ((l.map kindOf).drop k) (its.drop k) = false := by
  have h1 : (l.map kindOf).drop k = kindOf g :: (l.map kindOf).drop (k + 1) := by
    obtain ⟨hl, rfl⟩ := List.getElem?_eq_some_iff.1 hg
    rw [List.drop_eq_getElem_cons (by simpa using hl)]
    simp
  rw [h1, List.drop_of_length_le hk]
  cases kindOf g <;> rfl

theorem mt_at (l : List Seg) (its : List (List UInt8)) (k : Nat) (g : Seg) (x : List UInt8) (hg : l[k]? = some g) (hx : its[k]? = some x) :
    Kd.mt ((l.map kindOf).drop k) (its.drop k) = match g.multi, g.wild with
      | true, _ => true
      | false, true => decide (x ≠ [47]) && Kd.mt ((l.map kindOf).drop (k + 1)) (its.drop (k + 1))
      | false, false => decide (g.s = x) && Kd.mt ((l.map kindOf).drop (k + 1)) (its.drop (k + 1)) := by
  have h1 : (l.map kindOf).drop k = kindOf g :: (l.map kindOf).drop (k + 1) := by
    obtain ⟨hl, rfl⟩ := List.getElem?_eq_some_iff.1 hg
    rw [List.drop_eq_getElem_cons (by simpa using hl)]
    simp
  have h2 : its.drop k = x :: its.drop (k + 1) := by
    obtain ⟨hl, rfl⟩ := List.getElem?_eq_some_iff.1 hx
    exact List.drop_eq_getElem_cons hl
  rw [h1, h2]
  obtain ⟨s, wd, m⟩ := g
  cases m <;> cases wd <;> rfl

theorem mt_end (l : List Seg) (its : List (List UInt8)) (k : Nat) (hk : l.length ≤ k) : Kd.mt ((l.map kindOf).drop k) (its.drop k) = decide (its.length ≤ k) := by
  rw [List.drop_of_length_le (by simpa using hk)]
  by_cases h : its.length ≤ k
  · rw [List.drop_of_length_le h, decide_eq_true h]; rfl
  · have hne : its.drop k ≠ [] := by
      intro e
      have := congrArg List.length e
      rw [List.length_drop] at this
      simp at this; omega
    rw [decide_eq_false h]
    cases hd : its.drop k with
    | nil => exact (hne hd).elim
    | cons a b => rfl

theorem cell1_new (w : World) (x : Value) (t : TypeId) (n : Nat) (hn : n = w.heap.size) : ∀ j u, [x][j]? = some u → (w.alloc (.cells #[x] t)).cell? ((⟨n, 0, none⟩ : Addr).add j) = some u := by
  subst hn
  exact cell_one_new w x t

/-- Pieces of a path of which something is stated. -/
def SmallIts (its : List (List UInt8)) : Prop := its.length ≤ 121 ∧ ∀ x ∈ its, x.length ≤ 120

set_option maxRecDepth 100000 in
set_option maxHeartbeats 6400000 in
theorem matches_any (m h : ByteArray) (sv iv : Value) (l : List Seg) (its : List (List UInt8)) (w : World) (H : SegsAt w sv l) (HI : StrsAt w iv its) (zl : l.length ≤ 2147483647) (HSI : SmallIts its) :
    Calls Tryd.prog 28 #[.agg #[.string m, .string h, sv], iv] w (MatchEnd l its w) := by
  obtain ⟨i0, hi, hz0, hz1, hz2⟩ := info_parts info_string
  obtain ⟨A, cap, rfl, hlc, hf⟩ := H
  obtain ⟨I, icap, rfl, hic, hicm, hif⟩ := HI
  have HF := Lib.hid hf
  have HIF := Lib.hid hif
  have HSM := Lib.hid HSI.2
  have zi := HSI.1
  clear HSI
  unfold maxLen at hicm
  clear hf hif
  go_enter Tryd.func28, Tryd.ntmps28
  go_wp2_with fail
  go_loopw [6, 16] (fun vals kv wr => ∃ (k n : Nat) (L : List (List UInt8)), k ≤ l.length ∧ n ≤ k ∧ kv = .int .i64 k ∧ Hid (Kd.mt (l.map kindOf) its = Kd.mt ((l.map kindOf).drop k) (its.drop k)) ∧
      wr.ownsRow (w.heap.size + 1) 9 1 vals n (L.map strV) ∧ k ≤ its.length ∧ Below (w.heap.size + 1) (w.alloc (.cells #[.string m, .string h, .slice A l.length cap] 45)) wr)
    (fun _ kv _ => l.length - (intOf kv).toNat)
  case atStart => exact ⟨0, 0, [], Nat.zero_le _, Nat.le_refl _, rfl, rfl, by simpa using World.ownsRow_made (w.alloc _) #[] 0 (by simp) (by decide) (by decide), Nat.zero_le _, (Below.refl _ _).alloc (by simp) _⟩
  case round =>
    obtain ⟨k, n, L, hk, hn, rfl, HM, hown, hki, hb⟩ := hrel
    have hsw : w.heap.size < wr.heap.size := by have := hb.size; simp at this; omega
    have HBW : Hid (Below w.heap.size w wr) := ((Below.refl w.heap.size w).alloc (Nat.le_refl _) (.cells #[.string m, .string h, .slice A l.length cap] 45)).trans (hb.mono (by simp))
    have hp2 : wr.cell? ⟨w.heap.size, 2, none⟩ = some (.slice A l.length cap) := (hb.cell (p := ⟨w.heap.size, 2, none⟩) (by simp)).trans (by rw [World.cell?_alloc_new]; rfl)
    by_cases hlt : k < l.length
    · obtain ⟨g, hg⟩ : ∃ g, l[k]? = some g := ⟨_, List.getElem?_eq_getElem hlt⟩
      obtain ⟨b, o, hA, hbl, h1, h2, h3⟩ := HF.out k g hg
      subst hA
      have g1 : wr.cell? ⟨b, o + k * 3, none⟩ = some (.string ⟨g.s.toArray⟩) := (HBW.out.cell hbl).trans h1
      have g2 : wr.cell? ⟨b, o + k * 3 + 1, none⟩ = some (.bool g.wild) := (HBW.out.cell hbl).trans h2
      have g3 : wr.cell? ⟨b, o + k * 3 + 2, none⟩ = some (.bool g.multi) := (HBW.out.cell hbl).trans h3
      have hbr : b < wr.heap.size := by omega
      have HRet : Hid (Below w.heap.size w (wr.alloc (.cells #[.string ⟨g.s.toArray⟩, .bool g.wild, .bool g.multi] 64))) := HBW.out.alloc HBW.out.size _
      by_cases hik : its.length ≤ k
      · have HR : Hid (Kd.mt (l.map kindOf) its = false) := HM.out.trans (mt_over l its k g hg hik)
        clear h1 h2 h3 hg hown HM hb HBW
        go_wp2_with fail
        go_ret2
        exact ⟨⟨.slice none 0 0, by rw [HR.out]; rfl⟩, HRet.out⟩
      · obtain ⟨x, hx⟩ : ∃ x, its[k]? = some x := ⟨_, List.getElem?_eq_getElem (by omega)⟩
        obtain ⟨bi, oi, rfl, hbi, hxc⟩ := HIF.out k x hx
        have i1 : wr.cell? ⟨bi, oi + k, none⟩ = some (.string ⟨x.toArray⟩) := (HBW.out.cell hbi).trans hxc
        have hbir : bi < wr.heap.size := by omega
        have hmt := HM.out.trans (mt_at l its k g x hg hx)
        have HMT := Lib.hid hmt
        have hon2 := hown.alloc (.cells #[.string ⟨g.s.toArray⟩, .bool g.wild, .bool g.multi] 64)
        have HON := Lib.hid hon2
        have HBN : Hid (Below (w.heap.size + 1) (w.alloc (.cells #[.string m, .string h, .slice (some ⟨b, o, none⟩) l.length cap] 45)) (wr.alloc (.cells #[.string ⟨g.s.toArray⟩, .bool g.wild, .bool g.multi] 64))) := hb.alloc (by omega) _
        clear h1 h2 h3 hg hxc hx hmt hon2 hown HM
        obtain ⟨gs, gw, gm⟩ := g
        simp only at g1 g2 g3 HMT HRet HON HBN
        cases gm
        · cases gw
          · simp only at HMT
            by_cases hs : gs = x
            · have e0 : (gs == x) = true := by simpa using hs
              have HN : Hid (Kd.mt (l.map kindOf) its = Kd.mt ((l.map kindOf).drop (k + 1)) (its.drop (k + 1))) := HMT.out.trans (by rw [decide_eq_true hs, Bool.true_and])
              clear hs HBW
              have hk0 : (0 : Int) ≤ (k : Int) := by omega
              have hk1 : (k : Int) < (its.length : Int) := by omega
              go_wp2_with fail
              go_region
              go_wp2_with fail
              go_roundw
              case rel => exact ⟨k + 1, n, L, by omega, by omega, by go_num, HN, own_drew HON.out, by omega, below_drew3 HBN.out 1⟩
              case measure => simp [intOf]; omega
            · have e0 : (gs == x) = false := by simpa using hs
              have HR : Hid (Kd.mt (l.map kindOf) its = false) := HMT.out.trans (by rw [decide_eq_false hs, Bool.false_and])
              clear hs hb HBW
              have hk0 : (0 : Int) ≤ (k : Int) := by omega
              have hk1 : (k : Int) < (its.length : Int) := by omega
              go_wp2_with fail
              go_region
              go_wp2_with fail
              go_ret2
              exact ⟨⟨.slice none 0 0, by rw [HR.out]; rfl⟩, below_drew3 HRet.out 1⟩
          · simp only at HMT
            by_cases h47 : x = [47]
            · have e0 : (x == [47]) = true := by simpa using h47
              have HR : Hid (Kd.mt (l.map kindOf) its = false) := HMT.out.trans (by rw [decide_eq_false (by simpa using h47), Bool.false_and])
              clear h47 hb HBW
              go_wp2_with fail
              go_ret2
              exact ⟨⟨.slice none 0 0, by rw [HR.out]; rfl⟩, HRet.out⟩
            · have e0 : (x == [47]) = false := by simpa using h47
              have HN : Hid (Kd.mt (l.map kindOf) its = Kd.mt ((l.map kindOf).drop (k + 1)) (its.drop (k + 1))) := HMT.out.trans (by rw [decide_eq_true h47, Bool.true_and])
              have hbs := HBN.out.size
              simp only [World.size_alloc] at hbs
              clear h47 hb HBW
              go_wp2_with (at_builtin; refine wpList_append_own _ rfl _ _ 30 rfl (w.heap.size + 1) 9 i0 (.string ⟨#[]⟩) 1 16 Tryd.underlying30 hi hz0 hz1 hz2 rfl (by decide) _ _ _ rfl (HON.out.alloc _) ⟨wr.heap.size + 1, 0, none⟩ 1 1 [_] rfl rfl (cell1_new _ _ _ _ (by simp)) (by simp [Value.oneCell']) (by unfold maxLen; omega) (by omega) (by simp; omega) ?_; intro v' w1 hown' hgrow _)
              have hbn : Below (w.heap.size + 1) (w.alloc (.cells #[.string m, .string h, .slice (some ⟨b, o, none⟩) l.length cap] 45)) w1 := (HBN.out.alloc (by simp; omega) _).grown hgrow (by simp; omega) fun g hg => (HON.out.lt g hg).1
              clear hgrow
              go_roundw
              case rel => exact ⟨k + 1, n + 1, L ++ [x], by omega, by omega, by go_num, HN, by simpa [strV] using hown', by omega, hbn⟩
              case measure => simp [intOf]; omega
        · simp only at HMT
          obtain ⟨wo, rfl⟩ : ∃ wo : World, wo = wr := ⟨_, rfl⟩
          have HBWo := HBW
          clear hb HBW
          go_wp2_with fail
          go_loopw [9, 32] (fun rv jv wi => ∃ (j : Nat) (r : ByteArray), j ≤ its.length - k ∧ jv = .int .i64 j ∧ rv = .string r ∧ r.size ≤ j * 121 ∧ wo.alloc (.cells #[.string ⟨gs.toArray⟩, .bool gw, .bool true] 64) = wi) (fun _ jv _ => its.length - k - (intOf jv).toNat)
          case atStart => exact ⟨0, ⟨#[]⟩, Nat.zero_le _, rfl, rfl, by decide, rfl⟩
          case round =>
            obtain ⟨j, r, hj, rfl, rfl, hrs, rfl⟩ := hrel
            by_cases hjl : j < its.length - k
            · obtain ⟨y, hy⟩ : ∃ y, its[k + j]? = some y := ⟨_, List.getElem?_eq_getElem (by omega)⟩
              have hys : y.length ≤ 120 := HSM.out y (List.mem_of_getElem? hy)
              obtain ⟨bj, oj, hbo, hblj, y1'⟩ := HIF.out (k + j) y hy
              simp only [Option.some.injEq, Addr.mk.injEq, and_true] at hbo
              obtain ⟨rfl, rfl⟩ := hbo
              have y1 : wo.cell? ⟨bi, oi + k + j, none⟩ = some (.string ⟨y.toArray⟩) := by rw [Nat.add_assoc]; exact (HBWo.out.cell hbi).trans y1'
              clear y1' hy
              go_wp2_with fail
              all_goals
                go_roundw
                case rel =>
                  refine ⟨j + 1, _, by omega, by go_num, rfl, ?_, by first | rfl | trivial⟩
                  try simp only [ByteArray.size_append]
                  have h1 : (ByteArray.mk y.toArray).size = y.length := by simp [ByteArray.size]
                  have h2 : (ByteArray.mk #[47]).size = 1 := rfl
                  omega
                case measure => simp [intOf]; omega
            · by_cases hge : gs = []
              · have e0 : gs.isEmpty = true := by rw [hge]; rfl
                clear hge
                go_wp2_with fail
                go_ret2
                refine ⟨?_, HRet.out⟩
                rw [HMT.out]
                exact ⟨_, rfl⟩
              · have e0 : gs.isEmpty = false := by simpa using hge
                have hbs := HBN.out.size
                simp only [World.size_alloc] at hbs
                clear hge
                go_wp2_with (at_builtin; refine wpList_append_own _ rfl _ _ 30 rfl (w.heap.size + 1) 9 i0 (.string ⟨#[]⟩) 1 16 Tryd.underlying30 hi hz0 hz1 hz2 rfl (by decide) _ _ _ rfl (HON.out.alloc _) ⟨wo.heap.size + 1, 0, none⟩ 1 1 [_] rfl rfl (cell1_new _ _ _ _ (by simp)) (by simp [Value.oneCell']) (by unfold maxLen; omega) (by omega) (by simp; omega) ?_; intro v' w1 hown' hgrow _)
                have hbn : Below w.heap.size w w1 := (HRet.out.alloc (by have := HRet.out.size; simpa using this) _).grown hgrow (by simp; omega) fun g hg => by have := (HON.out.lt g hg).1; omega
                clear hgrow
                go_ret2
                exact ⟨⟨v', by rw [HMT.out]; rfl⟩, hbn⟩
    · have HR : Hid (Kd.mt (l.map kindOf) its = decide (its.length ≤ k)) := HM.out.trans (mt_end l its k (by omega))
      have hke : k = l.length := by omega
      have e0 : ((its.length : Int) == (l.length : Int)) = decide (its.length ≤ k) := by
        rw [hke]
        by_cases h : its.length ≤ l.length
        · rw [decide_eq_true h, beq_iff_eq]; omega
        · rw [decide_eq_false h, beq_eq_false_iff_ne]; omega
      go_wp2_with fail
      go_region
      go_wp2_with fail
      go_ret2
      refine ⟨?_, below_drew3 HBW.out 1⟩
      rw [HR.out, hke]
      exact ⟨_, rfl⟩
end Go.Proofs.YtgkhfcoieknjeaaDoor
