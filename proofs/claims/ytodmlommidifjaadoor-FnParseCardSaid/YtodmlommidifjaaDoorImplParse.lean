/-
  Proved: impl.Parse copies what parsePattern has read, and tells that it is fine; at a text that parsePattern refuses, it tells that it is not. The premise is parsePattern's own contract, in the world in which it is called.
-/
import Derived.Test.YtodmlommidifjaaDoorParse
namespace Go.Proofs.YtodmlommidifjaaDoor
open Go.RowKit

/-- The world in which impl.Parse has parsePattern called. -/
def World.ppAt (w : World) : World := (w.alloc (.cells #[.string ⟨#[]⟩, .string ⟨#[]⟩, .slice none 0 0] 35)).alloc (.cells #[.string ⟨#[]⟩, .string ⟨#[]⟩, .slice none 0 0] 51)

set_option maxRecDepth 100000 in
set_option maxHeartbeats 800000 in
theorem hpParse_bad (s : ByteArray) (w : World)
    (hpp : Calls Tryd.prog 31 #[.string s] (w.alloc (.cells #[.string ⟨#[]⟩, .string ⟨#[]⟩, .slice none 0 0] 51)) fun e w' => PPBad (w.alloc (.cells #[.string ⟨#[]⟩, .string ⟨#[]⟩, .slice none 0 0] 51)) w' e) :
    Calls Tryd.prog 27 #[.string s] w fun e w' => ∃ a t v, e = .returned (.tuple #[a, .iface t v]) ∧ a = .agg #[.string ⟨#[]⟩, .string ⟨#[]⟩, .slice none 0 0] ∧ Below w.heap.size w w' := by
  have HPP := Lib.hid hpp
  clear hpp
  go_enter Tryd.func27, Tryd.ntmps27
  go_wp2_with (go_at_call 31; refine HPP.out.mono ?_; rintro e w1 ⟨et, ev, rfl, hbel⟩; have hb0 : w1.heap[w.heap.size]? = some (.cells #[.string ⟨#[]⟩, .string ⟨#[]⟩, .slice none 0 0] 51 (0, 0)) := (hbel.block _ (by simp)).trans (new0 _ _); have HBEL := Lib.hid hbel; have c10 := blk_cell hb0 0; have c11 := blk_cell hb0 1; have c12 := blk_cell hb0 2; have f10 := blk_free hb0 0; have f11 := blk_free hb0 1; have f12 := blk_free hb0 2; clear hbel hb0)
  have hsz1 : w.heap.size < w1.heap.size := by have := HBEL.out.size; simp at this; omega
  have hbw : Below w.heap.size w w1 := ((Below.refl w.heap.size w).alloc (Nat.le_refl _) _).trans (HBEL.out.mono (by simp))
  refine bodyPost_ret (v := .tuple #[.agg #[.string ⟨#[]⟩, .string ⟨#[]⟩, .slice none 0 0], .iface et ev]) (by simp [results, Tryd.results27, go_sem, c10, c11, c12]) rfl ⟨_, _, _, rfl, rfl, ?_⟩
  exact ((hbw.setCell (by simp) _).setCell (by simp) _).setCell (by simp) _

set_option maxRecDepth 100000 in
set_option maxHeartbeats 1600000 in
theorem implParse_bad (s : ByteArray) (w : World)
    (hpp : Calls Tryd.prog 31 #[.string s] (World.ppAt w) fun e w' => PPBad (World.ppAt w) w' e) :
    Calls Tryd.prog 13 #[.string s] w fun e w' => e = .returned (.tuple #[.agg #[.string ⟨#[]⟩, .string ⟨#[]⟩, .slice none 0 0], .bool false]) ∧ Below w.heap.size w w' := by
  have HPP := Lib.hid (hpParse_bad s _ hpp)
  clear hpp
  go_enter Tryd.func13, Tryd.ntmps13
  go_wp2_with (go_at_call 27; refine HPP.out.mono ?_; rintro e w1 ⟨a, et, ev, rfl, rfl, hbel⟩; have hb0 : w1.heap[w.heap.size]? = some (.cells #[.string ⟨#[]⟩, .string ⟨#[]⟩, .slice none 0 0] 35 (0, 0)) := (hbel.block _ (by simp)).trans (new0 _ _); have hsz1 := blk_lt hb0; have HBEL := Lib.hid hbel; have c10 := blk_cell hb0 0; have c11 := blk_cell hb0 1; have c12 := blk_cell hb0 2; have f10 := blk_free hb0 0; have f11 := blk_free hb0 1; have f12 := blk_free hb0 2; clear hbel hb0)
  have hbw : Below w.heap.size w w1 := ((Below.refl w.heap.size w).alloc (Nat.le_refl _) _).trans (HBEL.out.mono (by simp))
  refine bodyPost_ret (v := .tuple #[.agg #[.string ⟨#[]⟩, .string ⟨#[]⟩, .slice none 0 0], .bool false]) (by simp [results, Tryd.results13, go_sem, c10, c11, c12, hsz1]) rfl ⟨rfl, ?_⟩
  exact (((hbw.setCell (by simp) _).setCell (by simp) _).setCell (by simp) _).alloc (by simp; omega) _

set_option maxRecDepth 100000 in
set_option maxHeartbeats 1600000 in
theorem implParse_good (s m h : ByteArray) (l : List Seg) (w : World) (hl : l.length ≤ 2147483647)
    (hpp : Calls Tryd.prog 31 #[.string s] (World.ppAt w) fun e w' => PPGood (World.ppAt w) w' e m h l) :
    Calls Tryd.prog 13 #[.string s] w fun e w' => ∃ sv', e = .returned (.tuple #[.agg #[.string m, .string h, sv'], .bool true]) ∧ SegsAt w' sv' l ∧ Below w.heap.size w w' := by
  obtain ⟨i0, hi, hz0, hz1, hz2⟩ := info_parts info_imSeg
  have HPP := Lib.hid (hpParse_any s m h l _ hl hpp)
  clear hpp
  go_enter Tryd.func13, Tryd.ntmps13
  go_upto_region 5 with (go_at_call 27; refine HPP.out.mono ?_; rintro e w1 ⟨sv, rfl, hsv, hbel⟩; have hb0 : w1.heap[w.heap.size]? = some (.cells #[.string ⟨#[]⟩, .string ⟨#[]⟩, .slice none 0 0] 35 (0, 0)) := (hbel.block _ (by simp)).trans (new0 _ _); have hsz1 := blk_lt hb0; have HB0 := Lib.hid hb0; have HBEL := Lib.hid hbel; obtain ⟨A, cap, rfl, hlc, hf⟩ := hsv; have HF := Lib.hid hf; clear hf hbel hb0)
  have HBW : Hid (Below w.heap.size w w1) := ((Below.refl w.heap.size w).alloc (Nat.le_refl _) _).trans (HBEL.out.mono (by simp))
  go_wp2_with fail
  go_loopw [25] (fun iv wr => ∃ (k : Nat) (cur : Value), k ≤ l.length ∧ iv = .int .i64 k ∧
      wr.heap[w1.heap.size + 1]? = some (.cells #[.string m, .string h, cur] 35 (0, 0)) ∧
      wr.ownsRow (w1.heap.size + 2) 57 3 cur k (segCells (l.take k)) ∧ Below w1.heap.size w1 wr)
    (fun iv _ => l.length - (intOf iv).toNat)
  case atStart =>
    exact ⟨0, _, Nat.zero_le _, rfl, new1 w1 _ _, World.ownsRow_nil _ _ _ _, ((Below.refl _ _).alloc (Nat.le_refl _) _).alloc (by simp) _⟩
  case round =>
    obtain ⟨k, cur, hk, rfl, hB2, hown, hb⟩ := hrel
    have HB2 := Lib.hid hB2
    have hsz := blk_lt hB2
    have hc2 : wr.cell? ⟨w1.heap.size + 1, 2, none⟩ = some cur := blk_cell hB2 2
    clear hB2
    by_cases hlt : k < l.length
    · obtain ⟨g, hg⟩ : ∃ g, l[k]? = some g := ⟨_, List.getElem?_eq_getElem hlt⟩
      obtain ⟨b, o, rfl, hbl, h1, h2, h3⟩ := HF.out k g hg
      have g1 : wr.cell? ⟨b, o + k * 3, none⟩ = some (.string ⟨g.s.toArray⟩) := (hb.cell hbl).trans h1
      have g2 : wr.cell? ⟨b, o + k * 3 + 1, none⟩ = some (.bool g.wild) := (hb.cell hbl).trans h2
      have g3 : wr.cell? ⟨b, o + k * 3 + 2, none⟩ = some (.bool g.multi) := (hb.cell hbl).trans h3
      have HG := Lib.hid hg
      clear h1 h2 h3 hg
      go_wp2_with (at_builtin; refine wpList_append_own _ rfl _ _ 33 rfl (w1.heap.size + 2) 57 i0 (.agg #[.string ⟨#[]⟩, .bool false, .bool false]) 3 24 Tryd.underlying33 hi hz0 hz1 hz2 rfl (by decide) _ _ _ rfl ((hown.alloc _).alloc _) ⟨wr.heap.size + 1, 0, none⟩ 1 1 [_, _, _] rfl rfl (cells3_new _ _ _ _ _ _ (by simp)) (by simp [Value.oneCell']) (by unfold maxLen; omega) (by omega) (by simp; omega) ?_; intro v' w2 hown' hgrow _; obtain ⟨A', cap', rfl, hnc', hcm', hA'⟩ := own_form hown'; have hB2' := blk_grown (blk_alloc (blk_alloc HB2.out _) _) hgrow (fun e => by have := (hown.lt _ e.symm).1; omega); have hb' : Below w1.heap.size w1 w2 := ((hb.alloc hb.size _).alloc (by have := hb.size; simp; omega) _).grown hgrow (by have := hb.size; simp; omega) (fun g hg => by have := (hown.lt g hg).1; omega); have HB2' := Lib.hid hB2'; have c2' := blk_cell hB2' 2; have f2' := blk_free hB2' 2; clear hgrow hB2' hown hc2)
      go_roundw
      case rel => exact ⟨k + 1, _, by omega, by go_num, blk_set HB2'.out 2 _, ownsRow_setCell_below (by rw [segCells_take l k g HG.out]; exact hown') (by simp) _, hb'.setCell (by simp) _⟩
      case measure => simp [intOf]; omega
    · have hke : k = l.length := by omega
      have c20 : wr.cell? ⟨w1.heap.size + 1, 0, none⟩ = some (.string m) := blk_cell HB2.out 0
      have c21 : wr.cell? ⟨w1.heap.size + 1, 1, none⟩ = some (.string h) := blk_cell HB2.out 1
      have hBr : wr.heap[w.heap.size]? = some (.cells #[.string ⟨#[]⟩, .string ⟨#[]⟩, .slice none 0 0] 35 (0, 0)) := (hb.block _ hsz1).trans HB0.out
      have c10 : wr.cell? ⟨w.heap.size, 0, none⟩ = some (.string ⟨#[]⟩) := blk_cell hBr 0
      have c11 : wr.cell? ⟨w.heap.size, 1, none⟩ = some (.string ⟨#[]⟩) := blk_cell hBr 1
      have c12 : wr.cell? ⟨w.heap.size, 2, none⟩ = some (.slice none 0 0) := blk_cell hBr 2
      have f10 : wr.frozen? ⟨w.heap.size, 0, none⟩ = false := blk_free hBr 0
      have f11 : wr.frozen? ⟨w.heap.size, 1, none⟩ = false := blk_free hBr 1
      have f12 : wr.frozen? ⟨w.heap.size, 2, none⟩ = false := blk_free hBr 2
      clear hBr
      obtain ⟨A', cap', rfl, _, _, _⟩ := own_form hown
      rw [hke, List.take_of_length_le (Nat.le_refl _)] at hown
      have hbw : Below w.heap.size w wr := HBW.out.trans (hb.mono (by omega))
      go_wp2_with fail
      refine bodyPost_ret (v := .tuple #[.agg #[.string m, .string h, .slice A' l.length cap'], .bool true]) (by simp [results, Tryd.results13, go_sem, c10, c11, c12]) rfl ⟨_, rfl, ?_, ?_⟩
      · exact SegsAt.of_own (ownsRow_setCell_below (ownsRow_setCell_below (ownsRow_setCell_below hown (by simp; omega) _) (by simp; omega) _) (by simp; omega) _)
      · exact ((hbw.setCell (by simp) _).setCell (by simp) _).setCell (by simp) _
end Go.Proofs.YtodmlommidifjaaDoor
