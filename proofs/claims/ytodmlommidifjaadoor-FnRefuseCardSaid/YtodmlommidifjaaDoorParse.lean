/-
  Proved: httppattern.Parse copies what parsePattern has read. The premise is parsePattern's own contract in the world in which Parse calls it.
-/
import Derived.Test.YtodmlommidifjaaDoorPPDefs
namespace Go.Proofs.YtodmlommidifjaaDoor
open Go.RowKit

theorem info_hpSeg : (Tryd.prog.info? 56).map (fun i => (i.zero, i.size, i.bytes)) = some (some (.agg #[.string ⟨#[]⟩, .bool false, .bool false]), 3, 24) := by kernel_rfl
theorem info_imSeg : (Tryd.prog.info? 57).map (fun i => (i.zero, i.size, i.bytes)) = some (some (.agg #[.string ⟨#[]⟩, .bool false, .bool false]), 3, 24) := by kernel_rfl

set_option maxRecDepth 100000 in
set_option maxHeartbeats 1600000 in
theorem hpParse_any (s m h : ByteArray) (l : List Seg) (w : World) (hl : l.length ≤ 2147483647)
    (hpp : Calls Tryd.prog 31 #[.string s] (w.alloc (.cells #[.string ⟨#[]⟩, .string ⟨#[]⟩, .slice none 0 0] 51)) fun e w' => PPGood (w.alloc (.cells #[.string ⟨#[]⟩, .string ⟨#[]⟩, .slice none 0 0] 51)) w' e m h l) :
    Calls Tryd.prog 27 #[.string s] w fun e w' => ∃ sv', e = .returned (.tuple #[.agg #[.string m, .string h, sv'], .nilIface]) ∧ SegsAt w' sv' l ∧ Below w.heap.size w w' := by
  obtain ⟨i0, hi, hz0, hz1, hz2⟩ := info_parts info_hpSeg
  have HPP := Lib.hid hpp
  clear hpp
  go_enter Tryd.func27, Tryd.ntmps27
  go_wp2_with (go_at_call 31; refine HPP.out.mono ?_; rintro e w1 ⟨b, sv, rfl, hb1, c1, c2, c3, hsv, hbel⟩; have HSV := Lib.hid hsv; have HBEL := Lib.hid hbel; clear hsv hbel)
  go_region
  have hsz1 : w.heap.size < w1.heap.size := by have := HBEL.out.size; simp at this; omega
  have hb0 : w1.heap[w.heap.size]? = some (.cells #[.string ⟨#[]⟩, .string ⟨#[]⟩, .slice none 0 0] 51 (0, 0)) := (HBEL.out.block _ (by simp)).trans (new0 _ _)
  have HB0 := Lib.hid hb0
  have HBW : Hid (Below w.heap.size w w1) := ((Below.refl w.heap.size w).alloc (Nat.le_refl _) _).trans (HBEL.out.mono (by simp))
  obtain ⟨A, cap, rfl, hlc, hf⟩ := HSV.out
  have HF := Lib.hid hf
  clear hf hb0
  have c3' : ((w1.alloc (.cells #[.string m, .string h, .slice none 0 0] 51)).drew).cell? ⟨b, 3, none⟩ = some (.slice A l.length cap) := by
    exact ((below_drew3 ((Below.refl w1.heap.size w1).alloc (Nat.le_refl _) (.cells #[.string m, .string h, .slice none 0 0] 51)) 1).cell hb1).trans c3
  go_wp2_with fail
  go_loopw [32] (fun iv wr => ∃ (k : Nat) (cur : Value), k ≤ l.length ∧ iv = .int .i64 k ∧
      wr.heap[w1.heap.size]? = some (.cells #[.string m, .string h, cur] 51 (0, 0)) ∧
      wr.ownsRow (w1.heap.size + 1) 56 3 cur k (segCells (l.take k)) ∧ Below w1.heap.size w1 wr)
    (fun iv _ => l.length - (intOf iv).toNat)
  case atStart =>
    exact ⟨0, _, Nat.zero_le _, rfl, new0 w1 _, World.ownsRow_nil _ _ _ _, below_drew3 ((Below.refl _ _).alloc (Nat.le_refl _) _) 1⟩
  case round =>
    obtain ⟨k, cur, hk, rfl, hB2, hown, hb⟩ := hrel
    have HB2 := Lib.hid hB2
    have hsz := blk_lt hB2
    have hc2 : wr.cell? ⟨w1.heap.size, 2, none⟩ = some cur := blk_cell hB2 2
    clear hB2 c3' c1 c2 c3
    by_cases hlt : k < l.length
    · obtain ⟨g, hg⟩ : ∃ g, l[k]? = some g := ⟨_, List.getElem?_eq_getElem hlt⟩
      obtain ⟨b, o, rfl, hbl, h1, h2, h3⟩ := HF.out k g hg
      have g1 : wr.cell? ⟨b, o + k * 3, none⟩ = some (.string ⟨g.s.toArray⟩) := (hb.cell hbl).trans h1
      have g2 : wr.cell? ⟨b, o + k * 3 + 1, none⟩ = some (.bool g.wild) := (hb.cell hbl).trans h2
      have g3 : wr.cell? ⟨b, o + k * 3 + 2, none⟩ = some (.bool g.multi) := (hb.cell hbl).trans h3
      have HG := Lib.hid hg
      clear h1 h2 h3 hg
      go_wp2_with (at_builtin; refine wpList_append_own _ rfl _ _ 49 rfl (w1.heap.size + 1) 56 i0 (.agg #[.string ⟨#[]⟩, .bool false, .bool false]) 3 24 Tryd.underlying49 hi hz0 hz1 hz2 rfl (by decide) _ _ _ rfl ((hown.alloc _).alloc _) ⟨wr.heap.size + 1, 0, none⟩ 1 1 [_, _, _] rfl rfl (cells3_new _ _ _ _ _ _ (by simp)) (by simp [Value.oneCell']) (by unfold maxLen; omega) (by omega) (by simp; omega) ?_; intro v' w2 hown' hgrow _; obtain ⟨A', cap', rfl, hnc', hcm', hA'⟩ := own_form hown'; have hB2' := blk_grown (blk_alloc (blk_alloc HB2.out _) _) hgrow (fun e => by have := (hown.lt _ e.symm).1; omega); have hb' : Below w1.heap.size w1 w2 := ((hb.alloc hb.size _).alloc (by have := hb.size; simp; omega) _).grown hgrow (by have := hb.size; simp; omega) (fun g hg => by have := (hown.lt g hg).1; omega); have HB2' := Lib.hid hB2'; have c2' := blk_cell hB2' 2; have f2' := blk_free hB2' 2; clear hgrow hB2' hown hc2)
      go_roundw
      case rel => exact ⟨k + 1, _, by omega, by go_num, blk_set HB2'.out 2 _, ownsRow_setCell_below (by rw [segCells_take l k g HG.out]; exact hown') (by simp) _, hb'.setCell (by simp) _⟩
      case measure => simp [intOf]; omega
    · have hke : k = l.length := by omega
      have c20 : wr.cell? ⟨w1.heap.size, 0, none⟩ = some (.string m) := blk_cell HB2.out 0
      have c21 : wr.cell? ⟨w1.heap.size, 1, none⟩ = some (.string h) := blk_cell HB2.out 1
      have hBr : wr.heap[w.heap.size]? = some (.cells #[.string ⟨#[]⟩, .string ⟨#[]⟩, .slice none 0 0] 51 (0, 0)) := (hb.block _ hsz1).trans HB0.out
      have c10 : wr.cell? ⟨w.heap.size, 0, none⟩ = some (.string ⟨#[]⟩) := blk_cell hBr 0
      have c11 : wr.cell? ⟨w.heap.size, 1, none⟩ = some (.string ⟨#[]⟩) := blk_cell hBr 1
      have c12 : wr.cell? ⟨w.heap.size, 2, none⟩ = some (.slice none 0 0) := blk_cell hBr 2
      have f10 : wr.frozen? ⟨w.heap.size, 0, none⟩ = false := blk_free hBr 0
      have f11 : wr.frozen? ⟨w.heap.size, 1, none⟩ = false := blk_free hBr 1
      have f12 : wr.frozen? ⟨w.heap.size, 2, none⟩ = false := blk_free hBr 2
      clear hBr
      obtain ⟨A', cap', rfl, _, _, _⟩ := own_form hown
      rw [hke, List.take_of_length_le (Nat.le_refl _)] at hown
      have hbw : Below w.heap.size w wr := HBW.out.trans (hb.mono (by omega))
      go_wp2_with fail
      refine bodyPost_ret (v := .tuple #[.agg #[.string m, .string h, .slice A' l.length cap'], .nilIface]) (by simp [results, Tryd.results27, go_sem, c10, c11, c12]) rfl ⟨_, rfl, ?_, ?_⟩
      · exact SegsAt.of_own (ownsRow_setCell_below (ownsRow_setCell_below (ownsRow_setCell_below hown (by simp; omega) _) (by simp; omega) _) (by simp; omega) _)
      · exact ((hbw.setCell (by simp) _).setCell (by simp) _).setCell (by simp) _
end Go.Proofs.YtodmlommidifjaaDoor
