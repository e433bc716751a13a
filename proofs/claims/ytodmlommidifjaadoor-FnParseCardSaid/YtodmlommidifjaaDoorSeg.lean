/-
  Proved: what pieces of patterns are in memory (readable rows of structs), and that such rows stay readable; laws.conv returns the same pattern in new memory. Condition: at most 2^31 - 1 pieces.
-/
import Derived.Test.YtodmlommidifjaaDoorBytes
import Derived.Test.YtodmlommidifjaaDoorMem
import Derived.Deep.DeepCutAuto
namespace Go.Proofs.YtodmlommidifjaaDoor
open Go.RowKit

/-- A piece of a pattern. -/
structure Seg where
  s : List UInt8
  wild : Bool
  multi : Bool

/-- A piece's three cells. -/
def Seg.cells (g : Seg) : List Value := [strV g.s, .bool g.wild, .bool g.multi]
def segCells (l : List Seg) : List Value := l.flatMap Seg.cells

theorem segCells_length : ∀ l : List Seg, (segCells l).length = l.length * 3
  | [] => rfl
  | g :: t => by
    have ih := segCells_length t
    unfold segCells at ih ⊢
    simp only [List.flatMap_cons, List.length_append, ih, List.length_cons]
    simp [Seg.cells]
    omega

theorem segCells_at : ∀ (l : List Seg) (j : Nat) (g : Seg), l[j]? = some g → (segCells l)[j * 3]? = some (strV g.s) ∧ (segCells l)[j * 3 + 1]? = some (.bool g.wild) ∧ (segCells l)[j * 3 + 2]? = some (.bool g.multi)
  | [], j, g, h => by simp at h
  | x :: t, 0, g, h => by
    simp at h
    subst h
    simp [segCells, Seg.cells]
  | x :: t, j + 1, g, h => by
    have ih := segCells_at t j g (by simpa using h)
    have e : segCells (x :: t) = x.cells ++ segCells t := rfl
    have hl : x.cells.length = 3 := rfl
    rw [e]
    refine ⟨?_, ?_, ?_⟩
    · rw [show (j + 1) * 3 = x.cells.length + j * 3 from by rw [hl]; omega, List.getElem?_append_right (by omega), Nat.add_sub_cancel_left]; exact ih.1
    · rw [show (j + 1) * 3 + 1 = x.cells.length + (j * 3 + 1) from by rw [hl]; omega, List.getElem?_append_right (by omega), Nat.add_sub_cancel_left]; exact ih.2.1
    · rw [show (j + 1) * 3 + 2 = x.cells.length + (j * 3 + 2) from by rw [hl]; omega, List.getElem?_append_right (by omega), Nat.add_sub_cancel_left]; exact ih.2.2

theorem segCells_snoc (l : List Seg) (g : Seg) : segCells (l ++ [g]) = segCells l ++ [strV g.s, .bool g.wild, .bool g.multi] := by
  simp [segCells, Seg.cells]

/-- A slice value that reads as pieces. -/
def SegsAt (w : World) (v : Value) (l : List Seg) : Prop :=
  ∃ A cap, v = .slice A l.length cap ∧ l.length ≤ cap ∧
    ∀ j g, l[j]? = some g → ∃ b o, A = some ⟨b, o, none⟩ ∧ b < w.heap.size ∧
      w.cell? ⟨b, o + j * 3, none⟩ = some (strV g.s) ∧ w.cell? ⟨b, o + j * 3 + 1, none⟩ = some (.bool g.wild) ∧ w.cell? ⟨b, o + j * 3 + 2, none⟩ = some (.bool g.multi)

theorem SegsAt.keep {w w' : World} {v : Value} {l : List Seg} (h : SegsAt w v l) (hb : Below w.heap.size w w') : SegsAt w' v l := by
  obtain ⟨A, cap, hv, hc, hf⟩ := h
  refine ⟨A, cap, hv, hc, fun j g hj => ?_⟩
  obtain ⟨b, o, hA, hlt, h1, h2, h3⟩ := hf j g hj
  exact ⟨b, o, hA, Nat.lt_of_lt_of_le hlt hb.size, (hb.cell hlt).trans h1, (hb.cell hlt).trans h2, (hb.cell hlt).trans h3⟩

theorem SegsAt.of_own {w : World} {base : Nat} {e : TypeId} {v : Value} {l : List Seg} (h : w.ownsRow base e 3 v l.length (segCells l)) : SegsAt w v l := by
  obtain ⟨A, cap, hv, hnc, _, _⟩ := own_form h
  refine ⟨A, cap, hv, hnc, fun j g hj => ?_⟩
  have hjl : j < l.length := (List.getElem?_eq_some_iff.1 hj).1
  obtain ⟨b, c, hv2, _, hlt, _, _, hc⟩ := own_pos h (by omega)
  rw [hv] at hv2
  simp only [Value.slice.injEq] at hv2
  obtain ⟨h1, h2, h3⟩ := segCells_at l j g hj
  exact ⟨b, 0, hv2.1, hlt, by simpa using hc _ _ h1, by simpa using hc _ _ h2, by simpa using hc _ _ h3⟩

theorem segCells_take (l : List Seg) (k : Nat) (g : Seg) (h : l[k]? = some g) : segCells (l.take (k + 1)) = segCells (l.take k) ++ [strV g.s, .bool g.wild, .bool g.multi] := by
  rw [List.take_add_one, h]
  exact segCells_snoc _ g

theorem info_specSeg : (Tryd.prog.info? 46).map (fun i => (i.zero, i.size, i.bytes)) = some (some (.agg #[.string ⟨#[]⟩, .bool false, .bool false]), 3, 24) := by kernel_rfl

theorem cells3_new (w : World) (a b c : Value) (t : TypeId) (n : Nat) (hn : n = w.heap.size) :
    ∀ j u, [a, b, c][j]? = some u → (w.alloc (.cells #[a, b, c] t)).cell? ((⟨n, 0, none⟩ : Addr).add j) = some u := by
  subst hn
  intro j u hj
  rw [Addr.add_lit, World.cell?_alloc_new]
  match j, hj with
  | 0, hj => simpa using hj
  | 1, hj => simpa using hj
  | 2, hj => simpa using hj
  | j + 3, hj => simp at hj

theorem blk_cell {w : World} {g : Nat} {cs : Array Value} {t : TypeId} (h : w.heap[g]? = some (.cells cs t (0, 0))) (i : Nat) : w.cell? ⟨g, i, none⟩ = cs[i]? := cell_of_row w g i cs t (0, 0) h
theorem blk_free {w : World} {g : Nat} {cs : Array Value} {t : TypeId} (h : w.heap[g]? = some (.cells cs t (0, 0))) (i : Nat) : w.frozen? ⟨g, i, none⟩ = false := by
  simp [World.frozen?, h]
theorem blk_lt {w : World} {g : Nat} {o : Obj} (h : w.heap[g]? = some o) : g < w.heap.size := (Array.getElem?_eq_some_iff.1 h).1
theorem blk_set {w : World} {g : Nat} {cs : Array Value} {t : TypeId} (h : w.heap[g]? = some (.cells cs t (0, 0))) (i : Nat) (u : Value) : (w.setCell ⟨g, i, none⟩ u).heap[g]? = some (.cells (cs.setIfInBounds i u) t (0, 0)) := by
  simp [World.setCell, Array.getElem?_modify, h]
theorem blk_alloc {w : World} {g : Nat} {o : Obj} (h : w.heap[g]? = some o) (o' : Obj) : (w.alloc o').heap[g]? = some o := (Below.heap_alloc w o' g (blk_lt h)).trans h
theorem blk_far {w : World} {g : Nat} {o : Obj} (h : w.heap[g]? = some o) {p : Addr} (hp : g ≠ p.block) (u : Value) : (w.setCell p u).heap[g]? = some o := (Below.heap_setCell w p u g hp).trans h
theorem blk_grown {w w' : World} {g : Nat} {o : Obj} {row : Option Nat} (h : w.heap[g]? = some o) (hb : w.grownBy w' row) (hg : some g ≠ row) : w'.heap[g]? = some o := (hb.block g (blk_lt h) hg).trans h
theorem blk_below {w w' : World} {g : Nat} {o : Obj} (h : w.heap[g]? = some o) (hb : Below w.heap.size w w') : w'.heap[g]? = some o := (hb.block g (blk_lt h)).trans h

theorem new0 (w : World) (X : Obj) : (w.alloc X).heap[w.heap.size]? = some X := heap_alloc_new w X
theorem new1 (w : World) (X Y : Obj) : ((w.alloc X).alloc Y).heap[w.heap.size + 1]? = some Y := by simpa using heap_alloc_new (w.alloc X) Y
theorem new2 (w : World) (X Y Z : Obj) : (((w.alloc X).alloc Y).alloc Z).heap[w.heap.size + 2]? = some Z := by simpa using heap_alloc_new ((w.alloc X).alloc Y) Z

set_option maxRecDepth 100000 in
set_option maxHeartbeats 1600000 in
theorem conv_any (m h : ByteArray) (sv : Value) (l : List Seg) (w : World) (hsv : SegsAt w sv l) (hl : l.length ≤ 2147483647) :
    Calls Tryd.prog 15 #[.agg #[.string m, .string h, sv]] w fun e w' => ∃ sv', e = .returned (.agg #[.string m, .string h, sv']) ∧ w'.ownsRow w.heap.size 46 3 sv' l.length (segCells l) ∧ Below w.heap.size w w' := by
  obtain ⟨i0, hi, hz0, hz1, hz2⟩ := info_parts info_specSeg
  obtain ⟨A, cap, rfl, hlc, hf⟩ := hsv
  have HF := Lib.hid hf
  clear hf
  go_enter Tryd.func15, Tryd.ntmps15
  go_wp2_with fail
  go_loopw [14] (fun iv wr => ∃ (k : Nat) (cur : Value), k ≤ l.length ∧ iv = .int .i64 k ∧
      wr.heap[w.heap.size + 1]? = some (.cells #[.string ⟨#[]⟩, .string ⟨#[]⟩, .slice none 0 0] 30 (0, 0)) ∧
      wr.heap[w.heap.size + 2]? = some (.cells #[.string m, .string h, cur] 30 (0, 0)) ∧
      wr.ownsRow (w.heap.size + 3) 46 3 cur k (segCells (l.take k)) ∧ Below w.heap.size w wr)
    (fun iv _ => l.length - (intOf iv).toNat)
  case atStart =>
    exact ⟨0, _, Nat.zero_le _, rfl, blk_alloc (new1 _ _ _) _, new2 _ _ _ _, World.ownsRow_nil _ _ _ _, (((Below.refl _ _).alloc (Nat.le_refl _) _).alloc (by simp) _).alloc (by simp; omega) _⟩
  case round =>
    obtain ⟨k, cur, hk, rfl, hB1, hB2, hown, hb⟩ := hrel
    have HB1 := Lib.hid hB1
    have HB2 := Lib.hid hB2
    have hsz := blk_lt hB2
    have hc2 : wr.cell? ⟨w.heap.size + 2, 2, none⟩ = some cur := blk_cell hB2 2
    clear hB1 hB2
    by_cases hlt : k < l.length
    · obtain ⟨g, hg⟩ : ∃ g, l[k]? = some g := ⟨_, List.getElem?_eq_getElem hlt⟩
      obtain ⟨b, o, rfl, hbl, h1, h2, h3⟩ := HF.out k g hg
      have g1 : wr.cell? ⟨b, o + k * 3, none⟩ = some (.string ⟨g.s.toArray⟩) := (hb.cell hbl).trans h1
      have g2 : wr.cell? ⟨b, o + k * 3 + 1, none⟩ = some (.bool g.wild) := (hb.cell hbl).trans h2
      have g3 : wr.cell? ⟨b, o + k * 3 + 2, none⟩ = some (.bool g.multi) := (hb.cell hbl).trans h3
      have HG := Lib.hid hg
      clear h1 h2 h3 hg
      go_wp2_with (at_builtin; refine wpList_append_own _ rfl _ _ 28 rfl (w.heap.size + 3) 46 i0 (.agg #[.string ⟨#[]⟩, .bool false, .bool false]) 3 24 Tryd.underlying28 hi hz0 hz1 hz2 rfl (by decide) _ _ _ rfl ((hown.alloc _).alloc _) ⟨wr.heap.size + 1, 0, none⟩ 1 1 [_, _, _] rfl rfl (cells3_new _ _ _ _ _ _ (by simp)) (by simp [Value.oneCell']) (by unfold maxLen; omega) (by omega) (by simp; omega) ?_; intro v' w1 hown' hgrow _; obtain ⟨A', cap', rfl, hnc', hcm', hA'⟩ := own_form hown'; have hB2' := blk_grown (blk_alloc (blk_alloc HB2.out _) _) hgrow (fun e => by have := (hown.lt _ e.symm).1; omega); have hB1' := blk_grown (blk_alloc (blk_alloc HB1.out _) _) hgrow (fun e => by have := (hown.lt _ e.symm).1; omega); have hb' : Below w.heap.size w w1 := ((hb.alloc hb.size _).alloc (by have := hb.size; simp; omega) _).grown hgrow (by have := hb.size; simp; omega) (fun g hg => by have := (hown.lt g hg).1; omega); have HB1' := Lib.hid hB1'; have HB2' := Lib.hid hB2'; have c2' := blk_cell hB2' 2; have f2' := blk_free hB2' 2; clear hgrow hB1' hB2' hown hc2)
      go_roundw
      case rel => exact ⟨k + 1, _, by omega, by go_num, blk_far HB1'.out (by simp) _, blk_set HB2'.out 2 _, ownsRow_setCell_below (by rw [segCells_take l k g HG.out]; exact hown') (by simp) _, hb'.setCell (by simp; omega) _⟩
      case measure => simp [intOf]; omega
    · have hke : k = l.length := by omega
      have c20 : wr.cell? ⟨w.heap.size + 2, 0, none⟩ = some (.string m) := blk_cell HB2.out 0
      have c21 : wr.cell? ⟨w.heap.size + 2, 1, none⟩ = some (.string h) := blk_cell HB2.out 1
      have c10 : wr.cell? ⟨w.heap.size + 1, 0, none⟩ = some (.string ⟨#[]⟩) := blk_cell HB1.out 0
      have c11 : wr.cell? ⟨w.heap.size + 1, 1, none⟩ = some (.string ⟨#[]⟩) := blk_cell HB1.out 1
      have c12 : wr.cell? ⟨w.heap.size + 1, 2, none⟩ = some (.slice none 0 0) := blk_cell HB1.out 2
      have f10 : wr.frozen? ⟨w.heap.size + 1, 0, none⟩ = false := blk_free HB1.out 0
      have f11 : wr.frozen? ⟨w.heap.size + 1, 1, none⟩ = false := blk_free HB1.out 1
      have f12 : wr.frozen? ⟨w.heap.size + 1, 2, none⟩ = false := blk_free HB1.out 2
      obtain ⟨A', cap', rfl, _, _, _⟩ := own_form hown
      rw [hke, List.take_of_length_le (Nat.le_refl _)] at hown
      go_wp2_with fail
      refine bodyPost_ret (v := .agg #[.string m, .string h, .slice A' l.length cap']) (by simp [results, Tryd.results15, go_sem, c10, c11, c12]) rfl ⟨_, rfl, ?_, ?_⟩
      · exact own_lower (ownsRow_setCell_below (ownsRow_setCell_below (ownsRow_setCell_below hown (by simp) _) (by simp) _) (by simp) _) (by omega)
      · exact ((hb.setCell (by simp) _).setCell (by simp) _).setCell (by simp) _
end Go.Proofs.YtodmlommidifjaaDoor
