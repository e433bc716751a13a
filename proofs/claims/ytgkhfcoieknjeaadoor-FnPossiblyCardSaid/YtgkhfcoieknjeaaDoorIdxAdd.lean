/-
  Proved: (*routingIndex).addPattern adds a pattern to the index: to the row of those that end in a wildcard for all that is left, or under each of its pieces. Conditions: the index and the pattern are in memory as said; the pattern is good; the rows are short.
-/
import Derived.Test.YtgkhfcoieknjeaaDoorIndex
import Derived.Test.YtgkhfcoieknjeaaDoorLast
import Derived.Test.YtgkhfcoieknjeaaDoorMatchPath
import Derived.Deep.CutBlock
import Derived.Deep.DeepCutAuto
import Derived.Deep.RegionLaw
namespace Go.Proofs.YtgkhfcoieknjeaaDoor
open Go.RowKit

theorem info_ptr : (Tryd.prog.info? 75).map (fun i => (i.zero, i.size, i.bytes)) = some (some (.pointer none), 1, 8) := by kernel_rfl
theorem slc_zero (w : World) : (zeroValue 71).run Tryd.prog w = .ok (.slice none 0 0) w := by kernel_rfl

/-- What the store under a key leaves. -/
def GroupEnd (w : World) (B nn ib : Nat) (X : Ix) (i : Nat) (s : List UInt8) (x : Cl) (w4 : World) : Prop :=
  ∃ v, IdxAt w4 B (nn + 1) ib (X.put i s v x) ∧ Keeps w w4 ∧ Below B w w4

section
variable {w : World} {B nn ib b n i : Nat} {s : List UInt8} {X : Ix} {D : DataW Value} (H : IdxAt w B nn ib X) (hm : MapAt w B nn X b n D) (hi : i ≤ 1000) (hs : s.length ≤ 1000) (hB : B ≤ w.heap.size) {x : Cl}
include H hm hi hs hB

theorem group_end {w1 w3 w4 : World} {v : Value} (hz : w.heap.size ≤ w1.heap.size) (h1 : ∀ g, g < w.heap.size → g ≠ b → w1.heap[g]? = w.heap[g]?) (hb1 : Below B w w1)
    (hrow : w3.ownsRow B 75 1 v ((X.G i s).length + 1) (ptrsOf (X.G i s) ++ [ptrV x.a])) (hg3 : w1.grownBy w3 (X.sv i s).ownBlock) (hv : v.ownBlock = (X.sv i s).ownBlock ∨ v.ownBlock = some w1.heap.size)
    (hmap : w4.ownsMap Tryd.prog 103 rawElem b (n + 1) (D.put (keyL i s) (.held v))) (hg4 : w3.grownBy w4 (some b)) : GroupEnd w B nn ib X i s x w4 := by
  obtain ⟨es, c, h0⟩ := hm.is_map
  have hbl : b < w.heap.size := lt_of_heap h0
  have hrb : ∀ g, (X.sv i s).ownBlock = some g → g < w.heap.size ∧ g ≠ b ∧ g ≠ ib := by
    intro g hg
    obtain ⟨_, cur, h7⟩ := (H.rows i s).typ hg
    refine ⟨lt_of_heap h7, fun e => ?_, fun e => ?_⟩
    · subst e; rw [h0] at h7; cases h7
    · subst e
      rw [H.blk] at h7
      simp only [Option.some.injEq, Obj.cells.injEq] at h7
      exact absurd h7.2.1 (by decide)
  have hib : ib ≠ b := by
    intro e
    subst e
    rw [H.blk] at h0; cases h0
  have hvb : ∀ g, v.ownBlock = some g → g ≠ b := by
    intro g hg
    rcases hv with e | e
    · rw [e] at hg; exact (hrb g hg).2.1
    · rw [e] at hg
      have := Option.some.inj hg
      omega
  have hk : ∀ g, g < w.heap.size → ¬ (g = b ∨ (X.sv i s).ownBlock = some g) → w4.heap[g]? = w.heap[g]? := by
    intro g hg hne
    rw [hg4.block g (by have := hg3.size; omega) (fun e => hne (.inl (Option.some.inj e))), hg3.block g (by omega) (fun e => hne (.inr e.symm)), h1 g hg (fun e => hne (.inl e))]
  have hblk : w4.heap[ib]? = w.heap[ib]? := hk ib (lt_of_heap H.blk) fun h => by
    rcases h with h | h
    · exact hib h
    · exact (hrb ib h).2.2 rfl
  have hrow4 : w4.ownsRow B 75 1 v ((X.G i s).length + 1) (ptrsOf (X.G i s) ++ [ptrV x.a]) := ownsRow_of_heap hrow fun g hg => by
    have hgl : g < w3.heap.size := (hrow.lt g hg).2
    exact hg4.block g hgl (fun e => hvb g hg (Option.some.inj e))
  obtain ⟨r1, r2⟩ := H.addG hm hi hs (x := x) hblk hmap hrow4 (hv.imp id fun e => ⟨_, e, hz⟩) hk
  refine ⟨v, r1, r2, ?_⟩
  have hb3 : Below B w w3 := hb1.grown hg3 (by omega) (fun g hg => ((H.rows i s).typ hg).1)
  exact hb3.grown hg4 (by have := hg3.size; omega) (fun g hg => by
    have := Option.some.inj hg
    rw [← this]
    exact hm.2.1)

/-- Both orders of 'm[k] = append(m[k], x)': the entry first, or the row of one pointer first. -/
theorem group_runs (hlen : (X.G i s).length ≤ 1000) (hnn : nn ≤ 10000) {key : Value} (hkey : keyOf Tryd.prog 103 key = some (keyL i s)) :
    (∃ (st : Nat) (wA : World) (v : Value) (w3 w4 : World), (Instr.mapEntry 70 (.map (some b)) key).run Tryd.prog w = .ok (.tuple #[X.sv i s, .int .i64 st]) wA ∧ wA.heap.size = w.heap.size ∧
      (Builtin.append_ #[71, 71] 71 #[X.sv i s, .slice (some ⟨w.heap.size, 0, none⟩) 1 1]).run Tryd.prog (wA.alloc (.cells #[ptrV x.a] 75)) = .ok v w3 ∧
      (Instr.entryStore 70 (.map (some b)) (.int .i64 st) v).run Tryd.prog w3 = .ok () w4 ∧ GroupEnd w B nn ib X i s x w4) ∧
    (∃ (st : Nat) (wB : World) (v : Value) (w3 w4 : World), (Instr.mapEntry 70 (.map (some b)) key).run Tryd.prog (w.alloc (.cells #[ptrV x.a] 75)) = .ok (.tuple #[X.sv i s, .int .i64 st]) wB ∧
      (Builtin.append_ #[71, 71] 71 #[X.sv i s, .slice (some ⟨w.heap.size, 0, none⟩) 1 1]).run Tryd.prog wB = .ok v w3 ∧
      (Instr.entryStore 70 (.map (some b)) (.int .i64 st) v).run Tryd.prog w3 = .ok () w4 ∧ GroupEnd w B nn ib X i s x w4) := by
  obtain ⟨es, c, h0⟩ := id hm.is_map
  have hbl : b < w.heap.size := lt_of_heap h0
  obtain ⟨i0, hi0, hz0, hz1, hz2⟩ := info_parts info_ptr
  obtain ⟨g1, g2, g3, g4, g5, g6⟩ := id hm
  have hnb : ∀ g, (X.sv i s).ownBlock = some g → g ≠ b := by
    intro g hg e
    obtain ⟨_, cur, h7⟩ := (H.rows i s).typ hg
    subst e; rw [h0] at h7; cases h7
  have hat := g5 i s hi hs
  have hml : n < maxLen := by unfold maxLen; omega
  constructor
  · obtain ⟨st, wA, hrun, hgA, hzA, htA, hst⟩ := entry_own key_law Tryd.underlying70 slc_zero hml g4 hkey hat
    have hrowA : (wA.alloc (.cells #[ptrV x.a] 75)).ownsRow B 75 1 (X.sv i s) (X.G i s).length (ptrsOf (X.G i s)) := by
      refine World.ownsRow.alloc (ownsRow_of_heap (H.rows i s) fun g hg => hgA.block g (lt_of_heap ((H.rows i s).typ hg).2.choose_spec) (fun e => hnb g hg (Option.some.inj e))) _
    have hcell : ∀ j u, [ptrV x.a][j]? = some u → (wA.alloc (.cells #[ptrV x.a] 75)).cell? ((⟨w.heap.size, 0, none⟩ : Addr).add j) = some u := by
      rw [← hzA]; exact cell_one_new wA (ptrV x.a) 75
    obtain ⟨v, w3, hrun3, hrow3, hg3, _, hv3⟩ := run_append_own_at (P := Tryd.prog) (wA.alloc (.cells #[ptrV x.a] 75)) B 71 71 75 i0 (.pointer none) 1 8 Tryd.underlying71 hi0 hz0 hz1 hz2 rfl (by decide) (X.sv i s) (X.G i s).length _ hrowA
      ⟨w.heap.size, 0, none⟩ 1 1 [ptrV x.a] rfl hcell (by simp [ptrV, Value.oneCell']) (by unfold maxLen; omega) (by omega) (by simp; omega)
    have h3b : w3.heap[b]? = wA.heap[b]? := by
      rw [hg3.block b (by simp; omega) (fun e => hnb b e.symm rfl)]
      exact Below.heap_alloc wA _ b (by omega)
    obtain ⟨w4, hrun4, hmap4, hg4, _⟩ := hst w3 v h3b
    refine ⟨st, wA, v, w3, w4, hrun, hzA, hrun3, hrun4, group_end H hm hi hs hB (w1 := wA.alloc (.cells #[ptrV x.a] 75)) (by simp; omega) (fun g hg hne => ?_) ?_ hrow3 hg3 hv3 hmap4 hg4⟩
    · rw [Below.heap_alloc wA _ g (by omega), hgA.block g hg (fun e => hne (Option.some.inj e))]
    · exact ((Below.refl B w).grown hgA hB (fun g hg => by have := Option.some.inj hg; rw [← this]; exact g2)).alloc (by omega) _
  · have g4' : (w.alloc (.cells #[ptrV x.a] 75)).ownsMap Tryd.prog 103 rawElem b n D := g4.alloc _
    obtain ⟨st, wB, hrun, hgB, hzB, htB, hst⟩ := entry_own key_law Tryd.underlying70 slc_zero hml g4' hkey hat
    have hrowB : wB.ownsRow B 75 1 (X.sv i s) (X.G i s).length (ptrsOf (X.G i s)) := by
      refine ownsRow_of_heap (World.ownsRow.alloc (H.rows i s) (.cells #[ptrV x.a] 75)) fun g hg => ?_
      exact hgB.block g (by simp; exact Nat.lt_succ_of_lt (lt_of_heap ((H.rows i s).typ hg).2.choose_spec)) (fun e => hnb g hg (Option.some.inj e))
    have hcell : ∀ j u, [ptrV x.a][j]? = some u → wB.cell? ((⟨w.heap.size, 0, none⟩ : Addr).add j) = some u := by
      intro j u hu
      have h1 := cell_one_new w (ptrV x.a) 75 j u hu
      rw [World.cell?_of_block (w := w.alloc (.cells #[ptrV x.a] 75)) ?_]
      · exact h1
      · have : ((⟨w.heap.size, 0, none⟩ : Addr).add j).block = w.heap.size := by unfold Addr.add; split <;> rfl
        rw [this]
        exact hgB.block _ (by simp) (fun e => by have := Option.some.inj e; omega)
    obtain ⟨v, w3, hrun3, hrow3, hg3, _, hv3⟩ := run_append_own_at (P := Tryd.prog) wB B 71 71 75 i0 (.pointer none) 1 8 Tryd.underlying71 hi0 hz0 hz1 hz2 rfl (by decide) (X.sv i s) (X.G i s).length _ hrowB
      ⟨w.heap.size, 0, none⟩ 1 1 [ptrV x.a] rfl hcell (by simp [ptrV, Value.oneCell']) (by unfold maxLen; omega) (by omega) (by have := hgB.size; simp at this; omega)
    have hzB' : w.heap.size + 1 ≤ wB.heap.size := by have := hgB.size; simpa using this
    have h3b : w3.heap[b]? = wB.heap[b]? := hg3.block b (by omega) (fun e => hnb b e.symm rfl)
    obtain ⟨w4, hrun4, hmap4, hg4, _⟩ := hst w3 v h3b
    refine ⟨st, wB, v, w3, w4, hrun, hrun3, hrun4, group_end H hm hi hs hB (w1 := wB) (by omega) (fun g hg hne => ?_) ?_ hrow3 hg3 hv3 hmap4 hg4⟩
    · rw [hgB.block g (by simp; omega) (fun e => hne (Option.some.inj e)), Below.heap_alloc w _ g hg]
    · exact (((Below.refl B w).alloc hB _).grown hgB (by simp; omega) (fun g hg => by have := Option.some.inj hg; rw [← this]; exact g2))
end

/-- The pattern stands under the key. -/
def hitB (p : PtB) (i : Nat) (s : List UInt8) : Bool := !multiL p.l && match p.l[i]? with
  | some g => decide (keyS g = s)
  | none => false

/-- How addPattern ends. -/
def AddIdx (w : World) (B nn ib : Nat) (X : Ix) (x : Cl) (e : Ending) (w' : World) : Prop :=
  e = .returned (.tuple #[]) ∧ ∃ X', IdxAt w' B (nn + 6) ib X' ∧ (X'.M = X.M ++ if multiL x.p.l then [x] else []) ∧ (∀ i s, X'.G i s = X.G i s ++ if hitB x.p i s then [x] else []) ∧ Below B w w' ∧ Keeps w w'

theorem hit_multi {p : PtB} (h : multiL p.l = true) (i : Nat) (s : List UInt8) : hitB p i s = false := by simp [hitB, h]
theorem hit_at {p : PtB} (h : multiL p.l = false) {i : Nat} {g : Seg} (hg : p.l[i]? = some g) (s : List UInt8) : hitB p i s = decide (keyS g = s) := by simp [hitB, h, hg]
theorem hit_over {p : PtB} {i : Nat} (hi : p.l.length ≤ i) (s : List UInt8) : hitB p i s = false := by simp [hitB, List.getElem?_eq_none hi]

theorem PatFull.segs {w w' : World} {a : Nat} {p : PtB} {sv : Value} (H : PatFull w a p) (hk : Keeps w w') (hs : w.cell? ⟨a, 3, none⟩ = some sv) : SegsAt w' sv p.l := by
  obtain ⟨sv', base, h1, h2⟩ := id H
  have h3 : w.cell? ⟨a, 3, none⟩ = some sv' := blk_cell h1 3
  rw [hs] at h3
  obtain rfl := Option.some.inj h3
  obtain ⟨sv2, base2, h4, h5⟩ := H.keep hk
  have h6 : w'.heap[a]? = w.heap[a]? := hk a _ _ _ h1 (.inl rfl)
  rw [h6, h1] at h4
  simp at h4
  rw [h4]
  exact SegsAt.of_own h5

set_option maxRecDepth 100000 in
set_option maxHeartbeats 6400000 in
theorem addPattern_multi {w : World} {B nn ib : Nat} {X : Ix} {x : Cl} {gs : List UInt8} {gw : Bool} (H : IdxAt w B nn ib X) (hB : B ≤ w.heap.size) (HP : PatFull w x.a x.p) (hg : x.p.pt.good) (hgl : x.p.l.getLast? = some ⟨gs, gw, true⟩) (hM : X.M.length ≤ 100) :
    Calls Tryd.prog 42 #[.pointer (some ⟨ib, 0, none⟩), .pointer (some ⟨x.a, 0, none⟩)] w (AddIdx w B nn ib X x) := by
  obtain ⟨i0, hi, hz0, hz1, hz2⟩ := info_parts info_ptr
  have HL : Hid (Calls Tryd.prog 50 #[.pointer (some ⟨x.a, 0, none⟩)] w (LastEnd w ⟨gs, gw, true⟩)) := last_any x.a x.p.m x.p.h x.p.l ⟨gs, gw, true⟩ w HP.pat hgl (good_len hg)
  unfold LastEnd at HL
  have hml : multiL x.p.l = true := by unfold multiL; rw [hgl]
  have hf2 := field2 gs gw true
  have HH := Lib.hid H
  have HML := Lib.hid hml
  have HHB := Lib.hid hB
  clear H HP hg hgl hml
  go_enter Tryd.func42, Tryd.ntmps42
  go_upto_region 1 with (go_at_call 50; (with_reducible refine HL.out.mono ?_); rintro e w1 ⟨rfl, hb1⟩; have HB1 := Lib.hid hb1; clear hb1)
  have h1 := HH.out.below HB1.out
  have H1 := Lib.hid h1
  have c1 : w1.cell? ⟨ib, 1, none⟩ = some X.mv := blk_cell h1.blk 1
  have hzw := HB1.out.size
  clear h1
  go_wp2_with (at_builtin; refine wpList_append_own_at _ rfl _ _ 71 rfl B 75 i0 (.pointer none) 1 8 Tryd.underlying71 hi hz0 hz1 hz2 rfl (by decide) _ _ _ rfl (World.ownsRow.alloc H1.out.multis _) ⟨w1.heap.size, 0, none⟩ 1 1 [ptrV x.a] rfl rfl (cell1_new _ _ _ _ (by simp)) (by simp [ptrV, Value.oneCell']) (by unfold maxLen; omega) (by omega) (by simp; omega) ?_; intro v2 w2 hown2 hgrow2 _ hv2; obtain ⟨A2, cap2, rfl, -, -, -⟩ := own_form hown2; have HO2 := Lib.hid hown2; have HG2 := Lib.hid hgrow2; have HV2 := Lib.hid hv2; have hib2 : w2.heap[ib]? = some (.cells #[.map X.mo, X.mv] 73 (0, 0)) := (blk_grown (blk_alloc H1.out.blk _) hgrow2 (fun e => by obtain ⟨_, cur, h7⟩ := H1.out.multis.typ e.symm; rw [H1.out.blk] at h7; simp only [Option.some.injEq, Obj.cells.injEq] at h7; exact absurd h7.2.1 (by decide))); have HIB := Lib.hid hib2; have k1 := blk_cell hib2 1; have f1 := blk_free hib2 1; clear hib2 hown2 hgrow2 hv2)
  go_end0
  have hrib : ∀ g, (Value.slice A2 (X.M.length + 1) cap2).ownBlock = some g → g ≠ ib := by
    intro g hg e
    subst e
    rcases HO2.out.2 with ⟨h3, _⟩ | ⟨g', cap, cur, h3, _, h4, _⟩
    · rw [h3] at hg; cases hg
    · rw [h3] at hg
      have : g' = g := by simpa [Value.ownBlock] using hg
      subst this
      rw [HIB.out] at h4
      simp only [Option.some.injEq, Obj.cells.injEq] at h4
      exact absurd h4.2.1 (by decide)
  have hblk : (w2.setCell ⟨ib, 1, none⟩ (.slice A2 (X.M.length + 1) cap2)).heap[ib]? = some (.cells #[.map X.mo, .slice A2 (X.M.length + 1) cap2] 73 (0, 0)) := by simpa using blk_set HIB.out 1 (.slice A2 (X.M.length + 1) cap2)
  have hib : ib < w1.heap.size := lt_of_heap H1.out.blk
  obtain ⟨r1, r2⟩ := H1.out.addM (w' := w2.setCell ⟨ib, 1, none⟩ (.slice A2 (X.M.length + 1) cap2)) (x := x) hblk (ownsRow_of_heap HO2.out fun g hg => Below.heap_setCell _ _ _ _ (hrib g hg)) (HV2.out.imp id fun e => ⟨_, e, by simp⟩) (fun g hg hne => by
    rw [Below.heap_setCell _ _ _ _ (fun e => hne (.inl e)), HG2.out.block g (by simp; omega) (fun e => hne (.inr e.symm)), Below.heap_alloc _ _ _ hg])
  refine ⟨rfl, _, r1.mono (by omega), by rw [HML.out]; rfl, fun i s => by rw [hit_multi HML.out]; simp, ?_, (Keeps.of_below HB1.out).trans r2⟩
  have hbw : Below B w w1 := HB1.out.mono HHB.out
  exact ((hbw.alloc (by omega) _).grown HG2.out (by simp; omega) (fun g hg => (H1.out.multis.typ hg).1)).setCell H1.out.low _

theorem put_G {X Xt : Ix} {x : Cl} {t : Nat} {g : Seg} {v : Value} (hml : multiL x.p.l = false) (hg : x.p.l[t]? = some g) (h : ∀ i s, Xt.G i s = X.G i s ++ if (decide (i < t) && hitB x.p i s) = true then [x] else []) :
    ∀ i s, (Xt.put t (keyS g) v x).G i s = X.G i s ++ if (decide (i < t + 1) && hitB x.p i s) = true then [x] else [] := by
  intro i s
  show (if i = t ∧ s = keyS g then Xt.G t (keyS g) ++ [x] else Xt.G i s) = _
  by_cases hi : i = t
  · subst hi
    rw [hit_at hml hg, decide_eq_true (show i < i + 1 by omega), Bool.true_and]
    by_cases hs : s = keyS g
    · subst hs
      rw [if_pos ⟨rfl, rfl⟩, h, decide_eq_false (show ¬ i < i by omega)]
      simp
    · rw [if_neg (fun e => hs e.2), h, decide_eq_false (show ¬ i < i by omega), decide_eq_false (fun e => hs e.symm)]
      simp
  · rw [if_neg (fun e => hi e.1), h]
    by_cases hlt : i < t
    · rw [decide_eq_true hlt, decide_eq_true (show i < t + 1 by omega)]
    · rw [decide_eq_false hlt, decide_eq_false (show ¬ i < t + 1 by omega)]

set_option maxRecDepth 100000 in
set_option maxHeartbeats 12800000 in
theorem addPattern_lits {w : World} {B nn ib : Nat} {X : Ix} {x : Cl} {gs : List UInt8} {gw : Bool} (H : IdxAt w B nn ib X) (hB : B ≤ w.heap.size) (HP : PatFull w x.a x.p) (hg : x.p.pt.good) (hgl : x.p.l.getLast? = some ⟨gs, gw, false⟩) (hG : ∀ i s, (X.G i s).length ≤ 100) (hnn : nn ≤ 1000) :
    Calls Tryd.prog 42 #[.pointer (some ⟨ib, 0, none⟩), .pointer (some ⟨x.a, 0, none⟩)] w (AddIdx w B nn ib X x) := by
  have HL : Hid (Calls Tryd.prog 50 #[.pointer (some ⟨x.a, 0, none⟩)] w (LastEnd w ⟨gs, gw, false⟩)) := last_any x.a x.p.m x.p.h x.p.l ⟨gs, gw, false⟩ w HP.pat hgl (good_len hg)
  unfold LastEnd at HL
  have hml : multiL x.p.l = false := by unfold multiL; rw [hgl]
  have hf2 := field2 gs gw false
  have hsix : x.p.l.length ≤ 6 := GoodP.six hg
  have HSX : Hid (∀ (i : Nat) (g : Seg), x.p.l[i]? = some g → g.s.length ≤ 16) := fun i g h => (GoodP.seg hg i g h).1
  obtain ⟨hpl, _, _, sv, c3, hsegs⟩ := id HP.pat
  obtain ⟨A, cap, rfl, -, -⟩ := hsegs
  have HSG : Hid (∀ w', Keeps w w' → SegsAt w' (.slice A x.p.l.length cap) x.p.l) := fun w' hk => HP.segs hk c3
  have HPC : Hid (∀ w', Keeps w w' → w'.cell? ⟨x.a, 3, none⟩ = some (.slice A x.p.l.length cap)) := by
    intro w' hk
    obtain ⟨sv', base, h1, h2⟩ := HP
    rw [World.cell?_of_block (a := ⟨x.a, 3, none⟩) (hk x.a _ _ _ h1 (.inl rfl))]
    exact c3
  have HH := Lib.hid H
  have HML := Lib.hid hml
  have HHB := Lib.hid hB
  have HGG := Lib.hid hG
  have qE : ∀ (w : World) (r : Option Nat), (binOp .eql 70 (.map r) (.map none)).run Tryd.prog w = .ok (.bool r.isNone) w := fun w r => run_eql_map_nil w _ _ _ r Tryd.underlying70
  have hmm := @run_makeMap Tryd.prog
  clear H HP hg hgl hml hG c3 hpl
  obtain ⟨mo, hmo⟩ : ∃ mo, mo = X.mo := ⟨_, rfl⟩
  have HMO := Lib.hid hmo
  go_enter Tryd.func42, Tryd.ntmps42
  go_upto_region 2 with (go_at_call 50; (with_reducible refine HL.out.mono ?_); rintro e w1 ⟨rfl, hb1⟩; have HB1 := Lib.hid hb1; clear hb1)
  have h1 := HH.out.below HB1.out
  have H1 := Lib.hid h1
  have c0 : w1.cell? ⟨ib, 0, none⟩ = some (.map mo) := by rw [hmo]; exact blk_cell h1.blk 0
  have HBL : Hid (w1.heap[ib]? = some (.cells #[.map mo, X.mv] 73 (0, 0))) := by show _ = _; rw [hmo]; exact h1.blk
  have f0 : (w1.alloc (.map #[] 0)).frozen? ⟨ib, 0, none⟩ = false := blk_free (blk_alloc HBL.out _) 0
  have k0 : (w1.alloc (.map #[] 0)).cell? ⟨ib, 0, none⟩ = some (.map mo) := blk_cell (blk_alloc HBL.out _) 0
  clear h1 hmo
  go_upto_if 24 with fail
  go_cut [24] (fun c wx => ∃ (b : Nat) (X1 : Ix) (q : Bool), c = .bool q ∧ X1.mo = some b ∧ Hid (IdxAt wx B nn ib X1) ∧ Hid (X1.M = X.M ∧ X1.G = X.G) ∧ Below B w wx ∧ Hid (Keeps w wx))
  case first =>
    cases mo with
    | none =>
      go_wp2_with fail
      go_meet
      have hib : ib < w1.heap.size := lt_of_heap HBL.out
      have hblk : ((w1.alloc (.map #[] 0)).setCell ⟨ib, 0, none⟩ (.map (some w1.heap.size))).heap[ib]? = some (.cells #[.map (some w1.heap.size), X.mv] 73 (0, 0)) := by simpa using blk_set (blk_alloc HBL.out (.map #[] 0)) 0 (.map (some w1.heap.size))
      have hmap : ((w1.alloc (.map #[] 0)).setCell ⟨ib, 0, none⟩ (.map (some w1.heap.size))).ownsMap Tryd.prog 103 rawElem w1.heap.size 0 (.map []) :=
        ownsMap_at (World.ownsMap_made w1 _ _ _) (Below.heap_setCell _ _ _ _ (by simp; omega))
      have hbw := HB1.out.size
      obtain ⟨r1, r2⟩ := H1.out.addMap HMO.out.symm hblk (Nat.le_trans HHB.out hbw) hmap (fun g hg hne => by rw [Below.heap_setCell _ _ _ _ hne, Below.heap_alloc _ _ _ hg])
      exact ⟨w1.heap.size, _, _, rfl, rfl, r1, ⟨rfl, rfl⟩, ((HB1.out.mono HHB.out).alloc (Nat.le_trans HHB.out hbw) _).setCell H1.out.low _, (Keeps.of_below HB1.out).trans r2⟩
    | some b =>
      go_wp2_with fail
      go_meet
      exact ⟨b, X, _, rfl, HMO.out.symm, H1.out, ⟨rfl, rfl⟩, HB1.out.mono HHB.out, Keeps.of_below HB1.out⟩
  case rest =>
    obtain ⟨b, X1, q0, rfl, hmo1, H2, HE, hb2, HKd⟩ := hcut
    obtain ⟨wd, rfl⟩ : ∃ wd : World, wd = wc := ⟨_, rfl⟩
    have HB2 := Lib.hid hb2
    have c3 := HPC.out _ HKd.out
    clear hb2 c0 f0 k0 HBL H1 HMO hmm qE HL
    go_wp2_with fail
    go_loopw [34] (fun tv wr => ∃ (t : Nat) (Xt : Ix), t ≤ x.p.l.length ∧ tv = .int .i64 t ∧ Xt.mo = some b ∧ Hid (IdxAt wr B (nn + t) ib Xt) ∧ Hid (Xt.M = X.M) ∧ Hid (∀ i s, Xt.G i s = X.G i s ++ if (decide (i < t) && hitB x.p i s) = true then [x] else []) ∧ Below B w wr ∧ Hid (Keeps w wr)) (fun tv _ => x.p.l.length - (intOf tv).toNat)
    case atStart => exact ⟨0, X1, Nat.zero_le _, rfl, hmo1, H2.out, HE.out.1, fun i s => by rw [HE.out.2]; simp, HB2.out, HKd.out⟩
    case round =>
      obtain ⟨t, Xt, ht, rfl, hmt, HI, HM, HGt, hb, HK⟩ := hrel
      have HBR := Lib.hid hb
      have hszr : w.heap.size ≤ wr.heap.size := hb.size
      clear hb c3 hmo1
      by_cases hlt : t < x.p.l.length
      · obtain ⟨g, hgt⟩ : ∃ g, x.p.l[t]? = some g := ⟨_, List.getElem?_eq_getElem hlt⟩
        obtain ⟨_, _, hv, _, hff⟩ := HSG.out _ HK.out
        simp only [Value.slice.injEq, true_and] at hv
        obtain ⟨rfl, rfl⟩ := hv
        obtain ⟨bb, o, rfl, hbl, d0, d1, d2⟩ := hff t g hgt
        have HGT := Lib.hid hgt
        have hsl := HSX.out t g hgt
        clear hff hgt
        obtain ⟨s, gv, gm⟩ := g
        have d0' : wr.cell? ⟨bb, o + t * 3, none⟩ = some (.string ⟨s.toArray⟩) := d0
        simp only at d1 d2 hsl
        clear d0
        have hn1 := new1 wr (.cells #[.string ⟨s.toArray⟩, .bool gv, .bool gm] 100) (.cells #[.int .i64 (t : Int), .string ⟨#[]⟩] 103)
        have HN1 := Lib.hid hn1
        have HBN : Hid (Below wr.heap.size wr ((wr.alloc (.cells #[.string ⟨s.toArray⟩, .bool gv, .bool gm] 100)).alloc (.cells #[.int .i64 (t : Int), .string ⟨#[]⟩] 103))) := ((Below.refl _ _).alloc (Nat.le_refl _) _).alloc (by simp) _
        clear hn1
        go_upto_if 43 with fail
        go_cut [43] (fun c wx => ∃ q : Bool, c = .bool q ∧ Below wr.heap.size wr wx ∧ Hid (wx.heap[wr.heap.size + 1]? = some (.cells #[.int .i64 (t : Int), .string ⟨(keyS ⟨s, gv, gm⟩).toArray⟩] 103 (0, 0))))
        case first =>
          cases gv
          · go_wp2_with fail
            go_meet
            exact ⟨_, rfl, ((Below.refl _ _).alloc (Nat.le_refl _) _).alloc (by simp) _, new1 _ _ _⟩
          · go_wp2_with fail
            go_meet
            exact ⟨_, rfl, HBN.out, HN1.out⟩
        case rest =>
          obtain ⟨q, rfl, hbx, HKB⟩ := hcut
          obtain ⟨wx, rfl⟩ : ∃ wx : World, wx = wc := ⟨_, rfl⟩
          have HBX := Lib.hid hbx
          have hHI : IdxAt wx.drew B (nn + t) ib Xt := (HI.out.below hbx).at fun _ _ => rfl
          have hzx := hbx.size
          have HII := Lib.hid hHI
          obtain ⟨n, D, hm⟩ : ∃ n D, MapAt wx.drew B (nn + t) Xt b n D := by
            rcases hHI.mp with ⟨h, _⟩ | ⟨b', n, D, hm⟩
            · rw [hmt] at h; cases h
            · have := hm.1
              rw [hmt] at this
              obtain rfl := Option.some.inj this
              exact ⟨n, D, hm⟩
          have c0 : wx.cell? ⟨ib, 0, none⟩ = some (.map (some b)) := by
            have := blk_cell hHI.blk 0
            rw [hmt] at this
            exact this
          have HPT := Lib.hid (put_G (v := .nilIface) HML.out HGT.out HGt.out)
          obtain ⟨ks, hks⟩ : ∃ ks, ks = keyS ⟨s, gv, gm⟩ := ⟨_, rfl⟩
          have hksl : ks.length ≤ 1000 := by
            rw [hks]
            unfold keyS
            split
            · simp
            · simp; omega
          have hkey : keyOf Tryd.prog 103 (keyV t ⟨ks.toArray⟩) = some (keyL t ks) := by
            have := key_ok t (by omega) ⟨ks.toArray⟩ (by simp [ByteArray.size]; unfold maxLen; omega)
            have e : bs (⟨ks.toArray⟩ : ByteArray) = ks := by simp [bs]
            rw [e] at this
            exact this
          rw [← hks] at HKB HPT
          have hglen : (Xt.G t ks).length ≤ 1000 := by
            rw [HGt.out, List.length_append]
            have := HGG.out t ks
            split <;> simp <;> omega
          have k0 : wx.cell? ⟨wr.heap.size + 1, 0, none⟩ = some (.int .i64 (t : Int)) := blk_cell HKB.out 0
          have k1 : wx.cell? ⟨wr.heap.size + 1, 1, none⟩ = some (.string ⟨ks.toArray⟩) := blk_cell HKB.out 1
          have k0' : (wx.alloc (.cells #[.pointer (some ⟨x.a, 0, none⟩)] 75)).cell? ⟨wr.heap.size + 1, 0, none⟩ = some (.int .i64 (t : Int)) := blk_cell (blk_alloc HKB.out _) 0
          have k1' : (wx.alloc (.cells #[.pointer (some ⟨x.a, 0, none⟩)] 75)).cell? ⟨wr.heap.size + 1, 1, none⟩ = some (.string ⟨ks.toArray⟩) := blk_cell (blk_alloc HKB.out _) 1
          have c0' : (wx.alloc (.cells #[.pointer (some ⟨x.a, 0, none⟩)] 75)).cell? ⟨ib, 0, none⟩ = some (.map (some b)) := by
            have h := blk_cell (blk_alloc (w := wx) hHI.blk (.cells #[.pointer (some ⟨x.a, 0, none⟩)] 75)) 0
            rw [hmt] at h
            exact h
          have hHB := HHB.out
          have hBx : B ≤ wx.drew.heap.size := (show B ≤ wx.heap.size from by omega)
          obtain ⟨⟨stA, wA, vA, w3A, w4A, eA1, hzA, eA3, eA4, GA⟩, ⟨stB, wB, vB, w3B, w4B, eB1, eB3, eB4, GB⟩⟩ := group_runs hHI hm (by omega) hksl hBx (x := x) hglen (by omega) hkey
          have HGA := Lib.hid GA
          have HGB := Lib.hid GB
          generalize Xt.sv t ks = v0 at eA1 eA3 eB1 eB3
          dsimp only [keyV, ptrV] at eA1 eA3 eB1 eB3
          have hzA' : wA.heap.size = wx.heap.size := hzA
          have eB2 : (Instr.mapEntry 70 (.map (some b)) (.agg #[.int .i64 (t : Int), .string ⟨ks.toArray⟩])).run Tryd.prog (wx.alloc (.cells #[.pointer (some ⟨x.a, 0, none⟩)] 75)).drew = .ok (.tuple #[v0, .int .i64 stB]) wB := eB1
          clear eB1
          clear GA GB hm hHI hbx hks hkey hglen hzA hksl
          go_upto_region 10 with fail
          go_region_law (first
            | (refine step_append_run rfl (.tmp 52) (.tmp 54) 71 rfl rfl v0 (.slice (some ⟨wx.heap.size, 0, none⟩) 1 1) rfl rfl vA w3A eA3 ?_)
            | (refine step_append_run rfl (.tmp 52) (.tmp 54) 71 rfl rfl v0 (.slice (some ⟨wx.heap.size, 0, none⟩) 1 1) rfl rfl vB w3B eB3 ?_))
          all_goals
            (go_wp2_with fail
             go_roundw
             case rel =>
               first
                 | (obtain ⟨v, z1, z2, z3⟩ := HGA.out
                    exact ⟨t + 1, Xt.put t ks v x, by omega, by go_num, hmt, z1, HM.out, HPT.out, ((HBR.out.trans (HBX.out.mono (by omega))).drew).trans z3, HK.out.trans ((Keeps.of_below HBX.out).trans z2)⟩)
                 | (obtain ⟨v, z1, z2, z3⟩ := HGB.out
                    exact ⟨t + 1, Xt.put t ks v x, by omega, by go_num, hmt, z1, HM.out, HPT.out, ((HBR.out.trans (HBX.out.mono (by omega))).drew).trans z3, HK.out.trans ((Keeps.of_below HBX.out).trans z2)⟩)
             case measure => simp [intOf]; omega)
      · have hte : t = x.p.l.length := by omega
        go_wp2_with fail
        go_end0
        refine ⟨rfl, Xt, HI.out.mono (by omega), by rw [HM.out, HML.out]; simp, fun i s => ?_, HBR.out, HK.out⟩
        rw [HGt.out]
        by_cases hi : i < t
        · rw [decide_eq_true hi, Bool.true_and]
        · rw [decide_eq_false hi, hit_over (by omega)]; simp

/-- addPattern. -/
theorem addPattern_idx {w : World} {B nn ib : Nat} {X : Ix} {x : Cl} (H : IdxAt w B nn ib X) (hB : B ≤ w.heap.size) (HP : PatFull w x.a x.p) (hg : x.p.pt.good) (hM : X.M.length ≤ 100) (hG : ∀ i s, (X.G i s).length ≤ 100) (hnn : nn ≤ 1000) :
    Calls Tryd.prog 42 #[.pointer (some ⟨ib, 0, none⟩), .pointer (some ⟨x.a, 0, none⟩)] w (AddIdx w B nn ib X x) := by
  obtain ⟨g, hgl⟩ : ∃ g, x.p.l.getLast? = some g := by
    have hne : x.p.l ≠ [] := GoodP.some_ hg
    cases h : x.p.l.getLast? with
    | none => exact absurd (List.getLast?_eq_none_iff.1 h) hne
    | some g => exact ⟨g, rfl⟩
  obtain ⟨gs, gw, gm⟩ := g
  cases gm
  · exact addPattern_lits H hB HP hg hgl hG hnn
  · exact addPattern_multi H hB HP hg hgl hM
end Go.Proofs.YtgkhfcoieknjeaaDoor
