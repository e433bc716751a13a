/-
  Proved: addChild, set and addSegments keep the routing tree and put a pattern's place into it. Conditions: the tree can be read; the place is free; a piece that stands for all that is left is the last one.
  Proved: set and addSegments put a pattern's place into the routing tree. Conditions: the tree can be read; the place is free; a piece that stands for all that is left is the last one; literals are not empty.
  Proved: addPattern puts a pattern into the routing tree, and tree builds the tree of patterns no two of which conflict, out of their texts. Conditions: the patterns are good; the texts can be read; the table unicode.properties is as it was laid.
  Proved: tree builds the routing tree of good patterns no two of which conflict, out of their texts. Conditions: at most ten patterns; the texts can be read; the table unicode.properties is as it was laid.
-/
import Derived.Test.YtgkhfcoieknjeaaDoorTree
import Derived.Test.YtgkhfcoieknjeaaDoorPat
import Derived.Deep.RegionHeld3
import Derived.Test.YtgkhfcoieknjeaaDoorMust
import Derived.Test.YtgkhfcoieknjeaaDoorBest
import Derived.Test.YtgkhfcoieknjeaaDoorBase
namespace Go.Proofs.YtgkhfcoieknjeaaDoor
open Go.RowKit

def upd {β : Type} (f : List Kd → β) (k : List Kd) (v : β) : List Kd → β := fun q => if q = k then v else f q
theorem upd_same {β : Type} (f : List Kd → β) (k : List Kd) (v : β) : upd f k v k = v := if_pos rfl
theorem upd_other {β : Type} (f : List Kd → β) (k q : List Kd) (v : β) (h : q ≠ k) : upd f k v q = f q := if_neg h

theorem snoc_ne (k : List Kd) (x : Kd) : k ++ [x] ≠ k := by
  intro e
  have := congrArg List.length e
  simp at this

/-- A fresh node. -/
def zeroNode : Array Value := #[.pointer none, .pointer none, .slice none 0 0, .map none, .pointer none, .pointer none]
def freshNd (a : Nat) : Nd := ⟨a, .slice none 0 0, none⟩

/-- The tree with a new child. -/
def Tr.child (T : Tr) (k : List Kd) (n' : Nd) (x : Kd) (a : Nat) : Tr := ⟨upd (upd T.dir k (some n')) (k ++ [x]) (some (freshNd a)), T.leaf⟩

/-- What a step leaves of the tree besides. -/
structure Grew (T T' : Tr) (w w' : World) (B : Nat) : Prop where
  addr : ∀ q d, T.dir q = some d → ∃ d', T'.dir q = some d' ∧ d'.a = d.a
  kept : Stays T w w'
  foot : ∀ b, T'.foot b → T.foot b ∨ w.heap.size ≤ b
  below : Below B w w'

theorem Grew.refl (T : Tr) (w : World) (B : Nat) : Grew T T w w B := ⟨fun _ d h => ⟨d, h, rfl⟩, fun _ _ _ => rfl, fun _ h => .inl h, Below.refl _ _⟩

theorem Grew.trans {T T' T'' : Tr} {w w' w'' : World} {B : Nat} (h : Grew T T' w w' B) (g : Grew T' T'' w' w'' B) : Grew T T'' w w'' B := by
  refine ⟨fun q d hd => ?_, fun b hb hn => ?_, fun b hb => ?_, h.below.trans g.below⟩
  · obtain ⟨d', h1, h2⟩ := h.addr q d hd
    obtain ⟨d'', g1, g2⟩ := g.addr q d' h1
    exact ⟨d'', g1, g2.trans h2⟩
  · have hs := h.below.size
    rw [g.kept b (by omega) ?_, h.kept b hb hn]
    intro hf
    rcases h.foot b hf with hf | hf
    · exact hn hf
    · omega
  · have hs := h.below.size
    rcases g.foot b hb with hf | hf
    · exact h.foot b hf
    · exact .inr (by omega)

/-- Memory that a call makes and nobody reads. -/
theorem Grew.of_below {T : Tr} {w w' : World} {B : Nat} (hb : Below w.heap.size w w') (hB : B ≤ w.heap.size) : Grew T T w w' B :=
  ⟨fun _ d h => ⟨d, h, rfl⟩, fun b h _ => hb.block b h, fun _ h => .inl h, hb.mono hB⟩

theorem child_tree {w w' : World} {B c c' : Nat} {T : Tr} (H : TreeAt w B c T) (hc : c ≤ c') {k : List Kd} {n n' : Nd} (hn : T.dir k = some n) (ha : n'.a = n.a) (x : Kd) (hx : T.dir (k ++ [x]) = none) (a : Nat)
    (ha0 : w.heap.size ≤ a) (hB : B ≤ w.heap.size) (hz : w'.heap[a]? = some (.cells zeroNode 97 (0, 0)))
    (hframe : ∀ b, b < w.heap.size → ¬ n.has b → w'.heap[b]? = w.heap[b]?) (hfresh : ∀ b, n'.has b → n.has b ∨ w.heap.size ≤ b) (hna : ¬ n'.has a)
    (hnode : NodeAt w' B c' (T.child k n' x a) k n') (hbel : Below B w w') : TreeAt w' B c' (T.child k n' x a) ∧ Grew T (T.child k n' x a) w w' B := by
  have hne := snoc_ne k x
  have dk : (T.child k n' x a).dir k = some n' := by
    show upd (upd T.dir k (some n')) (k ++ [x]) (some (freshNd a)) k = _
    rw [upd_other _ _ _ _ (fun e => hne e.symm), upd_same]
  have dx : (T.child k n' x a).dir (k ++ [x]) = some (freshNd a) := upd_same _ _ _
  have dother : ∀ q, q ≠ k → q ≠ k ++ [x] → (T.child k n' x a).dir q = T.dir q := fun q h1 h2 => by
    show upd (upd T.dir k (some n')) (k ++ [x]) (some (freshNd a)) q = _
    rw [upd_other _ _ _ _ h2, upd_other _ _ _ _ h1]
  have hxx : ∀ y, T.dir (k ++ [x] ++ [y]) = none := fun y => by
    cases hd : T.dir (k ++ [x] ++ [y]) with
    | none => rfl
    | some d => exact absurd hx (H.up _ y (by rw [hd]; simp))
  have hlx : T.leaf (k ++ [x]) = none := by
    cases hd : T.leaf (k ++ [x]) with
    | none => rfl
    | some d => exact absurd hx (H.leafUp _ (by rw [hd]; simp))
  have hfx : ∀ b, (freshNd a).has b → b = a := by
    intro b hb
    rcases hb with h | h | h
    · exact h
    · cases h
    · cases h
  refine ⟨H.step hc hn ha x (some (freshNd a)) dk dx dother (fun _ _ _ => rfl) (.inl hlx) (.inr ⟨hx, _, rfl⟩) hframe hnode ?_ ?_ hfresh ?_ (fun y _ => hxx y), ?_⟩
  · intro m' hm' _
    cases hm'
    have d1 : ∀ y, (T.child k n' x a).dir (k ++ [x] ++ [y]) = none := fun y => by
      rw [dother _ (by intro e; have := congrArg List.length e; simp at this) (by intro e; have := congrArg List.length e; simp at this)]
      exact hxx y
    refine ⟨by show B ≤ a; omega, ?_, .inl ⟨rfl, [], by simp, by simp, ⟨by simp, by simp⟩, World.ownsRow_nil _ _ _ _, fun s _ => ?_⟩⟩
    · rw [d1, d1]
      have hl' : (T.child k n' x a).leaf (k ++ [x]) = none := hlx
      rw [hl']
      exact hz
    · show none = _
      unfold kidsOf
      rw [d1]; rfl
  · intro h; rw [hx] at h; cases h
  · intro m' hm' _ b hb
    cases hm'
    obtain rfl := hfx b hb
    exact ⟨ha0, hna⟩
  · refine ⟨fun q d hd => ?_, fun b hb hn' => hframe b hb fun h => hn' ⟨k, n, hn, h⟩, fun b hb => ?_, hbel⟩
    · by_cases h1 : q = k
      · subst h1
        rw [hn] at hd; cases hd
        exact ⟨n', dk, ha⟩
      · have h2 : q ≠ k ++ [x] := by rintro rfl; rw [hx] at hd; cases hd
        exact ⟨d, (dother q h1 h2).trans hd, rfl⟩
    · obtain ⟨q, d, hd, hb⟩ := hb
      by_cases h1 : q = k
      · subst h1
        rw [dk] at hd; cases hd
        rcases hfresh b hb with h | h
        · exact .inl ⟨_, n, hn, h⟩
        · exact .inr h
      · by_cases h2 : q = k ++ [x]
        · subst h2
          rw [dx] at hd; cases hd
          rw [hfx b hb]
          exact .inr ha0
        · rw [dother q h1 h2] at hd
          exact .inl ⟨q, d, hd, hb⟩

/-- How addChild ends. -/
def AddChildEnd (T : Tr) (k : List Kd) (x : Kd) (w : World) (B c : Nat) (e : Ending) (w' : World) : Prop :=
  ∃ (T' : Tr) (m : Nd), e = .returned (.pointer (some ⟨m.a, 0, none⟩)) ∧ T'.dir (k ++ [x]) = some m ∧ TreeAt w' B (c + 1) T' ∧ Grew T T' w w' B ∧ T'.leaf = T.leaf ∧ (∀ q, T'.dir q ≠ none → T.dir q ≠ none ∨ q = k ++ [x])

theorem child_new (T : Tr) (k : List Kd) (n' : Nd) (x : Kd) (a : Nat) (hk : T.dir k ≠ none) : ∀ q, (T.child k n' x a).dir q ≠ none → T.dir q ≠ none ∨ q = k ++ [x] := by
  intro q hq
  by_cases h2 : q = k ++ [x]
  · exact .inr h2
  · left
    by_cases h1 : q = k
    · rw [h1]; exact hk
    · have e : (T.child k n' x a).dir q = T.dir q := by
        show upd (upd T.dir k (some n')) (k ++ [x]) (some (freshNd a)) q = _
        rw [upd_other _ _ _ _ h2, upd_other _ _ _ _ h1]
      rwa [e] at hq

theorem ptr_some (n : Nd) : ptr (some n) = .pointer (some ⟨n.a, 0, none⟩) := rfl
theorem ptr_none : ptr none = .pointer none := rfl

set_option maxRecDepth 100000 in
set_option maxHeartbeats 3200000 in
theorem addChild_any (T : Tr) (k : List Kd) (n : Nd) (s : ByteArray) (w : World) (B c : Nat) (hB : B ≤ w.heap.size) (hz : s.size ≤ 1000) (hc : c ≤ 1000000) (H : TreeAt w B c T) (hn : T.dir k = some n) :
    Calls Tryd.prog 66 #[.pointer (some ⟨n.a, 0, none⟩), .string s] w (AddChildEnd T k (hk (bs s)) w B c) := by
  obtain ⟨hBa, hh, hkids⟩ := H.node k n hn
  have hal := blk_lt hh
  have HH := Lib.hid hh
  have HT := Lib.hid H
  by_cases hs : bs s = []
  · have e0 : s.toList.isEmpty = true := by rw [bs_toList]; simpa using hs
    have hx : hk (bs s) = .one := if_pos hs
    rw [hx]
    have c5 := blk_cell hh 5
    have c5' : w.cell? ⟨n.a, 5, none⟩ = some (ptr (T.dir (k ++ [.one]))) := c5
    clear c5
    cases hd : T.dir (k ++ [.one]) with
    | some m =>
      rw [hd, ptr_some] at c5'
      have HR : Hid (AddChildEnd T k .one w B c (.returned (.pointer (some ⟨m.a, 0, none⟩))) w) := ⟨T, m, rfl, hd, HT.out.kept (by omega) (fun _ _ => rfl), Grew.refl _ _ _, rfl, fun q h => .inl h⟩
      clear hs hx hd hh hkids H
      go_enter Tryd.func66, Tryd.ntmps66
      go_wp2_with fail
      go_ret
      exact HR.out
    | none =>
      rw [hd, ptr_none] at c5'
      have hz0 := new0 w (.cells zeroNode 97)
      have hA := blk_alloc hh (.cells zeroNode 97)
      have f5 : (w.alloc (.cells zeroNode 97)).frozen? ⟨n.a, 5, none⟩ = false := blk_free hA 5
      have f5w : w.frozen? ⟨n.a, 5, none⟩ = false := blk_free hh 5
      have d5 : (w.alloc (.cells zeroNode 97)).cell? ⟨n.a, 5, none⟩ = some (.pointer none) := (blk_cell hA 5).trans (by show some (ptr _) = _; rw [hd]; rfl)
      have hA5 := blk_set hA 5 (.pointer (some ⟨w.heap.size, 0, none⟩))
      have d5' : ((w.alloc (.cells zeroNode 97)).setCell ⟨n.a, 5, none⟩ (.pointer (some ⟨w.heap.size, 0, none⟩))).cell? ⟨n.a, 5, none⟩ = some (.pointer (some ⟨w.heap.size, 0, none⟩)) := blk_cell hA5 5
      have HR : Hid (AddChildEnd T k .one w B c (.returned (.pointer (some ⟨w.heap.size, 0, none⟩))) ((w.alloc (.cells zeroNode 97)).setCell ⟨n.a, 5, none⟩ (.pointer (some ⟨w.heap.size, 0, none⟩)))) := by
        have hst := child_tree (w' := (w.alloc (.cells zeroNode 97)).setCell ⟨n.a, 5, none⟩ (.pointer (some ⟨w.heap.size, 0, none⟩))) (c' := c + 1) HT.out (by omega) hn (n' := n) rfl .one hd w.heap.size (Nat.le_refl _) hB
          (blk_far hz0 (by simp; omega) _) (fun b hb hnb => by rw [Below.heap_setCell _ _ _ _ (fun e => hnb (.inl e)), Below.heap_alloc _ _ _ hb]) (fun b hb => .inl hb)
          (fun h => by have := (HT.out.has_lt hn h).2; omega) ?_ (((Below.refl B w).alloc hB _).setCell hBa _)
        · refine ⟨_, freshNd w.heap.size, rfl, upd_same _ _ _, hst.1, hst.2, rfl, child_new _ _ _ _ _ (by rw [hn]; simp)⟩
        · refine ⟨hBa, ?_, ?_⟩
          · refine hA5.trans ?_
            have e1 : (T.child k n .one w.heap.size).dir (k ++ [.rest]) = T.dir (k ++ [.rest]) := by
              show upd (upd T.dir k (some n)) (k ++ [.one]) _ _ = _
              rw [upd_other _ _ _ _ (by intro e; have := List.append_inj' e rfl; simp at this), upd_other _ _ _ _ (snoc_ne k _)]
            have e2 : (T.child k n .one w.heap.size).dir (k ++ [.one]) = some (freshNd w.heap.size) := upd_same _ _ _
            rw [e1, e2]
            rfl
          · have e3 : kidsOf (T.child k n .one w.heap.size) k = kidsOf T k := by
              funext t
              unfold kidsOf
              have : (T.child k n .one w.heap.size).dir (k ++ [.lit t]) = T.dir (k ++ [.lit t]) := by
                show upd (upd T.dir k (some n)) (k ++ [.one]) _ _ = _
                rw [upd_other _ _ _ _ (by intro e; have := List.append_inj' e rfl; simp at this), upd_other _ _ _ _ (snoc_ne k _)]
              rw [this]
            rw [e3]
            refine hkids.kept (by omega) fun b hb => ?_
            rw [Below.heap_setCell _ _ _ _ ((HT.out.node k n hn).other hb), Below.heap_alloc _ _ _ (HT.out.has_lt hn (.inr hb)).2]
      clear hs hx hd hh hkids H hz0 hA hA5
      go_enter Tryd.func66, Tryd.ntmps66
      go_wp2_with fail
      go_ret
      have h := HR.out
      rw [World.setCell_alloc_past _ _ _ _ hal] at h
      exact h
  · have e0 : s.toList.isEmpty = false := by rw [bs_toList]; simpa using hs
    have hx : hk (bs s) = .lit (bs s) := if_neg hs
    have HFC := Lib.hid (findChild_any T k n s w B c hz (H.node k n hn))
    rw [hx] at HFC ⊢
    unfold ChildEnd addrOf at HFC
    cases hd : T.dir (k ++ [.lit (bs s)]) with
    | some m =>
      rw [hd] at HFC
      simp only [Option.map_some] at HFC
      have HR : Hid (∀ w', Below w.heap.size w w' → AddChildEnd T k (.lit (bs s)) w B c (.returned (.pointer (some ⟨m.a, 0, none⟩))) w') := fun w' hb =>
        ⟨T, m, rfl, hd, (HT.out.below hb).kept (by omega) (fun _ _ => rfl), Grew.of_below hb hB, rfl, fun q h => .inl h⟩
      clear hs hx hd hh hkids H
      go_enter Tryd.func66, Tryd.ntmps66
      go_wp2_with (go_at_call 54; (with_reducible refine HFC.out.mono ?_); rintro e w1 ⟨rfl, hb⟩; have HB1 := Lib.hid hb; clear hb)
      go_ret
      exact HR.out _ HB1.out
    | none =>
      rw [hd] at HFC
      simp only [Option.map_none] at HFC
      have hkn : kidsOf T k (bs s) = none := by unfold kidsOf; rw [hd]; rfl
      have HAD : Hid (∀ w1, Below w.heap.size w w1 → Calls Tryd.prog 78 #[.pointer (some ⟨n.a, 2, none⟩), .string s, .pointer (some ⟨w1.heap.size, 0, none⟩)] (w1.alloc (.cells zeroNode 97))
          (AddEnd (w1.alloc (.cells zeroNode 97)) B c n (pbV (T.leaf k)) (hbV (T.leaf k)) (ptr (T.dir (k ++ [.rest]))) (ptr (T.dir (k ++ [.one]))) (kidsOf T k) (bs s) w1.heap.size)) := by
        intro w1 hb
        have hh1 := blk_alloc (blk_below HH.out hb) (.cells zeroNode 97)
        have hk1 : Kids (w1.alloc (.cells zeroNode 97)) B c n (kidsOf T k) := hkids.kept (Nat.le_refl _) fun b hb' => by
          rw [Below.heap_alloc _ _ _ (by have := (HT.out.has_lt hn (.inr hb')).2; have := hb.size; omega)]
          exact hb.block b (HT.out.has_lt hn (.inr hb')).2
        exact add_any n s w1.heap.size _ B c _ _ _ _ (kidsOf T k) hs hz hBa hc hh1 hkn hk1
      have HR : Hid (∀ (w1 : World) (e : Ending) (w' : World), Below w.heap.size w w1 →
          AddEnd (w1.alloc (.cells zeroNode 97)) B c n (pbV (T.leaf k)) (hbV (T.leaf k)) (ptr (T.dir (k ++ [.rest]))) (ptr (T.dir (k ++ [.one]))) (kidsOf T k) (bs s) w1.heap.size e w' →
          e = .returned (.tuple #[]) ∧ AddChildEnd T k (.lit (bs s)) w B c (.returned (.pointer (some ⟨w1.heap.size, 0, none⟩))) w') := by
        rintro w1 e w' hb ⟨he, n', ha, hnode, hkids', hfr, hfresh, hbel⟩
        refine ⟨he, ?_⟩
        have hsz := hb.size
        have hfr' : ∀ b, b < w.heap.size → ¬ n.has b → w'.heap[b]? = w.heap[b]? := fun b hb' hn' => by
          rw [hfr b (by simp; omega) hn', Below.heap_alloc _ _ _ (by omega), hb.block b hb']
        have hfresh' : ∀ b, n'.has b → n.has b ∨ w1.heap.size + 1 ≤ b := fun b hb' => by
          rcases hfresh b hb' with h | h
          · exact .inl h
          · exact .inr (by simpa using h)
        have hst := child_tree (w' := w') (c' := c + 1) HT.out (by omega) hn (n' := n') ha (.lit (bs s)) hd w1.heap.size hsz hB
          (by rw [hfr _ (by simp) (fun h => by have := (HT.out.has_lt hn h).2; omega)]; exact new0 w1 _) hfr' (fun b hb' => by rcases hfresh' b hb' with h | h; exact .inl h; exact .inr (by omega))
          (fun h => by
            rcases hfresh' _ h with h | h
            · have := (HT.out.has_lt hn h).2; omega
            · omega) ?_ (((hb.mono hB).alloc (by omega) _).trans hbel)
        · exact ⟨_, freshNd w1.heap.size, rfl, upd_same _ _ _, hst.1, hst.2, rfl, child_new _ _ _ _ _ (by rw [hn]; simp)⟩
        · have e1 : ∀ y, y ≠ Kd.lit (bs s) → (T.child k n' (.lit (bs s)) w1.heap.size).dir (k ++ [y]) = T.dir (k ++ [y]) := fun y hy => by
            show upd (upd T.dir k (some n')) (k ++ [.lit (bs s)]) _ _ = _
            rw [upd_other _ _ _ _ (by intro e; have := List.append_inj' e rfl; simp at this; exact hy this), upd_other _ _ _ _ (snoc_ne k _)]
          refine ⟨by rw [ha]; exact hBa, ?_, ?_⟩
          · rw [ha, e1 _ (by simp), e1 _ (by simp)]
            exact hnode
          · have e3 : kidsOf (T.child k n' (.lit (bs s)) w1.heap.size) k = fun t => if t = bs s then some w1.heap.size else kidsOf T k t := by
              funext t
              unfold kidsOf
              by_cases ht : t = bs s
              · subst ht
                rw [if_pos rfl]
                have : (T.child k n' (.lit (bs s)) w1.heap.size).dir (k ++ [.lit (bs s)]) = some (freshNd w1.heap.size) := upd_same _ _ _
                rw [this]; rfl
              · rw [if_neg ht, e1 _ (by simpa using ht)]
            rw [e3]
            exact hkids'
      clear hs hx hd hh hkids H hkn
      go_enter Tryd.func66, Tryd.ntmps66
      go_wp2_with (first
        | (go_at_call 54; (with_reducible refine HFC.out.mono ?_); rintro e w1 ⟨rfl, hb⟩; have HB1 := Lib.hid hb; clear hb)
        | (go_at_call 78; go_loud (refine (HAD.out _ HB1.out).mono ?_); intro e w2 hae; obtain ⟨rfl, hend⟩ := HR.out _ _ _ HB1.out hae; have HE := Lib.hid hend; clear hae hend))
      go_ret
      exact HE.out
end Go.Proofs.YtgkhfcoieknjeaaDoor

namespace Go.Proofs.YtgkhfcoieknjeaaDoor
open Go.RowKit

def Tr.put (T : Tr) (k : List Kd) (f : Lf) : Tr := ⟨T.dir, upd T.leaf k (some f)⟩

/-- What stands for all that is left is a place where a pattern ends. -/
def RestOk (T : Tr) : Prop := ∀ k, T.dir (k ++ [.rest]) ≠ none → T.leaf (k ++ [.rest]) ≠ none

/-- How a step that puts a pattern ends. -/
def PutEnd (T : Tr) (k : List Kd) (pb hb : Nat) (w : World) (B c : Nat) (e : Ending) (w' : World) : Prop :=
  e = .returned (.tuple #[]) ∧ ∃ T' : Tr, TreeAt w' B c T' ∧ Grew T T' w w' B ∧ T'.leaf = upd T.leaf k (some ⟨pb, hb⟩) ∧ RestOk T'

theorem restOk_put {T T' : Tr} {k : List Kd} {f : Lf} (h : RestOk T) (hd : ∀ q, T'.dir (q ++ [.rest]) ≠ none → T.dir (q ++ [.rest]) ≠ none ∨ q ++ [Kd.rest] = k) (hl : T'.leaf = upd T.leaf k (some f)) : RestOk T' := by
  intro q hq
  rw [hl]
  by_cases he : q ++ [Kd.rest] = k
  · rw [he, upd_same]; simp
  · rw [upd_other _ _ _ _ he]
    rcases hd q hq with h1 | h1
    · exact h q h1
    · exact absurd h1 he

set_option maxRecDepth 100000 in
set_option maxHeartbeats 1600000 in
theorem set_any (T : Tr) (k : List Kd) (n : Nd) (pb hb : Nat) (w : World) (B c : Nat) (H : TreeAt w B c T) (hn : T.dir k = some n) (hl : T.leaf k = none) :
    Calls Tryd.prog 79 #[.pointer (some ⟨n.a, 0, none⟩), .pointer (some ⟨pb, 0, none⟩), .pointer (some ⟨hb, 0, none⟩)] w fun e w' => e = .returned (.tuple #[]) ∧ TreeAt w' B c (T.put k ⟨pb, hb⟩) ∧ Grew T (T.put k ⟨pb, hb⟩) w w' B := by
  obtain ⟨hBa, hh, hkids⟩ := H.node k n hn
  have c0 : w.cell? ⟨n.a, 0, none⟩ = some (.pointer none) := (blk_cell hh 0).trans (by rw [hl]; rfl)
  have c1 : w.cell? ⟨n.a, 1, none⟩ = some (.pointer none) := (blk_cell hh 1).trans (by rw [hl]; rfl)
  have f0 := blk_free hh 0
  have h1 := blk_set hh 0 (.pointer (some ⟨pb, 0, none⟩))
  have d1 : (w.setCell ⟨n.a, 0, none⟩ (.pointer (some ⟨pb, 0, none⟩))).cell? ⟨n.a, 1, none⟩ = some (.pointer none) := (blk_cell h1 1).trans (by rw [hl]; rfl)
  have f1 := blk_free h1 1
  have h2 := blk_set h1 1 (.pointer (some ⟨hb, 0, none⟩))
  have hne := snoc_ne k .rest
  have HR : Hid (TreeAt ((w.setCell ⟨n.a, 0, none⟩ (.pointer (some ⟨pb, 0, none⟩))).setCell ⟨n.a, 1, none⟩ (.pointer (some ⟨hb, 0, none⟩))) B c (T.put k ⟨pb, hb⟩) ∧ Grew T (T.put k ⟨pb, hb⟩) w ((w.setCell ⟨n.a, 0, none⟩ (.pointer (some ⟨pb, 0, none⟩))).setCell ⟨n.a, 1, none⟩ (.pointer (some ⟨hb, 0, none⟩))) B) := by
    have hlo : ∀ q, q ≠ k → (T.put k ⟨pb, hb⟩).leaf q = T.leaf q := fun q hq => upd_other _ _ _ _ hq
    refine ⟨H.step (Nat.le_refl _) (n' := n) hn rfl .rest (T.dir (k ++ [.rest])) hn rfl (fun _ _ _ => rfl) (fun q h _ => hlo q h) ?_ (.inl rfl) ?_ ?_ (fun m' h h' => ?_) (fun _ => hlo _ hne) (fun b hb => .inl hb) (fun m' h h' => ?_) (fun y hy => ?_), ⟨fun q d hd => ⟨d, hd, rfl⟩, fun b hb hn' => ?_, fun b hb => .inl hb, (((Below.refl B w).setCell (p := ⟨n.a, 0, none⟩) hBa _).setCell (p := ⟨n.a, 1, none⟩) hBa _)⟩⟩
    · rw [hlo _ hne]
      cases hd : T.leaf (k ++ [.rest]) with
      | none => exact .inl rfl
      | some d => exact .inr (H.leafUp _ (by rw [hd]; simp))
    · intro b hb hnb
      have : b ≠ n.a := fun e => hnb (.inl e)
      rw [Below.heap_setCell _ _ _ _ this, Below.heap_setCell _ _ _ _ this]
    · refine ⟨hBa, ?_, ?_⟩
      · refine h2.trans ?_
        have e1 : (T.put k ⟨pb, hb⟩).leaf k = some ⟨pb, hb⟩ := upd_same _ _ _
        rw [e1]
        rfl
      · refine hkids.kept (Nat.le_refl _) fun b hb' => ?_
        have := (H.node k n hn).other hb'
        rw [Below.heap_setCell _ _ _ _ this, Below.heap_setCell _ _ _ _ this]
    · rw [h'] at h; cases h
    · rw [h'] at h; cases h
    · cases hd : T.dir (k ++ [.rest] ++ [y]) with
      | none => rfl
      | some d => exact absurd hy (H.up _ y (by rw [hd]; simp))
    · have : b ≠ n.a := by
        rintro rfl
        exact hn' ⟨k, n, hn, .inl rfl⟩
      rw [Below.heap_setCell _ _ _ _ this, Below.heap_setCell _ _ _ _ this]
  clear hh hkids H hn hl h1 h2 hne
  go_enter Tryd.func79, Tryd.ntmps79
  go_wp2_with fail
  go_end0
  exact ⟨rfl, HR.out⟩

/-- The pieces of a pattern that is good. -/
def okSegT : List Seg → Prop
  | [] => True
  | g :: r => (g.multi = true → r = []) ∧ (g.multi = false → g.wild = false → g.s ≠ []) ∧ g.s.length ≤ 1000 ∧ okSegT r

theorem kindOf_lit {g : Seg} (h1 : g.multi = false) (h2 : g.wild = false) : kindOf g = .lit g.s := by simp [kindOf, h1, h2]
theorem kindOf_one {g : Seg} (h1 : g.multi = false) (h2 : g.wild = true) : kindOf g = .one := by simp [kindOf, h1, h2]
theorem kindOf_multi {g : Seg} (h1 : g.multi = true) : kindOf g = .rest := by simp [kindOf, h1]

theorem TreeAt.drew {w : World} {B c : Nat} {T : Tr} (H : TreeAt w B c T) (j : Nat) : TreeAt (w.drewN j) B c T := H.kept (Nat.le_refl _) fun _ _ => rfl

set_option maxRecDepth 100000 in
set_option maxHeartbeats 3200000 in
theorem addSegments_any (pb hb B : Nat) : ∀ (l : List Seg) (T : Tr) (k : List Kd) (n : Nd) (sv : Value) (w : World) (c : Nat), TreeAt w B c T → RestOk T → T.dir k = some n → SegsAt w sv l → okSegT l → T.leaf (k ++ l.map kindOf) = none → c + l.length ≤ 1000000 → l.length ≤ 1000 → B ≤ w.heap.size →
    (∀ b, sv.ownBlock = some b → ¬ T.foot b) →
    Calls Tryd.prog 67 #[.pointer (some ⟨n.a, 0, none⟩), sv, .pointer (some ⟨pb, 0, none⟩), .pointer (some ⟨hb, 0, none⟩)] w (PutEnd T (k ++ l.map kindOf) pb hb w B (c + l.length))
  | [], T, k, n, sv, w, c, H, HRO, hn, HS, _, hl, hc, _, _, _ => by
    obtain ⟨A, cap, rfl, _, _⟩ := HS
    have hl' : T.leaf k = none := by simpa using hl
    have HST := Lib.hid (set_any T k n pb hb w B c H hn hl')
    have HR := Lib.hid HRO
    clear H HRO hn hl hl'
    go_enter Tryd.func67, Tryd.ntmps67
    go_wp2_with (go_at_call 79; (with_reducible refine HST.out.mono ?_); rintro e w1 ⟨rfl, h1, h2⟩; have H1 := Lib.hid h1; have H2 := Lib.hid h2; clear h1 h2)
    go_end0
    refine ⟨rfl, _, H1.out, H2.out, ?_, ?_⟩
    · show upd T.leaf k _ = _
      simp
    · exact restOk_put (T := T) (k := k) HR.out (fun q h => .inl h) rfl
  | g :: r, T, k, n, sv, w, c, H, HRO, hn, HS, hok, hl, hc, hlz, hB, hsv => by
    obtain ⟨hok1, hok2, hok3, hok4⟩ := hok
    have HSV := Lib.hid HS
    obtain ⟨A, cap, rfl, hlc, hf⟩ := HS
    obtain ⟨b, o, rfl, hbl, d0, d1, d2⟩ := hf 0 g rfl
    have hnf : ¬ T.foot b := hsv b rfl
    have HF := Lib.hid hf
    have HT := Lib.hid H
    have HRR := Lib.hid HRO
    have HNF := Lib.hid hnf
    obtain ⟨hBa, hh, hkids⟩ := H.node k n hn
    have hal := blk_lt hh
    obtain ⟨gs, gw, gm⟩ := g
    simp only at hok1 hok2 hok3
    have d0' : w.cell? ⟨b, o, none⟩ = some (.string ⟨gs.toArray⟩) := by simpa [strV] using d0
    have d1' : w.cell? ⟨b, o + 1, none⟩ = some (.bool gw) := by simpa using d1
    have d2' : w.cell? ⟨b, o + 2, none⟩ = some (.bool gm) := by simpa using d2
    have HLF := Lib.hid hl
    have HO4 := Lib.hid hok4
    have j0 : ¬ ((r.length : Int) + 1 = 0) := by omega
    clear d0 d1 d2 hf hnf hsv hl hok4
    cases gm
    case true =>
      obtain rfl := hok1 rfl
      have hdr : T.dir (k ++ [.rest]) = none := by
        cases hd : T.dir (k ++ [.rest]) with
        | none => rfl
        | some d =>
          exfalso
          have := HRR.out k (by rw [hd]; simp)
          exact this (by simpa [kindOf] using HLF.out)
      have hk0 : (k ++ [Kd.rest]) = k ++ List.map kindOf [⟨gs, gw, true⟩] := rfl
      have hlr : T.leaf (k ++ [.rest]) = none := HLF.out
      have c4 : w.cell? ⟨n.a, 4, none⟩ = some (.pointer none) := (blk_cell hh 4).trans (by show some (ptr (T.dir (k ++ [.rest]))) = _; rw [hdr]; rfl)
      have f4w : w.frozen? ⟨n.a, 4, none⟩ = false := blk_free hh 4
      have hs1 := new0 w (.cells #[.string ⟨gs.toArray⟩, .bool gw, .bool true] 100)
      have hA1 := blk_alloc hh (.cells #[.string ⟨gs.toArray⟩, .bool gw, .bool true] 100)
      have hA2 := blk_alloc hA1 (.cells zeroNode 97)
      have hz1 := new1 w (.cells #[.string ⟨gs.toArray⟩, .bool gw, .bool true] 100) (.cells zeroNode 97)
      have hA4 := blk_set hA2 4 (.pointer (some ⟨w.heap.size + 1, 0, none⟩))
      obtain ⟨W, hW⟩ : ∃ W, W = ((w.alloc (.cells #[.string ⟨gs.toArray⟩, .bool gw, .bool true] 100)).alloc (.cells zeroNode 97)).setCell ⟨n.a, 4, none⟩ (.pointer (some ⟨w.heap.size + 1, 0, none⟩)) := ⟨_, rfl⟩
      have hfr : ∀ b', b' < w.heap.size → ¬ n.has b' → W.heap[b']? = w.heap[b']? := fun b' hb' hnb => by
        rw [hW, Below.heap_setCell _ _ _ _ (fun e => hnb (.inl e)), Below.heap_alloc _ _ _ (by simp; omega), Below.heap_alloc _ _ _ hb']
      have hst := child_tree (w' := W) (c' := c + 1) HT.out (by omega) hn (n' := n) rfl .rest hdr (w.heap.size + 1) (by omega) hB
        (by rw [hW]; exact blk_far hz1 (by simp; omega) _) hfr (fun b hb => .inl hb) (fun h => by have := (HT.out.has_lt hn h).2; omega) ?_ (by rw [hW]; exact (((Below.refl B w).alloc hB _).alloc (by simp; omega) _).setCell hBa _)
      · obtain ⟨ht1, hg1⟩ := hst
        have hd1 : (T.child k n .rest (w.heap.size + 1)).dir (k ++ [.rest]) = some (freshNd (w.heap.size + 1)) := upd_same _ _ _
        have HST := Lib.hid (set_any _ _ _ pb hb W B (c + 1) ht1 hd1 hlr)
        have HG1 := Lib.hid hg1
        have HRO1 : Hid (∀ q, (T.child k n .rest (w.heap.size + 1)).dir (q ++ [.rest]) ≠ none → T.dir (q ++ [.rest]) ≠ none ∨ q ++ [Kd.rest] = k ++ [Kd.rest]) := fun q hq => child_new T k n .rest _ (by rw [hn]; simp) _ hq
        have hWn : W = (((w.setCell ⟨n.a, 4, none⟩ (.pointer (some ⟨w.heap.size + 1, 0, none⟩))).alloc (.cells #[.string ⟨gs.toArray⟩, .bool gw, .bool true] 100)).alloc (.cells zeroNode 97)) := by
          rw [hW, World.setCell_alloc_past _ _ _ _ (by simp; omega), World.setCell_alloc_past _ _ _ _ hal]
        rw [hWn] at HST HG1
        simp only [freshNd] at HST
        clear hA1 hA2 hz1 hA4 hW hfr ht1 hg1 hd1 hWn hlr hdr hh hkids H HRO HLF hs1 hn hk0
        go_enter Tryd.func67, Tryd.ntmps67
        go_wp2_with (go_at_call 79; go_loud (refine HST.out.mono ?_); rintro e w1 ⟨rfl, h1, h2⟩; have H1 := Lib.hid h1; have H2 := Lib.hid h2; clear h1 h2)
        go_end0
        refine ⟨rfl, _, H1.out, HG1.out.trans H2.out, rfl, ?_⟩
        exact restOk_put (T := T) (T' := (T.child k n .rest (w.heap.size + 1)).put (k ++ [.rest]) ⟨pb, hb⟩) (k := k ++ [Kd.rest]) (f := ⟨pb, hb⟩) HRR.out HRO1.out rfl
      · refine ⟨hBa, ?_, ?_⟩
        · rw [hW]
          refine hA4.trans ?_
          have e1 : (T.child k n .rest (w.heap.size + 1)).dir (k ++ [.rest]) = some (freshNd (w.heap.size + 1)) := upd_same _ _ _
          have e2 : (T.child k n .rest (w.heap.size + 1)).dir (k ++ [.one]) = T.dir (k ++ [.one]) := by
            show upd (upd T.dir k (some n)) (k ++ [.rest]) _ _ = _
            rw [upd_other _ _ _ _ (by intro e; have := List.append_inj' e rfl; simp at this), upd_other _ _ _ _ (snoc_ne k _)]
          rw [e1, e2]
          rfl
        · have e3 : kidsOf (T.child k n .rest (w.heap.size + 1)) k = kidsOf T k := by
            funext t
            unfold kidsOf
            have : (T.child k n .rest (w.heap.size + 1)).dir (k ++ [.lit t]) = T.dir (k ++ [.lit t]) := by
              show upd (upd T.dir k (some n)) (k ++ [.rest]) _ _ = _
              rw [upd_other _ _ _ _ (by intro e; have := List.append_inj' e rfl; simp at this), upd_other _ _ _ _ (snoc_ne k _)]
            rw [this]
          rw [e3]
          refine hkids.kept (by omega) fun b' hb' => ?_
          rw [hW, Below.heap_setCell _ _ _ _ ((HT.out.node k n hn).other hb'), Below.heap_alloc _ _ _ (by have := (HT.out.has_lt hn (.inr hb')).2; simp; omega), Below.heap_alloc _ _ _ (HT.out.has_lt hn (.inr hb')).2]
    case false =>
      have HNX : Hid (∀ (x : ByteArray) (y : Kd), hk (bs x) = y → y ≠ .rest → kindOf ⟨gs, gw, false⟩ = y → x.size ≤ 1000 → ∀ W, Below w.heap.size w W → Calls Tryd.prog 66 #[.pointer (some ⟨n.a, 0, none⟩), .string x] W fun e w' =>
          ∃ a1, e = .returned (.pointer (some ⟨a1, 0, none⟩)) ∧ (∀ (s' : World) (X : Option Addr) (q : Nat), r.length ≤ q → (0 < r.length → X = some ⟨b, o + 3, none⟩) → (∀ b', (Value.slice X r.length q).ownBlock = some b' → b' = b) → Below w'.heap.size w' s' → Calls Tryd.prog 67 #[.pointer (some ⟨a1, 0, none⟩), .slice X r.length q, .pointer (some ⟨pb, 0, none⟩), .pointer (some ⟨hb, 0, none⟩)] s' fun e w2 => PutEnd T (k ++ List.map kindOf (⟨gs, gw, false⟩ :: r)) pb hb w B (c + (r.length + 1)) e w2 ∧ ∀ b', b' < W.heap.size → ¬ T.foot b' → w2.heap[b']? = s'.heap[b']?) ∧ Below B W w' ∧ (∀ b', b' < W.heap.size → ¬ T.foot b' → w'.heap[b']? = W.heap[b']?)) := by
        intro x y hx hyr hky hxz W hbW
        have hBW : B ≤ W.heap.size := by have := hbW.size; omega
        refine (addChild_any T k n x W B c hBW hxz (by omega) (HT.out.below hbW) hn).mono ?_
        rintro e w1 ⟨T1, m, rfl, hdm, ht1, hg1, hl1, hnew⟩
        rw [hx] at hdm hnew
        refine ⟨m.a, rfl, fun s' X q hq hX hXb hs' => ?_, hg1.below, hg1.kept⟩
        have hsz1 := hg1.below.size
        have hszW := hbW.size
        have hk1 : k ++ List.map kindOf (⟨gs, gw, false⟩ :: r) = (k ++ [y]) ++ r.map kindOf := by simp [hky]
        have hgW : Grew T T1 w w1 B := (Grew.of_below hbW hB).trans hg1
        have hgs : Grew T T1 w s' B := hgW.trans (Grew.of_below hs' (by omega))
        have hRO1 : RestOk T1 := by
          intro q hq
          rw [hl1]
          rcases hnew _ hq with h | h
          · exact HRR.out q h
          · exfalso
            have := List.append_inj' h rfl
            simp at this
            exact hyr this.2.symm
        have hlf1 : T1.leaf ((k ++ [y]) ++ r.map kindOf) = none := by rw [hl1, ← hk1]; exact HLF.out
        have hSr : SegsAt s' (.slice X r.length q) r := by
          refine ⟨_, q, rfl, hq, fun j g hj => ?_⟩
          obtain ⟨b', o', he, hbl', h0, h1, h2⟩ := HF.out (j + 1) g (by simpa using hj)
          simp only [Option.some.injEq, Addr.mk.injEq, and_true] at he
          obtain ⟨rfl, rfl⟩ := he
          have hheap : s'.heap[b]? = w.heap[b]? := hgs.kept b hbl HNF.out
          have e : o + (j + 1) * 3 = o + 3 + j * 3 := by omega
          rw [e] at h0 h1 h2
          exact ⟨b, o + 3, hX (by have := (List.getElem?_eq_some_iff.1 hj).1; omega), by have := hgs.below.size; omega, (World.cell?_of_block (a := ⟨b, o + 3 + j * 3, none⟩) hheap).trans h0, (World.cell?_of_block (a := ⟨b, o + 3 + j * 3 + 1, none⟩) hheap).trans h1, (World.cell?_of_block (a := ⟨b, o + 3 + j * 3 + 2, none⟩) hheap).trans h2⟩
        rw [hk1]
        refine (addSegments_any pb hb B r T1 (k ++ [y]) m _ s' (c + 1) (ht1.below hs') hRO1 hdm hSr HO4.out hlf1 (by simp at hc; omega) (by simp at hlz; omega) (by have := hs'.size; omega) ?_).mono ?_
        · intro b' hb' hf'
          obtain rfl := hXb b' hb'
          rcases hgW.foot _ hf' with h | h
          · exact HNF.out h
          · omega
        · rintro e w2 ⟨rfl, T2, t1, t2, t3, t4⟩
          refine ⟨⟨rfl, T2, by rw [show c + (r.length + 1) = c + 1 + r.length by omega]; exact t1, hgs.trans t2, by rw [t3, hl1], t4⟩, fun b' hb' hn' => t2.kept b' (by have := hs'.size; omega) fun hf' => ?_⟩
          rcases hg1.foot b' hf' with h | h
          · exact hn' h
          · omega
      have hs1 := new0 w (.cells #[.string ⟨gs.toArray⟩, .bool gw, .bool false] 100)
      have HBA : Hid (Below w.heap.size w (w.alloc (.cells #[.string ⟨gs.toArray⟩, .bool gw, .bool false] 100))) := (Below.refl _ _).alloc (Nat.le_refl _) _
      have HFL : Hid (∀ b', T.foot b' → b' < w.heap.size) := fun b' h => (HT.out.foot_lt h).2
      have i1 : (1 : Int) ≤ (r.length : Int) + 1 := by omega
      have i2 : (1 : Int) ≤ (cap : Int) := by simp at hlc; omega
      cases gw
      case true =>
        have HC1 := HNX.out ⟨#[]⟩ .one (by rfl) (by simp) rfl (by decide)
        have HC := Lib.hid HC1
        clear HC1 HNX hh hkids H HRO hn hs1
        go_enter Tryd.func67, Tryd.ntmps67
        go_upto_region 10 with fail
        obtain ⟨wA, hwA⟩ : ∃ wA, wA = w.alloc (.cells #[.string ⟨gs.toArray⟩, .bool true, .bool false] 100) := ⟨_, rfl⟩
        rw [← hwA] at HBA ⊢
        clear hwA
        have HD : Hid (Below w.heap.size w wA.drew) := below_drew3 HBA.out 1
        by_cases hc1 : cap = 1
        all_goals
          go_region_held3 (fun _ => True) (exact trivial)
            (first
              | (go_at_call 66; (with_reducible refine (HC.out _ HD.out).mono ?_); rintro e w1 ⟨a1, rfl, hcall, _, _⟩; have HCALL := Lib.hid hcall; clear hcall)
              | (go_at_call 67; (with_reducible refine (HCALL.out _ _ _ ?_ ?_ ?_ (Below.refl _ _)).mono ?_); (simp at hlc; omega); (intro h0; first | rfl | (exfalso; simp at hlc; omega)); (intro b' hb'; exact (Option.some.inj hb').symm); rintro e w2 ⟨⟨rfl, hpe2⟩, _⟩; have HPE := Lib.hid hpe2; clear hpe2))
        all_goals
          go_wp2_with fail
          go_end0
          exact ⟨rfl, HPE.out⟩
      case false =>
        have hgn : gs ≠ [] := hok2 rfl rfl
        have hbg : bs (⟨gs.toArray⟩ : ByteArray) = gs := by simp [bs]
        have HC1 := HNX.out ⟨gs.toArray⟩ (.lit gs) (by rw [hbg]; exact if_neg hgn) (by simp) rfl (by simp [ByteArray.size]; exact hok3)
        have HC := Lib.hid HC1
        have s0w := blk_cell hs1 0
        clear HC1 HNX hh hkids H HRO hn hs1 hgn hbg
        go_enter Tryd.func67, Tryd.ntmps67
        go_upto_region 11 with fail
        obtain ⟨wA, hwA⟩ : ∃ wA, wA = w.alloc (.cells #[.string ⟨gs.toArray⟩, .bool false, .bool false] 100) := ⟨_, rfl⟩
        have hszA : wA.heap.size = w.heap.size + 1 := by rw [hwA]; simp
        rw [← hwA] at HBA s0w ⊢
        clear hwA
        have HD : Hid (Below w.heap.size w wA.drew) := below_drew3 HBA.out 1
        have s0 : wA.drew.cell? ⟨w.heap.size, 0, none⟩ = some (.string ⟨gs.toArray⟩) := s0w
        have hszD : wA.drew.heap.size = w.heap.size + 1 := hszA
        have HNFS : Hid (¬ T.foot w.heap.size) := fun h => by have := HFL.out _ h; omega
        by_cases hc1 : cap = 1
        all_goals
          go_region_held3 (fun w' => w'.cell? ⟨w.heap.size, 0, none⟩ = some (.string ⟨gs.toArray⟩)) (first | exact s0 | exact s1 | exact s2)
            (first
              | (go_at_call 66; (with_reducible refine (HC.out _ HD.out).mono ?_); rintro e w1 ⟨a1, rfl, hcall, _, hkp⟩; have s1 : w1.cell? ⟨w.heap.size, 0, none⟩ = some (.string ⟨gs.toArray⟩) := (World.cell?_of_block (a := ⟨w.heap.size, 0, none⟩) (hkp w.heap.size (by omega) HNFS.out)).trans s0; have HCALL := Lib.hid hcall; clear hcall hkp)
              | (go_at_call 67; (with_reducible refine (HCALL.out _ _ _ ?_ ?_ ?_ (Below.refl _ _)).mono ?_); (simp at hlc; omega); (intro h0; first | rfl | (exfalso; simp at hlc; omega)); (intro b' hb'; exact (Option.some.inj hb').symm); rintro e w2 ⟨⟨rfl, hpe2⟩, hkp2⟩; have s2 : w2.cell? ⟨w.heap.size, 0, none⟩ = some (.string ⟨gs.toArray⟩) := (World.cell?_of_block (a := ⟨w.heap.size, 0, none⟩) (hkp2 w.heap.size (by omega) HNFS.out)).trans s1; have HPE := Lib.hid hpe2; clear hpe2 hkp2))
        all_goals
          go_wp2_with fail
          go_end0
          exact ⟨rfl, HPE.out⟩
end Go.Proofs.YtgkhfcoieknjeaaDoor

namespace Go.Proofs.YtgkhfcoieknjeaaDoor
open Go.RowKit

theorem hk_ne_rest (h : List UInt8) : hk h ≠ .rest := hk_rest h

theorem restOk_child {T T1 : Tr} {k : List Kd} {x : Kd} (hx : x ≠ .rest) (h : RestOk T) (hl : T1.leaf = T.leaf) (hnew : ∀ q, T1.dir q ≠ none → T.dir q ≠ none ∨ q = k ++ [x]) : RestOk T1 := by
  intro q hq
  rw [hl]
  rcases hnew _ hq with h1 | h1
  · exact h q h1
  · have := List.append_inj' h1 rfl
    simp at this
    exact absurd this.2.symm hx

set_option maxRecDepth 100000 in
set_option maxHeartbeats 3200000 in
theorem addPattern_any (T : Tr) (n0 : Nd) (pb hb B : Nat) (m h : ByteArray) (l : List Seg) (w : World) (c : Nat) (H : TreeAt w B c T) (HRO : RestOk T) (hn : T.dir [] = some n0) (HP : PatAt w pb m h l) (hok : okSegT l)
    (hfp : ¬ T.foot pb) (hfs : ∀ sv g, w.cell? ⟨pb, 3, none⟩ = some sv → sv.ownBlock = some g → ¬ T.foot g ∧ g < w.heap.size) (hl : T.leaf (hk (bs h) :: hk (bs m) :: l.map kindOf) = none) (hc : c + 2 + l.length ≤ 1000000) (hlz : l.length ≤ 1000) (hB : B ≤ w.heap.size) (hm : m.size ≤ 1000) (hh : h.size ≤ 1000) :
    Calls Tryd.prog 53 #[.pointer (some ⟨n0.a, 0, none⟩), .pointer (some ⟨pb, 0, none⟩), .pointer (some ⟨hb, 0, none⟩)] w (PutEnd T (hk (bs h) :: hk (bs m) :: l.map kindOf) pb hb w B (c + 2 + l.length)) := by
  obtain ⟨hpb, c1, c2, sv, c3, hsv⟩ := HP
  obtain ⟨A, cap, rfl, hlc, hf⟩ := hsv
  have HSV : Hid (SegsAt w (.slice A l.length cap) l) := ⟨A, cap, rfl, hlc, hf⟩
  have HFS : Hid (∀ g, (Value.slice A l.length cap).ownBlock = some g → ¬ T.foot g ∧ g < w.heap.size) := fun g hg => hfs _ g c3 hg
  have HA := Lib.hid (addChild_any T [] n0 h w B c hB hh (by omega) H hn)
  have HT := Lib.hid H
  have HR := Lib.hid HRO
  have HOK := Lib.hid hok
  have HLF := Lib.hid hl
  have HFP := Lib.hid hfp
  have HKEEP : Hid (∀ (T' : Tr) (w' : World), Grew T T' w w' B → w'.cell? ⟨pb, 1, none⟩ = some (.string m) ∧ w'.cell? ⟨pb, 2, none⟩ = some (.string h) ∧ w'.cell? ⟨pb, 3, none⟩ = some (.slice A l.length cap) ∧ SegsAt w' (.slice A l.length cap) l ∧ ∀ g, (Value.slice A l.length cap).ownBlock = some g → ¬ T'.foot g) := by
    intro T' w' hg
    have hpbk : w'.heap[pb]? = w.heap[pb]? := hg.kept pb hpb hfp
    refine ⟨(World.cell?_of_block (a := ⟨pb, 1, none⟩) hpbk).trans c1, (World.cell?_of_block (a := ⟨pb, 2, none⟩) hpbk).trans c2, (World.cell?_of_block (a := ⟨pb, 3, none⟩) hpbk).trans c3, ⟨A, cap, rfl, hlc, fun j g hj => ?_⟩, fun g hg' hf' => ?_⟩
    · obtain ⟨b, o, hA, hbl, d0, d1, d2⟩ := hf j g hj
      have hfb := (HFS.out b (by rw [hA]; rfl)).1
      have hbk : w'.heap[b]? = w.heap[b]? := hg.kept b hbl hfb
      exact ⟨b, o, hA, by have := hg.below.size; omega, (World.cell?_of_block (a := ⟨b, o + j * 3, none⟩) hbk).trans d0, (World.cell?_of_block (a := ⟨b, o + j * 3 + 1, none⟩) hbk).trans d1, (World.cell?_of_block (a := ⟨b, o + j * 3 + 2, none⟩) hbk).trans d2⟩
    · have h1 := HFS.out g hg'
      rcases hg.foot g hf' with h2 | h2
      · exact h1.1 h2
      · omega
  clear H HRO hok hl hfp hfs hf c1 c3 hn
  unfold AddChildEnd at HA
  go_enter Tryd.func53, Tryd.ntmps53
  go_upto_region 1 with (go_at_call 66; (with_reducible refine HA.out.mono ?_); rintro e w1 ⟨T1, m1, rfl, hd1, ht1, hg1, hl1, hn1⟩; have HD1 := Lib.hid hd1; have HT1 := Lib.hid ht1; have HG1 := Lib.hid hg1; have HL1 := Lib.hid hl1; have HN1 := Lib.hid hn1; clear hd1 ht1 hg1 hl1 hn1)
  obtain ⟨k1, k2, k3, _, _⟩ := HKEEP.out _ _ HG1.out
  have hsz1 := HG1.out.below.size
  have HB2 := Lib.hid (addChild_any T1 [hk (bs h)] m1 m w1 B (c + 1) (by omega) hm (by omega) HT1.out HD1.out)
  unfold AddChildEnd at HB2
  clear c2
  go_upto_region 2 with (go_at_call 66; (with_reducible refine HB2.out.mono ?_); rintro e w2 ⟨T2, m2, rfl, hd2, ht2, hg2, hl2, hn2⟩; have HD2 := Lib.hid hd2; have HT2 := Lib.hid ht2; have HG2 := Lib.hid hg2; have HL2 := Lib.hid hl2; have HN2 := Lib.hid hn2; clear hd2 ht2 hg2 hl2 hn2)
  have HG := Lib.hid (HG1.out.trans HG2.out)
  obtain ⟨j1, j2, j3, j4, j5⟩ := HKEEP.out _ _ HG.out
  have hsz2 := HG2.out.below.size
  have HRO2 : Hid (RestOk T2) := restOk_child (hk_ne_rest _) (restOk_child (hk_ne_rest _) HR.out HL1.out HN1.out) HL2.out HN2.out
  have HAS := Lib.hid (addSegments_any pb hb B l T2 [hk (bs h), hk (bs m)] m2 _ w2 (c + 2) HT2.out HRO2.out HD2.out j4 HOK.out (by rw [HL2.out, HL1.out]; exact HLF.out) (by omega) hlz (by omega) j5)
  clear k1 k2 k3 j1 j2 j4 j5
  go_wp2_with (go_at_call 67; (with_reducible refine HAS.out.mono ?_); rintro e w3 ⟨rfl, T3, ht3, hg3, hl3, hr3⟩; have HT3 := Lib.hid ht3; have HG3 := Lib.hid hg3; have HL3 := Lib.hid hl3; have HR3 := Lib.hid hr3; clear ht3 hg3 hl3 hr3)
  go_end0
  exact ⟨rfl, T3, HT3.out, HG.out.trans HG3.out, by rw [HL3.out, HL2.out, HL1.out]; rfl, HR3.out⟩

/-- A pattern that lies in new memory, with its number. -/
def PatIn (w : World) (T : Tr) (f : Lf) (m h : ByteArray) (l : List Seg) (i : Nat) : Prop :=
  PatAt w f.pb m h l ∧ w.cell? ⟨f.hb, 0, none⟩ = some (.int .i64 (i : Int)) ∧ ∃ lo hi, lo ≤ f.pb ∧ f.pb < hi ∧ lo ≤ f.hb ∧ f.hb < hi ∧ hi ≤ w.heap.size ∧ (∀ sv g, w.cell? ⟨f.pb, 3, none⟩ = some sv → sv.ownBlock = some g → lo ≤ g ∧ g < hi) ∧ ∀ b, lo ≤ b → b < hi → ¬ T.foot b

theorem PatIn.grew {w w' : World} {T T' : Tr} {B : Nat} {f : Lf} {m h : ByteArray} {l : List Seg} {i : Nat} (H : PatIn w T f m h l i) (hg : Grew T T' w w' B) : PatIn w' T' f m h l i := by
  obtain ⟨⟨hpb, c1, c2, sv, c3, hsv⟩, hi, lo, hh, g1, g2, g3, g4, g5, g6, g7⟩ := H
  have hk : ∀ b, lo ≤ b → b < hh → w'.heap[b]? = w.heap[b]? := fun b h1 h2 => hg.kept b (by omega) (g7 b h1 h2)
  have hpk := hk f.pb g1 g2
  have hsz := hg.below.size
  obtain ⟨A, cap, rfl, hlc, hf⟩ := hsv
  refine ⟨⟨by omega, (World.cell?_of_block (a := ⟨f.pb, 1, none⟩) hpk).trans c1, (World.cell?_of_block (a := ⟨f.pb, 2, none⟩) hpk).trans c2, _, (World.cell?_of_block (a := ⟨f.pb, 3, none⟩) hpk).trans c3, A, cap, rfl, hlc, fun j g hj => ?_⟩,
    (World.cell?_of_block (a := ⟨f.hb, 0, none⟩) (hk f.hb g3 g4)).trans hi, lo, hh, g1, g2, g3, g4, by omega, fun sv' g h1 h2 => ?_, fun b h1 h2 hf' => ?_⟩
  · obtain ⟨b, o, hA, hbl, d0, d1, d2⟩ := hf j g hj
    have hb := g6 _ b c3 (by rw [hA]; rfl)
    have hbk := hk b hb.1 hb.2
    exact ⟨b, o, hA, by omega, (World.cell?_of_block (a := ⟨b, o + j * 3, none⟩) hbk).trans d0, (World.cell?_of_block (a := ⟨b, o + j * 3 + 1, none⟩) hbk).trans d1, (World.cell?_of_block (a := ⟨b, o + j * 3 + 2, none⟩) hbk).trans d2⟩
  · exact g6 sv' g ((World.cell?_of_block (a := ⟨f.pb, 3, none⟩) hpk).symm.trans h1) h2
  · rcases hg.foot b hf' with h | h
    · exact g7 b h1 h2 h
    · omega

/-- A pattern with its texts as they lie in memory. -/
structure PtB where
  m : ByteArray
  h : ByteArray
  l : List Seg
def PtB.pt (p : PtB) : Pt := ⟨bs p.m, bs p.h, p.l⟩
def PtB.key (p : PtB) : List Kd := hk (bs p.h) :: hk (bs p.m) :: p.l.map kindOf
theorem PtB.key_pt (p : PtB) : p.pt.key = p.key := rfl

/-- The first k patterns are in the tree. -/
structure TreeTab (w : World) (B c : Nat) (T : Tr) (a : Nat) (ps : List PtB) (k : Nat) : Prop where
  tree : TreeAt w B c T
  rest : RestOk T
  root : ∃ n0, T.dir [] = some n0 ∧ n0.a = a
  held : ∀ (i : Nat) (p : PtB), i < k → ps[i]? = some p → ∃ f, T.leaf p.key = some f ∧ PatIn w T f p.m p.h p.l i
  only : ∀ q, T.leaf q ≠ none → ∃ (i : Nat) (p : PtB), i < k ∧ ps[i]? = some p ∧ p.key = q

theorem key_conf {p q : PtB} (_hp : p.pt.good) (hq : q.pt.good) (h : p.key = q.key) : p.pt.conf q.pt = true := by
  unfold PtB.key at h
  simp only [List.cons.injEq] at h
  obtain ⟨h1, h2, h3⟩ := h
  have e1 := hk_inj h1
  have e2 := hk_inj h2
  have hs := conf_self hq
  unfold Pt.conf
  unfold confB byBoth at hs ⊢
  have e3 : kinds p.pt.l = kinds q.pt.l := h3
  have e1' : p.pt.h = q.pt.h := e1
  have e2' : p.pt.m = q.pt.m := e2
  rw [e1', e2', e3]
  exact hs

theorem okSegT_good {m h : List UInt8} {l : List Seg} (G : GoodP m h l) : okSegT l := by
  have aux : ∀ l : List Seg, (∀ (i : Nat) (g : Seg), l[i]? = some g → okSeg (decide (i + 1 = l.length)) g) → okSegT l := by
    intro l
    induction l with
    | nil => intro _; trivial
    | cons g r ih =>
      intro hh
      have h0 := hh 0 g rfl
      refine ⟨fun hm => ?_, fun hm hw => ?_, by have := h0.1; omega, ih fun i x hx => ?_⟩
      · have := (h0.2.1 hm).2.1
        simpa using this
      · by_cases h47 : g.s = [47]
        · rw [h47]; simp
        · have hl := h0.2.2.2.2 hw h47
          simp only [literalB, Bool.and_eq_true, decide_eq_true_eq] at hl
          exact hl.1.1.1.2
      · have h1 := hh (i + 1) x (by simpa using hx)
        have e : decide (i + 1 + 1 = (g :: r).length) = decide (i + 1 = r.length) := by simp
        rw [e] at h1; exact h1
  exact aux l G.seg
end Go.Proofs.YtgkhfcoieknjeaaDoor

namespace Go.Proofs.YtgkhfcoieknjeaaDoor
open Go.RowKit

/-- A pattern's text. -/
def PtB.text (p : PtB) : List UInt8 := writeL (bs p.m) (bs p.h) p.l

theorem good_small {p : PtB} (G : p.pt.good) : p.m.size ≤ 1000 ∧ p.h.size ≤ 1000 ∧ p.l.length ≤ 6 ∧ p.l ≠ [] := by
  have G' : GoodP (bs p.m) (bs p.h) p.l := G
  have h3 := G'.method
  have h4 := G'.host
  simp only [methodB, hostB, Bool.and_eq_true, decide_eq_true_eq] at h3 h4
  have e1 := bs_size p.m
  have e2 := bs_size p.h
  exact ⟨by omega, by omega, G'.six, G'.some_⟩

def tree0 (a : Nat) : Tr := ⟨fun q => if q = [] then some (freshNd a) else none, fun _ => none⟩

theorem tree0_at (w : World) : TreeAt (w.alloc (.cells zeroNode 97)) w.heap.size 0 (tree0 w.heap.size) := by
  have d0 : (tree0 w.heap.size).dir [] = some (freshNd w.heap.size) := rfl
  have dn : ∀ q, q ≠ [] → (tree0 w.heap.size).dir q = none := fun q hq => if_neg hq
  have only : ∀ q n, (tree0 w.heap.size).dir q = some n → q = [] ∧ n = freshNd w.heap.size := by
    intro q n h
    by_cases hq : q = []
    · subst hq
      rw [d0] at h
      exact ⟨rfl, (Option.some.inj h).symm⟩
    · rw [dn q hq] at h; cases h
  refine ⟨fun q n h => ?_, by rw [d0]; simp, fun q x h => ?_, fun q h => absurd rfl h, fun q q' n n' h h' _ => ?_, fun q q' n n' b h h' _ _ => ?_, fun q q' n n' b h h' _ _ => ?_⟩
  · obtain ⟨rfl, rfl⟩ := only q n h
    refine ⟨Nat.le_refl _, ?_, .inl ⟨rfl, [], by simp, by simp, ⟨by simp, by simp⟩, World.ownsRow_nil _ _ _ _, fun s _ => ?_⟩⟩
    · rw [dn _ (by simp), dn _ (by simp)]
      exact new0 w _
    · show none = _
      unfold kidsOf
      rw [dn _ (by simp)]; rfl
  · exact absurd (dn (q ++ [x]) (by simp)) h
  · rw [(only q n h).1, (only q' n' h').1]
  · rw [(only q n h).1, (only q' n' h').1]
  · rw [(only q n h).1, (only q' n' h').1]

/-- What tree answers. -/
def TreeEnd (w : World) (ps : List PtB) (e : Ending) (w' : World) : Prop :=
  ∃ T c a, e = .returned (.pointer (some ⟨a, 0, none⟩)) ∧ TreeTab w' w.heap.size c T a ps ps.length ∧ Below w.heap.size w w'

/-- One more pattern. -/
theorem tab_step {w1 w3 w4 : World} {B c c' a k : Nat} {T : Tr} {ps : List PtB} {p : PtB} (hgood : ∀ (i : Nat) (q : PtB), ps[i]? = some q → q.pt.good) (hpeace : ∀ (i j : Nat) (q r : PtB), ps[i]? = some q → ps[j]? = some r → i ≠ j → q.pt.conf r.pt = false)
    (H : TreeTab w1 B c T a ps k) (hp : ps[k]? = some p) (pb hb : Nat) (h13 : Below w1.heap.size w1 w3) (hB : B ≤ w1.heap.size) (hpa : PatAt w3 pb p.m p.h p.l) (hlo : w1.heap.size ≤ pb) (hsl : ∀ sv g, w3.cell? ⟨pb, 3, none⟩ = some sv → sv.ownBlock = some g → w1.heap.size ≤ g)
    (hsr : ∀ sv g, w3.cell? ⟨pb, 3, none⟩ = some sv → sv.ownBlock = some g → g < w3.heap.size) (hhb : w1.heap.size ≤ hb) (hhb2 : hb < w3.heap.size) (hhc : w3.cell? ⟨hb, 0, none⟩ = some (.int .i64 (k : Int)))
    (e : Ending) (hend : PutEnd T p.key pb hb w3 B c' e w4) : e = .returned (.tuple #[]) ∧ ∃ T', TreeTab w4 B c' T' a ps (k + 1) ∧ Below B w3 w4 := by
  obtain ⟨he, T', ht, hg, hl, hr⟩ := hend
  refine ⟨he, T', ⟨ht, hr, ?_, fun i q hi hq => ?_, fun q hq => ?_⟩, hg.below⟩
  · obtain ⟨n0, h1, h2⟩ := H.root
    obtain ⟨d, h3, h4⟩ := hg.addr [] n0 h1
    exact ⟨d, h3, h4.trans h2⟩
  · by_cases hik : i = k
    · subst hik
      rw [hp] at hq
      cases hq
      refine ⟨⟨pb, hb⟩, by rw [hl]; exact upd_same _ _ _, ?_⟩
      refine PatIn.grew (w := w3) (T := T) ⟨hpa, hhc, w1.heap.size, w3.heap.size, hlo, hpa.1, hhb, hhb2, Nat.le_refl _, fun sv g h1 h2 => ⟨hsl sv g h1 h2, hsr sv g h1 h2⟩, fun b h1 h2 hf => ?_⟩ hg
      have := (H.tree.foot_lt hf).2
      omega
    · obtain ⟨f, h1, h2⟩ := H.held i q (by omega) hq
      refine ⟨f, ?_, (h2.grew (Grew.of_below h13 hB)).grew hg⟩
      rw [hl, upd_other _ _ _ _ ?_]
      · exact h1
      · intro e'
        have := key_conf (hgood i q hq) (hgood k p hp) e'
        rw [hpeace i k q p hq hp hik] at this
        cases this
  · rw [hl] at hq
    by_cases he' : q = p.key
    · exact ⟨k, p, by omega, hp, he'.symm⟩
    · rw [upd_other _ _ _ _ he'] at hq
      obtain ⟨i, r, h1, h2, h3⟩ := H.only q hq
      exact ⟨i, r, by omega, h2, h3⟩

theorem key_free {w1 : World} {B c a k : Nat} {T : Tr} {ps : List PtB} {p : PtB} (hgood : ∀ (i : Nat) (q : PtB), ps[i]? = some q → q.pt.good) (hpeace : ∀ (i j : Nat) (q r : PtB), ps[i]? = some q → ps[j]? = some r → i ≠ j → q.pt.conf r.pt = false)
    (H : TreeTab w1 B c T a ps k) (hp : ps[k]? = some p) : T.leaf p.key = none := by
  cases h : T.leaf p.key with
  | none => rfl
  | some f =>
    exfalso
    obtain ⟨i, q, h1, h2, h3⟩ := H.only p.key (by rw [h]; simp)
    have := key_conf (hgood i q h2) (hgood k p hp) h3
    rw [hpeace i k q p h2 hp (by omega)] at this
    cases this

set_option maxRecDepth 100000 in
set_option maxHeartbeats 3200000 in
theorem tree_any (ps : List PtB) (sv : Value) (w : World) (HS : StrsAt w sv (ps.map PtB.text)) (hn : ps.length ≤ 10) (hgood : ∀ (i : Nat) (q : PtB), ps[i]? = some q → q.pt.good) (hpeace : ∀ (i j : Nat) (q r : PtB), ps[i]? = some q → ps[j]? = some r → i ≠ j → q.pt.conf r.pt = false) (hprops : PropsAt w) :
    Calls Tryd.prog 48 #[sv] w (TreeEnd w ps) := by
  obtain ⟨A, cap, rfl, hlc, hcm, hf⟩ := HS
  have HF := Lib.hid hf
  have HG := Lib.hid hgood
  have HPE := Lib.hid hpeace
  have HPR := Lib.hid hprops
  have hl : (ps.map PtB.text).length = ps.length := List.length_map ..
  rw [hl] at hlc ⊢
  have HT0 : Hid (TreeTab (w.alloc (.cells zeroNode 97)) w.heap.size 0 (tree0 w.heap.size) w.heap.size ps 0) :=
    ⟨tree0_at w, fun q hq => absurd (if_neg (by simp)) hq, ⟨_, rfl, rfl⟩, fun i p hi => by omega, fun q hq => absurd rfl hq⟩
  clear hf hgood hpeace hprops hl
  unfold maxLen at hcm
  go_enter Tryd.func48, Tryd.ntmps48
  go_wp2_with fail
  go_loopw [11] (fun kv wr => ∃ (k c : Nat) (T : Tr), k ≤ ps.length ∧ kv = .int .i64 (k : Int) ∧ c ≤ 1000 * k ∧ Hid (TreeTab wr w.heap.size c T w.heap.size ps k) ∧ w.heap.size < wr.heap.size ∧ Below w.heap.size w wr) (fun kv _ => ps.length - (intOf kv).toNat)
  case atStart => exact ⟨0, 0, _, Nat.zero_le _, rfl, by omega, HT0.out, by simp, (Below.refl _ _).alloc (Nat.le_refl _) _⟩
  case round =>
    obtain ⟨k, c, T, hk, rfl, hc, HTT, hsz, hbw⟩ := hrel
    have HBW := Lib.hid hbw
    by_cases hlt : k < ps.length
    · obtain ⟨p, hp⟩ : ∃ p, ps[k]? = some p := ⟨_, List.getElem?_eq_getElem hlt⟩
      obtain ⟨b, o, rfl, hbl, hcell⟩ := HF.out k p.text (by rw [List.getElem?_map, hp]; rfl)
      have g0 : wr.cell? ⟨b, o + k, none⟩ = some (.string ⟨p.text.toArray⟩) := (hbw.cell (p := ⟨b, o + k, none⟩) hbl).trans hcell
      have HP := Lib.hid hp
      have hgp := HG.out k p hp
      obtain ⟨hs1, hs2, hs3, hs4⟩ := good_small hgp
      have hb1 := new0 wr (.cells #[.int .i64 (k : Int)] 3)
      have HB1 : Hid (Below wr.heap.size wr (wr.alloc (.cells #[.int .i64 (k : Int)] 3))) := (Below.refl _ _).alloc (Nat.le_refl _) _
      have HMU : Hid (Calls Tryd.prog 43 #[.string ⟨p.text.toArray⟩] (wr.alloc (.cells #[.int .i64 (k : Int)] 3)) (MustLow (wr.alloc (.cells #[.int .i64 (k : Int)] 3)) p.m p.h p.l)) := must_low p.m p.h p.l _ hgp (HPR.out.below (HBW.out.trans (HB1.out.mono (by omega))))
      unfold MustLow at HMU
      have HH1 := Lib.hid hb1
      obtain ⟨n0, hr1, hr2⟩ := HTT.out.root
      have HKF := Lib.hid (key_free HG.out HPE.out HTT.out hp)
      have HADD : Hid (∀ (w3 : World) (pb : Nat), Below wr.heap.size wr w3 → PatAt w3 pb p.m p.h p.l → wr.heap.size ≤ pb → (∀ sv g, w3.cell? ⟨pb, 3, none⟩ = some sv → sv.ownBlock = some g → wr.heap.size ≤ g) → w3.cell? ⟨wr.heap.size, 0, none⟩ = some (.int .i64 (k : Int)) → wr.heap.size < w3.heap.size →
          Calls Tryd.prog 53 #[.pointer (some ⟨w.heap.size, 0, none⟩), .pointer (some ⟨pb, 0, none⟩), .pointer (some ⟨wr.heap.size, 0, none⟩)] w3 fun e w4 => e = .returned (.tuple #[]) ∧ ∃ T', TreeTab w4 w.heap.size (c + 2 + p.l.length) T' w.heap.size ps (k + 1) ∧ Below w.heap.size w3 w4) := by
        intro w3 pb h13 hpa hlo hsl hhc hh3
        have hsr : ∀ sv g, w3.cell? ⟨pb, 3, none⟩ = some sv → sv.ownBlock = some g → g < w3.heap.size := by
          intro sv g h1 h2
          obtain ⟨_, _, _, sv', h3, A', cap', hv, _, hff⟩ := hpa
          rw [h1] at h3
          cases h3
          obtain ⟨x, hx⟩ : ∃ x, p.l[0]? = some x := ⟨_, List.getElem?_eq_getElem (List.length_pos_iff.2 hs4)⟩
          obtain ⟨b', o', hA', hb', _⟩ := hff 0 x hx
          rw [hv, hA'] at h2
          have := Option.some.inj h2
          simp at this
          omega
        have h0 := HTT.out.tree.below h13
        have ha := addPattern_any T n0 pb wr.heap.size w.heap.size p.m p.h p.l w3 c h0 HTT.out.rest hr1 hpa (okSegT_good hgp) (fun hf => by have := (HTT.out.tree.foot_lt hf).2; omega)
          (fun sv g h1 h2 => ⟨fun hf => by have := (HTT.out.tree.foot_lt hf).2; have := hsl sv g h1 h2; omega, hsr sv g h1 h2⟩) HKF.out (by omega) (by omega) (by omega) hs1 hs2
        rw [hr2] at ha
        exact ha.mono fun e w4 hend => tab_step HG.out HPE.out HTT.out HP.out pb wr.heap.size h13 (by omega) hpa hlo hsl hsr (Nat.le_refl _) hh3 hhc e hend
      clear hcell hp hbw hb1 hgp hr1 hr2
      obtain ⟨pt, hpt⟩ : ∃ pt : ByteArray, pt = ⟨p.text.toArray⟩ := ⟨_, rfl⟩
      rw [← hpt] at g0 HMU
      clear hpt
      go_wp2_with (first
        | (go_at_call 43; (with_reducible refine HMU.out.mono ?_); rintro e w3 ⟨pb, rfl, hpa, hb3, hlo, hsl⟩; have HPA := Lib.hid hpa; have HB3 := Lib.hid hb3; have HLO := Lib.hid hlo; have HSL := Lib.hid hsl; clear hpa hb3 hlo hsl)
        | (go_at_call 53; (with_reducible refine (HADD.out _ pb ?_ HPA.out ?_ ?_ ?_ ?_).mono ?_); (exact HB1.out.trans (HB3.out.mono HB1.out.size)); (have h := HLO.out; simp at h; omega); (intro sv g h1 h2; have h := HSL.out sv g h1 h2; simp at h; omega); (exact blk_cell (blk_below HH1.out HB3.out) 0); (have h := HB3.out.size; simp at h; omega); rintro e w4 ⟨rfl, T', htt, hb4⟩; have HTT' := Lib.hid htt; have HB4 := Lib.hid hb4; clear htt hb4))
      go_roundw
      case rel =>
        have h3 := HB3.out.size
        have h4 := HB4.out.size
        simp at h3
        exact ⟨k + 1, c + 2 + p.l.length, T', by omega, by go_num, by omega, HTT'.out, by omega, ((HBW.out.trans (HB1.out.mono (by omega))).trans (HB3.out.mono (by simp; omega))).trans HB4.out⟩
      case measure => simp [intOf]; omega
    · have hke : k = ps.length := by omega
      go_wp2_with fail
      go_ret
      refine ⟨T, c, w.heap.size, rfl, ?_, HBW.out⟩
      have := HTT.out
      rwa [hke] at this
end Go.Proofs.YtgkhfcoieknjeaaDoor
