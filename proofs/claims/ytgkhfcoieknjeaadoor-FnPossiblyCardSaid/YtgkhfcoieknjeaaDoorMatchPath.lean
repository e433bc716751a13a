/-
  Proved, in plain words of lists and of memory: a path and its pieces, what the wildcards of a pattern stand for, and which pattern ends at a place of the tree.
  Proved: appending one text to a row that the call owns; the row as it was before can be had back. Condition: at most 2^31 - 1 texts.
  Proved: matchPath finds in the routing tree what the search on lists finds ('seek'), with the values of the wildcards. Conditions: the tree holds the patterns; the path's pieces are those of which something is stated.
-/
import Derived.Test.YtgkhfcoieknjeaaDoorTreeAll
import Derived.Test.YtgkhfcoieknjeaaDoorItemsWalk
import Derived.Test.YtgkhfcoieknjeaaDoorBase
import Derived.Maps.AppendAt
import Derived.Test.YtgkhfcoieknjeaaDoorFirstSeg
import Derived.Test.YtgkhfcoieknjeaaDoorLast
import Derived.BigQuiet
import Derived.Deep.CutBlock
import Derived.Deep.DeepCutAuto
import Derived.Deep.RegionLaw
namespace Go.Proofs.YtgkhfcoieknjeaaDoor
open Go.RowKit Go.Lib.Pa Kd

/-- A path as its pieces make it. -/
def joinT : List (List UInt8) → List UInt8
  | [] => []
  | x :: t => (if x = [47] then [47] else 47 :: x) ++ joinT t

/-- Pieces of a path of which something is stated. -/
def GoodIts : List (List UInt8) → Prop
  | [] => True
  | x :: t => (x = [47] ∧ t = []) ∨ (x ≠ [] ∧ (∀ c ∈ x, c ≠ 47 ∧ c ≠ 37) ∧ GoodIts t)

theorem join_itemsOf : ∀ qs its : List (List UInt8), (∀ q ∈ qs, ∀ c ∈ q, c ≠ 47 ∧ c ≠ 37) → itemsOf qs = some its → slashed qs = joinT its ∧ GoodIts its
  | [], its, _, h => by simp [itemsOf] at h
  | [q], its, hq, h => by
    simp only [itemsOf, Option.some.injEq] at h
    subst h
    have hq1 := hq q (by simp)
    by_cases he : q = []
    · subst he
      exact ⟨rfl, .inl ⟨rfl, rfl⟩⟩
    · rw [if_neg he]
      have h47 : q ≠ [47] := by
        rintro rfl
        exact (hq1 47 (by simp)).1 rfl
      exact ⟨by simp [slashed, joinT, h47], .inr ⟨he, hq1, trivial⟩⟩
  | q :: y :: r, its, hq, h => by
    rw [itemsOf] at h
    split at h
    · cases h
    · rename_i he
      obtain ⟨u, hu, he2⟩ := Option.map_eq_some_iff.1 h
      subst he2
      have hq1 := hq q (by simp)
      have h47 : q ≠ [47] := by
        rintro rfl
        exact (hq1 47 (by simp)).1 rfl
      obtain ⟨h1, h2⟩ := join_itemsOf (y :: r) u (fun x hx => hq x (List.mem_cons_of_mem _ hx)) hu
      refine ⟨?_, .inr ⟨he, hq1, h2⟩⟩
      rw [slashed, h1, joinT, if_neg h47]
      rfl

theorem join_head (t : List (List UInt8)) : joinT t = [] ∨ ∃ r, joinT t = 47 :: r := by
  cases t with
  | nil => exact .inl rfl
  | cons x t =>
    right
    unfold joinT
    split
    · exact ⟨_, rfl⟩
    · exact ⟨_, rfl⟩

theorem join_cut (x : List UInt8) (t : List (List UInt8)) (hx : ∀ c ∈ x, c ≠ 47) : (x ++ joinT t).takeWhile (· != 47) = x ∧ (x ++ joinT t).dropWhile (· != 47) = joinT t := by
  have hall : ∀ c ∈ x, (c != 47) = true := fun c hc => by simpa using hx c hc
  have h2 : (joinT t).takeWhile (· != 47) = [] ∧ (joinT t).dropWhile (· != 47) = joinT t := by
    rcases join_head t with h | ⟨r, h⟩ <;> rw [h] <;> simp
  constructor
  · rw [List.takeWhile_append_of_pos hall, h2.1, List.append_nil]
  · rw [List.dropWhile_append_of_pos hall, h2.2]

theorem join_noPct : ∀ its : List (List UInt8), GoodIts its → ∀ c ∈ joinT its, c ≠ 37
  | [], _, c, hc => by simp [joinT] at hc
  | x :: t, h, c, hc => by
    unfold joinT at hc
    rcases h with ⟨rfl, rfl⟩ | ⟨h1, h2, h3⟩
    · simp [joinT] at hc
      subst hc; decide
    · rcases List.mem_append.1 hc with hc | hc
      · split at hc
        · simp at hc; subst hc; decide
        · rcases List.mem_cons.1 hc with rfl | hc
          · decide
          · exact (h2 c hc).2
      · exact join_noPct t h3 c hc

/-- What the wildcards with names stand for. -/
def vals : List Seg → List (List UInt8) → List (List UInt8)
  | [], _ => []
  | _ :: _, [] => []
  | g :: l, x :: r => if g.multi then (if g.s = [] then [] else [(joinT (x :: r)).tail]) else if g.wild then x :: vals l r else vals l r

/-- The number of the pattern that ends at a place. -/
def idxOf (W0 : World) (T : Tr) : List Kd → Option Nat := fun q => (T.leaf q).bind fun f => match W0.cell? ⟨f.hb, 0, none⟩ with
  | some (.int _ i) => some i.toNat
  | _ => none

theorem leafOf_tab {W0 : World} {B c a : Nat} {T : Tr} {ps : List PtB} (H : TreeTab W0 B c T a ps ps.length) : LeafOf (ps.map PtB.pt) (idxOf W0 T) := by
  intro k i
  constructor
  · intro h
    unfold idxOf at h
    cases hl : T.leaf k with
    | none => rw [hl] at h; cases h
    | some f =>
      obtain ⟨j, p, hj, hp, hk⟩ := H.only k (by rw [hl]; simp)
      obtain ⟨f', h1, h2⟩ := H.held j p hj hp
      rw [hk, hl] at h1
      cases h1
      rw [hl] at h
      simp only [Option.bind_some, h2.2.1] at h
      have : j = i := by
        have := Option.some.inj h
        simpa using this
      subst this
      exact ⟨p.pt, by rw [List.getElem?_map, hp]; rfl, hk⟩
  · rintro ⟨q, hq, hk⟩
    rw [List.getElem?_map] at hq
    obtain ⟨p, hp, rfl⟩ := Option.map_eq_some_iff.1 hq
    obtain ⟨f, h1, h2⟩ := H.held i p (List.getElem?_eq_some_iff.1 hp).1 hp
    have h1' : T.leaf k = some f := by rw [← hk]; exact h1
    unfold idxOf
    rw [h1']
    simp [h2.2.1]

theorem seek_empty (leaf : List Kd → Option Nat) : ∀ (its : List (List UInt8)) (k : List Kd), (∀ ks, leaf (k ++ ks) = none) → seek leaf its k = none
  | [], k, h => by simpa [seek] using h []
  | x :: r, k, h => by
    have h1 : ∀ y, seek leaf r (k ++ [y]) = none := fun y => seek_empty leaf r (k ++ [y]) fun ks => by rw [List.append_assoc]; exact h _
    rw [seek, h1]
    simp only [h1, h [rest], ite_self]

theorem dir_none {W0 : World} {B c : Nat} {T : Tr} (H : TreeAt W0 B c T) : ∀ (ks k : List Kd), T.dir k = none → T.dir (k ++ ks) = none
  | [], k, h => by simpa using h
  | y :: ks, k, h => by
    have h1 : T.dir (k ++ [y]) = none := by
      cases hd : T.dir (k ++ [y]) with
      | none => rfl
      | some d => exact absurd h (H.up k y (by rw [hd]; simp))
    have := dir_none H ks (k ++ [y]) h1
    simpa using this

theorem seek_no_dir {W0 : World} {B c : Nat} {T : Tr} (H : TreeAt W0 B c T) (its : List (List UInt8)) (k : List Kd) (h : T.dir k = none) : seek (idxOf W0 T) its k = none := by
  refine seek_empty _ its k fun ks => ?_
  have hd := dir_none H ks k h
  have hl : T.leaf (k ++ ks) = none := by
    cases hl : T.leaf (k ++ ks) with
    | none => rfl
    | some d => exact absurd hd (H.leafUp _ (by rw [hl]; simp))
  unfold idxOf
  rw [hl]; rfl

/-- A place that the search finds lies behind the place where it began. -/
theorem seek_under {leaf : List Kd → Option Nat} : ∀ (its : List (List UInt8)) (k : List Kd) (i : Nat), seek leaf its k = some i → ∃ ks, leaf (k ++ ks) = some i
  | [], k, i, h => ⟨[], by simpa [seek] using h⟩
  | x :: r, k, i, h => by
    rw [seek] at h
    split at h
    · rename_i i' h1
      cases h
      obtain ⟨ks, h2⟩ := seek_under r _ i h1
      exact ⟨lit x :: ks, by simpa using h2⟩
    · split at h
      · rename_i i' h2
        cases h
        split at h2
        · cases h2
        · obtain ⟨ks, h3⟩ := seek_under r _ i h2
          exact ⟨one :: ks, by simpa using h3⟩
      · exact ⟨[rest], h⟩

theorem key_under {W0 : World} {B c a : Nat} {T : Tr} {ps : List PtB} (HT : TreeTab W0 B c T a ps ps.length) {its : List (List UInt8)} {k : List Kd} {i : Nat} {p : PtB} (h : seek (idxOf W0 T) its k = some i) (hp : ps[i]? = some p) : ∃ ks, p.key = k ++ ks := by
  obtain ⟨ks, hk⟩ := seek_under its k i h
  obtain ⟨q, hq, he⟩ := (leafOf_tab HT _ i).1 hk
  rw [List.getElem?_map, hp] at hq
  cases hq
  exact ⟨ks, he⟩

theorem drop_kind {l : List Seg} {j : Nat} {y : Kd} {ks ks' : List Kd} (hk : l.map kindOf = ks ++ y :: ks') (hj : ks.length = j) : ∃ g, l[j]? = some g ∧ kindOf g = y ∧ l.drop j = g :: l.drop (j + 1) := by
  have h1 : (l.map kindOf)[j]? = some y := by rw [hk, List.getElem?_append_right (by omega), hj]; simp
  rw [List.getElem?_map] at h1
  obtain ⟨g, hg, he⟩ := Option.map_eq_some_iff.1 h1
  obtain ⟨hl, rfl⟩ := List.getElem?_eq_some_iff.1 hg
  exact ⟨_, hg, he, List.drop_eq_getElem_cons hl⟩

/-- The values, one piece further. -/
theorem vals_step {l : List Seg} {a b : Kd} {k ks : List Kd} {y : Kd} (x : List UInt8) (r : List (List UInt8)) (hk : a :: b :: l.map kindOf = (k ++ [y]) ++ ks) (h2 : 2 ≤ k.length) (hy : y ≠ .rest) :
    vals (l.drop (k.length - 2)) (x :: r) = (if y = .one then [x] else []) ++ vals (l.drop ((k ++ [y]).length - 2)) r := by
  match k, h2 with
  | a' :: b' :: k', _ =>
    simp only [List.cons_append, List.cons.injEq] at hk
    have hk3 : l.map kindOf = k' ++ y :: ks := by rw [hk.2.2]; simp
    obtain ⟨g, hg, hkd, hd⟩ := drop_kind hk3 rfl
    have e1 : (a' :: b' :: k').length - 2 = k'.length := by simp
    have e2 : ((a' :: b' :: k') ++ [y]).length - 2 = k'.length + 1 := by simp
    rw [e1, e2, hd]
    obtain ⟨gs, gw, gm⟩ := g
    cases gm
    · cases gw
      · have : y = .lit gs := by rw [← hkd]; rfl
        rw [this]
        simp [vals]
      · have : y = .one := by rw [← hkd]; rfl
        rw [this]
        simp [vals]
    · exact absurd hkd.symm hy
end Go.Proofs.YtgkhfcoieknjeaaDoor

namespace Go.Proofs.YtgkhfcoieknjeaaDoor
open Go.RowKit

theorem info_str : (Tryd.prog.info? 9).map (fun i => (i.zero, i.size, i.bytes)) = some (some (.string ⟨#[]⟩), 1, 16) := by kernel_rfl

/-- Two headers of one row, or the older one stands by itself. -/
def BackTo (w' : World) (base : Nat) (v v' : Value) (n : Nat) (xs : List Value) : Prop :=
  (∃ g cap, v = .slice (some ⟨g, 0, none⟩) n cap ∧ v' = .slice (some ⟨g, 0, none⟩) (n + 1) cap ∧ n ≤ cap) ∨ (v'.ownBlock ≠ v.ownBlock ∧ w'.ownsRow base 9 1 v n xs)

theorem append_back (w : World) (base : Nat) (ty : TypeId) (v x : Value) (n : Nat) (xs : List Value) (hown : w.ownsRow base 9 1 v n xs) (a : Addr) (c : Nat) (hx : x.oneCell' = true) (hnew : w.cell? (a.add 0) = some x) (hn : n ≤ 2147483647) (hbase : base ≤ w.heap.size) :
    ∃ v' w', (Builtin.append_ #[30, 30] ty #[v, .slice (some a) 1 c]).run Tryd.prog w = .ok v' w' ∧ w'.ownsRow base 9 1 v' (n + 1) (xs ++ [x]) ∧ w.grownBy w' v.ownBlock ∧
      (v'.ownBlock = v.ownBlock ∨ v'.ownBlock = some w.heap.size) ∧ BackTo w' base v v' n xs := by
  obtain ⟨i0, hi, hz0, hz1, hz2⟩ := info_parts info_str
  have hnews : ∀ j u, [x][j]? = some u → w.cell? (a.add j) = some u := by
    intro j u hu
    match j, hu with
    | 0, hu => simp at hu; rw [← hu]; exact hnew
  have h1 : ∀ u ∈ [x], u.oneCell' = true := by intro u hu; simp at hu; rw [hu]; exact hx
  obtain ⟨v', w', hr, h2, h3, _, h5⟩ := run_append_own_at (P := Tryd.prog) w base 30 ty 9 i0 (.string ⟨#[]⟩) 1 16 Tryd.underlying30 hi hz0 hz1 hz2 rfl (by decide) v n xs hown a 1 c [x] rfl hnews h1 (by unfold maxLen; omega) (by omega) hbase
  refine ⟨v', w', hr, h2, h3, h5, ?_⟩
  rcases hown.2 with ⟨hv, h0⟩ | ⟨g, cap, cur, hv, hbg, hg, hnc, hcm, hcs, htake⟩
  · right
    subst hv
    obtain ⟨g', cap', hv', hb', _⟩ := own_pos h2 (by omega)
    refine ⟨by rw [hv']; simp [Value.ownBlock], ?_⟩
    obtain rfl : n = 0 := h0
    have : xs = [] := List.eq_nil_of_length_eq_zero (by simpa using hown.1)
    rw [this]
    exact World.ownsRow_nil _ _ _ _
  · subst hv
    by_cases hroom : n + 1 ≤ cap
    · left
      have hr2 := run_append_room (P := Tryd.prog) w 30 ty 9 i0 Tryd.underlying30 hi g n cap cur hg a 1 c [x] (by rw [hz1]; rfl) hnews h1 hroom (by rw [hz1, hcs]; simp; omega)
      rw [hr] at hr2
      cases hr2
      exact ⟨g, cap, rfl, rfl, hnc⟩
    · right
      have holds : ∀ j u, xs[j]? = some u → w.cell? ((⟨g, 0, none⟩ : Addr).add j) = some u := hown.cells (g := g) rfl
      have hr2 := run_append_grow (P := Tryd.prog) w 30 ty 9 i0 (.string ⟨#[]⟩) Tryd.underlying30 hi hz0 ⟨g, 0, none⟩ n cap xs (by rw [hz1]; exact hown.1) holds a 1 c [x] (by rw [hz1]; rfl) hnews (by omega) (by omega) (growslice_fits (by omega) (by rw [hz2]; omega))
      rw [hr] at hr2
      cases hr2
      have hlt : g < w.heap.size := (Array.getElem?_eq_some_iff.1 hg).1
      refine ⟨by simp [Value.ownBlock]; omega, hown.1, .inr ⟨g, cap, cur, rfl, hbg, ?_, hnc, hcm, hcs, htake⟩⟩
      exact (Below.heap_alloc w.drew _ g hlt).trans hg

/-- The row as it was, behind whatever has happened to the longer one. -/
theorem BackTo.back {w' w'' : World} {base : Nat} {v v' : Value} {n : Nat} {xs : List Value} {x : Value} (h : BackTo w' base v v' n xs) (h2 : w''.ownsRow base 9 1 v' (n + 1) (xs ++ [x])) (hl : xs.length = n)
    (hfr : ∀ b, b < w'.heap.size → v'.ownBlock ≠ some b → w''.heap[b]? = w'.heap[b]?) : w''.ownsRow base 9 1 v n xs := by
  rcases h with ⟨g, cap, rfl, rfl, hnc⟩ | ⟨hne, h⟩
  · obtain ⟨_, h3 | ⟨g', cap', cur, hv, hb, hg, hnc', hcm, hcs, htake⟩⟩ := h2
    · cases h3.1
    · cases hv
      refine ⟨by omega, .inr ⟨g, cap, cur, rfl, hb, hg, hnc, hcm, hcs, ?_⟩⟩
      have h4 := congrArg (List.take n) htake
      rw [List.take_take] at h4
      have h5 : min n ((n + 1) * 1) = n := by omega
      rw [h5] at h4
      rw [Nat.mul_one, h4, List.take_append_of_le_length (by omega), List.take_of_length_le (by omega)]
  · obtain ⟨h1, h3 | ⟨g, cap, cur, rfl, hb, hg, rest⟩⟩ := h
    · exact ⟨h1, .inl h3⟩
    · refine ⟨h1, .inr ⟨g, cap, cur, rfl, hb, ?_, rest⟩⟩
      rw [hfr g (Array.getElem?_eq_some_iff.1 hg).1 (fun e => hne (by rw [e]; rfl))]
      exact hg
end Go.Proofs.YtgkhfcoieknjeaaDoor

namespace Go.Proofs.YtgkhfcoieknjeaaDoor
open Go.RowKit Kd

/-- How matchPath ends. -/
def MP (W0 : World) (T : Tr) (ps : List PtB) (k : List Kd) (its : List (List UInt8)) (v : Value) (xs : List (List UInt8)) (w : World) (e : Ending) (w' : World) : Prop :=
  Below W0.heap.size W0 w' ∧ w.heap.size ≤ w'.heap.size ∧ (∀ b, b < w.heap.size → v.ownBlock ≠ some b → w'.heap[b]? = w.heap[b]?) ∧
    ((seek (idxOf W0 T) its k = none ∧ e = .returned (.tuple #[.pointer none, .slice none 0 0]) ∧ w'.ownsRow W0.heap.size 9 1 v xs.length (xs.map strV)) ∨
     (∃ (i : Nat) (p : PtB) (n : Nd) (v' : Value), seek (idxOf W0 T) its k = some i ∧ ps[i]? = some p ∧ T.dir p.key = some n ∧ e = .returned (.tuple #[.pointer (some ⟨n.a, 0, none⟩), v']) ∧
        w'.ownsRow W0.heap.size 9 1 v' (xs ++ vals (p.l.drop (k.length - 2)) its).length ((xs ++ vals (p.l.drop (k.length - 2)) its).map strV)))

/-- An append whose run is known, as one step of a region that draws. -/
theorem step_append_run {ops : Array Oper} {o : Oper} {a : Act} {w : World} {K : Act → World → Prop} {Q : Exit → Act → World → Prop} {E : Prop}
    (hg : o.guard = none) (s x : Operand) (t : TypeId) (hop : o.op = Op.call { callee := Callee.builtin Builtin.append, args := #[s, x], argTypes := #[t, t] }) (ht : o.type = t)
    (vs vx : Value) (hs : a.eval s = vs) (hx : a.eval x = vx) (v' : Value) (w' : World) (hrun : (Builtin.append_ #[t, t] t #[vs, vx]).run Tryd.prog w = .ok v' w')
    (hK : K (a.put o.dst v') w') : if Region.wanted o (yielded ops a.tmps) = true then Oper.wp Tryd.prog o a w K Q else E := by
  have hw : Region.wanted o (yielded ops a.tmps) = true := by simp [Region.wanted, hg]
  rw [if_pos hw]
  rw [← ht] at hrun
  unfold Oper.wp
  rw [ht] at hrun
  simp [execOp, hop, resolve, invoke, builtin, hs, hx, ht, hrun, Result.andThen]
  exact hK

theorem MP.uni {W0 : World} {T : Tr} {ps : List PtB} {k : List Kd} {its : List (List UInt8)} {v : Value} {xs : List (List UInt8)} {w : World} {e : Ending} {w' : World} (h : MP W0 T ps k its v xs w e w') :
    ∃ u v', e = .returned (.tuple #[.pointer u, v']) ∧ Hid (MP W0 T ps k its v xs w (.returned (.tuple #[.pointer u, v'])) w') := by
  have h2 := h
  obtain ⟨_, _, _, ⟨_, rfl, _⟩ | ⟨_, _, _, _, _, _, _, rfl, _⟩⟩ := h
  · exact ⟨_, _, rfl, h2⟩
  · exact ⟨_, _, rfl, h2⟩

theorem field0 (x : List UInt8) (a b : Bool) (w : World) : (Instr.field 100 (.agg #[.string ⟨x.toArray⟩, .bool a, .bool b]) 0).run Tryd.prog w = .ok (.string ⟨x.toArray⟩) w := by kernel_rfl

/-- A leaf, read in a later world. -/
theorem leaf_read {W0 w : World} {B c a : Nat} {T : Tr} {ps : List PtB} (HT : TreeTab W0 B c T a ps ps.length) (hB : B ≤ W0.heap.size) (hb : Below W0.heap.size W0 w) {q : List Kd} {f : Lf} (h : T.leaf q = some f) :
    ∃ (i : Nat) (p : PtB), ps[i]? = some p ∧ p.key = q ∧ idxOf W0 T q = some i ∧ PatAt w f.pb p.m p.h p.l ∧ w.cell? ⟨f.hb, 0, none⟩ = some (.int .i64 (i : Int)) := by
  obtain ⟨i, p, h1, h2, h3⟩ := HT.only q (by rw [h]; simp)
  obtain ⟨f', h4, h5⟩ := HT.held i p h1 h2
  rw [h3, h] at h4
  cases h4
  have h6 := h5.grew (Grew.of_below hb hB)
  exact ⟨i, p, h2, h3, (leafOf_tab HT q i).2 ⟨p.pt, by rw [List.getElem?_map, h2]; rfl, h3⟩, h6.1, h6.2.1⟩

theorem fieldS (x : ByteArray) (a b : Bool) (w : World) : (Instr.field 100 (.agg #[.string x, .bool a, .bool b]) 0).run Tryd.prog w = .ok (.string x) w := by kernel_rfl

/-- The last piece, where it stands for all that is left. -/
theorem tail_law {p : PtB} {k : List Kd} (h : p.key = k ++ [.rest]) (h2 : 2 ≤ k.length) :
    ∃ g, p.l.getLast? = some g ∧ ∀ x r, vals (p.l.drop (k.length - 2)) (x :: r) = if g.s = [] then [] else [(joinT (x :: r)).tail] := by
  match k, h2 with
  | a' :: b' :: k', _ =>
    unfold PtB.key at h
    simp only [List.cons_append, List.cons.injEq] at h
    obtain ⟨_, _, h3⟩ := h
    obtain ⟨g, hg, hkd, hd⟩ := drop_kind (ks := k') (ks' := []) h3 rfl
    have hlen : p.l.length = k'.length + 1 := by simpa using congrArg List.length h3
    have e1 : (a' :: b' :: k').length - 2 = k'.length := by simp
    have e2 : p.l.drop (k'.length + 1) = [] := List.drop_of_length_le (by omega)
    refine ⟨g, by rw [List.getLast?_eq_getElem?, hlen]; exact hg, fun x r => ?_⟩
    rw [e1, hd, e2]
    have hm : g.multi = true := by
      unfold kindOf at hkd
      split at hkd
      · assumption
      · split at hkd <;> cases hkd
    rw [vals, if_pos hm]

set_option maxRecDepth 100000 in
set_option maxHeartbeats 6400000 in
theorem matchPath_any {W0 : World} {B c a : Nat} {T : Tr} {ps : List PtB} (HT : TreeTab W0 B c T a ps ps.length) (hB : B ≤ W0.heap.size) (hgood : ∀ (i : Nat) (q : PtB), ps[i]? = some q → q.pt.good) :
    ∀ (its : List (List UInt8)) (k : List Kd) (pth : ByteArray) (v : Value) (xs : List (List UInt8)) (w : World), GoodIts its → bs pth = joinT its → pth.size ≤ 1000 → 2 ≤ k.length → xs.length + its.length ≤ 1000 → Below W0.heap.size W0 w →
    w.ownsRow W0.heap.size 9 1 v xs.length (xs.map strV) → (∀ x ∈ its, x.length ≤ 1000) →
    Calls Tryd.prog 69 #[ptr (T.dir k), .string pth, v] w (MP W0 T ps k its v xs w)
  | its, k, pth, v, xs, w, hgi, hbp, hps, hkl, hxs, hbw, hown, hxl => by
    cases hd : T.dir k with
    | none =>
      have HR : Hid (MP W0 T ps k its v xs w (.returned (.tuple #[.pointer none, .slice none 0 0])) w) :=
        ⟨hbw, Nat.le_refl _, fun _ _ _ => rfl, .inl ⟨seek_no_dir HT.tree its k hd, rfl, hown⟩⟩
      clear hown hbw hgi hbp hxl HT hgood hd
      rw [ptr_none]
      go_enter Tryd.func69, Tryd.ntmps69
      go_wp2_with fail
      go_ret2
      exact HR.out
    | some n =>
      have hnode := (HT.tree.below hbw).node k n hd
      have hnh := hnode.2.1
      have hnlt := (HT.tree.has_lt hd (.inl rfl)).2
      have HOW := Lib.hid hown
      have HBW := Lib.hid hbw
      have HGI := Lib.hid hgi
      have HTT := Lib.hid HT
      have HGD := Lib.hid hgood
      have HBP := Lib.hid hbp
      have HXL := Lib.hid hxl
      have HD := Lib.hid hd
      have HND := Lib.hid hnode
      have c0 : w.cell? ⟨n.a, 0, none⟩ = some (pbV (T.leaf k)) := blk_cell hnh 0
      rw [ptr_some]
      cases its with
      | nil =>
        have e0 : pth.toList.isEmpty = true := by rw [bs_toList, hbp]; rfl
        cases hl : T.leaf k with
        | none =>
          have HR : Hid (MP W0 T ps k [] v xs w (.returned (.tuple #[.pointer none, .slice none 0 0])) w) :=
            ⟨hbw, Nat.le_refl _, fun _ _ _ => rfl, .inl ⟨by show idxOf W0 T k = none; unfold idxOf; rw [hl]; rfl, rfl, hown⟩⟩
          rw [hl] at c0
          simp only [pbV, Option.map_none] at c0
          clear hown hbw hgi hbp hxl HT hgood hd hnode hnh hl
          go_enter Tryd.func69, Tryd.ntmps69
          go_wp2_with fail
          go_ret2
          exact HR.out
        | some f =>
          obtain ⟨i, p, h1, h2, h3, _, _⟩ := leaf_read HT hB hbw hl
          have HR : Hid (MP W0 T ps k [] v xs w (.returned (.tuple #[.pointer (some ⟨n.a, 0, none⟩), v])) w) := by
            refine ⟨hbw, Nat.le_refl _, fun _ _ _ => rfl, .inr ⟨i, p, n, v, h3, h1, by rw [h2]; exact hd, rfl, ?_⟩⟩
            have e : p.l.drop (k.length - 2) = [] := by
              rw [← h2]
              exact List.drop_of_length_le (by simp [PtB.key])
            rw [e]
            simpa [vals] using hown
          rw [hl] at c0
          simp only [pbV, Option.map_some] at c0
          clear hown hbw hgi hbp hxl HT hgood hd hnode hnh hl h1 h2 h3
          go_enter Tryd.func69, Tryd.ntmps69
          go_wp2_with fail
          go_ret2
          exact HR.out
      | cons x r =>
        -- the first piece
        have hpne : bs pth ≠ [] := by
          rw [hbp]
          rcases hgi with ⟨rfl, rfl⟩ | ⟨h1, h2, h3⟩
          · simp [joinT]
          · unfold joinT; split <;> simp
        have e0 : pth.toList.isEmpty = false := by rw [bs_toList]; simpa using hpne
        have hx0 : x ≠ [] := by rcases hgi with ⟨rfl, rfl⟩ | ⟨h1, _⟩; simp; exact h1
        have hxz : x.length ≤ 1000 := hxl x (by simp)
        have hgr : GoodIts r := by rcases hgi with ⟨rfl, rfl⟩ | ⟨_, _, h3⟩; trivial; exact h3
        obtain ⟨rs, hrs⟩ : ∃ rs : ByteArray, rs = ⟨(joinT r).toArray⟩ := ⟨_, rfl⟩
        have hbr : bs rs = joinT r := by rw [hrs]; simp [bs]
        obtain ⟨xb, hxb⟩ : ∃ xb : ByteArray, xb = ⟨x.toArray⟩ := ⟨_, rfl⟩
        have hbx : bs xb = x := by rw [hxb]; simp [bs]
        have hrsz : rs.size ≤ 1000 := by
          have h1 := bs_size rs
          rw [hbr] at h1
          have h2 := bs_size pth
          rw [hbp] at h2
          have : (joinT r).length ≤ (joinT (x :: r)).length := by
            show _ ≤ ((if x = [47] then [47] else 47 :: x) ++ joinT r).length
            rw [List.length_append]; omega
          omega
        have HFS : Hid (∀ W, Calls Tryd.prog 80 #[.string pth] W fun e w' => ∃ j, e = .returned (.tuple #[.string xb, .string rs]) ∧ w' = W.drewN j) := by
          intro W
          rcases hgi with ⟨rfl, rfl⟩ | ⟨h1, h2, h3⟩
          · have hp : pth = ⟨#[47]⟩ := bs_inj (a := pth) (by rw [hbp]; rfl)
            rw [hp, hxb, hrs]
            exact (firstSegment_end W).mono fun e w' ⟨y, z⟩ => ⟨0, y, z.symm⟩
          · have h47 : x ≠ [47] := by rintro rfl; exact (h2 47 (by simp)).1 rfl
            have hj : bs pth = 47 :: (x ++ joinT r) := by rw [hbp]; show (if x = [47] then [47] else 47 :: x) ++ joinT r = _; rw [if_neg h47]; rfl
            obtain ⟨g1, g2⟩ := join_cut x r (fun c hc => (h2 c hc).1)
            have hc := firstSegment_any pth W (x ++ joinT r) (by omega) hj (by simp [h1]) (fun c hc => by
              rcases List.mem_append.1 hc with hc | hc
              · exact (h2 c hc).2
              · exact join_noPct r h3 c hc)
            rw [g1, g2] at hc
            rw [hxb, hrs]
            exact hc
        have hxs1 : xb.size ≤ 1000 := by rw [← bs_size, hbx]; exact hxz
        have hkx : hk (bs xb) = .lit x := by rw [hbx]; exact if_neg hx0
        have HFC : Hid (∀ W, Below W0.heap.size W0 W → Calls Tryd.prog 54 #[.pointer (some ⟨n.a, 0, none⟩), .string xb] W fun e w' => e = .returned (ptr (T.dir (k ++ [.lit x]))) ∧ Below W.heap.size W w') := by
          intro W hW
          refine (findChild_any T k n xb W B c hxs1 ((HTT.out.tree.below hW).node k n hd)).mono ?_
          rintro e w' ⟨h1, h2⟩
          rw [hkx] at h1
          refine ⟨h1.trans ?_, h2⟩
          unfold addrOf ptr
          simp [Function.comp_def]
        have HIH : Hid (∀ (y : Kd) (W : World) (v' : Value) (xs' : List (List UInt8)), xs'.length ≤ xs.length + 1 → Below W0.heap.size W0 W → W.ownsRow W0.heap.size 9 1 v' xs'.length (xs'.map strV) → Calls Tryd.prog 69 #[ptr (T.dir (k ++ [y])), .string rs, v'] W (MP W0 T ps (k ++ [y]) r v' xs' W)) := by
          intro y W v' xs' h1 h2 h3
          exact matchPath_any HTT.out hB HGD.out r (k ++ [y]) rs v' xs' W hgr hbr hrsz (by simp; omega) (by simp at hxs; omega) h2 h3 (fun z hz => HXL.out z (List.mem_cons_of_mem _ hz))
        -- what the answers below say of this place
        have HLIT : Hid (∀ (i : Nat) (p : PtB), seek (idxOf W0 T) r (k ++ [.lit x]) = some i → ps[i]? = some p → seek (idxOf W0 T) (x :: r) k = some i ∧ vals (p.l.drop (k.length - 2)) (x :: r) = vals (p.l.drop ((k ++ [Kd.lit x]).length - 2)) r) := by
          intro i p h1 h2
          obtain ⟨ks, hks⟩ := key_under HTT.out h1 h2
          refine ⟨by rw [seek, h1], ?_⟩
          rw [vals_step (y := .lit x) x r hks hkl (by simp)]
          simp
        have HONE : Hid (∀ (i : Nat) (p : PtB), seek (idxOf W0 T) r (k ++ [.lit x]) = none → x ≠ [47] → seek (idxOf W0 T) r (k ++ [.one]) = some i → ps[i]? = some p → seek (idxOf W0 T) (x :: r) k = some i ∧ vals (p.l.drop (k.length - 2)) (x :: r) = x :: vals (p.l.drop ((k ++ [Kd.one]).length - 2)) r) := by
          intro i p h0 hx h1 h2
          obtain ⟨ks, hks⟩ := key_under HTT.out h1 h2
          refine ⟨by rw [seek, h0]; simp [hx, h1], ?_⟩
          rw [vals_step (y := .one) x r hks hkl (by simp)]
          simp
        have HTAIL : Hid (seek (idxOf W0 T) r (k ++ [.lit x]) = none → (x = [47] ∨ seek (idxOf W0 T) r (k ++ [.one]) = none) → seek (idxOf W0 T) (x :: r) k = idxOf W0 T (k ++ [.rest])) := by
          intro h0 h1
          rw [seek, h0]
          by_cases hx : x = [47]
          · simp [hx]
          · rcases h1 with h1 | h1
            · exact absurd h1 hx
            · simp [hx, h1]
        -- the last road: what stands for all that is left
        have HREST : Hid (∀ (w5 : World), Below W0.heap.size W0 w5 → w.heap.size ≤ w5.heap.size → (∀ b, b < w.heap.size → v.ownBlock ≠ some b → w5.heap[b]? = w.heap[b]?) → w5.ownsRow W0.heap.size 9 1 v xs.length (xs.map strV) → seek (idxOf W0 T) (x :: r) k = idxOf W0 T (k ++ [.rest]) → True) := fun _ _ _ _ _ _ => trivial
        have hsz0 := hbw.size
        have HX : Hid (bs xb = x) := hbx
        have HRS : Hid (joinT (x :: r) = (if x = [47] then [47] else 47 :: x) ++ joinT r) := (rfl : joinT (x :: r) = _)
        clear hown hbw hgi hbp hxl HT hgood hd hnode hnh c0 hpne hgr hbr hx0 hkx HREST hxb hrs hbx
        go_enter Tryd.func69, Tryd.ntmps69
        go_upto_region 8 with (go_at_call 80; (with_reducible refine (HFS.out _).mono ?_); rintro e w1 ⟨j, rfl, rfl⟩)
        obtain ⟨w1, hw1⟩ : ∃ w1, w1 = w.drewN j := ⟨_, rfl⟩
        have HB1 : Hid (Below W0.heap.size W0 w1) := by show Below _ _ _; rw [hw1]; exact below_drew3 HBW.out j
        have HO1 : Hid (w1.ownsRow W0.heap.size 9 1 v xs.length (xs.map strV)) := by show World.ownsRow _ _ _ _ _ _ _; rw [hw1]; exact HOW.out
        have HH1 : Hid (∀ b : Nat, w1.heap[b]? = w.heap[b]?) := by intro b; rw [hw1]; rfl
        have hsz1 : w1.heap.size = w.heap.size := by rw [hw1]; rfl
        rw [← hw1]
        clear hw1
        go_upto_region 9 with (first
          | (go_at_call 54; (with_reducible refine (HFC.out _ HB1.out).mono ?_); rintro e w2 ⟨rfl, hb⟩; have HB2 := Lib.hid (HB1.out.trans (hb.mono (by omega))); have HO2 := Lib.hid (own_below HO1.out hb); have HH2 : Hid (∀ b : Nat, b < w.heap.size → w2.heap[b]? = w.heap[b]?) := (fun b hb' => (hb.block b (by omega)).trans (HH1.out b)); have hsz2 := hb.size; clear hb)
          | (go_at_call 69; (with_reducible refine (HIH.out (.lit x) _ v xs (by omega) HB2.out HO2.out).mono ?_); intro e w3 hmp; obtain ⟨hb3, hs3, hf3, hcase⟩ := hmp; have HB3 := Lib.hid hb3; have HF3 : Hid (∀ b : Nat, b < w.heap.size → v.ownBlock ≠ some b → w3.heap[b]? = w.heap[b]?) := (fun b h1 h2 => (hf3 b (by omega) h2).trans (HH2.out b h1)); clear hb3 hf3; rcases hcase with ⟨hsk, rfl, ho3⟩ | ⟨i, p, nd, v', hsk, hp, hdir, rfl, ho3⟩))
        rotate_left
        · -- the literal's road led to a leaf
          have HG : Hid (MP W0 T ps k (x :: r) v xs w (.returned (.tuple #[.pointer (some ⟨nd.a, 0, none⟩), v'])) w3) := by
            obtain ⟨g1, g2⟩ := HLIT.out i p hsk hp
            refine ⟨HB3.out, by omega, HF3.out, .inr ⟨i, p, nd, v', g1, hp, hdir, rfl, ?_⟩⟩
            rw [g2]
            exact ho3
          clear hsk hp hdir ho3
          go_wp2_with fail
          go_ret2
          exact HG.out
        have HS1 := Lib.hid hsk
        have HO3 := Lib.hid ho3
        clear hsk ho3 HB1 HB2 HO1 HO2 HH1 HH2 HFS HFC HLIT
        have hnd : n.a < w.heap.size := by omega
        have hnv : v.ownBlock ≠ some n.a := fun e => by have := (HOW.out.lt n.a e).1; omega
        have hn3 : n.a < w3.heap.size := by have := HB3.out.size; omega
        by_cases hx : x = [47]
        focus
          have e1 : (xb.toList == [47]) = true := by rw [bs_toList, HX.out, hx]; rfl
          have HSK : Hid (seek (idxOf W0 T) (x :: r) k = idxOf W0 T (k ++ [.rest])) := HTAIL.out HS1.out (.inl hx)
          obtain ⟨w5, hw5⟩ : ∃ w5, w5 = w3 := ⟨_, rfl⟩
          rw [← hw5] at HB3 HF3 HO3 hn3 hs3 ⊢
          clear hx hw5
          have HB5 := HB3
          have HF5 := HF3
          have HO5 := HO3
          have hs5 : w.heap.size ≤ w5.heap.size := by omega
          clear HB3 HF3 HO3
          go_upto_region 15 with fail
        rotate_left
        focus
          have e1 : (xb.toList == [47]) = false := by rw [bs_toList, HX.out]; simpa using hx
          have HNX := Lib.hid hx
          clear hx
          go_upto_region 12 with fail
          have hx1 : (w3.drew.alloc (.cells #[.string xb] 9)).cell? ((⟨w3.heap.size, 0, none⟩ : Addr).add 0) = some (.string xb) := blk_cell (new0 w3.drew (.cells #[.string xb] 9)) 0
          obtain ⟨v4, w4, hrun, ho4, hgrow, hv4, hbk⟩ := append_back (w3.drew.alloc (.cells #[.string xb] 9)) W0.heap.size 30 v (.string xb) xs.length (xs.map strV) (HO3.out.drew.alloc _) ⟨w3.heap.size, 0, none⟩ 1 (by simp [Value.oneCell']) hx1 (by omega) (by have := HB3.out.size; simp; omega)
          clear hx1
          have HO4 := Lib.hid ho4
          have HG4 := Lib.hid hgrow
          have HV4 := Lib.hid hv4
          have HK4 := Lib.hid hbk
          clear ho4 hgrow hv4 hbk
          have HND3 : Hid (w3.heap[n.a]? = w.heap[n.a]?) := HF3.out n.a hnd hnv
          have s5 : w3.cell? ⟨n.a, 5, none⟩ = some (ptr (T.dir (k ++ [.one]))) := by
            refine (World.cell?_of_block (a := ⟨n.a, 5, none⟩) HND3.out).trans ?_
            exact blk_cell HND.out.2.1 5
          have s5' : w4.cell? ⟨n.a, 5, none⟩ = some (ptr (T.dir (k ++ [.one]))) := by
            refine (World.cell?_of_block (a := ⟨n.a, 5, none⟩) ?_).trans s5
            rw [HG4.out.block n.a (by have := HB3.out.size; simp; omega) (fun e => by have := (HOW.out.lt n.a e.symm).1; omega)]
            exact Below.heap_alloc _ _ _ (by have := HB3.out.size; simp; omega)
          have s5'' : (w3.alloc (.cells #[.string xb] 9)).cell? ⟨n.a, 5, none⟩ = some (ptr (T.dir (k ++ [.one]))) := (World.cell?_of_block (a := ⟨n.a, 5, none⟩) (Below.heap_alloc _ _ _ hn3)).trans s5
          have hown4 : w4.ownsRow W0.heap.size 9 1 v4 (xs ++ [x]).length ((xs ++ [x]).map strV) := by
            have h := HO4.out
            have e : (.string xb : Value) = strV x := by rw [← HX.out, strV_bs]
            rw [e] at h
            simpa using h
          have HB4 : Hid (Below W0.heap.size W0 w4) := (((HB3.out.drew).alloc (by have := HB3.out.size; simpa using this) _).grown HG4.out (by have := HB3.out.size; simp; omega) fun g hg => (HOW.out.lt g hg).1)
          have HC1 := Lib.hid (HIH.out .one w4 v4 (xs ++ [x]) (by simp) HB4.out hown4)
          clear hown4
          go_region_law (first
            | (refine step_append_run rfl (.tmp 52) (.tmp 54) 30 rfl rfl v (.slice (some ⟨w3.heap.size, 0, none⟩) 1 1) (by simp [Act.eval]) (by simp [Act.eval]) v4 w4 hrun ?_)
            | (go_simp; go_at_call 69; (with_reducible refine HC1.out.mono ?_); intro e w5 hmp; obtain ⟨u, v5, rfl, HMP5⟩ := hmp.uni; clear hmp))
          all_goals
            (obtain ⟨hb5, hsz5, hf5, hcase⟩ := HMP5.out
             have HF5 : Hid (∀ b : Nat, b < w.heap.size → v.ownBlock ≠ some b → w5.heap[b]? = w.heap[b]?) := by
               intro b h1 h2
               have e1 := HG4.out.size
               have e2 := HB3.out.size
               simp at e1
               have h3 : w4.heap[b]? = w3.heap[b]? := (HG4.out.block b (by simp; omega) (fun e => h2 e.symm)).trans (Below.heap_alloc w3.drew _ _ (show b < w3.heap.size by omega))
               refine (hf5 b (by omega) ?_).trans (h3.trans (HF3.out b h1 h2))
               rcases HV4.out with e | e
               · rw [e]; exact h2
               · rw [e]; simp; omega
             have hs5 : w.heap.size ≤ w5.heap.size := by
               have e1 := HG4.out.size
               simp at e1
               omega
             have HB5 := Lib.hid hb5
             rcases hcase with ⟨hsk, he, ho5⟩ | ⟨i, p, nd, v6, hsk, hp, hdir, he, ho5⟩
             rotate_left
             · have HG : Hid (MP W0 T ps k (x :: r) v xs w (.returned (.tuple #[.pointer (some ⟨nd.a, 0, none⟩), v6])) w5) := by
                 obtain ⟨g1, g2⟩ := HONE.out i p HS1.out HNX.out hsk hp
                 refine ⟨HB5.out, hs5, HF5.out, .inr ⟨i, p, nd, v6, g1, hp, hdir, rfl, ?_⟩⟩
                 rw [g2]
                 simpa using ho5
               clear hb5 hf5 hsk ho5 hsz5 s5 s5' s5'' hrun HO4 HG4 HV4 HK4 HC1 HB4 HMP5 HB3 HF3 HO3 HND3 hp hdir
               cases he
               go_wp2_with fail
               go_ret2
               exact HG.out
             have HSK : Hid (seek (idxOf W0 T) (x :: r) k = idxOf W0 T (k ++ [.rest])) := HTAIL.out HS1.out (.inr hsk)
             have HO5 : Hid (w5.ownsRow W0.heap.size 9 1 v xs.length (xs.map strV)) := by
               have e : (.string xb : Value) = strV x := by rw [← HX.out, strV_bs]
               refine HK4.out.back (x := .string xb) ?_ (by simp) hf5
               rw [e]
               simpa using ho5
             clear hb5 hf5 hsk ho5 hsz5 s5 s5' s5'' hrun HO4 HG4 HV4 HK4 HC1 HB4 HMP5 HB3 HF3 HO3 HND3
             cases he
             go_upto_region 15 with fail)
        all_goals
          (have s4 : w5.cell? ⟨n.a, 4, none⟩ = some (ptr (T.dir (k ++ [.rest]))) := by
             refine (World.cell?_of_block (a := ⟨n.a, 4, none⟩) (HF5.out n.a hnd hnv)).trans ?_
             exact blk_cell HND.out.2.1 4
           cases hdr : T.dir (k ++ [.rest]) with
           | none =>
             have HG : Hid (MP W0 T ps k (x :: r) v xs w (.returned (.tuple #[.pointer none, .slice none 0 0])) w5) := by
               refine ⟨HB5.out, hs5, HF5.out, .inl ⟨?_, rfl, HO5.out⟩⟩
               rw [HSK.out]
               have hl : T.leaf (k ++ [.rest]) = none := by
                 cases hl : T.leaf (k ++ [.rest]) with
                 | none => rfl
                 | some d => exact absurd hdr (HTT.out.tree.leafUp _ (by rw [hl]; simp))
               unfold idxOf
               rw [hl]; rfl
             rw [hdr] at s4
             simp only [ptr, Option.map_none] at s4
             clear hdr
             go_wp2_with fail
             go_ret2
             exact HG.out
           | some d =>
             obtain ⟨f, hlf⟩ : ∃ f, T.leaf (k ++ [.rest]) = some f := by
               cases hl : T.leaf (k ++ [.rest]) with
               | none => exact absurd hl (HTT.out.rest k (by rw [hdr]; simp))
               | some f => exact ⟨f, rfl⟩
             obtain ⟨i, p, hp, hkey, hidx, hpat, _⟩ := leaf_read HTT.out hB HB5.out hlf
             obtain ⟨g, hgl, hvals⟩ := tail_law hkey hkl
             have hll : p.l.length ≤ 2147483647 := good_len (HGD.out i p hp)
             obtain ⟨gb, hgb⟩ : ∃ gb : ByteArray, gb = ⟨g.s.toArray⟩ := ⟨_, rfl⟩
             have HLS : Hid (Calls Tryd.prog 50 #[.pointer (some ⟨f.pb, 0, none⟩)] w5 fun e w' => e = .returned (.agg #[.string gb, .bool g.wild, .bool g.multi]) ∧ Below w5.heap.size w5 w') := by
               rw [hgb]
               exact last_any f.pb p.m p.h p.l g w5 hpat hgl hll
             have hdn := ((HTT.out.tree.below HB5.out).node _ d hdr).2.1
             have s0 : w5.cell? ⟨d.a, 0, none⟩ = some (.pointer (some ⟨f.pb, 0, none⟩)) := by
               have := blk_cell hdn 0
               rw [hlf] at this
               exact this
             rw [hdr] at s4
             simp only [ptr, Option.map_some] at s4
             have hf0 := fun w => fieldS gb g.wild g.multi w
             have HSI : Hid (seek (idxOf W0 T) (x :: r) k = some i) := HSK.out.trans hidx
             have HDP : Hid (T.dir p.key = some d) := by show _ = _; rw [hkey]; exact hdr
             have HP := Lib.hid hp
             have HV := Lib.hid (hvals x r)
             have hgs : bs gb = g.s := by rw [hgb]; simp [bs]
             have HGS := Lib.hid hgs
             clear hdr hp hkey hidx hpat hgl hvals hll hgb hdn hlf hgs
             by_cases hg0 : g.s = []
             · have e2 : gb.toList.isEmpty = true := by rw [bs_toList, HGS.out]; simpa using hg0
               have HV0 : Hid (vals (p.l.drop (k.length - 2)) (x :: r) = []) := by show _ = _; rw [HV.out, if_pos hg0]
               clear hg0
               go_wp2_with (go_at_call 50; (with_reducible refine HLS.out.mono ?_); rintro e w6 ⟨rfl, hb6⟩; have HB6 := Lib.hid hb6; clear hb6)
               go_ret2
               refine ⟨HB5.out.trans (HB6.out.mono HB5.out.size), by have := HB6.out.size; omega, fun b h1 h2 => (HB6.out.block b (by omega)).trans (HF5.out b h1 h2), .inr ⟨i, p, d, _, HSI.out, HP.out, HDP.out, rfl, ?_⟩⟩
               rw [HV0.out]
               simpa using own_below HO5.out HB6.out
             · have e2 : gb.toList.isEmpty = false := by rw [bs_toList, HGS.out]; simpa using hg0
               have HV0 : Hid (vals (p.l.drop (k.length - 2)) (x :: r) = [(joinT (x :: r)).tail]) := by show _ = _; rw [HV.out, if_neg hg0]
               have hjp : bs (pth.extract 1 pth.size) = (joinT (x :: r)).tail := by
                 rw [bs_extract, List.take_of_length_le (by rw [List.length_drop, bs_size]; omega), HBP.out, List.drop_one]
               have HJP := Lib.hid hjp
               have HU : Hid (∀ W, Calls Tryd.prog 63 #[.string (pth.extract 1 pth.size)] W fun e w' => e = .returned (.string (pth.extract 1 pth.size)) ∧ W = w') := fun W =>
                 pathUnescape_any _ W (by rw [← bs_size, hjp, List.length_tail, ← HBP.out, bs_size]; omega) (by rw [hjp]; exact fun c hc => join_noPct _ HGI.out c (List.mem_of_mem_tail hc))
               have hp1 : 1 ≤ pth.size := by
                 have : pth.toList ≠ [] := by intro e; rw [e] at e0; cases e0
                 rw [bs_toList] at this
                 rw [← bs_size]
                 exact List.length_pos_iff.2 this
               obtain ⟨i0, hi, hz0, hz1, hz2⟩ := info_parts info_str
               clear hg0 hjp
               go_upto_region 18 with (go_at_call 50; (with_reducible refine HLS.out.mono ?_); rintro e w6 ⟨rfl, hb6⟩; have HB6 := Lib.hid hb6; clear hb6)
               have HO6 := Lib.hid (own_below HO5.out HB6.out)
               clear s0 s4
               go_wp2_with (first
                 | (go_at_call 63; (with_reducible refine (HU.out _).mono ?_); rintro e w7 ⟨rfl, rfl⟩)
                 | (at_builtin; refine wpList_append_own _ rfl _ _ 30 rfl W0.heap.size 9 i0 (.string ⟨#[]⟩) 1 16 Tryd.underlying30 hi hz0 hz1 hz2 rfl (by decide) _ _ _ rfl (HO6.out.alloc _) ⟨w6.heap.size, 0, none⟩ 1 1 [_] rfl rfl (cell_one_new _ _ _) (by simp [Value.oneCell']) (by unfold maxLen; omega) (by omega) (by have := HB6.out.size; have := HB5.out.size; simp; omega) ?_; intro v8 w8 hown8 hgrow8 _))
               go_ret2
               have e1 := hgrow8.size
               have e2 := HB6.out.size
               have e3 := HB5.out.size
               simp at e1
               refine ⟨((HB5.out.trans (HB6.out.mono HB5.out.size)).alloc (by omega) _).grown hgrow8 (by simp; omega) (fun g hg => (HOW.out.lt g hg).1), by omega, fun b h1 h2 => ?_, .inr ⟨i, p, d, _, HSI.out, HP.out, HDP.out, rfl, ?_⟩⟩
               · refine (hgrow8.block b (by simp; omega) (fun e => h2 e.symm)).trans ?_
                 refine (Below.heap_alloc _ _ _ (by omega)).trans ?_
                 exact (HB6.out.block b (by omega)).trans (HF5.out b h1 h2)
               · rw [HV0.out]
                 have e4 : (.string (pth.extract 1 pth.size) : Value) = strV (joinT (x :: r)).tail := by rw [← HJP.out, strV_bs]
                 rw [e4] at hown8
                 simpa using hown8)
termination_by its => its.length
end Go.Proofs.YtgkhfcoieknjeaaDoor
