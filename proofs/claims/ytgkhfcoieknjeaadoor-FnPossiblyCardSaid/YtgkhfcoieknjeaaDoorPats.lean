/-
  Proved: what rows of patterns are in memory; what an argument that is such a row holds when it can be read as data; laws.zzFits5, laws.all, spec.AllGood, laws.written and spec.Peace over such rows. Conditions: as each says (sizes; the rows can be read).
-/
import Derived.Test.YtgkhfcoieknjeaaDoorTreeAll
import Derived.Test.YtgkhfcoieknjeaaDoorOpen
import Derived.Test.YtgkhfcoieknjeaaDoorSpecPaths
import Derived.Deep.RegionLaw
namespace Go.Proofs.YtgkhfcoieknjeaaDoor
open Go.RowKit Go.ChangeShapes Go.WideShapes Go.Deep Go.Joins

/-- A slice value that reads as patterns. -/
def PatsAt (w : World) (v : Value) (ps : List PtB) : Prop :=
  ∃ A cap, v = .slice A ps.length cap ∧ ps.length ≤ cap ∧ cap ≤ maxLen ∧
    ∀ j p, ps[j]? = some p → ∃ b o sv, A = some ⟨b, o, none⟩ ∧ b < w.heap.size ∧
      w.cell? ⟨b, o + j * 3, none⟩ = some (.string p.m) ∧ w.cell? ⟨b, o + j * 3 + 1, none⟩ = some (.string p.h) ∧ w.cell? ⟨b, o + j * 3 + 2, none⟩ = some sv ∧ SegsAt w sv p.l

theorem PatsAt.keep {w w' : World} {v : Value} {ps : List PtB} (h : PatsAt w v ps) (hb : Below w.heap.size w w') : PatsAt w' v ps := by
  obtain ⟨A, cap, hv, hc, hcm, hf⟩ := h
  refine ⟨A, cap, hv, hc, hcm, fun j p hj => ?_⟩
  obtain ⟨b, o, sv, hA, hlt, h1, h2, h3, h4⟩ := hf j p hj
  exact ⟨b, o, sv, hA, Nat.lt_of_lt_of_le hlt hb.size, (hb.cell hlt).trans h1, (hb.cell hlt).trans h2, (hb.cell hlt).trans h3, h4.keep hb⟩

/-- The cells of patterns with the rows of their pieces. -/
def cellsP (qs : List (PtB × Value)) : List Value := qs.flatMap fun x => [.string x.1.m, .string x.1.h, x.2]

theorem cellsP_length : ∀ qs : List (PtB × Value), (cellsP qs).length = qs.length * 3
  | [] => rfl
  | x :: t => by
    have ih := cellsP_length t
    unfold cellsP at ih ⊢
    simp only [List.flatMap_cons, List.length_append, ih, List.length_cons, List.length_nil]
    omega

theorem cellsP_at : ∀ (l : List (PtB × Value)) (j : Nat) (x : PtB × Value), l[j]? = some x → (cellsP l)[j * 3]? = some (.string x.1.m) ∧ (cellsP l)[j * 3 + 1]? = some (.string x.1.h) ∧ (cellsP l)[j * 3 + 2]? = some x.2
  | [], j, g, h => by simp at h
  | x :: t, 0, g, h => by
    simp at h
    subst h
    simp [cellsP]
  | x :: t, j + 1, g, h => by
    have ih := cellsP_at t j g (by simpa using h)
    have e : cellsP (x :: t) = [.string x.1.m, .string x.1.h, x.2] ++ cellsP t := rfl
    have hl : [Value.string x.1.m, Value.string x.1.h, x.2].length = 3 := rfl
    rw [e]
    refine ⟨?_, ?_, ?_⟩
    · rw [List.getElem?_append_right (by rw [hl]; omega), hl, show (j + 1) * 3 - 3 = j * 3 by omega]; exact ih.1
    · rw [List.getElem?_append_right (by rw [hl]; omega), hl, show (j + 1) * 3 + 1 - 3 = j * 3 + 1 by omega]; exact ih.2.1
    · rw [List.getElem?_append_right (by rw [hl]; omega), hl, show (j + 1) * 3 + 2 - 3 = j * 3 + 2 by omega]; exact ih.2.2

theorem cellsP_snoc (l : List (PtB × Value)) (x : PtB × Value) : cellsP (l ++ [x]) = cellsP l ++ [.string x.1.m, .string x.1.h, x.2] := by
  simp [cellsP]

theorem PatsAt.of_own {w : World} {base : Nat} {e : TypeId} {v : Value} {qs : List (PtB × Value)} (h : w.ownsRow base e 3 v qs.length (cellsP qs)) (hs : ∀ x ∈ qs, SegsAt w x.2 x.1.l) : PatsAt w v (qs.map (·.1)) := by
  obtain ⟨A, cap, hv, hnc, hcm, _⟩ := own_form h
  refine ⟨A, cap, by simpa using hv, by simpa using hnc, hcm, fun j p hj => ?_⟩
  rw [List.getElem?_map] at hj
  obtain ⟨x, hx, rfl⟩ := Option.map_eq_some_iff.1 hj
  have hjl : j < qs.length := (List.getElem?_eq_some_iff.1 hx).1
  obtain ⟨b, c, hv2, _, hlt, _, _, hc⟩ := own_pos h (by omega)
  rw [hv] at hv2
  simp only [Value.slice.injEq] at hv2
  obtain ⟨h1, h2, h3⟩ := cellsP_at qs j x hx
  exact ⟨b, 0, x.2, hv2.1, hlt, by simpa using hc _ _ h1, by simpa using hc _ _ h2, by simpa using hc _ _ h3, hs x (List.mem_of_getElem? hx)⟩

theorem info_specPat : (Tryd.prog.info? 45).map (fun i => (i.zero, i.size, i.bytes)) = some (some (.agg #[.string ⟨#[]⟩, .string ⟨#[]⟩, .slice none 0 0]), 3, 56) := by kernel_rfl
theorem info_implPat : (Tryd.prog.info? 36).map (fun i => (i.zero, i.size, i.bytes)) = some (some (.agg #[.string ⟨#[]⟩, .string ⟨#[]⟩, .slice none 0 0]), 3, 56) := by kernel_rfl

/-- All sizes of patterns are such as a machine can hold. -/
def SizesP (ps : List PtB) : Prop := ∀ p ∈ ps, p.m.size ≤ 9223372036854775807 ∧ p.h.size ≤ 9223372036854775807 ∧ Short p.l ∧ p.l.length ≤ 9223372036854775807
def FitsB (p : PtB) : Prop := FitsP p.m p.h p.l

set_option maxRecDepth 100000 in
set_option maxHeartbeats 1600000 in
theorem fits5_any (v : Value) (ps : List PtB) (w : World) (H : PatsAt w v ps) (hs : SizesP ps) :
    Calls Tryd.prog 8 #[v] w (FitsEnd (ps.length ≤ 2147483647 ∧ ∀ p ∈ ps, FitsB p) w) := by
  obtain ⟨A, cap, rfl, hlc, hcm, hf⟩ := H
  have HF := Lib.hid hf
  have HS := Lib.hid hs
  unfold maxLen at hcm
  clear hf hs
  by_cases hbig : 2147483647 < ps.length
  · go_enter Tryd.func8, Tryd.ntmps8
    go_wp2_with fail
    go_ret
    exact ⟨Below.refl _ _, .inl rfl⟩
  go_enter Tryd.func8, Tryd.ntmps8
  go_wp2_with fail
  go_loopw [10] (fun iv wr => ∃ k : Nat, k ≤ ps.length ∧ iv = .int .i64 k ∧ Hid (∀ p ∈ ps.take k, FitsB p) ∧ Below w.heap.size w wr) (fun iv _ => ps.length - (intOf iv).toNat)
  case atStart => exact ⟨0, Nat.zero_le _, rfl, by intro g hg; simp at hg, Below.refl _ _⟩
  case round =>
    obtain ⟨k, hk, rfl, HK, hb⟩ := hrel
    by_cases hlt : k < ps.length
    · obtain ⟨p, hp⟩ : ∃ p, ps[k]? = some p := ⟨_, List.getElem?_eq_getElem hlt⟩
      obtain ⟨b, o, sv, rfl, hbl, h1, h2, h3, h4⟩ := HF.out k p hp
      obtain ⟨z1, z2, z3, z4⟩ := HS.out p (List.mem_of_getElem? hp)
      have HZ : Hid (∀ W, Below w.heap.size w W → Calls Tryd.prog 17 #[.agg #[.string p.m, .string p.h, sv]] W (FitsEnd (FitsP p.m p.h p.l) W)) := fun W hW => zfOne p.m p.h sv p.l W (h4.keep hW) z3 z4 z1 z2
      obtain ⟨Y, yc, rfl, _, _⟩ := h4
      have g1 : wr.cell? ⟨b, o + k * 3, none⟩ = some (.string p.m) := (hb.cell hbl).trans h1
      have g2 : wr.cell? ⟨b, o + k * 3 + 1, none⟩ = some (.string p.h) := (hb.cell hbl).trans h2
      have g3 : wr.cell? ⟨b, o + k * 3 + 2, none⟩ = some (.slice Y p.l.length yc) := (hb.cell hbl).trans h3
      have HG := Lib.hid hp
      have HB1 : Hid (Below w.heap.size w (wr.alloc (.cells #[.string p.m, .string p.h, .slice Y p.l.length yc] 36))) := hb.alloc hb.size _
      clear h1 h2 h3 hp hb z3
      go_wp2_with fail
      refine (HZ.out _ HB1.out).mono ?_
      rintro e w2 ⟨hb2, rfl | ⟨rfl, hp⟩⟩
      · go_wp2_with fail
        go_ret
        exact ⟨HB1.out.trans (hb2.mono HB1.out.size), .inl rfl⟩
      · have HP : Hid (∀ p ∈ ps.take (k + 1), FitsB p) := by
          intro x hx
          rw [List.take_add_one, HG.out] at hx
          rcases List.mem_append.1 hx with h | h
          · exact HK.out x h
          · simp at h; rw [h]; exact hp
        have HB3 := Lib.hid (HB1.out.trans (hb2.mono HB1.out.size))
        clear hp hb2
        go_wp2_with fail
        go_roundw
        case rel => exact ⟨k + 1, by omega, by go_num, HP, HB3.out⟩
        case measure => simp [intOf]; omega
    · have HP : Hid (∀ p ∈ ps, FitsB p) := by
        have := HK.out
        rwa [List.take_of_length_le (by omega)] at this
      go_wp2_with fail
      go_ret
      exact ⟨hb, .inr ⟨rfl, by omega, HP.out⟩⟩

/-- Patterns, each with a row of its own for its pieces, in a row of their own. -/
structure PatsOwn (w : World) (base : Nat) (v : Value) (qs : List (PtB × Value)) : Prop where
  row : w.ownsRow base 45 3 v qs.length (cellsP qs)
  segs : ∀ x ∈ qs, w.ownsRow base 64 3 x.2 x.1.l.length (segCells x.1.l) ∧ ∀ g, x.2.ownBlock = some g → v.ownBlock ≠ some g

theorem PatsOwn.below {w w' : World} {base : Nat} {v : Value} {qs : List (PtB × Value)} (H : PatsOwn w base v qs) (hb : Below w.heap.size w w') : PatsOwn w' base v qs :=
  ⟨own_below H.row hb, fun x hx => ⟨own_below (H.segs x hx).1 hb, (H.segs x hx).2⟩⟩
theorem PatsOwn.at {w : World} {base : Nat} {v : Value} {qs : List (PtB × Value)} (H : PatsOwn w base v qs) : PatsAt w v (qs.map (·.1)) :=
  PatsAt.of_own H.row fun x hx => SegsAt.of_own (H.segs x hx).1

/-- One pattern more. -/
theorem PatsOwn.snoc {w w' : World} {base : Nat} {v v' : Value} {qs : List (PtB × Value)} {p : PtB} {sv : Value} (H : PatsOwn w base v qs) (hsv : w.ownsRow base 64 3 sv p.l.length (segCells p.l)) (hne : ∀ g, sv.ownBlock = some g → v.ownBlock ≠ some g)
    (hrow : w'.ownsRow base 45 3 v' (qs.length + 1) (cellsP qs ++ [.string p.m, .string p.h, sv])) (hg : w.grownBy w' v.ownBlock) (hv : v'.ownBlock = v.ownBlock ∨ v'.ownBlock = some w.heap.size) : PatsOwn w' base v' (qs ++ [(p, sv)]) := by
  have key : ∀ (u : Value) (l : List Seg), w.ownsRow base 64 3 u l.length (segCells l) → (∀ g, u.ownBlock = some g → v.ownBlock ≠ some g) →
      w'.ownsRow base 64 3 u l.length (segCells l) ∧ ∀ g, u.ownBlock = some g → v'.ownBlock ≠ some g := by
    intro u l hu hn
    refine ⟨ownsRow_of_heap hu fun b hb => hg.block b (hu.lt b hb).2 (fun e => hn b hb e.symm), fun g hug => ?_⟩
    rcases hv with e | e
    · rw [e]; exact hn g hug
    · rw [e]
      intro e2
      have := (hu.lt g hug).2
      have := Option.some.inj e2
      omega
  refine ⟨by rw [cellsP_snoc]; simpa using hrow, fun x hx => ?_⟩
  rcases List.mem_append.1 hx with hx | hx
  · exact key _ _ (H.segs x hx).1 (H.segs x hx).2
  · simp only [List.mem_singleton] at hx
    subst hx
    exact key _ _ hsv hne

theorem bumpN {n m : Nat} (h : n ≤ m) : n ≤ m + 1 := by omega

set_option maxRecDepth 100000 in
set_option maxHeartbeats 3200000 in
theorem all_any (v : Value) (ps : List PtB) (w : World) (H : PatsAt w v ps) (hn : ps.length ≤ 2147483647) (hs : ∀ p ∈ ps, FitsB p) :
    Calls Tryd.prog 10 #[v] w fun e w' => ∃ v' qs, e = .returned v' ∧ qs.map Prod.fst = ps ∧ PatsOwn w' w.heap.size v' qs ∧ Below w.heap.size w w' := by
  obtain ⟨i0, hi, hz0, hz1, hz2⟩ := info_parts info_specPat
  obtain ⟨A, cap, rfl, hlc, hcm, hf⟩ := H
  have HF := Lib.hid hf
  have HS := Lib.hid hs
  unfold maxLen at hcm
  clear hf hs
  go_enter Tryd.func10, Tryd.ntmps10
  go_wp2_with fail
  go_loopw [3, 9] (fun cur kv wr => ∃ (k : Nat) (qs : List (PtB × Value)), k ≤ ps.length ∧ kv = .int .i64 k ∧ Hid (qs.map Prod.fst = ps.take k) ∧ Hid (PatsOwn wr w.heap.size cur qs) ∧ Below w.heap.size w wr)
    (fun _ kv _ => ps.length - (intOf kv).toNat)
  case atStart =>
    exact ⟨0, [], Nat.zero_le _, rfl, rfl, ⟨by simpa [cellsP] using World.ownsRow_made w #[] 0 (by simp) (by decide) (by decide), fun x hx => by simp at hx⟩, (Below.refl _ _).alloc (Nat.le_refl _) _⟩
  case round =>
    obtain ⟨k, qs, hk, rfl, HQ, HO, hb⟩ := hrel
    by_cases hlt : k < ps.length
    · obtain ⟨p, hp⟩ : ∃ p, ps[k]? = some p := ⟨_, List.getElem?_eq_getElem hlt⟩
      obtain ⟨b, o, sv, rfl, hbl, h1, h2, h3, h4⟩ := HF.out k p hp
      obtain ⟨z1, z2, z3, z4⟩ := HS.out p (List.mem_of_getElem? hp)
      have HZ : Hid (∀ W, Below w.heap.size w W → Calls Tryd.prog 19 #[.agg #[.string p.m, .string p.h, sv]] W fun e w' => ∃ sv', e = .returned (.agg #[.string p.m, .string p.h, sv']) ∧ w'.ownsRow W.heap.size 64 3 sv' p.l.length (segCells p.l) ∧ Below W.heap.size W w') := fun W hW => conv_any p.m p.h sv p.l W (h4.keep hW) z3
      obtain ⟨Y, yc, rfl, _, _⟩ := h4
      have g1 : wr.cell? ⟨b, o + k * 3, none⟩ = some (.string p.m) := (hb.cell hbl).trans h1
      have g2 : wr.cell? ⟨b, o + k * 3 + 1, none⟩ = some (.string p.h) := (hb.cell hbl).trans h2
      have g3 : wr.cell? ⟨b, o + k * 3 + 2, none⟩ = some (.slice Y p.l.length yc) := (hb.cell hbl).trans h3
      have HN : Hid (ps.take (k + 1) = ps.take k ++ [p]) := by show _ = _; rw [List.take_add_one, hp]; rfl
      have HB1 : Hid (Below wr.heap.size wr (wr.alloc (.cells #[.string p.m, .string p.h, .slice Y p.l.length yc] 36))) := (Below.refl _ _).alloc (Nat.le_refl _) _
      have HBW := Lib.hid hb
      have hszw := hb.size
      have hql : qs.length = k := by
        have := congrArg List.length HQ.out
        simpa [Nat.min_eq_left hk] using this
      have HQL := Lib.hid hql
      clear h1 h2 h3 hp hb z3 z4 hql
      go_upto_region 5 with fail
      have hs1 := HB1.out.size
      go_wp2_with (first
        | (go_at_call 19; (with_reducible refine (HZ.out _ (HBW.out.trans (HB1.out.mono HBW.out.size))).mono ?_); rintro e w2 ⟨sv2, rfl, hown2, hb2⟩; obtain ⟨X, xc, rfl, _, _, hX⟩ := own_form hown2; have HO2 := Lib.hid hown2; have HB2 : Hid (Below wr.heap.size wr w2) := (HB1.out.trans (hb2.mono (by simp))); have hs2 := hb2.size; clear hown2 hb2)
        | (at_builtin; refine wpList_append_own_at _ rfl _ _ 27 rfl w.heap.size 45 i0 (.agg #[.string ⟨#[]⟩, .string ⟨#[]⟩, .slice none 0 0]) 3 56 Tryd.underlying27 hi hz0 hz1 hz2 rfl (by decide) _ _ _ rfl ((HO.out.below HB2.out).row.alloc _) ⟨w2.heap.size, 0, none⟩ 1 1 [_, _, _] rfl rfl (cells3_new _ _ _ _ _ _ (by simp)) (by simp [Value.oneCell']) (by unfold maxLen; rw [HQL.out]; omega) (by rw [HQL.out]; omega) (by have := HB2.out.size; simp; omega) ?_; intro v' w3 hown3 hgrow _ hv3))
      have HP' : Hid (PatsOwn w3 w.heap.size v' (qs ++ [(p, .slice X p.l.length xc)])) := by
        have hal : Below w2.heap.size w2 (w2.alloc (.cells #[.string p.m, .string p.h, .slice X p.l.length xc] 45)) := (Below.refl _ _).alloc (Nat.le_refl _) _
        refine PatsOwn.snoc ((HO.out.below HB2.out).below hal) (own_below (own_lower HO2.out (by omega)) hal) (fun g hg e => ?_) hown3 hgrow hv3
        have h1 := (HO.out.row.lt g e).2
        have h2 := (HO2.out.lt g hg).1
        simp at h2
        omega
      have hb3 : Below w.heap.size w w3 := ((HBW.out.trans (HB2.out.mono HBW.out.size)).alloc (by omega) _).grown hgrow (by simp; omega) (fun g hg => (HO.out.row.lt g hg).1)
      clear hown3 hgrow hv3
      go_roundw
      case rel => exact ⟨k + 1, _, by omega, by go_num, by rw [HN.out, ← HQ.out, List.map_append]; rfl, HP'.out, hb3⟩
      case measure => simp [intOf]; omega
    · have HQ2 : Hid (qs.map Prod.fst = ps) := by
        have := HQ.out
        rwa [List.take_of_length_le (by omega)] at this
      go_wp2_with fail
      go_ret
      exact ⟨_, qs, rfl, HQ2.out, HO.out, hb⟩

/-- All patterns are good. -/
def AllGoodB (ps : List PtB) : Prop := ∀ (i : Nat) (q : PtB), ps[i]? = some q → q.pt.good

set_option maxRecDepth 100000 in
set_option maxHeartbeats 1600000 in
theorem allGood_any4 (v : Value) (ps : List PtB) (w : World) (H : PatsAt w v ps) (hn : ps.length ≤ 4294967296) (hs : ∀ p ∈ ps, FitsB p) :
    Calls Tryd.prog 12 #[v] w (FitsEnd (ps.length ≤ 10 ∧ AllGoodB ps) w) := by
  obtain ⟨A, cap, rfl, hlc, hcm, hf⟩ := H
  have HF := Lib.hid hf
  have HS := Lib.hid hs
  unfold maxLen at hcm
  clear hf hs
  go_enter Tryd.func12, Tryd.ntmps12
  go_wp2_with fail
  go_loopw [7] (fun iv wr => ∃ k : Nat, k ≤ ps.length ∧ iv = .int .i64 k ∧ Hid (∀ (i : Nat) (p : PtB), i < k → ps[i]? = some p → p.pt.good) ∧ Below w.heap.size w wr) (fun iv _ => ps.length - (intOf iv).toNat)
  case atStart => exact ⟨0, Nat.zero_le _, rfl, fun i p hi => by omega, Below.refl _ _⟩
  case round =>
    obtain ⟨k, hk, rfl, HK, hb⟩ := hrel
    by_cases hlt : k < ps.length
    · obtain ⟨p, hp⟩ : ∃ p, ps[k]? = some p := ⟨_, List.getElem?_eq_getElem hlt⟩
      obtain ⟨b, o, sv, rfl, hbl, h1, h2, h3, h4⟩ := HF.out k p hp
      obtain ⟨z1, z2, z3⟩ := HS.out p (List.mem_of_getElem? hp)
      have HZ : Hid (∀ W, Below w.heap.size w W → Calls Tryd.prog 18 #[.agg #[.string p.m, .string p.h, sv]] W (FitsEnd (GoodP (bs p.m) (bs p.h) p.l) W)) := fun W hW => good_any p.m p.h sv p.l W (h4.keep hW) z3 z1 z2
      obtain ⟨Y, yc, rfl, _, _⟩ := h4
      have g1 : wr.cell? ⟨b, o + k * 3, none⟩ = some (.string p.m) := (hb.cell hbl).trans h1
      have g2 : wr.cell? ⟨b, o + k * 3 + 1, none⟩ = some (.string p.h) := (hb.cell hbl).trans h2
      have g3 : wr.cell? ⟨b, o + k * 3 + 2, none⟩ = some (.slice Y p.l.length yc) := (hb.cell hbl).trans h3
      have HG := Lib.hid hp
      have HB1 : Hid (Below w.heap.size w (wr.alloc (.cells #[.string p.m, .string p.h, .slice Y p.l.length yc] 45))) := hb.alloc hb.size _
      clear h1 h2 h3 hp hb z3
      go_wp2_with fail
      refine (HZ.out _ HB1.out).mono ?_
      rintro e w2 ⟨hb2, rfl | ⟨rfl, hp⟩⟩
      · go_wp2_with fail
        go_ret
        exact ⟨HB1.out.trans (hb2.mono HB1.out.size), .inl rfl⟩
      · have HP : Hid (∀ (i : Nat) (q : PtB), i < k + 1 → ps[i]? = some q → q.pt.good) := by
          intro i q hi hq
          by_cases hik : i = k
          · subst hik
            rw [HG.out] at hq
            cases hq
            exact hp
          · exact HK.out i q (by omega) hq
        have HB3 := Lib.hid (HB1.out.trans (hb2.mono HB1.out.size))
        clear hp hb2
        go_wp2_with fail
        go_roundw
        case rel => exact ⟨k + 1, by omega, by go_num, HP, HB3.out⟩
        case measure => simp [intOf]; omega
    · have HP : Hid (AllGoodB ps) := fun i q hq => HK.out i q (by have := (List.getElem?_eq_some_iff.1 hq).1; omega) hq
      clear HK
      by_cases h10 : ps.length ≤ 10
      · have e1 : decide ((ps.length : Int) ≤ 10) = true := by simpa using (by omega : (ps.length : Int) ≤ 10)
        go_wp2_with fail
        go_ret
        exact ⟨hb, .inr ⟨rfl, h10, HP.out⟩⟩
      · have e1 : decide ((ps.length : Int) ≤ 10) = false := by simpa using (by omega : 10 < (ps.length : Int))
        go_wp2_with fail
        go_ret
        exact ⟨hb, .inl rfl⟩

theorem good_write {m h : List UInt8} {l : List Seg} (G : GoodP m h l) : l.length ≤ 6 ∧ ∀ g ∈ l, g.s.length ≤ 16 := ⟨G.six, fun g hg => by obtain ⟨i, hi⟩ := List.mem_iff_getElem?.1 hg; exact (G.seg i g hi).1⟩

theorem allGood_any (v : Value) (ps : List PtB) (w : World) (H : PatsAt w v ps) (hn : ps.length ≤ 2147483647) (hs : ∀ p ∈ ps, FitsB p) :
    Calls Tryd.prog 12 #[v] w (FitsEnd (ps.length ≤ 10 ∧ AllGoodB ps) w) := allGood_any4 v ps w H (by omega) hs

set_option maxRecDepth 100000 in
set_option maxHeartbeats 3200000 in
theorem written_any (v : Value) (ps : List PtB) (w : World) (H : PatsAt w v ps) (hn : ps.length ≤ 10) (hg : AllGoodB ps) :
    Calls Tryd.prog 20 #[v] w fun e w' => ∃ v', e = .returned v' ∧ StrsAt w' v' (ps.map PtB.text) ∧ Below w.heap.size w w' := by
  obtain ⟨i0, hi, hz0, hz1, hz2⟩ := info_parts info_string
  obtain ⟨A, cap, rfl, hlc, hcm, hf⟩ := H
  have HF := Lib.hid hf
  have HG := Lib.hid hg
  unfold maxLen at hcm
  clear hf hg
  go_enter Tryd.func20, Tryd.ntmps20
  go_wp2_with fail
  go_loopw [3, 9] (fun cur kv wr => ∃ k : Nat, k ≤ ps.length ∧ kv = .int .i64 k ∧ wr.ownsRow w.heap.size 9 1 cur k ((ps.take k).map fun p => strV p.text) ∧ Below w.heap.size w wr)
    (fun _ kv _ => ps.length - (intOf kv).toNat)
  case atStart => exact ⟨0, Nat.zero_le _, rfl, by simpa using World.ownsRow_made w #[] 0 (by simp) (by decide) (by decide), (Below.refl _ _).alloc (Nat.le_refl _) _⟩
  case round =>
    obtain ⟨k, hk, rfl, hown, hb⟩ := hrel
    by_cases hlt : k < ps.length
    · obtain ⟨p, hp⟩ : ∃ p, ps[k]? = some p := ⟨_, List.getElem?_eq_getElem hlt⟩
      obtain ⟨b, o, sv, rfl, hbl, h1, h2, h3, h4⟩ := HF.out k p hp
      have hgp : GoodP (bs p.m) (bs p.h) p.l := HG.out k p hp
      obtain ⟨z1, z2, _, _⟩ := good_small (HG.out k p hp)
      obtain ⟨z3, z4⟩ := good_write hgp
      have HZ : Hid (∀ W, Below w.heap.size w W → Calls Tryd.prog 22 #[.agg #[.string p.m, .string p.h, sv]] W fun e w' => e = .returned (.string ⟨p.text.toArray⟩) ∧ Below W.heap.size W w') := fun W hW => write_any p.m p.h sv p.l W (h4.keep hW) (by omega) (by omega) z3 z4
      obtain ⟨Y, yc, rfl, _, _⟩ := h4
      have g1 : wr.cell? ⟨b, o + k * 3, none⟩ = some (.string p.m) := (hb.cell hbl).trans h1
      have g2 : wr.cell? ⟨b, o + k * 3 + 1, none⟩ = some (.string p.h) := (hb.cell hbl).trans h2
      have g3 : wr.cell? ⟨b, o + k * 3 + 2, none⟩ = some (.slice Y p.l.length yc) := (hb.cell hbl).trans h3
      have HN : Hid ((ps.take (k + 1)).map (fun p => strV p.text) = (ps.take k).map (fun p => strV p.text) ++ [strV p.text]) := by show _ = _; rw [List.take_add_one, hp]; simp
      have HB1 : Hid (Below wr.heap.size wr (wr.alloc (.cells #[.string p.m, .string p.h, .slice Y p.l.length yc] 45))) := (Below.refl _ _).alloc (Nat.le_refl _) _
      have HBW := Lib.hid hb
      have HO := Lib.hid hown
      have hszw := hb.size
      clear h1 h2 h3 hp hb z3 z4 hgp hown
      go_wp2_with (first
        | (go_at_call 22; (with_reducible refine (HZ.out _ (HBW.out.trans (HB1.out.mono HBW.out.size))).mono ?_); rintro e w2 ⟨rfl, hb2⟩; have HB2 : Hid (Below wr.heap.size wr w2) := (HB1.out.trans (hb2.mono (by simp))); have hs2 := hb2.size; clear hb2)
        | (at_builtin; refine wpList_append_own _ rfl _ _ 30 rfl w.heap.size 9 i0 (.string ⟨#[]⟩) 1 16 Tryd.underlying30 hi hz0 hz1 hz2 rfl (by decide) _ _ _ rfl ((own_below HO.out HB2.out).alloc _) ⟨w2.heap.size, 0, none⟩ 1 1 [_] rfl rfl (cell_one_new _ _ _) (by simp [Value.oneCell']) (by unfold maxLen; omega) (by omega) (by have := HB2.out.size; simp; omega) ?_; intro v' w3 hown3 hgrow _))
      have hs2' := HB2.out.size
      have hb3 : Below w.heap.size w w3 := ((HBW.out.trans (HB2.out.mono HBW.out.size)).alloc (by omega) _).grown hgrow (by simp; omega) (fun g hg => (HO.out.lt g hg).1)
      clear hgrow
      go_roundw
      case rel => exact ⟨k + 1, by omega, by go_num, by rw [HN.out]; exact hown3, hb3⟩
      case measure => simp [intOf]; omega
    · have hke : k = ps.length := by omega
      rw [hke, List.take_of_length_le (Nat.le_refl _)] at hown
      have HO := Lib.hid hown
      clear hown
      go_wp2_with fail
      go_ret
      exact ⟨_, rfl, StrsAt.of_own (by simpa [Function.comp_def] using HO.out), hb⟩

/-- No two patterns conflict. -/
def PeaceB (ps : List PtB) : Prop := ∀ (i j : Nat) (q r : PtB), ps[i]? = some q → ps[j]? = some r → i ≠ j → q.pt.conf r.pt = false
def PeaceTo (ps : List PtB) (k : Nat) : Prop := ∀ (i j : Nat) (q r : PtB), i < k → j < i → ps[i]? = some q → ps[j]? = some r → q.pt.conf r.pt = false

theorem peace_of {ps : List PtB} (hg : AllGoodB ps) (h : PeaceTo ps ps.length) : PeaceB ps := by
  intro i j q r hq hr hij
  have hi := (List.getElem?_eq_some_iff.1 hq).1
  have hj := (List.getElem?_eq_some_iff.1 hr).1
  by_cases hlt : j < i
  · exact h i j q r hi hlt hq hr
  · have := h j i r q hj (by omega) hr hq
    rw [← this]
    exact conf_swap (hg j r hr) (hg i q hq)

set_option maxRecDepth 100000 in
set_option maxHeartbeats 3200000 in
theorem peace_any (v : Value) (ps : List PtB) (w : World) (H : PatsAt w v ps) (hn : ps.length ≤ 10) (hg : AllGoodB ps) :
    Calls Tryd.prog 13 #[v] w (FitsEnd (PeaceB ps) w) := by
  have HPO : Hid (PeaceTo ps ps.length → PeaceB ps) := peace_of hg
  obtain ⟨A, cap, rfl, hlc, hcm, hf⟩ := H
  have HF := Lib.hid hf
  have HG := Lib.hid hg
  unfold maxLen at hcm
  clear hf hg
  go_enter Tryd.func13, Tryd.ntmps13
  go_wp2_with fail
  go_loopw [9] (fun iv wr => ∃ k : Nat, k ≤ ps.length ∧ iv = .int .i64 k ∧ Hid (PeaceTo ps k) ∧ Below w.heap.size w wr) (fun iv _ => ps.length - (intOf iv).toNat)
  case atStart => exact ⟨0, Nat.zero_le _, rfl, fun i j q r hi => by omega, Below.refl _ _⟩
  case round =>
    obtain ⟨k, hk, rfl, HK, hb⟩ := hrel
    by_cases hlt : k < ps.length
    · obtain ⟨p, hp⟩ : ∃ p, ps[k]? = some p := ⟨_, List.getElem?_eq_getElem hlt⟩
      obtain ⟨b, o, sv, rfl, hbl, h1, h2, h3, h4⟩ := HF.out k p hp
      have hgp : GoodP (bs p.m) (bs p.h) p.l := HG.out k p hp
      have HZ : Hid (∀ (W : World) (q : PtB) (u : Value), Below w.heap.size w W → SegsAt w u q.l → GoodP (bs q.m) (bs q.h) q.l → Calls Tryd.prog 23 #[.agg #[.string p.m, .string p.h, sv], .agg #[.string q.m, .string q.h, u]] W fun e w' => e = .returned (.bool (p.pt.conf q.pt)) ∧ Below W.heap.size W w') :=
        fun W q u hW hu hq => spec_conflict p.m q.m p.h q.h sv u p.l q.l W (h4.keep hW) (hu.keep hW) hgp hq
      obtain ⟨Y, yc, rfl, _, _⟩ := h4
      have g1 : wr.cell? ⟨b, o + k * 3, none⟩ = some (.string p.m) := (hb.cell hbl).trans h1
      have g2 : wr.cell? ⟨b, o + k * 3 + 1, none⟩ = some (.string p.h) := (hb.cell hbl).trans h2
      have g3 : wr.cell? ⟨b, o + k * 3 + 2, none⟩ = some (.slice Y p.l.length yc) := (hb.cell hbl).trans h3
      have HP := Lib.hid hp
      have HB1 : Hid (Below w.heap.size w (wr.alloc (.cells #[.string p.m, .string p.h, .slice Y p.l.length yc] 45))) := hb.alloc hb.size _
      have HN1 : Hid ((wr.alloc (.cells #[.string p.m, .string p.h, .slice Y p.l.length yc] 45)).heap[wr.heap.size]? = some (.cells #[.string p.m, .string p.h, .slice Y p.l.length yc] 45 (0, 0))) := new0 wr _
      have hszw := hb.size
      have hkc : k ≤ cap := by omega
      clear h1 h2 h3 hp hb hgp
      obtain ⟨wo, rfl⟩ : ∃ wo : World, wo = wr := ⟨_, rfl⟩
      go_wp2_with fail
      go_loopw [18] (fun jv wr => ∃ j : Nat, j ≤ k ∧ jv = .int .i64 j ∧ Hid (∀ (i : Nat) (q : PtB), i < j → ps[i]? = some q → p.pt.conf q.pt = false) ∧ Below (wo.alloc (.cells #[.string p.m, .string p.h, .slice Y p.l.length yc] 45)).heap.size (wo.alloc (.cells #[.string p.m, .string p.h, .slice Y p.l.length yc] 45)) wr) (fun jv _ => k - (intOf jv).toNat)
      case atStart => exact ⟨0, Nat.zero_le _, rfl, fun i q hi => by omega, Below.refl _ _⟩
      case round =>
        obtain ⟨j, hj, rfl, HJ, hbj⟩ := hrel
        have HBJ := Lib.hid hbj
        have hn1 := blk_below HN1.out hbj
        have c0 : wr.cell? ⟨wo.heap.size, 0, none⟩ = some (.string p.m) := blk_cell hn1 0
        have c1 : wr.cell? ⟨wo.heap.size, 1, none⟩ = some (.string p.h) := blk_cell hn1 1
        have c2 : wr.cell? ⟨wo.heap.size, 2, none⟩ = some (.slice Y p.l.length yc) := blk_cell hn1 2
        have hszj : wo.heap.size < wr.heap.size := by
          have := hbj.size
          simp only [World.size_alloc] at this
          omega
        have HBW : Hid (Below w.heap.size w wr) := HB1.out.trans (hbj.mono HB1.out.size)
        clear hn1 hbj g1 g2 g3
        by_cases hjk : j < k
        · obtain ⟨q, hq⟩ : ∃ q, ps[j]? = some q := ⟨_, List.getElem?_eq_getElem (by omega)⟩
          obtain ⟨b', o', u, hbo, hbl', h1, h2, h3, h4⟩ := HF.out j q hq
          simp only [Option.some.injEq, Addr.mk.injEq, and_true] at hbo
          obtain ⟨rfl, rfl⟩ := hbo
          have hgq : GoodP (bs q.m) (bs q.h) q.l := HG.out j q hq
          have HC : Hid (∀ W, Below w.heap.size w W → Calls Tryd.prog 23 #[.agg #[.string p.m, .string p.h, .slice Y p.l.length yc], .agg #[.string q.m, .string q.h, u]] W fun e w' => e = .returned (.bool (p.pt.conf q.pt)) ∧ Below W.heap.size W w') := fun W hW => HZ.out W q u hW h4 hgq
          obtain ⟨Z, zc, rfl, _, _⟩ := h4
          have k1 : wr.cell? ⟨b, o + j * 3, none⟩ = some (.string q.m) := (HBW.out.cell hbl).trans h1
          have k2 : wr.cell? ⟨b, o + j * 3 + 1, none⟩ = some (.string q.h) := (HBW.out.cell hbl).trans h2
          have k3 : wr.cell? ⟨b, o + j * 3 + 2, none⟩ = some (.slice Z q.l.length zc) := (HBW.out.cell hbl).trans h3
          have HQ := Lib.hid hq
          clear h1 h2 h3 hq hgq hbl'
          have HB5 : Hid (Below w.heap.size w (wr.alloc (.cells #[.string q.m, .string q.h, .slice Z q.l.length zc] 45))) := HBW.out.alloc HBW.out.size _
          have HBJ5 : Hid (Below (wo.alloc (.cells #[.string p.m, .string p.h, .slice Y p.l.length yc] 45)).heap.size (wo.alloc (.cells #[.string p.m, .string p.h, .slice Y p.l.length yc] 45)) (wr.alloc (.cells #[.string q.m, .string q.h, .slice Z q.l.length zc] 45))) := HBJ.out.alloc HBJ.out.size _
          obtain ⟨cb, hcb⟩ : ∃ cb, cb = p.pt.conf q.pt := ⟨_, rfl⟩
          rw [← hcb] at HC
          have HCB := Lib.hid hcb
          clear hcb
          cases cb
          · have HJ2 : Hid (∀ (i : Nat) (r : PtB), i < j + 1 → ps[i]? = some r → p.pt.conf r.pt = false) := by
              intro i r hi hr
              by_cases hij : i = j
              · subst hij
                rw [HQ.out] at hr
                cases hr
                exact HCB.out.symm
              · exact HJ.out i r (by omega) hr
            go_wp2_with (go_at_call 23; (with_reducible refine (HC.out _ HB5.out).mono ?_); rintro e w6 ⟨rfl, hb6⟩; have HB6 := Lib.hid hb6; clear hb6)
            go_roundw
            case rel => exact ⟨j + 1, by omega, by go_num, HJ2, HBJ5.out.trans (HB6.out.mono HBJ5.out.size)⟩
            case measure => simp [intOf]; omega
          · go_wp2_with (go_at_call 23; (with_reducible refine (HC.out _ HB5.out).mono ?_); rintro e w6 ⟨rfl, hb6⟩; have HB6 := Lib.hid hb6; clear hb6)
            go_ret
            exact ⟨HB5.out.trans (HB6.out.mono HB5.out.size), .inl rfl⟩
        · have HP2 : Hid (PeaceTo ps (k + 1)) := by
            intro i i' q r hi hi' hq hr
            by_cases hik : i = k
            · subst hik
              rw [HP.out] at hq
              cases hq
              exact HJ.out i' r (by omega) hr
            · exact HK.out i i' q r (by omega) hi' hq hr
          go_wp2_with fail
          go_roundw
          case rel => exact ⟨k + 1, by omega, by go_num, HP2, HBW.out⟩
          case measure => simp [intOf]; omega
    · have HP : Hid (PeaceB ps) := HPO.out (by rw [show ps.length = k by omega]; exact HK.out)
      go_wp2_with fail
      go_ret
      exact ⟨hb, .inr ⟨rfl, HP.out⟩⟩
end Go.Proofs.YtgkhfcoieknjeaaDoor
