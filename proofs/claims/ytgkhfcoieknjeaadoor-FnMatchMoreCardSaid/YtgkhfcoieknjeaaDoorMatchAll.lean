/-
  Proved: matchMethodAndPath, match and httppattern.Match find in the routing tree what the search on lists finds ('seekAll'), with the values of the wildcards. Conditions: the patterns are good, no two conflict, their texts can be read; the request's texts are short; the path's pieces are those of which something is stated.
-/
import Derived.Test.YtgkhfcoieknjeaaDoorMatchPath
namespace Go.Proofs.YtgkhfcoieknjeaaDoor
open Go.RowKit Kd

/-- How a search ends. -/
def MQ (W0 : World) (T : Tr) (ps : List PtB) (o : Option Nat) (its : List (List UInt8)) (w : World) (e : Ending) (w' : World) : Prop :=
  Below W0.heap.size W0 w' ∧ w.heap.size ≤ w'.heap.size ∧
    ((o = none ∧ e = .returned (.tuple #[.pointer none, .slice none 0 0])) ∨
     (∃ (i : Nat) (p : PtB) (n : Nd) (v' : Value), o = some i ∧ ps[i]? = some p ∧ T.dir p.key = some n ∧ e = .returned (.tuple #[.pointer (some ⟨n.a, 0, none⟩), v']) ∧
        w'.ownsRow W0.heap.size 9 1 v' (vals p.l its).length ((vals p.l its).map strV)))

theorem MP.two {W0 : World} {T : Tr} {ps : List PtB} {k : List Kd} {its : List (List UInt8)} {w : World} {e : Ending} {w' : World} (hk : k.length = 2) (h : MP W0 T ps k its (.slice none 0 0) [] w e w') :
    MQ W0 T ps (seek (idxOf W0 T) its k) its w e w' := by
  obtain ⟨h1, h2, _, h | ⟨i, p, n, v', a1, a2, a3, a4, a5⟩⟩ := h
  · exact ⟨h1, h2, .inl ⟨h.1, h.2.1⟩⟩
  · refine ⟨h1, h2, .inr ⟨i, p, n, v', a1, a2, a3, a4, ?_⟩⟩
    rw [hk] at a5
    simpa using a5

theorem MQ.uni {W0 : World} {T : Tr} {ps : List PtB} {o : Option Nat} {its : List (List UInt8)} {w : World} {e : Ending} {w' : World} (h : MQ W0 T ps o its w e w') :
    ∃ u v', e = .returned (.tuple #[.pointer u, v']) ∧ Hid (MQ W0 T ps o its w (.returned (.tuple #[.pointer u, v'])) w') := by
  have h2 := h
  obtain ⟨_, _, ⟨_, rfl⟩ | ⟨_, _, _, _, _, _, _, rfl, _⟩⟩ := h
  · exact ⟨_, _, rfl, h2⟩
  · exact ⟨_, _, rfl, h2⟩

theorem hk_of (s : ByteArray) : hk (bs s) = .one ∨ hk (bs s) = .lit (bs s) := by
  unfold hk
  split
  · exact .inl rfl
  · exact .inr rfl

section
variable {W0 : World} {B c a : Nat} {T : Tr} {ps : List PtB} (HT : TreeTab W0 B c T a ps ps.length) (hB : B ≤ W0.heap.size) (hgood : ∀ (i : Nat) (q : PtB), ps[i]? = some q → q.pt.good)
include HT hB hgood

theorem path2 (x y : Kd) (its : List (List UInt8)) (pth : ByteArray) (w : World) (hgi : GoodIts its) (hbp : bs pth = joinT its) (hps : pth.size ≤ 1000) (hlen : its.length ≤ 1000) (hxl : ∀ z ∈ its, z.length ≤ 1000) (hbw : Below W0.heap.size W0 w) :
    Calls Tryd.prog 69 #[ptr (T.dir [x, y]), .string pth, .slice none 0 0] w (MQ W0 T ps (seek (idxOf W0 T) its [x, y]) its w) :=
  (matchPath_any HT hB hgood its [x, y] pth (.slice none 0 0) [] w hgi hbp hps (Nat.le_refl _) (by simpa using hlen) hbw (World.ownsRow_nil _ _ _ _) hxl).mono fun _ _ h => MP.two rfl h

omit hB hgood in
theorem child1 (k : List Kd) (n : Nd) (hn : T.dir k = some n) (s : ByteArray) (hs : s.size ≤ 1000) (w : World) (hbw : Below W0.heap.size W0 w) :
    Calls Tryd.prog 54 #[.pointer (some ⟨n.a, 0, none⟩), .string s] w fun e w' => e = .returned (ptr (T.dir (k ++ [hk (bs s)]))) ∧ Below w.heap.size w w' := by
  refine (findChild_any T k n s w B c hs ((HT.tree.below hbw).node k n hn)).mono ?_
  rintro e w' ⟨h1, h2⟩
  refine ⟨h1.trans ?_, h2⟩
  unfold addrOf ptr
  simp [Function.comp_def]

set_option maxRecDepth 100000 in
set_option maxHeartbeats 3200000 in
theorem matchM_any (x : Kd) (its : List (List UInt8)) (m pth : ByteArray) (w : World) (hgi : GoodIts its) (hbp : bs pth = joinT its) (hps : pth.size ≤ 1000) (hlen : its.length ≤ 1000) (hxl : ∀ z ∈ its, z.length ≤ 1000) (hm : m.size ≤ 1000) (hbw : Below W0.heap.size W0 w) :
    Calls Tryd.prog 55 #[ptr (T.dir [x]), .string m, .string pth] w (MQ W0 T ps (seekM (idxOf W0 T) its (bs m) x) its w) := by
  cases hd : T.dir [x] with
  | none =>
    have hno : ∀ y, seek (idxOf W0 T) its [x, y] = none := fun y => seek_no_dir HT.tree its [x, y] (dir_none HT.tree [y] [x] hd)
    have HR : Hid (MQ W0 T ps (seekM (idxOf W0 T) its (bs m) x) its w (.returned (.tuple #[.pointer none, .slice none 0 0])) w) := by
      refine ⟨hbw, Nat.le_refl _, .inl ⟨?_, rfl⟩⟩
      unfold seekM
      simp only [hno, ite_self]
    clear hgi hbp hxl hbw HT hgood hd hno
    rw [ptr_none]
    go_enter Tryd.func55, Tryd.ntmps55
    go_wp2_with fail
    go_ret2
    exact HR.out
  | some n =>
    have HFC : Hid (∀ (s : ByteArray) (W : World), s.size ≤ 1000 → Below W0.heap.size W0 W → Calls Tryd.prog 54 #[.pointer (some ⟨n.a, 0, none⟩), .string s] W fun e w' => e = .returned (ptr (T.dir [x, hk (bs s)])) ∧ Below W.heap.size W w') := fun s W h1 h2 => child1 HT [x] n hd s h1 W h2
    have HMP : Hid (∀ (y : Kd) (W : World), Below W0.heap.size W0 W → Calls Tryd.prog 69 #[ptr (T.dir [x, y]), .string pth, .slice none 0 0] W (MQ W0 T ps (seek (idxOf W0 T) its [x, y]) its W)) := fun y W h => path2 HT hB hgood x y its pth W hgi hbp hps hlen hxl h
    have HC5 : Hid (∀ W : World, Below W0.heap.size W0 W → W.cell? ⟨n.a, 5, none⟩ = some (ptr (T.dir [x, .one]))) := fun W h => blk_cell ((HT.tree.below h).node _ n hd).2.1 5
    have hG : hk (bs ⟨#[71, 69, 84]⟩) = .lit [71, 69, 84] := rfl
    have HBW := Lib.hid hbw
    clear hgi hbp hxl hbw HT hgood hd
    rw [ptr_some]
    go_enter Tryd.func55, Tryd.ntmps55
    go_upto_region 4 with (first
      | (go_at_call 54; (with_reducible refine (HFC.out m _ hm HBW.out).mono ?_); rintro e w1 ⟨rfl, hb1⟩; have HB1 := Lib.hid (HBW.out.trans (hb1.mono HBW.out.size)); have hz1 := hb1.size; clear hb1)
      | (go_at_call 69; (with_reducible refine (HMP.out _ _ HB1.out).mono ?_); rintro e w2 ⟨hb2, hz2, ⟨hs2, rfl⟩ | ⟨i, p, nd, v', hs2, hp, hdir, rfl, ho⟩⟩ <;> have HB2 := Lib.hid hb2 <;> clear hb2))
    rotate_left
    · have HG : Hid (MQ W0 T ps (seekM (idxOf W0 T) its (bs m) x) its w (.returned (.tuple #[.pointer (some ⟨nd.a, 0, none⟩), v'])) w2) := by
        refine ⟨HB2.out, by omega, .inr ⟨i, p, nd, v', ?_, hp, hdir, rfl, ho⟩⟩
        unfold seekM
        rw [hs2]
      clear hs2 hp hdir ho
      go_wp2_with fail
      go_ret2
      exact HG.out
    have HS1 := Lib.hid hs2
    clear hs2 HB1
    have hsz0 := HBW.out.size
    by_cases hh : bs m = [72, 69, 65, 68]
    focus
      have e1 : (m.toList == [72, 69, 65, 68]) = true := by rw [bs_toList, hh]; rfl
      have HH := Lib.hid hh
      clear hh
      go_upto_region 8 with (first
        | (go_at_call 54; (with_reducible refine (HFC.out _ _ (by decide) HB2.out).mono ?_); rintro e w3 ⟨rfl, hb3⟩; rw [hG]; have HB3 := Lib.hid (HB2.out.trans (hb3.mono HB2.out.size)); have hz3 := hb3.size; clear hb3)
        | (go_at_call 69; (with_reducible refine (HMP.out _ _ HB3.out).mono ?_); rintro e w4 ⟨hb4, hz4, ⟨hs4, rfl⟩ | ⟨i, p, nd, v', hs4, hp, hdir, rfl, ho⟩⟩ <;> have HB4 := Lib.hid hb4 <;> clear hb4))
      rotate_left
      · have HG : Hid (MQ W0 T ps (seekM (idxOf W0 T) its (bs m) x) its w (.returned (.tuple #[.pointer (some ⟨nd.a, 0, none⟩), v'])) w4) := by
          refine ⟨HB4.out, by omega, .inr ⟨i, p, nd, v', ?_, hp, hdir, rfl, ho⟩⟩
          unfold seekM
          rw [HS1.out]
          simp only [if_pos HH.out, hs4]
        clear hs4 hp hdir ho
        go_wp2_with fail
        go_ret2
        exact HG.out
      have HSK : Hid (seekM (idxOf W0 T) its (bs m) x = seek (idxOf W0 T) its [x, .one]) := by
        show _ = _
        unfold seekM
        rw [HS1.out]
        simp only [if_pos HH.out, hs4]
      clear hs4 HB2 HB3
      obtain ⟨w5, hw5⟩ : ∃ w5, w5 = w4 := ⟨_, rfl⟩
      rw [← hw5] at HB4 hz4 ⊢
      clear hw5
      have HB5 := HB4
      have hs5 : w.heap.size ≤ w5.heap.size := by omega
      go_upto_region 10 with fail
    rotate_left
    focus
      have e1 : (m.toList == [72, 69, 65, 68]) = false := by rw [bs_toList]; simpa using hh
      have HSK : Hid (seekM (idxOf W0 T) its (bs m) x = seek (idxOf W0 T) its [x, .one]) := by
        show _ = _
        unfold seekM
        rw [HS1.out]
        simp only [if_neg hh]
      clear hh
      obtain ⟨w5, hw5⟩ : ∃ w5, w5 = w2 := ⟨_, rfl⟩
      rw [← hw5] at HB2 hz2 ⊢
      clear hw5
      have HB5 := HB2
      have hs5 : w.heap.size ≤ w5.heap.size := by omega
      go_upto_region 10 with fail
    all_goals
      (have c5 := HC5.out _ HB5.out
       go_wp2_with (go_at_call 69; (with_reducible refine (HMP.out _ _ HB5.out).mono ?_); intro e w6 hmq; obtain ⟨u, v6, rfl, HQ⟩ := MQ.uni hmq; clear hmq)
       go_ret2
       rw [HSK.out]
       obtain ⟨g1, g2, g3⟩ := HQ.out
       exact ⟨g1, by omega, g3⟩)

set_option maxRecDepth 100000 in
set_option maxHeartbeats 3200000 in
theorem match_any (its : List (List UInt8)) (h m pth : ByteArray) (w : World) (hgi : GoodIts its) (hbp : bs pth = joinT its) (hps : pth.size ≤ 1000) (hlen : its.length ≤ 1000) (hxl : ∀ z ∈ its, z.length ≤ 1000) (hm : m.size ≤ 1000) (hh : h.size ≤ 1000) (hbw : Below W0.heap.size W0 w) :
    Calls Tryd.prog 49 #[.pointer (some ⟨a, 0, none⟩), .string h, .string m, .string pth] w (MQ W0 T ps (seekAll (idxOf W0 T) its (bs m) (bs h)) its w) := by
  obtain ⟨n, hd, hna⟩ := HT.root
  rw [← hna]
  have HFC : Hid (∀ (s : ByteArray) (W : World), s.size ≤ 1000 → Below W0.heap.size W0 W → Calls Tryd.prog 54 #[.pointer (some ⟨n.a, 0, none⟩), .string s] W fun e w' => e = .returned (ptr (T.dir [hk (bs s)])) ∧ Below W.heap.size W w') := fun s W h1 h2 => child1 HT [] n hd s h1 W h2
  have HMM : Hid (∀ (y : Kd) (W : World), Below W0.heap.size W0 W → Calls Tryd.prog 55 #[ptr (T.dir [y]), .string m, .string pth] W (MQ W0 T ps (seekM (idxOf W0 T) its (bs m) y) its W)) := fun y W h => matchM_any HT hB hgood y its m pth W hgi hbp hps hlen hxl hm h
  have HC5 : Hid (∀ W : World, Below W0.heap.size W0 W → W.cell? ⟨n.a, 5, none⟩ = some (ptr (T.dir [.one]))) := fun W h => blk_cell ((HT.tree.below h).node _ n hd).2.1 5
  have HBW := Lib.hid hbw
  clear hgi hbp hxl hbw HT hgood hd hna
  by_cases h0 : bs h = []
  · have e0 : h.toList.isEmpty = true := by rw [bs_toList]; simpa using h0
    have HSK : Hid (seekAll (idxOf W0 T) its (bs m) (bs h) = seekM (idxOf W0 T) its (bs m) .one) := by
      show _ = _
      unfold seekAll
      rw [if_pos h0]
    clear h0
    have c5 := HC5.out _ HBW.out
    go_enter Tryd.func49, Tryd.ntmps49
    go_wp2_with (go_at_call 55; (with_reducible refine (HMM.out _ _ HBW.out).mono ?_); intro e w6 hmq; obtain ⟨u, v6, rfl, HQ⟩ := MQ.uni hmq; clear hmq)
    go_ret2
    rw [HSK.out]
    exact HQ.out
  · have e0 : h.toList.isEmpty = false := by rw [bs_toList]; simpa using h0
    have hkh : hk (bs h) = .lit (bs h) := if_neg h0
    have HH0 := Lib.hid h0
    clear h0
    go_enter Tryd.func49, Tryd.ntmps49
    go_upto_region 3 with (first
      | (go_at_call 54; (with_reducible refine (HFC.out h _ hh HBW.out).mono ?_); rintro e w1 ⟨rfl, hb1⟩; rw [hkh]; have HB1 := Lib.hid (HBW.out.trans (hb1.mono HBW.out.size)); have hz1 := hb1.size; clear hb1)
      | (go_at_call 55; (with_reducible refine (HMM.out _ _ HB1.out).mono ?_); rintro e w2 ⟨hb2, hz2, ⟨hs2, rfl⟩ | ⟨i, p, nd, v', hs2, hp, hdir, rfl, ho⟩⟩ <;> have HB2 := Lib.hid hb2 <;> clear hb2))
    rotate_left
    · have HG : Hid (MQ W0 T ps (seekAll (idxOf W0 T) its (bs m) (bs h)) its w (.returned (.tuple #[.pointer (some ⟨nd.a, 0, none⟩), v'])) w2) := by
        refine ⟨HB2.out, by omega, .inr ⟨i, p, nd, v', ?_, hp, hdir, rfl, ho⟩⟩
        unfold seekAll
        simp only [if_neg HH0.out, hs2]
      clear hs2 hp hdir ho
      go_wp2_with fail
      go_ret2
      exact HG.out
    have HSK : Hid (seekAll (idxOf W0 T) its (bs m) (bs h) = seekM (idxOf W0 T) its (bs m) .one) := by
      show _ = _
      unfold seekAll
      simp only [if_neg HH0.out, hs2]
    clear hs2 hkh
    have c5 := HC5.out _ HB2.out
    go_wp2_with (go_at_call 55; (with_reducible refine (HMM.out _ _ HB2.out).mono ?_); intro e w6 hmq; obtain ⟨u, v6, rfl, HQ⟩ := MQ.uni hmq; clear hmq)
    go_ret2
    rw [HSK.out]
    obtain ⟨g1, g2, g3⟩ := HQ.out
    exact ⟨g1, by omega, g3⟩
end

/-- How httppattern.Match, and impl.Match, end. -/
def MatchRes (ps : List PtB) (rm rh : List UInt8) (its : List (List UInt8)) (w : World) (e : Ending) (w' : World) : Prop :=
  Below w.heap.size w w' ∧
    (((∀ (j : Nat) (q : PtB), ps[j]? = some q → q.pt.takes rm rh its = false) ∧ e = .returned (.tuple #[.int .i64 (-1), .slice none 0 0])) ∨
     (∃ (i : Nat) (p : PtB) (v' : Value), IsBest (ps.map PtB.pt) rm rh its i ∧ ps[i]? = some p ∧ e = .returned (.tuple #[.int .i64 (i : Int), v']) ∧ StrsAt w' v' (vals p.l its)))

theorem MatchRes.uni {ps : List PtB} {rm rh : List UInt8} {its : List (List UInt8)} {w : World} {e : Ending} {w' : World} (h : MatchRes ps rm rh its w e w') :
    ∃ (u : Int) (v' : Value), e = .returned (.tuple #[.int .i64 u, v']) ∧ Hid (MatchRes ps rm rh its w (.returned (.tuple #[.int .i64 u, v'])) w') := by
  have h2 := h
  obtain ⟨_, ⟨_, rfl⟩ | ⟨_, _, _, _, _, rfl, _⟩⟩ := h
  · exact ⟨_, _, rfl, h2⟩
  · exact ⟨_, _, rfl, h2⟩

set_option maxRecDepth 100000 in
set_option maxHeartbeats 3200000 in
theorem pmatch_any (ps : List PtB) (sv : Value) (its : List (List UInt8)) (h m pth : ByteArray) (w : World) (HS : StrsAt w sv (ps.map PtB.text)) (hn : ps.length ≤ 10) (hgood : ∀ (i : Nat) (q : PtB), ps[i]? = some q → q.pt.good) (hpeace : ∀ (i j : Nat) (q r : PtB), ps[i]? = some q → ps[j]? = some r → i ≠ j → q.pt.conf r.pt = false) (hprops : PropsAt w)
    (hgi : GoodIts its) (hbp : bs pth = joinT its) (hps : pth.size ≤ 1000) (hlen : its.length ≤ 1000) (hxl : ∀ z ∈ its, z.length ≤ 1000) (hm : m.size ≤ 1000) (hh : h.size ≤ 1000) :
    Calls Tryd.prog 40 #[sv, .string h, .string m, .string pth] w (MatchRes ps (bs m) (bs h) its w) := by
  have HTR : Hid (Calls Tryd.prog 48 #[sv] w (TreeEnd w ps)) := tree_any ps sv w HS hn hgood hpeace hprops
  have HMA : Hid (∀ (w1 : World) (T : Tr) (c a : Nat), TreeTab w1 w.heap.size c T a ps ps.length → Below w.heap.size w w1 → Calls Tryd.prog 49 #[.pointer (some ⟨a, 0, none⟩), .string h, .string m, .string pth] w1 (MQ w1 T ps (seekAll (idxOf w1 T) its (bs m) (bs h)) its w1)) :=
    fun w1 T c a ht hb => match_any ht hb.size hgood its h m pth w1 hgi hbp hps hlen hxl hm hh (Below.refl _ _)
  have HAG : Hid (AllGoodP (ps.map PtB.pt)) := by
    intro i p hp
    rw [List.getElem?_map] at hp
    obtain ⟨q, hq, rfl⟩ := Option.map_eq_some_iff.1 hp
    exact hgood i q hq
  have HPE : Hid (PeaceP (ps.map PtB.pt)) := by
    intro i j p q hp hq hij
    rw [List.getElem?_map] at hp hq
    obtain ⟨p', hp', rfl⟩ := Option.map_eq_some_iff.1 hp
    obtain ⟨q', hq', rfl⟩ := Option.map_eq_some_iff.1 hq
    exact hpeace i j p' q' hp' hq' hij
  clear HS hgood hpeace hprops hgi hbp hxl
  go_enter Tryd.func40, Tryd.ntmps40
  go_upto_region 2 with (first
    | (go_at_call 48; (with_reducible refine HTR.out.mono ?_); rintro e w1 ⟨T, c, a, rfl, ht, hb1⟩; have HT := Lib.hid ht; have HB1 := Lib.hid hb1; clear ht hb1)
    | (go_at_call 49; (with_reducible refine (HMA.out _ _ _ _ HT.out HB1.out).mono ?_); rintro e w2 ⟨hb2, hz2, ⟨hs2, rfl⟩ | ⟨i, p, nd, v', hs2, hp, hdir, rfl, ho⟩⟩ <;> have HB2 := Lib.hid hb2 <;> clear hb2))
  · have HG : Hid (MatchRes ps (bs m) (bs h) its w (.returned (.tuple #[.int .i64 (-1), .slice none 0 0])) w2) := by
      refine ⟨HB1.out.trans (HB2.out.mono HB1.out.size), .inl ⟨fun j q hq => ?_, rfl⟩⟩
      exact seekAll_none HAG.out (leafOf_tab HT.out) its (bs m) (bs h) hs2 j q.pt (by rw [List.getElem?_map, hq]; rfl)
    clear hs2
    go_wp2_with fail
    go_ret2
    exact HG.out
  · have HG : Hid (MatchRes ps (bs m) (bs h) its w (.returned (.tuple #[.int .i64 (i : Int), v'])) w2) := by
      refine ⟨HB1.out.trans (HB2.out.mono HB1.out.size), .inr ⟨i, p, v', seekAll_some HAG.out (leafOf_tab HT.out) its HPE.out (bs m) (bs h) i hs2, hp, rfl, StrsAt.of_own ho⟩⟩
    obtain ⟨f, hlf, hpi⟩ := HT.out.held i p (List.getElem?_eq_some_iff.1 hp).1 hp
    have hnd := ((HT.out.tree.below HB2.out).node _ nd hdir).2.1
    have c1 : w2.cell? ⟨nd.a, 1, none⟩ = some (.pointer (some ⟨f.hb, 0, none⟩)) := by
      have := blk_cell hnd 1
      rw [hlf] at this
      exact this
    have c2 : w2.cell? ⟨f.hb, 0, none⟩ = some (.int .i64 (i : Int)) := (hpi.grew (Grew.of_below HB2.out HB1.out.size)).2.1
    clear hs2 hp hdir ho hlf hpi hnd
    go_wp2_with fail
    go_ret2
    exact HG.out
end Go.Proofs.YtgkhfcoieknjeaaDoor
