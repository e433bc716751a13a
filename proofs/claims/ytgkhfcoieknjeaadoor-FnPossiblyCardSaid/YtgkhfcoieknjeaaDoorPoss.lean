/-
  Proved: possiblyConflictingPatterns, with the closure of Candidates, appends to the list the texts of patterns of the index, and of all that may conflict ('Cover'). Conditions: the index and the patterns are in memory as said; the rows are short.
-/
import Derived.Test.YtgkhfcoieknjeaaDoorCandF
import Derived.Maps.RangeWalk
import Derived.Laws.IdiomRangeMap
import Derived.BigQuiet
import Derived.StillTailTactics
namespace Go.Proofs.YtgkhfcoieknjeaaDoor
open Go.RowKit

/-- Only texts of patterns of the index. -/
def Sound (X : Ix) (L : List (List UInt8)) : Prop := ∀ s ∈ L, ∃ x, (x ∈ X.M ∨ ∃ i k, x ∈ X.G i k) ∧ x.p.text = s

/-- All texts that are asked for. -/
def Cover (l : List Seg) (X : Ix) (L : List (List UInt8)) : Prop :=
  (∀ x ∈ X.M, x.p.text ∈ L) ∧
    ((∃ g, l.getLast? = some g ∧ g.s = [47] ∧ ∀ x ∈ X.G (l.length - 1) [47], x.p.text ∈ L) ∨
     (∃ i g, l[i]? = some g ∧ g.wild = false ∧ (∀ x ∈ X.G i g.s, x.p.text ∈ L) ∧ ∀ x ∈ X.G i [], x.p.text ∈ L) ∨
     (∀ i s, i ≤ 1000 → s.length ≤ 1000 → ∀ x ∈ X.G i s, x.p.text ∈ L))

theorem txts_mem {xs : List Cl} {x : Cl} (h : x ∈ xs) : x.p.text ∈ txts xs := List.mem_map.2 ⟨x, h, rfl⟩
theorem txts_inv {xs : List Cl} {s : List UInt8} (h : s ∈ txts xs) : ∃ x ∈ xs, x.p.text = s := by
  obtain ⟨x, h1, h2⟩ := List.mem_map.1 h
  exact ⟨x, h1, h2⟩
theorem txts_length (xs : List Cl) : (txts xs).length = xs.length := by simp [txts]

/-- What the walk reads. -/
structure QF (base lb ib eb fb pa B nn : Nat) (X : Ix) (p : PtB) (A : Option Addr) (cap : Nat) (W : World) : Prop where
  idx : IdxAt W B nn ib X
  foot : ∀ b, X.foot ib b → b < base ∧ b ≠ lb
  rowM : RowAt W base lb X.mv X.M
  rows : ∀ i s, RowAt W base lb (X.sv i s) (X.G i s)
  ecell : W.heap[eb]? = some (.cells #[.nilIface] 78 (0, 0))
  fcell : W.heap[fb]? = some (.cells #[.func (.func 45) #[] #[.pointer (some ⟨lb, 0, none⟩)]] 83 (0, 0))
  eb_ok : eb < base ∧ eb ≠ lb
  fb_ok : fb < base ∧ fb ≠ lb
  lb_ok : lb < base
  size : base ≤ W.heap.size
  seg : W.cell? ⟨pa, 3, none⟩ = some (.slice A p.l.length cap)
  segs : SegsAt W (.slice A p.l.length cap) p.l
  pat : PatFull W pa p
  pm : ∀ x ∈ X.M, PatFull W x.a x.p
  pg : ∀ i s, ∀ x ∈ X.G i s, PatFull W x.a x.p

theorem RowAt.keep {W W' : World} {base lb : Nat} {v : Value} {xs : List Cl} (h : RowAt W base lb v xs) (hb : ButL base lb W W') : RowAt W' base lb v xs := by
  obtain ⟨A, cap, hv, hf⟩ := h
  refine ⟨A, cap, hv, fun j x hj => ?_⟩
  obtain ⟨g, h1, h2, h3, h4⟩ := hf j x hj
  exact ⟨g, h1, h2, h3, (World.cell?_of_block (a := ⟨g, j, none⟩) (hb.block g h2 h3)).trans h4⟩

theorem QF.keep {base lb ib eb fb pa B nn : Nat} {X : Ix} {p : PtB} {A : Option Addr} {cap : Nat} {W W' : World} (h : QF base lb ib eb fb pa B nn X p A cap W) (hb : ButL base lb W W') (hk : Keeps W W') : QF base lb ib eb fb pa B nn X p A cap W' := by
  have hseg : W'.cell? ⟨pa, 3, none⟩ = some (.slice A p.l.length cap) := by
    obtain ⟨sv, bse, h1, _⟩ := h.pat
    rw [World.cell?_of_block (a := ⟨pa, 3, none⟩) (hk pa _ _ _ h1 (.inl rfl))]
    exact h.seg
  exact ⟨h.idx.at fun b hf => hb.block b (h.foot b hf).1 (h.foot b hf).2, h.foot, h.rowM.keep hb, fun i s => (h.rows i s).keep hb, (hb.block eb h.eb_ok.1 h.eb_ok.2).trans h.ecell, (hb.block fb h.fb_ok.1 h.fb_ok.2).trans h.fcell, h.eb_ok, h.fb_ok, h.lb_ok,
    Nat.le_trans h.size hb.size, hseg, h.pat.segs hk h.seg, h.pat.keep hk, fun x hx => (h.pm x hx).keep hk, fun i s x hx => (h.pg i s x hx).keep hk⟩

theorem Ptrs.row {W : World} {B base lb : Nat} {v : Value} {xs : List Cl} (h : Ptrs W B v xs) (hf : ∀ g, v.ownBlock = some g → g < base ∧ g ≠ lb) : RowAt W base lb v xs := by
  obtain ⟨A, cap, hv, _, _, _⟩ := own_form h
  refine ⟨A, cap, hv, fun j x hj => ?_⟩
  have hjl : j < xs.length := (List.getElem?_eq_some_iff.1 hj).1
  obtain ⟨b, c, hv2, _, _, _, _, hc⟩ := own_pos h (by omega)
  rw [hv] at hv2
  simp only [Value.slice.injEq] at hv2
  obtain ⟨rfl, _, _⟩ := hv2
  have hob : v.ownBlock = some b := by rw [hv]; rfl
  refine ⟨b, rfl, (hf b hob).1, (hf b hob).2, ?_⟩
  have h1 : (ptrsOf xs)[j]? = some (ptrV x.a) := by unfold ptrsOf; rw [List.getElem?_map, hj]; rfl
  simpa [ptrV] using hc j _ h1

section
variable {base lb ib eb fb pa B nn : Nat} {X : Ix} {p : PtB} {A : Option Addr} {cap : Nat} {W : World} (Q : QF base lb ib eb fb pa B nn X p A cap W)
include Q

theorem QF.apply {v : Value} {xs : List Cl} {L : List (List UInt8)} (HL : LAt W lb base L) (HR : RowAt W base lb v xs) (HPS : ∀ x ∈ xs, PatFull W x.a x.p) (hlen : L.length + xs.length ≤ 10000) :
    Calls Tryd.prog 52 #[v, .pointer (some ⟨eb, 0, none⟩), .pointer (some ⟨fb, 0, none⟩)] W (FEnd W lb base (L ++ txts xs)) :=
  apply_any HL HR HPS Q.ecell Q.eb_ok Q.fcell Q.fb_ok Q.lb_ok Q.size hlen

/-- A look-up in the index. -/
theorem QF.look {i : Nat} {s : List UInt8} (hi : i ≤ 1000) (hs : s.length ≤ 1000) :
    (Instr.lookup 70 (.map X.mo) (.agg #[.int .i64 (i : Int), .string ⟨s.toArray⟩]) false).run Tryd.prog W = .ok (X.sv i s) W := by
  have hkey : keyOf Tryd.prog 103 (keyV i ⟨s.toArray⟩) = some (keyL i s) := by
    have := key_ok i hi ⟨s.toArray⟩ (by simp [ByteArray.size]; unfold maxLen; omega)
    have e : bs (⟨s.toArray⟩ : ByteArray) = s := by simp [bs]
    rw [e] at this
    exact this
  rcases Q.idx.mp with ⟨h1, h2⟩ | ⟨b, n, D, h1, h2, h3, h4, h5, h6⟩
  · have hck := key_law.check W true hkey
    rw [h1, h2]
    have hfk : (Instr.findKey 103 (keyV i ⟨s.toArray⟩) []).run Tryd.prog W = .ok none W := by
      rcases key_law.find W hkey [] (by simp) with ⟨h, _⟩ | ⟨j, e, _, h, _⟩
      · exact h
      · simp at h
    unfold keyV at hck hfk
    simp [Instr.lookup, run_underlying Tryd.underlying70, hck, hfk, Result.andThen]
  · rw [h1]
    exact lookup_raw key_law Tryd.underlying70 slc_zero h4 hkey (h5 i s hi hs)
end

theorem LAt.heap {w w' : World} {lb base : Nat} {L : List (List UInt8)} (h : LAt w lb base L) (hh : ∀ b : Nat, w'.heap[b]? = w.heap[b]?) : LAt w' lb base L := by
  obtain ⟨v, h1, h2⟩ := h
  exact ⟨v, (hh lb).trans h1, ownsRow_of_heap h2 fun b _ => hh b⟩

/-- How possiblyConflictingPatterns ends. -/
def PossEnd (w : World) (lb : Nat) (l : List Seg) (X : Ix) (e : Ending) (w' : World) : Prop :=
  e = .returned .nilIface ∧ ∃ L base, LAt w' lb base L ∧ Sound X L ∧ Cover l X L ∧ L.length ≤ 10000 ∧ ButL w.heap.size lb w w'

theorem qf_start {w : World} {B nn ib lb pa : Nat} {X : Ix} {p : PtB} {A : Option Addr} {cap : Nat} (H : IdxAt w B nn ib X) (hl : w.heap[lb]? = some (.cells #[.slice none 0 0] 30 (0, 0))) (HP : PatFull w pa p)
    (hXM : ∀ x ∈ X.M, PatFull w x.a x.p) (hXG : ∀ i s, ∀ x ∈ X.G i s, PatFull w x.a x.p) (c3 : w.cell? ⟨pa, 3, none⟩ = some (.slice A p.l.length cap)) :
    QF (w.heap.size + 2) lb ib (w.heap.size + 1) w.heap.size pa B nn X p A cap ((w.alloc (.cells #[.func (.func 45) #[] #[.pointer (some ⟨lb, 0, none⟩)]] 83)).alloc (.cells #[.nilIface] 78)) := by
  have hbe : Below w.heap.size w ((w.alloc (.cells #[.func (.func 45) #[] #[.pointer (some ⟨lb, 0, none⟩)]] 83)).alloc (.cells #[.nilIface] 78)) := ((Below.refl _ _).alloc (Nat.le_refl _) _).alloc (by simp) _
  have hke := Keeps.of_below hbe
  have hll : lb < w.heap.size := lt_of_heap hl
  have hfo : ∀ b, X.foot ib b → b < w.heap.size + 2 ∧ b ≠ lb := by
    intro b hb
    refine ⟨by have := (H.foot_lt hb).2; omega, ?_⟩
    rintro rfl
    rcases hb with rfl | h | h | ⟨i, s, h⟩
    · rw [H.blk] at hl
      simp only [Option.some.injEq, Obj.cells.injEq] at hl
      exact absurd hl.2.1 (by decide)
    · rcases H.mp with ⟨h1, _⟩ | ⟨b', n, D, hm⟩
      · rw [h1] at h; cases h
      · have := hm.1
        rw [h] at this
        obtain rfl := Option.some.inj this
        obtain ⟨es, c, h2⟩ := hm.is_map
        rw [hl] at h2; cases h2
    · obtain ⟨_, cur, h2⟩ := H.multis.typ h
      rw [hl] at h2
      simp only [Option.some.injEq, Obj.cells.injEq] at h2
      exact absurd h2.2.1 (by decide)
    · obtain ⟨_, cur, h2⟩ := (H.rows i s).typ h
      rw [hl] at h2
      simp only [Option.some.injEq, Obj.cells.injEq] at h2
      exact absurd h2.2.1 (by decide)
  have h1 := H.below hbe
  exact ⟨h1, hfo, h1.multis.row fun g hg => hfo g (.inr (.inr (.inl hg))), fun i s => (h1.rows i s).row fun g hg => hfo g (.inr (.inr (.inr ⟨i, s, hg⟩))), new1 _ _ _, blk_alloc (new0 _ _) _, ⟨by omega, by omega⟩, ⟨by omega, by omega⟩, by omega, by simp,
    by rw [World.cell?_of_block (a := ⟨pa, 3, none⟩) (hbe.block pa HP.pat.1)]; exact c3, HP.segs hke c3, HP.keep hke, fun x hx => (hXM x hx).keep hke, fun i s x hx => (hXG i s x hx).keep hke⟩

theorem sound_nil (X : Ix) : Sound X [] := fun s h => by cases h
theorem sound_app {X : Ix} {L : List (List UInt8)} {xs : List Cl} (h : Sound X L) (hx : ∀ x ∈ xs, x ∈ X.M ∨ ∃ i k, x ∈ X.G i k) : Sound X (L ++ txts xs) := by
  intro s hs
  rcases List.mem_append.1 hs with hs | hs
  · exact h s hs
  · obtain ⟨x, h1, h2⟩ := txts_inv hs
    exact ⟨x, hx x h1, h2⟩

/-- What holds while the pieces are looked at: no piece that stands for itself yet, or one whose two rows are the least so far. -/
def SegR (l : List Seg) (X : Ix) (k : Nat) (v9 v10 : Value) (z : Int) (b : Bool) : Prop :=
  (b = false ∧ z = 9223372036854775807 ∧ ∀ (j : Nat) (g : Seg), j < k → l[j]? = some g → g.wild = true) ∨ (b = true ∧ ∃ (i : Nat) (g : Seg), l[i]? = some g ∧ g.wild = false ∧ v9 = X.sv i g.s ∧ v10 = X.sv i [])

/-- The same, behind the loop. -/
def SegE (l : List Seg) (X : Ix) (v9 v10 : Value) (b : Bool) : Prop :=
  b = false ∨ (b = true ∧ ∃ (i : Nat) (g : Seg), l[i]? = some g ∧ g.wild = false ∧ v9 = X.sv i g.s ∧ v10 = X.sv i [])

theorem SegR.out {l : List Seg} {X : Ix} {k : Nat} {v9 v10 : Value} {z : Int} {b : Bool} (h : SegR l X k v9 v10 z b) : SegE l X v9 v10 b := by
  rcases h with ⟨h, _⟩ | h
  · exact .inl h
  · exact .inr h

theorem SegR.wild {l : List Seg} {X : Ix} {k : Nat} {v9 v10 : Value} {z : Int} {b : Bool} {g : Seg} (h : SegR l X k v9 v10 z b) (hk : l[k]? = some g) (hw : g.wild = true) : SegR l X (k + 1) v9 v10 z b := by
  rcases h with ⟨h1, h2, h3⟩ | h
  · refine .inl ⟨h1, h2, fun j g' hj hg => ?_⟩
    by_cases hjk : j = k
    · subst hjk
      rw [hk] at hg
      rw [← Option.some.inj hg]
      exact hw
    · exact h3 j g' (by omega) hg
  · exact .inr h

theorem SegR.lit {l : List Seg} {X : Ix} {k : Nat} {v9 v10 : Value} {z : Int} {b : Bool} (h : SegR l X k v9 v10 z b) (hz : z < 9223372036854775807) : SegR l X (k + 1) v9 v10 z true := by
  rcases h with ⟨_, h2, _⟩ | ⟨_, h⟩
  · omega
  · exact .inr ⟨rfl, h⟩

theorem own_typ {w : World} {base n z g : Nat} {e : TypeId} {v : Value} {xs : List Value} (h : w.ownsRow base e z v n xs) (hg : v.ownBlock = some g) : ∃ cur, w.heap[g]? = some (.cells cur e (0, 0)) := by
  rcases h.2 with ⟨rfl, _⟩ | ⟨g', cap, cur, rfl, h1, h2, _⟩
  · cases hg
  · have : g' = g := by simpa [Value.ownBlock] using hg
    subst this
    exact ⟨cur, h2⟩

theorem ranges_at {H : Type} {P : Program} {k : TypeId} {R : Value → Option (DataW H × List MemPlace)} {w w' : World} {b r n : Nat} {D : DataW H} {left : Lit → Bool} {cnt : Nat} (h : w.ranges P k R b r n D left cnt)
    (hb : w'.heap[b]? = w.heap[b]?) (hr : w'.heap[r]? = w.heap[r]?) : w'.ranges P k R b r n D left cnt := by
  obtain ⟨es, clock, since, seen, c0, h1, F, hs, hD, h2, rest⟩ := h
  exact ⟨es, clock, since, seen, c0, hb.trans h1, F, hs, hD, hr.trans h2, rest⟩

theorem ranges_iter {H : Type} {P : Program} {k : TypeId} {R : Value → Option (DataW H × List MemPlace)} {w : World} {b r n : Nat} {D : DataW H} {left : Lit → Bool} {cnt : Nat} (h : w.ranges P k R b r n D left cnt) :
    (∃ m a s c, w.heap[r]? = some (.mapIter m a s c)) ∧ ∃ es c, w.heap[b]? = some (.map es c) := by
  obtain ⟨es, clock, since, seen, c0, h1, F, hs, hD, h2, rest⟩ := h
  exact ⟨⟨_, _, _, _, h2⟩, es, clock, h1⟩

theorem size_owns {H : Type} {P : Program} {k : TypeId} {R : Value → Option (DataW H × List MemPlace)} {w : World} {b n : Nat} {D : DataW H} (h : w.ownsMap P k R b n D) : Maps.size D ≤ n := by
  obtain ⟨es, c, _, _, hs, rfl⟩ := h
  simp only [Maps.size_eq, length_sorted, List.length_map]
  simpa using hs

theorem Ptrs.nil {w : World} {B : Nat} {v : Value} {xs : List Cl} (h : Ptrs w B v xs) (hv : v = .slice none 0 0) : xs = [] := by
  rcases h.2 with ⟨_, h1⟩ | ⟨g, cap, cur, h1, _⟩
  · exact List.length_eq_zero_iff.1 h1
  · rw [hv] at h1; cases h1

set_option maxRecDepth 100000 in
set_option maxHeartbeats 12800000 in
theorem poss_any {w : World} {B nn ib lb pa : Nat} {X : Ix} {p : PtB} (H : IdxAt w B nn ib X) (hl : w.heap[lb]? = some (.cells #[.slice none 0 0] 30 (0, 0))) (HP : PatFull w pa p) (hg : p.pt.good)
    (hXM : ∀ x ∈ X.M, PatFull w x.a x.p) (hXG : ∀ i s, ∀ x ∈ X.G i s, PatFull w x.a x.p) (hM : X.M.length ≤ 10) (hGl : ∀ i s, (X.G i s).length ≤ 10) (hnn : nn ≤ 60) :
    Calls Tryd.prog 44 #[.pointer (some ⟨ib, 0, none⟩), .pointer (some ⟨pa, 0, none⟩), .func (.func 45) #[] #[.pointer (some ⟨lb, 0, none⟩)]] w (PossEnd w lb p.l X) := by
  obtain ⟨g, hgl⟩ : ∃ g, p.l.getLast? = some g := by
    have hne : p.l ≠ [] := GoodP.some_ hg
    cases h : p.l.getLast? with
    | none => exact absurd (List.getLast?_eq_none_iff.1 h) hne
    | some g => exact ⟨g, rfl⟩
  obtain ⟨n, hn⟩ : ∃ n, p.l.length = n + 1 := ⟨p.l.length - 1, by cases hp : p.l with | nil => rw [hp] at hgl; simp at hgl | cons x t => simp⟩
  have hsix : p.l.length ≤ 6 := GoodP.six hg
  obtain ⟨_, _, _, sv, c3, hsegs⟩ := id HP.pat
  obtain ⟨A, cap, rfl, -, -⟩ := hsegs
  have HQ0 := Lib.hid (qf_start H hl HP hXM hXG c3)
  have HL0 : Hid (LAt ((w.alloc (.cells #[.func (.func 45) #[] #[.pointer (some ⟨lb, 0, none⟩)]] 83)).alloc (.cells #[.nilIface] 78)) lb (w.heap.size + 2) []) := ⟨_, blk_alloc (blk_alloc hl _) _, World.ownsRow_nil _ _ _ _⟩
  have HB0 : Hid (ButL w.heap.size lb w ((w.alloc (.cells #[.func (.func 45) #[] #[.pointer (some ⟨lb, 0, none⟩)]] 83)).alloc (.cells #[.nilIface] 78))) := ButL.of_below (((Below.refl _ _).alloc (Nat.le_refl _) _).alloc (by simp) _)
  have HG := Lib.hid hg
  have HGL := Lib.hid hgl
  have HGN := Lib.hid hGl
  have hmf : ∀ (fn : Fn) (first cap : Array Value) (w : World), (Instr.makeFunc fn first cap).run Tryd.prog w = .ok (.func fn first cap) w := fun _ _ _ _ => rfl
  obtain ⟨wq, hwq⟩ : ∃ wq, wq = (w.alloc (.cells #[.func (.func 45) #[] #[.pointer (some ⟨lb, 0, none⟩)]] 83)).alloc (.cells #[.nilIface] 78) := ⟨_, rfl⟩
  rw [← hwq] at HQ0 HL0 HB0
  obtain ⟨base, hbase⟩ : ∃ base, base = w.heap.size + 2 := ⟨_, rfl⟩
  rw [← hbase] at HQ0 HL0
  have HBE := Lib.hid hbase
  clear H hl HP hXM hXG c3 hg hgl hGl hbase
  have hf0 := field0 g.s g.wild g.multi
  obtain ⟨sb, hsb⟩ : ∃ sb, (g.s == [47]) = sb := ⟨_, rfl⟩
  go_enter Tryd.func44, Tryd.ntmps44
  go_upto_region 1 with fail
  rw [← hwq]
  have c1 : wq.cell? ⟨ib, 1, none⟩ = some X.mv := blk_cell HQ0.out.idx.blk 1
  clear hwq
  go_upto_region 3 with (go_at_call 52; (with_reducible refine (HQ0.out.apply HL0.out HQ0.out.rowM HQ0.out.pm (by simp; omega)).mono ?_); rintro e w1 ⟨rfl, hl1, hb1, hk1, -⟩; have HQ1 := Lib.hid (HQ0.out.keep hb1 hk1); have HL1 := Lib.hid hl1; have HB1 : Hid (ButL w.heap.size lb w w1) := HB0.out.trans ⟨hb1.os, hb1.tape, hb1.output, hb1.size, fun b h1 h2 => hb1.block b (by have := HBE.out; omega) h2⟩; clear hl1 hb1 hk1)
  rw [List.nil_append] at HL1
  clear c1 HQ0 HL0 HB0
  go_upto_if 33 with (go_at_call 50; (with_reducible refine (last_any pa p.m p.h p.l g w1 HQ1.out.pat.pat HGL.out (by omega)).mono ?_); rintro e w2 ⟨rfl, hb2⟩; have hbb : ButL base lb w1 w2 := ButL.of_below (hb2.mono HQ1.out.size); have HQ2 := Lib.hid (HQ1.out.keep hbb (Keeps.of_below hb2)); have HL2 : Hid (LAt w2 lb base (txts X.M)) := (by obtain ⟨u, h1, h2⟩ := HL1.out; exact ⟨u, blk_below h1 hb2, own_below h2 hb2⟩); have HB2 : Hid (ButL w.heap.size lb w w2) := HB1.out.trans (ButL.of_below (hb2.mono HB1.out.size)); clear hb2 hbb)
  cases sb
  case true =>
    have hs47 : g.s = [47] := by simpa using hsb
    have HS47 := Lib.hid hs47
    clear hsb
    have hlk : (Instr.lookup 70 (.map X.mo) (.agg #[.int .i64 (n : Int), .string ⟨#[47]⟩]) false).run Tryd.prog w2.drew = .ok (X.sv n [47]) w2.drew :=
      (HQ2.out.keep (ButL.refl _ _ _).drew (fun _ _ _ _ _ _ => rfl)).look (i := n) (s := [47]) (by omega) (by simp)
    have hwn : IntKind.i64.wrap (n : Int) = (n : Int) := by rw [IntKind.wrap_i64]; omega
    have c0 : w2.cell? ⟨ib, 0, none⟩ = some (.map X.mo) := blk_cell HQ2.out.idx.blk 0
    have c3 : w2.cell? ⟨pa, 3, none⟩ = some (.slice A (n + 1) cap) := by rw [← hn]; exact HQ2.out.seg
    have HQ3 : Hid (QF base lb ib (w.heap.size + 1) w.heap.size pa B nn X p A cap w2.drew) := HQ2.out.keep (ButL.refl _ _ _).drew (fun _ _ _ _ _ _ => rfl)
    have HL3 : Hid (LAt w2.drew lb base (txts X.M)) := HL2.out
    have HB3 : Hid (ButL w.heap.size lb w w2.drew) := HB2.out.drew
    have hglen := HGN.out n [47]
    clear hs47 HQ1 HL1 HB1 HQ2 HL2 HB2
    go_upto_region 6 with fail
    go_region_law (first
      | (go_simp; go_at_call 52; (with_reducible refine (HQ3.out.apply HL3.out (HQ3.out.rows n [47]) (HQ3.out.pg n [47]) (by rw [txts_length]; omega)).mono ?_); rintro e w4 ⟨rfl, hl4, hb4, hk4, -⟩; have HQ4 := Lib.hid (HQ3.out.keep hb4 hk4); have HL4 := Lib.hid hl4; have HB4 : Hid (ButL w.heap.size lb w w4) := HB3.out.trans ⟨hb4.os, hb4.tape, hb4.output, hb4.size, fun b h1 h2 => hb4.block b (by have := HBE.out; omega) h2⟩; have ce := blk_cell HQ4.out.ecell 0; have fe := blk_free HQ4.out.ecell 0; clear hl4 hb4 hk4))
    all_goals
      (go_wp2_with fail
       have hss := set_same HQ4.out.ecell
       have HR : Hid (PossEnd w lb p.l X (.returned .nilIface) (w4.setCell ⟨w.heap.size + 1, 0, none⟩ .nilIface)) := by
         refine ⟨rfl, _, base, HL4.out.heap hss, sound_app (sound_app (sound_nil X) fun x hx => .inl hx) (fun x hx => .inr ⟨n, [47], hx⟩), ⟨fun x hx => List.mem_append_left _ (txts_mem hx), .inl ⟨g, HGL.out, HS47.out, fun x hx => List.mem_append_right _ (txts_mem ?_)⟩⟩, ?_, ?_⟩
         · have e : p.l.length - 1 = n := by omega
           rw [e] at hx
           exact hx
         · rw [List.length_append, txts_length, txts_length]; omega
         · have h1 := HB4.out
           exact ⟨h1.os, h1.tape, h1.output, by have := h1.size; simpa using this, fun b h2 h3 => (hss b).trans (h1.block b h2 h3)⟩
       refine bodyPost_ret (v := .nilIface) (by simp [results, Tryd.results44, go_sem, ce]) rfl HR.out)
  case false =>
    have hs47 : ¬ g.s = [47] := by simpa using hsb
    have HS47 := Lib.hid hs47
    clear hsb hs47 HS47 HQ1 HL1 HB1
    have c3 : w2.cell? ⟨pa, 3, none⟩ = some (.slice A (n + 1) cap) := by rw [← hn]; exact HQ2.out.seg
    go_upto_block 0 with fail
    clear c3
    go_cut [9, 10, 11, 12, 13, 14, 15, 16, 17] from 53 to 90 (fun v9 v10 _ v12 _ _ _ _ _ wx => ∃ b : Bool, v12 = .bool b ∧ Hid (SegE p.l X v9 v10 b) ∧ Hid (QF base lb ib (w.heap.size + 1) w.heap.size pa B nn X p A cap wx) ∧ Hid (LAt wx lb base (txts X.M)) ∧ Hid (ButL w.heap.size lb w wx))
    case first =>
      go_wp2_with fail
      go_loopw [9, 10, 11, 12, 53] (fun v9 v10 v11 v12 kv wr => ∃ (k : Nat) (z : Int) (b : Bool), k ≤ n + 1 ∧ kv = .int .i64 k ∧ v11 = .int .i64 z ∧ v12 = .bool b ∧ Hid (SegR p.l X k v9 v10 z b) ∧ Hid (QF base lb ib (w.heap.size + 1) w.heap.size pa B nn X p A cap wr) ∧ Hid (LAt wr lb base (txts X.M)) ∧ Hid (ButL w.heap.size lb w wr)) (fun _ _ _ _ kv _ => n + 1 - (intOf kv).toNat)
      case atStart => exact ⟨0, _, false, Nat.zero_le _, rfl, rfl, rfl, .inl ⟨rfl, rfl, fun j g hj => by omega⟩, HQ2.out, HL2.out, HB2.out⟩
      case round =>
        obtain ⟨k, z, b, hk, rfl, rfl, rfl, HSR, HQ, HL, HB⟩ := hrel
        clear HQ2 HL2 HB2
        by_cases hlt : k < n + 1
        · obtain ⟨g', hgk⟩ : ∃ g', p.l[k]? = some g' := ⟨_, List.getElem?_eq_getElem (by omega)⟩
          obtain ⟨_, _, hv, _, hff⟩ := HQ.out.segs
          simp only [Value.slice.injEq, true_and] at hv
          obtain ⟨rfl, rfl⟩ := hv
          obtain ⟨bb, o, rfl, hbl, d0, d1, d2⟩ := hff k g' hgk
          have HGK := Lib.hid hgk
          have hok := GoodP.seg HG.out k g' hgk
          have HOK := Lib.hid hok
          clear hff hgk hok
          obtain ⟨s, gw, gm⟩ := g'
          have d0' : wr.cell? ⟨bb, o + k * 3, none⟩ = some (.string ⟨s.toArray⟩) := d0
          simp only at d1 d2
          clear d0
          have hbn : Below wr.heap.size wr (wr.alloc (.cells #[.string ⟨s.toArray⟩, .bool gw, .bool gm] 100)) := (Below.refl _ _).alloc (Nat.le_refl _) _
          have HQN : Hid (QF base lb ib (w.heap.size + 1) w.heap.size pa B nn X p (some ⟨bb, o, none⟩) cap (wr.alloc (.cells #[.string ⟨s.toArray⟩, .bool gw, .bool gm] 100))) := HQ.out.keep (ButL.of_below (hbn.mono HQ.out.size)) (Keeps.of_below hbn)
          have HLN : Hid (LAt (wr.alloc (.cells #[.string ⟨s.toArray⟩, .bool gw, .bool gm] 100)) lb base (txts X.M)) := (by obtain ⟨u, h1, h2⟩ := HL.out; exact ⟨u, blk_below h1 hbn, own_below h2 hbn⟩)
          have HBN : Hid (ButL w.heap.size lb w (wr.alloc (.cells #[.string ⟨s.toArray⟩, .bool gw, .bool gm] 100))) := HB.out.trans (ButL.of_below (hbn.mono HB.out.size))
          clear hbn
          go_upto_if 59 with fail
          cases gm
          case true =>
            go_wp2_with fail
            go_meet
            exact ⟨b, rfl, HSR.out.out, HQN.out, HLN.out, HBN.out⟩
          case false =>
            go_upto_if 62 with fail
            cases gw
            case true =>
              have HSN := Lib.hid (HSR.out.wild HGK.out rfl)
              go_wp2_with fail
              go_roundw
              case rel => exact ⟨k + 1, z, b, by omega, by go_num, rfl, rfl, HSN.out, HQN.out, HLN.out, HBN.out⟩
              case measure => simp [intOf]; omega
            case false =>
              have hsl : s.length ≤ 16 := HOK.out.1
              have hs0 := new0 wr (.cells #[.string ⟨s.toArray⟩, .bool false, .bool false] 100)
              obtain ⟨W1, hW1⟩ : ∃ W1, W1 = wr.alloc (.cells #[.string ⟨s.toArray⟩, .bool false, .bool false] 100) := ⟨_, rfl⟩
              rw [← hW1] at HQN HLN HBN hs0
              obtain ⟨A1, p1, e1, -⟩ := HQN.out.rows k s
              obtain ⟨A2, p2, e2, -⟩ := HQN.out.rows k []
              have hq1 : QF base lb ib (w.heap.size + 1) w.heap.size pa B nn X p (some ⟨bb, o, none⟩) cap W1.drew := HQN.out.keep (ButL.refl _ _ _).drew (fun _ _ _ _ _ _ => rfl)
              obtain ⟨n1, hn1⟩ : ∃ n1, n1 = (X.G k s).length := ⟨_, rfl⟩
              obtain ⟨n2, hn2⟩ : ∃ n2, n2 = (X.G k []).length := ⟨_, rfl⟩
              have hm1 : n1 ≤ 10 := by rw [hn1]; exact HGN.out k s
              have hm2 : n2 ≤ 10 := by rw [hn2]; exact HGN.out k []
              rw [← hn1] at e1
              rw [← hn2] at e2
              have lk1 : (Instr.lookup 70 (.map X.mo) (.agg #[.int .i64 (k : Int), .string ⟨s.toArray⟩]) false).run Tryd.prog W1.drew = .ok (.slice A1 n1 p1) W1.drew := by
                rw [← e1]; exact hq1.look (by omega) (by omega)
              have lk2 : (Instr.lookup 70 (.map X.mo) (.agg #[.int .i64 (k : Int), .string ⟨#[]⟩]) false).run Tryd.prog W1.drew = .ok (.slice A2 n2 p2) W1.drew := by
                rw [← e2]; exact hq1.look (s := []) (by omega) (by simp)
              have c0 : W1.cell? ⟨ib, 0, none⟩ = some (.map X.mo) := blk_cell HQN.out.idx.blk 0
              have cs : W1.cell? ⟨wr.heap.size, 0, none⟩ = some (.string ⟨s.toArray⟩) := blk_cell hs0 0
              have hsum : IntKind.i64.wrap ((n1 : Int) + (n2 : Int)) = (n1 : Int) + (n2 : Int) := by rw [IntKind.wrap_i64]; omega
              have HE1 := Lib.hid e1
              have HE2 := Lib.hid e2
              clear hs0 hn1 hn2 e1 e2 d0' d1 d2 hq1
              go_upto_region 16 with fail
              rw [← hW1]
              clear hW1
              go_region_law (fail)
              all_goals
                (by_cases hz : (n1 : Int) + (n2 : Int) < z
                 · go_wp2_with fail
                   go_roundw
                   case rel => exact ⟨k + 1, _, true, by omega, by go_num, rfl, rfl, .inr ⟨rfl, k, ⟨s, false, false⟩, HGK.out, rfl, HE1.out.symm, HE2.out.symm⟩, HQN.out.keep ⟨rfl, rfl, rfl, Nat.le_refl _, fun _ _ _ => rfl⟩ (fun _ _ _ _ _ _ => rfl), HLN.out, ⟨HBN.out.os, HBN.out.tape, HBN.out.output, HBN.out.size, HBN.out.block⟩⟩
                   case measure => simp [intOf]; omega
                 · have HSN := Lib.hid (HSR.out.lit (by omega))
                   go_wp2_with fail
                   go_roundw
                   case rel => exact ⟨k + 1, z, true, by omega, by go_num, rfl, rfl, HSN.out, HQN.out.keep ⟨rfl, rfl, rfl, Nat.le_refl _, fun _ _ _ => rfl⟩ (fun _ _ _ _ _ _ => rfl), HLN.out, ⟨HBN.out.os, HBN.out.tape, HBN.out.output, HBN.out.size, HBN.out.block⟩⟩
                   case measure => simp [intOf]; omega)
        · go_wp2_with fail
          go_meet
          exact ⟨b, rfl, HSR.out.out, HQ.out, HL.out, HB.out⟩
    case rest =>
      obtain ⟨b, rfl, HSE, HQ5, HL5, HB5⟩ := hcut
      obtain ⟨w5, rfl⟩ : ∃ w5 : World, w5 = wc := ⟨_, rfl⟩
      clear HQ2 HL2 HB2
      cases b
      case true =>
        obtain ⟨i, g', hgi, hgw, h9, h10⟩ : ∃ (i : Nat) (g' : Seg), p.l[i]? = some g' ∧ g'.wild = false ∧ _ = X.sv i g'.s ∧ _ = X.sv i [] := by
          rcases HSE.out with h | ⟨_, h⟩
          · cases h
          · exact h
        subst h9 h10
        have HGI := Lib.hid hgi
        have HGW := Lib.hid hgw
        have hl1 := HGN.out i g'.s
        have hl2 := HGN.out i []
        clear hgi hgw HSE
        go_upto_region 26 with (go_at_call 52; (with_reducible refine (HQ5.out.apply HL5.out (HQ5.out.rows i g'.s) (HQ5.out.pg i g'.s) (by rw [txts_length]; omega)).mono ?_); rintro e w6 ⟨rfl, hl6, hb6, hk6, -⟩; have HQ6 := Lib.hid (HQ5.out.keep hb6 hk6); have HL6 := Lib.hid hl6; have HB6 : Hid (ButL w.heap.size lb w w6) := HB5.out.trans ⟨hb6.os, hb6.tape, hb6.output, hb6.size, fun b h1 h2 => hb6.block b (by have := HBE.out; omega) h2⟩; clear hl6 hb6 hk6)
        go_upto_region 27 with (go_at_call 52; (with_reducible refine (HQ6.out.apply HL6.out (HQ6.out.rows i []) (HQ6.out.pg i []) (by rw [List.length_append, txts_length, txts_length]; omega)).mono ?_); rintro e w7 ⟨rfl, hl7, hb7, hk7, -⟩; have HQ7 := Lib.hid (HQ6.out.keep hb7 hk7); have HL7 := Lib.hid hl7; have HB7 : Hid (ButL w.heap.size lb w w7) := HB6.out.trans ⟨hb7.os, hb7.tape, hb7.output, hb7.size, fun b h1 h2 => hb7.block b (by have := HBE.out; omega) h2⟩; clear hl7 hb7 hk7)
        have ce := blk_cell HQ7.out.ecell 0
        have fe := blk_free HQ7.out.ecell 0
        go_wp2_with fail
        have hss := set_same HQ7.out.ecell
        have HR : Hid (PossEnd w lb p.l X (.returned .nilIface) (w7.setCell ⟨w.heap.size + 1, 0, none⟩ .nilIface)) := by
          refine ⟨rfl, _, base, HL7.out.heap hss, sound_app (sound_app (sound_app (sound_nil X) fun x hx => .inl hx) (fun x hx => .inr ⟨i, g'.s, hx⟩)) (fun x hx => .inr ⟨i, [], hx⟩),
            ⟨fun x hx => List.mem_append_left _ (List.mem_append_left _ (txts_mem hx)), .inr (.inl ⟨i, g', HGI.out, HGW.out, fun x hx => List.mem_append_left _ (List.mem_append_right _ (txts_mem hx)), fun x hx => List.mem_append_right _ (txts_mem hx)⟩)⟩, ?_, ?_⟩
          · rw [List.length_append, List.length_append, txts_length, txts_length, txts_length]; omega
          · have h1 := HB7.out
            exact ⟨h1.os, h1.tape, h1.output, by have := h1.size; simpa using this, fun b h2 h3 => (hss b).trans (h1.block b h2 h3)⟩
        refine bodyPost_ret (v := .nilIface) (by simp [results, Tryd.results44, go_sem, ce]) rfl HR.out
      case false =>
        clear HSE
        have c0 : w5.cell? ⟨ib, 0, none⟩ = some (.map X.mo) := blk_cell HQ5.out.idx.blk 0
        rcases HQ5.out.idx.mp with ⟨hno, hsv⟩ | ⟨mb, nm, D, hmo, hmB, hmn, hown, hdat, hdom⟩
        · have hGn : ∀ i s, X.G i s = [] := fun i s => (HQ5.out.idx.rows i s).nil (hsv i s)
          have HGE := Lib.hid hGn
          have hrg : (Instr.range 70 (.map X.mo)).run Tryd.prog w5 = .ok (.pointer (some ⟨w5.heap.size, 0, none⟩)) (w5.alloc (.mapIter none 0 #[] 0)) := by rw [hno]; exact run_range_nilMap w5 _ _ _ Tryd.underlying70
          have hnx : ∀ ty, (Instr.next (.pointer (some ⟨w5.heap.size, 0, none⟩)) false ty).run Tryd.prog (w5.alloc (.mapIter none 0 #[] 0)) = .ok (.tuple #[.bool false]) (w5.alloc (.mapIter none 0 #[] 0)) := fun ty => run_next_nilMap w5 ty 0 0 #[]
          have hbn : Below w5.heap.size w5 (w5.alloc (.mapIter none 0 #[] 0)) := (Below.refl _ _).alloc (Nat.le_refl _) _
          have HQ6 := Lib.hid (HQ5.out.keep (ButL.of_below (hbn.mono HQ5.out.size)) (Keeps.of_below hbn))
          have HL6 : Hid (LAt (w5.alloc (.mapIter none 0 #[] 0)) lb base (txts X.M)) := (by obtain ⟨u, h1, h2⟩ := HL5.out; exact ⟨u, blk_below h1 hbn, own_below h2 hbn⟩)
          have HB6 : Hid (ButL w.heap.size lb w (w5.alloc (.mapIter none 0 #[] 0))) := HB5.out.trans (ButL.of_below (hbn.mono HB5.out.size))
          have ce := blk_cell HQ6.out.ecell 0
          have fe := blk_free HQ6.out.ecell 0
          clear hno hsv hGn hbn
          go_wp2_with fail
          refine wp_loop_rounds 1 ?_
          rw [rounds_succ]
          go_wp2_with fail
          have hss := set_same HQ6.out.ecell
          have HR : Hid (PossEnd w lb p.l X (.returned .nilIface) ((w5.alloc (.mapIter none 0 #[] 0)).setCell ⟨w.heap.size + 1, 0, none⟩ .nilIface)) := by
            refine ⟨rfl, _, base, HL6.out.heap hss, by simpa using sound_app (sound_nil X) (xs := X.M) (fun x hx => .inl hx), ⟨fun x hx => txts_mem hx, .inr (.inr fun i s _ _ x hx => by rw [HGE.out] at hx; cases hx)⟩, ?_, ?_⟩
            · rw [txts_length]; omega
            · have h1 := HB6.out
              exact ⟨h1.os, h1.tape, h1.output, by have := h1.size; simpa using this, fun b h2 h3 => (hss b).trans (h1.block b h2 h3)⟩
          refine bodyPost_ret (v := .nilIface) (by simp [results, Tryd.results44, go_sem, ce]) rfl HR.out
        · have HDAT := Lib.hid hdat
          have HDOM := Lib.hid hdom
          have HOWN := Lib.hid hown
          have hbz := HQ5.out.size
          rw [hmo] at c0
          clear hdat hdom
          go_wp2_with (at_range; refine wpList_range_own _ rfl _ 70 rfl 103 71 (Maps.Keyed.of_law key_law) Tryd.underlying70 rawElem mb nm D rfl hown ?_; intro w6 hrg6 hg6 hs6; have HRG6 := Lib.hid hrg6; have HS6 := Lib.hid hs6; have hb6 : Below w5.heap.size w5 w6 := ⟨hg6.os, hg6.tape, hg6.output, hg6.size, fun i hi => hg6.block i hi (by simp)⟩; have HQ6 := Lib.hid (HQ5.out.keep (ButL.of_below (hb6.mono HQ5.out.size)) (Keeps.of_below hb6)); have HL6 : Hid (LAt w6 lb base (txts X.M)) := (by obtain ⟨u, h1, h2⟩ := HL5.out; exact ⟨u, blk_below h1 hb6, own_below h2 hb6⟩); have HB6 : Hid (ButL w.heap.size lb w w6) := HB5.out.trans (ButL.of_below (hb6.mono HB5.out.size)); clear hrg6 hs6 hg6 hb6)
          go_frame
          clear hown c0
          go_loopw [19] (fun _ wr => ∃ (left : Lit → Bool) (cnt : Nat) (L : List (List UInt8)), wr.ranges Tryd.prog 103 rawElem mb w5.heap.size nm D left cnt ∧ Hid (QF base lb ib (w.heap.size + 1) w.heap.size pa B nn X p A cap wr) ∧ Hid (LAt wr lb base L) ∧ Hid (ButL w.heap.size lb w wr) ∧ Hid (Sound X L) ∧ Hid (∀ x ∈ X.M, x.p.text ∈ L) ∧ Hid (∀ (i : Nat) (s : List UInt8), i ≤ 1000 → s.length ≤ 1000 → left (keyL i s) = true ∨ ∀ x ∈ X.G i s, x.p.text ∈ L) ∧ L.length + 10 * cnt ≤ 700)
            (fun _ wr => wr.rangeLeft mb w5.heap.size)
          case atStart =>
            refine ⟨Maps.has D, Maps.size D, txts X.M, HRG6.out, HQ6.out, HL6.out, HB6.out, by show Sound X _; simpa using sound_app (sound_nil X) (xs := X.M) (fun x hx => .inl hx), fun x hx => txts_mem hx, fun i s hi hs => ?_, by have := size_owns HOWN.out; rw [txts_length]; omega⟩
            cases hh : Maps.has D (keyL i s)
            · right
              have h1 := HDAT.out i s hi hs
              rw [Maps.atKey_of_not_has hh] at h1
              have h2 : X.sv i s = .slice none 0 0 := by simpa using h1.symm
              intro x hx
              rw [(HQ5.out.idx.rows i s).nil h2] at hx
              cases hx
            · exact .inl rfl
          case round =>
            obtain ⟨left, cnt, L, hrg, HQ, HL, HB, HSO, HCM, HCG, hln⟩ := hrel
            clear HRG6 HS6 HQ6 HL6 HB6
            go_wp2_with (at_next; refine wpList_next_ranges _ rfl _ rfl 103 (Maps.Keyed.of_law key_law) rawElem (fun v => v) (fun v => v) (fun key kl _ => ⟨key, rfl⟩) (fun v y _ => ⟨v, rfl⟩) mb w5.heap.size nm D left cnt rfl hrg ?_ ?_)
            · intro hc0 hl0
              have ce := blk_cell HQ.out.ecell 0
              have fe := blk_free HQ.out.ecell 0
              have HCE : Hid (∀ (i : Nat) (s : List UInt8), i ≤ 1000 → s.length ≤ 1000 → ∀ x ∈ X.G i s, x.p.text ∈ L) := by
                intro i s hi hs
                rcases HCG.out i s hi hs with h | h
                · rw [hl0] at h; cases h
                · exact h
              clear hl0 hrg
              go_wp2_with fail
              have hss := set_same HQ.out.ecell
              have HR : Hid (PossEnd w lb p.l X (.returned .nilIface) (wr.setCell ⟨w.heap.size + 1, 0, none⟩ .nilIface)) := by
                refine ⟨rfl, L, base, HL.out.heap hss, HSO.out, ⟨HCM.out, .inr (.inr HCE.out)⟩, by omega, ?_⟩
                have h1 := HB.out
                exact ⟨h1.os, h1.tape, h1.output, by have := h1.size; simpa using this, fun b h2 h3 => (hss b).trans (h1.block b h2 h3)⟩
              refine bodyPost_ret (v := .nilIface) (by simp [results, Tryd.results44, go_sem, ce]) rfl HR.out
            · intro x c kl yd yp w7 cnt7 hkey hlk hv hat hrg7 hlt hg7 hs7 hen
              have hyd : yd = .held c := raw_val (ps := yp) hv
              obtain ⟨i, s, hi, hs, rfl⟩ := HDOM.out kl (Maps.has_true_of_atKey hat)
              have hcs : c = X.sv i s := by
                have h1 := hat (.held (.slice none 0 0))
                rw [HDAT.out i s hi hs, hyd] at h1
                simpa using h1.symm
              subst hcs
              have hen' : (Instr.entry (.pointer (some ⟨w5.heap.size, 0, none⟩))).run Tryd.prog w7 = .ok (.tuple #[x, X.sv i s]) w7 := hen
              obtain ⟨⟨im, ia, is, ic, hri⟩, ies, iec, hrm⟩ := ranges_iter hrg
              have hzr := HQ.out.size
              have hlbo := HQ.out.lb_ok
              have hbl7 : ButL base lb wr w7 := ⟨hg7.os, hg7.tape, hg7.output, hg7.size, fun b h1 h2 => hg7.block b (by omega) (fun e => by have := Option.some.inj e; omega)⟩
              have hkp7 : Keeps wr w7 := fun b cs t fr h1 _ => hg7.block b (lt_of_heap h1) (fun e => by
                have := Option.some.inj e
                subst this
                rw [hri] at h1; cases h1)
              have HQ7 := Lib.hid (HQ.out.keep hbl7 hkp7)
              have HL7 : Hid (LAt w7 lb base L) := by
                obtain ⟨u, h1, h2⟩ := HL.out
                refine ⟨u, (hg7.block lb (lt_of_heap h1) (fun e => by have := Option.some.inj e; omega)).trans h1, ownsRow_of_heap h2 fun g hg => hg7.block g (h2.lt g hg).2 fun e => ?_⟩
                have := Option.some.inj e
                subst this
                obtain ⟨cur, h3⟩ := own_typ h2 hg
                rw [hri] at h3; cases h3
              have HB7 : Hid (ButL w.heap.size lb w w7) := HB.out.trans ⟨hbl7.os, hbl7.tape, hbl7.output, hbl7.size, fun b h1 h2 => hbl7.block b (by have := HBE.out; omega) h2⟩
              have hgl := HGN.out i s
              have HRG := Lib.hid hrg
              have HRG7 := Lib.hid hrg7
              have HLT := Lib.hid hlt
              clear hs7 hen hkey hlk hv hat hyd hrg7 hlt hg7 hri hrm hbl7 hkp7 hrg
              go_wp2_with (go_at_call 52; (with_reducible refine (HQ7.out.apply HL7.out (HQ7.out.rows i s) (HQ7.out.pg i s) (by omega)).mono ?_); rintro e w8 ⟨rfl, hl8, hb8, hk8, hst8⟩; have HQ8 := Lib.hid (HQ7.out.keep hb8 hk8); have HL8 := Lib.hid hl8; have HB8 : Hid (ButL w.heap.size lb w w8) := HB7.out.trans ⟨hb8.os, hb8.tape, hb8.output, hb8.size, fun b h1 h2 => hb8.block b (by have := HBE.out; omega) h2⟩; have HST8 := Lib.hid hst8; clear hl8 hb8 hk8 hst8)
              obtain ⟨⟨jm, ja, js, jc, hrj⟩, jes, jec, hrn⟩ := ranges_iter HRG7.out
              obtain ⟨ul, hul, _⟩ := HL7.out
              have hrg8 : w8.ranges Tryd.prog 103 rawElem mb w5.heap.size nm D (fun z => left z && !z.sameKey (keyL i s)) cnt7 := by
                refine ranges_at HRG7.out (HST8.out mb (lt_of_heap hrn) (fun e => ?_) (fun cs fr h => ?_)) (HST8.out _ (lt_of_heap hrj) (by omega) (fun cs fr h => ?_))
                · subst e
                  rw [hrn] at hul; cases hul
                · rw [hrn] at h; cases h
                · rw [hrj] at h; cases h
              have hlt7 := HLT.out
              have HRG8 := Lib.hid hrg8
              clear hrj hrn hul hrg8
              go_roundw
              case rel =>
                refine ⟨_, cnt7, _, HRG8.out, HQ8.out, HL8.out, HB8.out, sound_app HSO.out (fun x hx => .inr ⟨i, s, hx⟩), fun x hx => List.mem_append_left _ (HCM.out x hx), fun i' s' hi' hs' => ?_, by rw [List.length_append, txts_length]; omega⟩
                by_cases he : keyL i' s' = keyL i s
                · obtain ⟨rfl, rfl⟩ := keyL_inj hi' hi hs' hs he
                  exact .inr fun x hx => List.mem_append_right _ (txts_mem hx)
                · rcases HCG.out i' s' hi' hs' with h | h
                  · left
                    show (left (keyL i' s') && !(keyL i' s').sameKey (keyL i s)) = true
                    rw [h, Maps.sameKey_ne he]; rfl
                  · exact .inr fun x hx => List.mem_append_left _ (h x hx)
              case measure => rw [HRG8.out.left_eq, HRG.out.left_eq]; exact HLT.out
end Go.Proofs.YtgkhfcoieknjeaaDoor
