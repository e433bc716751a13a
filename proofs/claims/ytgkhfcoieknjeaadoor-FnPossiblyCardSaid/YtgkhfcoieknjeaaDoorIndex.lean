/-
  What the index of patterns is in memory (definitions), and plain laws on it: keys, rows of pointers, what stays when the index is written.
-/
import Derived.Test.YtgkhfcoieknjeaaDoorEntry
import Derived.Test.YtgkhfcoieknjeaaDoorIndexLaw
import Derived.Test.YtgkhfcoieknjeaaDoorTreeAll
import Derived.DeepKeys4
import Derived.Maps.Views
namespace Go.Proofs.YtgkhfcoieknjeaaDoor
open Go.RowKit
open Go.WideMaps (KeyLaw)

theorem idx_laid : laidOutB Tryd.prog = true := by kernel_rfl
theorem key_row : (103 : TypeId) < Tryd.prog.types.size := of_decide_eq_true (by kernel_rfl)
theorem key_wide : (match Tryd.prog.underlying 103 with | some (.array _ _) | some (.struct _) => true | _ => false) = true := by kernel_rfl
set_option maxRecDepth 100000 in
theorem key_law : KeyLaw Tryd.prog 103 := deep_law_laid idx_laid (m := 2) (by omega) key_row (by kernel_rfl) key_wide
theorem key_type : Tryd.prog.keyType 103 = true := by kernel_rfl
theorem key_cells : Tryd.prog.cellsOf 103 = 2 := by kernel_rfl
theorem key_cells0 : Tryd.prog.cellsOf 3 = 1 := by kernel_rfl
theorem key_cells1 : Tryd.prog.cellsOf 9 = 1 := by kernel_rfl
theorem key_size : ∃ m, Tryd.prog.types.size = m + 1 := ⟨Tryd.prog.types.size - 1, by kernel_rfl⟩

/-- A key of the index. -/
def keyV (i : Nat) (s : ByteArray) : Value := .agg #[.int .i64 (i : Int), .string s]
def keyL (i : Nat) (s : List UInt8) : Lit := .string (keyBytes [.int .i64 (i : Int), .string s])

theorem key_ok (i : Nat) (hi : i ≤ 1000) (s : ByteArray) (hs : s.size ≤ maxLen) : keyOf Tryd.prog 103 (keyV i s) = some (keyL i (bs s)) := by
  have hf : (keyV i s).formed Tryd.prog 103 = true := by simp [keyV, Value.formed, Tryd.underlying103, key_cells]
  obtain ⟨m, hm⟩ := key_size
  have hw : (Lit.int .i64 (i : Int)).wf = true := by
    have h1 : IntKind.i64.min = -9223372036854775808 := by decide
    have h2 : IntKind.i64.max = 9223372036854775807 := by decide
    simp only [Lit.wf, h1, h2]
    simp
    omega
  have hl : Tryd.prog.keyLits (Tryd.prog.types.size + 1) 103 [.int .i64 (i : Int), .string s] = some [.int .i64 (i : Int), .string (bs s)] := by
    rw [hm]
    simp [Program.keyLits, Tryd.underlying103, Tryd.underlying3, Tryd.underlying9, key_cells, key_cells0, key_cells1, hw, hs, bs]
  have : (keyV i s).cells.toList = [.int .i64 (i : Int), .string s] := rfl
  unfold keyOf
  rw [key_type, hf, this, hl]
  simp [Tryd.underlying103, keyL]

theorem keyL_inj {i i' : Nat} {s s' : List UInt8} (hi : i ≤ 1000) (hi' : i' ≤ 1000) (hs : s.length ≤ 1000) (hs' : s'.length ≤ 1000) (e : keyL i s = keyL i' s') : i = i' ∧ s = s' := by
  have hz : ∀ u : List UInt8, u.length ≤ 1000 → (⟨u.toArray⟩ : ByteArray).size ≤ maxLen := fun u hu => by simp [ByteArray.size]; unfold maxLen; omega
  have hb : ∀ u : List UInt8, bs ⟨u.toArray⟩ = u := fun u => by simp [bs]
  have h1 := key_ok i hi ⟨s.toArray⟩ (hz s hs)
  have h2 := key_ok i' hi' ⟨s'.toArray⟩ (hz s' hs')
  rw [hb] at h1 h2
  rw [← e] at h2
  have h3 := key_law.inj h1 h2
  simp [keyV] at h3
  obtain ⟨h4, h5⟩ := h3
  exact ⟨by omega, h5⟩

theorem keyL_key (i : Nat) (s : List UInt8) : WideAt.IsKeyLit (keyL i s) := trivial

/-- A pattern's place and the pattern. -/
structure Cl where
  a : Nat
  p : PtB

def ptrV (a : Nat) : Value := .pointer (some ⟨a, 0, none⟩)
def ptrsOf (xs : List Cl) : List Value := xs.map fun x => ptrV x.a
/-- A row of pointers. -/
def Ptrs (w : World) (B : Nat) (v : Value) (xs : List Cl) : Prop := w.ownsRow B 75 1 v xs.length (ptrsOf xs)

theorem Ptrs.typ {w : World} {B g : Nat} {v : Value} {xs : List Cl} (h : Ptrs w B v xs) (hg : v.ownBlock = some g) : B ≤ g ∧ ∃ cur, w.heap[g]? = some (.cells cur 75 (0, 0)) := by
  rcases h.2 with ⟨rfl, _⟩ | ⟨g', cap, cur, rfl, hb, hc, _⟩
  · cases hg
  · have : g' = g := by simpa [Value.ownBlock] using hg
    subst this
    exact ⟨hb, cur, hc⟩

theorem Ptrs.snoc {w : World} {B : Nat} {v : Value} {xs : List Cl} {x : Cl} (h : w.ownsRow B 75 1 v (xs.length + 1) (ptrsOf xs ++ [ptrV x.a])) : Ptrs w B v (xs ++ [x]) := by
  unfold Ptrs ptrsOf at *
  simpa using h

/-- A pattern in memory, with its text. -/
def PatFull (w : World) (a : Nat) (p : PtB) : Prop :=
  ∃ sv base, w.heap[a]? = some (.cells #[.string ⟨p.text.toArray⟩, .string p.m, .string p.h, sv, .string ⟨#[]⟩] 82 (0, 0)) ∧ w.ownsRow base 100 3 sv p.l.length (segCells p.l)

theorem PatFull.pat {w : World} {a : Nat} {p : PtB} (H : PatFull w a p) : PatAt w a p.m p.h p.l := by
  obtain ⟨sv, base, h1, h2⟩ := H
  exact ⟨blk_lt h1, blk_cell h1 1, blk_cell h1 2, sv, blk_cell h1 3, SegsAt.of_own h2⟩

/-- Patterns stay. -/
def Keeps (w w' : World) : Prop := ∀ (b : Nat) (cs : Array Value) (t : TypeId) (fr : Nat × Nat), w.heap[b]? = some (Obj.cells cs t fr) → (t = 82 ∨ t = 100) → w'.heap[b]? = w.heap[b]?

theorem Keeps.refl (w : World) : Keeps w w := fun _ _ _ _ _ _ => rfl
theorem Keeps.trans {w w' w'' : World} (h1 : Keeps w w') (h2 : Keeps w' w'') : Keeps w w'' := fun b cs t fr hb ht => (h2 b cs t fr ((h1 b cs t fr hb ht).trans hb) ht).trans (h1 b cs t fr hb ht)
theorem Keeps.of_below {w w' : World} (hb : Below w.heap.size w w') : Keeps w w' := fun b _ _ _ h _ => hb.block b (lt_of_heap h)

theorem PatFull.keep {w w' : World} {a : Nat} {p : PtB} (H : PatFull w a p) (hk : Keeps w w') : PatFull w' a p := by
  obtain ⟨sv, base, h1, h2⟩ := H
  refine ⟨sv, base, (hk a _ _ _ h1 (.inl rfl)).trans h1, ownsRow_of_heap h2 fun b hb => ?_⟩
  rcases h2.2 with ⟨h3, _⟩ | ⟨g, cap, cur, h3, _, hg, _⟩
  · rw [h3] at hb; cases hb
  · rw [h3] at hb
    have : g = b := by simpa [Value.ownBlock] using hb
    subst this
    exact hk _ _ _ _ hg (.inr rfl)

/-- The index: its map's block, its two rows' values, and what they hold. -/
structure Ix where
  mo : Option Nat
  mv : Value
  sv : Nat → List UInt8 → Value
  M : List Cl
  G : Nat → List UInt8 → List Cl

/-- The map of the index. -/
def MapAt (w : World) (B nn : Nat) (X : Ix) (b n : Nat) (D : DataW Value) : Prop :=
  X.mo = some b ∧ B ≤ b ∧ n ≤ nn ∧ w.ownsMap Tryd.prog 103 rawElem b n D ∧ (∀ i s, i ≤ 1000 → s.length ≤ 1000 → D.atKey (keyL i s) (.held (.slice none 0 0)) = .held (X.sv i s)) ∧
    ∀ kl, Maps.has D kl = true → ∃ i s, i ≤ 1000 ∧ s.length ≤ 1000 ∧ kl = keyL i s

structure IdxAt (w : World) (B nn ib : Nat) (X : Ix) : Prop where
  blk : w.heap[ib]? = some (.cells #[.map X.mo, X.mv] 73 (0, 0))
  low : B ≤ ib
  multis : Ptrs w B X.mv X.M
  rows : ∀ i s, Ptrs w B (X.sv i s) (X.G i s)
  mp : (X.mo = none ∧ ∀ i s, X.sv i s = .slice none 0 0) ∨ ∃ b n D, MapAt w B nn X b n D
  apart : ∀ i s i' s' g, (X.sv i s).ownBlock = some g → (X.sv i' s').ownBlock = some g → i = i' ∧ s = s'
  apartM : ∀ i s g, (X.sv i s).ownBlock = some g → X.mv.ownBlock ≠ some g

/-- The blocks of the index. -/
def Ix.foot (X : Ix) (ib b : Nat) : Prop := b = ib ∨ X.mo = some b ∨ X.mv.ownBlock = some b ∨ ∃ i s, (X.sv i s).ownBlock = some b

theorem MapAt.is_map {w : World} {B nn b n : Nat} {X : Ix} {D : DataW Value} (h : MapAt w B nn X b n D) : ∃ es c, w.heap[b]? = some (.map es c) := by
  obtain ⟨_, _, _, ⟨es, c, h, _⟩, _⟩ := h
  exact ⟨es, c, h⟩

theorem IdxAt.foot_lt {w : World} {B nn ib b : Nat} {X : Ix} (H : IdxAt w B nn ib X) (h : X.foot ib b) : B ≤ b ∧ b < w.heap.size := by
  rcases h with rfl | h | h | ⟨i, s, h⟩
  · exact ⟨H.low, lt_of_heap H.blk⟩
  · rcases H.mp with ⟨h1, _⟩ | ⟨b', n, D, hm⟩
    · rw [h1] at h; cases h
    · have : b' = b := by have := hm.1; rw [h] at this; exact (Option.some.inj this).symm
      subst this
      obtain ⟨es, c, h2⟩ := hm.is_map
      exact ⟨hm.2.1, lt_of_heap h2⟩
  · obtain ⟨h1, cur, h2⟩ := H.multis.typ h
    exact ⟨h1, lt_of_heap h2⟩
  · obtain ⟨h1, cur, h2⟩ := (H.rows i s).typ h
    exact ⟨h1, lt_of_heap h2⟩

theorem IdxAt.at {w w' : World} {B nn ib : Nat} {X : Ix} (H : IdxAt w B nn ib X) (hk : ∀ b, X.foot ib b → w'.heap[b]? = w.heap[b]?) : IdxAt w' B nn ib X := by
  refine ⟨(hk ib (.inl rfl)).trans H.blk, H.low, ownsRow_of_heap H.multis fun b hb => hk b (.inr (.inr (.inl hb))), fun i s => ownsRow_of_heap (H.rows i s) fun b hb => hk b (.inr (.inr (.inr ⟨i, s, hb⟩))), ?_, H.apart, H.apartM⟩
  rcases H.mp with h | ⟨b, n, D, h1, h2, h3, h4, h5⟩
  · exact .inl h
  · exact .inr ⟨b, n, D, h1, h2, h3, ownsMap_at h4 (hk b (.inr (.inl h1))), h5⟩

theorem IdxAt.below {w w' : World} {B nn ib : Nat} {X : Ix} (H : IdxAt w B nn ib X) (hb : Below w.heap.size w w') : IdxAt w' B nn ib X := H.at fun b h => hb.block b (H.foot_lt h).2

theorem IdxAt.mono {w : World} {B nn mm ib : Nat} {X : Ix} (H : IdxAt w B nn ib X) (h : nn ≤ mm) : IdxAt w B mm ib X :=
  ⟨H.blk, H.low, H.multis, H.rows, H.mp.imp id fun ⟨b, n, D, h1, h2, h3, h4⟩ => ⟨b, n, D, h1, h2, by omega, h4⟩, H.apart, H.apartM⟩

/-- A block that is a row of pointers, the index itself, or a map, is no pattern's. -/
theorem keeps_but {w w' : World} {P : Nat → Prop} (hp : ∀ b, P b → (∃ cur t, w.heap[b]? = some (.cells cur t (0, 0)) ∧ t ≠ 82 ∧ t ≠ 100) ∨ ∃ es c, w.heap[b]? = some (.map es c))
    (hk : ∀ b, b < w.heap.size → ¬ P b → w'.heap[b]? = w.heap[b]?) : Keeps w w' := by
  intro b cs t fr hb ht
  refine hk b (lt_of_heap hb) fun h => ?_
  rcases hp b h with ⟨cur, t', h1, h2, h3⟩ | ⟨es, c, h1⟩
  · rw [h1] at hb
    simp only [Option.some.injEq, Obj.cells.injEq] at hb
    obtain ⟨_, rfl, _⟩ := hb
    rcases ht with ht | ht
    · exact h2 ht
    · exact h3 ht
  · rw [h1] at hb; cases hb

/-- Nothing yet. -/
def ix0 : Ix := ⟨none, .slice none 0 0, fun _ _ => .slice none 0 0, [], fun _ _ => []⟩
theorem idx0 (w : World) : IdxAt (w.alloc (.cells #[.map none, .slice none 0 0] 73)) w.heap.size 0 w.heap.size ix0 :=
  ⟨new0 w _, Nat.le_refl _, World.ownsRow_nil _ _ _ _, fun _ _ => World.ownsRow_nil _ _ _ _, .inl ⟨rfl, fun _ _ => rfl⟩, fun _ _ _ _ g h => absurd (show (none : Option Nat) = some g from h) (by simp), fun _ _ g h => absurd (show (none : Option Nat) = some g from h) (by simp)⟩

/-- One pattern more that ends in a wildcard for all that is left. -/
theorem IdxAt.addM {w w' : World} {B nn ib : Nat} {X : Ix} (H : IdxAt w B nn ib X) {x : Cl} {v : Value} (hblk : w'.heap[ib]? = some (.cells #[.map X.mo, v] 73 (0, 0)))
    (hrow : w'.ownsRow B 75 1 v (X.M.length + 1) (ptrsOf X.M ++ [ptrV x.a])) (hv : v.ownBlock = X.mv.ownBlock ∨ ∃ g, v.ownBlock = some g ∧ w.heap.size ≤ g)
    (hk : ∀ b, b < w.heap.size → ¬ (b = ib ∨ X.mv.ownBlock = some b) → w'.heap[b]? = w.heap[b]?) :
    IdxAt w' B nn ib { X with mv := v, M := X.M ++ [x] } ∧ Keeps w w' := by
  have hne : ∀ i s g, (X.sv i s).ownBlock = some g → g < w.heap.size ∧ ¬ (g = ib ∨ X.mv.ownBlock = some g) := by
    intro i s g hg
    obtain ⟨_, cur, h1⟩ := (H.rows i s).typ hg
    refine ⟨lt_of_heap h1, fun h => ?_⟩
    rcases h with rfl | h
    · rw [H.blk] at h1
      simp only [Option.some.injEq, Obj.cells.injEq] at h1
      exact absurd h1.2.1 (by decide)
    · exact H.apartM i s g hg h
  refine ⟨⟨hblk, H.low, Ptrs.snoc hrow, fun i s => ownsRow_of_heap (H.rows i s) fun b hb => hk b (hne i s b hb).1 (hne i s b hb).2, ?_, H.apart, fun i s g hg h => ?_⟩, ?_⟩
  · rcases H.mp with h | ⟨b, n, D, hm⟩
    · exact .inl h
    · obtain ⟨es, c, h0⟩ := hm.is_map
      obtain ⟨h1, h2, h3, h4, h5⟩ := hm
      refine .inr ⟨b, n, D, h1, h2, h3, ownsMap_at h4 (hk b (lt_of_heap h0) fun h => ?_), h5⟩
      rcases h with rfl | h
      · rw [H.blk] at h0; cases h0
      · obtain ⟨_, cur, h6⟩ := H.multis.typ h
        rw [h0] at h6; cases h6
  · rcases hv with e | ⟨g', e, hl⟩
    · exact H.apartM i s g hg (by rw [← e]; exact h)
    · have h1 : v.ownBlock = some g := h
      rw [e] at h1
      have := (hne i s g hg).1
      have := Option.some.inj h1
      omega
  · refine keeps_but (P := fun b => b = ib ∨ X.mv.ownBlock = some b) (fun b hb => ?_) hk
    rcases hb with rfl | hb
    · exact .inl ⟨_, _, H.blk, by decide, by decide⟩
    · obtain ⟨_, cur, h1⟩ := H.multis.typ hb
      exact .inl ⟨_, _, h1, by decide, by decide⟩

/-- The map is made. -/
theorem IdxAt.addMap {w w' : World} {B nn ib b : Nat} {X : Ix} (H : IdxAt w B nn ib X) (hno : X.mo = none) (hblk : w'.heap[ib]? = some (.cells #[.map (some b), X.mv] 73 (0, 0))) (hB : B ≤ b)
    (hmap : w'.ownsMap Tryd.prog 103 rawElem b 0 (.map [])) (hk : ∀ g, g < w.heap.size → g ≠ ib → w'.heap[g]? = w.heap[g]?) :
    IdxAt w' B nn ib { X with mo := some b } ∧ Keeps w w' := by
  have hsv : ∀ i s, X.sv i s = .slice none 0 0 := by
    rcases H.mp with h | ⟨b', n, D, hm⟩
    · exact h.2
    · have := hm.1; rw [hno] at this; cases this
  have hrib : ∀ v xs g, Ptrs w B v xs → v.ownBlock = some g → g < w.heap.size ∧ g ≠ ib := by
    intro v xs g h hg
    obtain ⟨_, cur, h1⟩ := h.typ hg
    refine ⟨lt_of_heap h1, fun e => ?_⟩
    subst e
    rw [H.blk] at h1
    simp only [Option.some.injEq, Obj.cells.injEq] at h1
    exact absurd h1.2.1 (by decide)
  refine ⟨⟨hblk, H.low, ownsRow_of_heap H.multis fun g hg => hk g (hrib _ _ g H.multis hg).1 (hrib _ _ g H.multis hg).2, fun i s => ownsRow_of_heap (H.rows i s) fun g hg => hk g (hrib _ _ g (H.rows i s) hg).1 (hrib _ _ g (H.rows i s) hg).2,
    .inr ⟨b, 0, .map [], rfl, hB, Nat.zero_le _, hmap, fun i s _ _ => ?_, fun kl h => by cases h⟩, H.apart, H.apartM⟩, ?_⟩
  · show DataW.held _ = DataW.held (X.sv i s)
    rw [hsv]
  · refine keeps_but (P := fun g => g = ib) (fun g hg => ?_) hk
    subst hg
    exact .inl ⟨_, _, H.blk, by decide, by decide⟩

/-- One pattern more under a key. -/
def Ix.put (X : Ix) (i : Nat) (s : List UInt8) (v : Value) (x : Cl) : Ix :=
  { X with sv := fun i' s' => if i' = i ∧ s' = s then v else X.sv i' s', G := fun i' s' => if i' = i ∧ s' = s then X.G i s ++ [x] else X.G i' s' }

theorem IdxAt.addG {w w' : World} {B nn ib b n i : Nat} {s : List UInt8} {X : Ix} {D : DataW Value} (H : IdxAt w B nn ib X) (hm : MapAt w B nn X b n D) (hi : i ≤ 1000) (hs : s.length ≤ 1000) {x : Cl} {v : Value}
    (hblk : w'.heap[ib]? = w.heap[ib]?) (hmap : w'.ownsMap Tryd.prog 103 rawElem b (n + 1) (D.put (keyL i s) (.held v)))
    (hrow : w'.ownsRow B 75 1 v ((X.G i s).length + 1) (ptrsOf (X.G i s) ++ [ptrV x.a])) (hv : v.ownBlock = (X.sv i s).ownBlock ∨ ∃ g, v.ownBlock = some g ∧ w.heap.size ≤ g)
    (hk : ∀ g, g < w.heap.size → ¬ (g = b ∨ (X.sv i s).ownBlock = some g) → w'.heap[g]? = w.heap[g]?) :
    IdxAt w' B (nn + 1) ib (X.put i s v x) ∧ Keeps w w' := by
  obtain ⟨es, c, h0⟩ := hm.is_map
  obtain ⟨h1, h2, h3, h4, h5, h6⟩ := hm
  have hnb : ∀ u xs g, Ptrs w B u xs → u.ownBlock = some g → g < w.heap.size ∧ g ≠ b := by
    intro u xs g h hg
    obtain ⟨_, cur, h7⟩ := h.typ hg
    refine ⟨lt_of_heap h7, fun e => ?_⟩
    subst e
    rw [h0] at h7; cases h7
  have hold : ∀ i' s', ¬ (i' = i ∧ s' = s) → Ptrs w' B (X.sv i' s') (X.G i' s') := fun i' s' hne =>
    ownsRow_of_heap (H.rows i' s') fun g hg => hk g (hnb _ _ g (H.rows i' s') hg).1 fun h => by
      rcases h with h | h
      · exact (hnb _ _ g (H.rows i' s') hg).2 h
      · exact hne (H.apart i' s' i s g hg h)
  have hnew : ∀ i' s' g, (X.sv i' s').ownBlock = some g → ¬ (i' = i ∧ s' = s) → v.ownBlock ≠ some g := by
    intro i' s' g hg hne e
    rcases hv with e2 | ⟨g', e2, hl⟩
    · exact hne (H.apart i' s' i s g hg (by rw [← e2]; exact e))
    · rw [e2] at e
      have := (hnb _ _ g (H.rows i' s') hg).1
      have := Option.some.inj e
      omega
  refine ⟨⟨by rw [hblk]; exact H.blk, H.low, ownsRow_of_heap H.multis fun g hg => hk g (hnb _ _ g H.multis hg).1 fun h => ?_, fun i' s' => ?_, .inr ⟨b, n + 1, _, h1, h2, by omega, hmap, fun i' s' hi' hs' => ?_, fun kl hkl => ?_⟩, ?_, ?_⟩, ?_⟩
  · rcases h with h | h
    · exact (hnb _ _ g H.multis hg).2 h
    · exact H.apartM i s g h hg
  · by_cases he : i' = i ∧ s' = s
    · obtain ⟨rfl, rfl⟩ := he
      show Ptrs w' B (if i' = i' ∧ s' = s' then v else X.sv i' s') (if i' = i' ∧ s' = s' then X.G i' s' ++ [x] else X.G i' s')
      rw [if_pos ⟨rfl, rfl⟩, if_pos ⟨rfl, rfl⟩]
      exact Ptrs.snoc hrow
    · show Ptrs w' B (if i' = i ∧ s' = s then v else X.sv i' s') (if i' = i ∧ s' = s then X.G i s ++ [x] else X.G i' s')
      rw [if_neg he, if_neg he]
      exact hold i' s' he
  · show _ = DataW.held (if i' = i ∧ s' = s then v else X.sv i' s')
    by_cases he : i' = i ∧ s' = s
    · obtain ⟨rfl, rfl⟩ := he
      rw [if_pos ⟨rfl, rfl⟩, Maps.atKey_put_same (h4.tidy (Maps.Keyed.of_law key_law)).isMap (keyL_key _ _)]
    · rw [if_neg he, Maps.atKey_put_other (fun e => he (keyL_inj hi' hi hs' hs e))]
      exact h5 i' s' hi' hs'
  · by_cases he : kl = keyL i s
    · exact ⟨i, s, hi, hs, he⟩
    · rw [Maps.has_put_other he] at hkl
      exact h6 kl hkl
  · intro i1 s1 i2 s2 g hg1 hg2
    have hg1' : (if i1 = i ∧ s1 = s then v else X.sv i1 s1).ownBlock = some g := hg1
    have hg2' : (if i2 = i ∧ s2 = s then v else X.sv i2 s2).ownBlock = some g := hg2
    by_cases e1 : i1 = i ∧ s1 = s
    · by_cases e2 : i2 = i ∧ s2 = s
      · exact ⟨e1.1.trans e2.1.symm, e1.2.trans e2.2.symm⟩
      · rw [if_pos e1] at hg1'
        rw [if_neg e2] at hg2'
        exact absurd hg1' (hnew i2 s2 g hg2' e2)
    · by_cases e2 : i2 = i ∧ s2 = s
      · rw [if_neg e1] at hg1'
        rw [if_pos e2] at hg2'
        exact absurd hg2' (hnew i1 s1 g hg1' e1)
      · rw [if_neg e1] at hg1'
        rw [if_neg e2] at hg2'
        exact H.apart i1 s1 i2 s2 g hg1' hg2'
  · intro i' s' g hg h
    have hg' : (if i' = i ∧ s' = s then v else X.sv i' s').ownBlock = some g := hg
    by_cases e1 : i' = i ∧ s' = s
    · rw [if_pos e1] at hg'
      rcases hv with e2 | ⟨g', e2, hl⟩
      · rw [e2] at hg'
        exact H.apartM i s g hg' h
      · rw [e2] at hg'
        have := (hnb _ _ g H.multis h).1
        have := Option.some.inj hg'
        omega
    · rw [if_neg e1] at hg'
      exact H.apartM i' s' g hg' h
  · refine keeps_but (P := fun g => g = b ∨ (X.sv i s).ownBlock = some g) (fun g hg => ?_) hk
    rcases hg with rfl | hg
    · exact .inr ⟨es, c, h0⟩
    · obtain ⟨_, cur, h7⟩ := (H.rows i s).typ hg
      exact .inl ⟨_, _, h7, by decide, by decide⟩
end Go.Proofs.YtgkhfcoieknjeaaDoor
