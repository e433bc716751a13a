/-
  Proved: a law for a region whose order is open, by an invariant: whatever may come up next keeps the invariant; when all have come up the post holds. No conditions but those it states.
  Proved, in words on memory: what holds between the operations of laws.two's first statement, whatever their order, and that each of them keeps it.
-/
import Derived.Orders
import Derived.WalkKit
import Derived.Test.YtkfokofccakagaaDoorSpecPaths
namespace Go.Proofs.YtkfokofccakagaaDoor
open Go

section
variable {P : Program} {md : Region.Mode} {ops : Array Oper} {Q : Exit → Act → World → Prop}

/-- Each operation waits for earlier ones alone. -/
def EarlierB (md : Region.Mode) (ops : Array Oper) : Bool := (List.range ops.size).all fun j => match ops[j]? with
  | some o => o.after.all fun e => !Region.binds md e || decide (e.on < j)
  | none => true

theorem all_listed (he : EarlierB md ops = true) (l : Array Bool) (hs : l.size = ops.size) (hr : Region.ready md ops l = []) : ∀ j, l.getD j true = true := by
  have key : ∀ n j, j < n → l.getD j true = true := by
    intro n
    induction n with
    | zero => intro j hj; omega
    | succ n ih =>
      intro j hj
      apply Classical.byContradiction
      intro hne
      have hf : l.getD j true = false := by simpa using hne
      have hjs : j < ops.size := by
        apply Decidable.byContradiction
        intro h
        rw [Array.getD_eq_getD_getElem?, Array.getElem?_eq_none (by omega)] at hf
        cases hf
      obtain ⟨o, ho⟩ : ∃ o, ops[j]? = some o := ⟨_, Array.getElem?_eq_getElem hjs⟩
      have hm : j ∈ Region.ready md ops l := by
        refine mem_ready.2 ⟨hf, o, ho, fun e hemem hbind => ?_⟩
        have h1 := List.all_eq_true.1 he j (List.mem_range.2 hjs)
        simp only [ho] at h1
        have h2 : e.on < j := by
          have := Array.all_eq_true'.1 h1 e hemem
          simpa [hbind] using this
        have h3 := ih e.on (by omega)
        rw [Array.getD_eq_getD_getElem?, Array.getElem?_eq_getElem (by omega)] at h3 ⊢
        exact h3
      rw [hr] at hm
      cases hm
  exact fun j => key (j + 1) j (by omega)

/-- All that an operation waits for have come up. -/
def depB (md : Region.Mode) (ops : Array Oper) (l : Array Bool) (i : Nat) : Bool := match ops[i]? with
  | some o => o.after.toList.all fun e => !Region.binds md e || l.getD e.on false
  | none => true

theorem depB_of {l : Array Bool} {i : Nat} {o : Oper} (ho : ops[i]? = some o) (hd : ∀ e ∈ o.after, Region.binds md e = true → l.getD e.on false = true) : depB md ops l i = true := by
  unfold depB
  rw [ho]
  refine List.all_eq_true.2 fun e he => ?_
  cases hb : Region.binds md e
  · rfl
  · have := hd e (by simpa using he) hb
    rw [this]; rfl

theorem wpAny_inv (Inv : Array Bool → Act → World → Prop) (he : EarlierB md ops = true)
    (hsz : ∀ l a w, Inv l a w → l.size = ops.size)
    (hstep : ∀ l a w i (K : Act → World → Prop), Inv l a w → i < ops.size → l.getD i true = false → depB md ops l i = true → (∀ a' w', Inv (l.setIfInBounds i true) a' w' → K a' w') → wpOp P ops Q i K a w)
    (hdone : ∀ l a w, Inv l a w → (∀ j, l.getD j true = true) → Q .normal a w) :
    ∀ n l a w, Inv l a w → l.toList.countP (fun b => !b) ≤ n → wpAny P md ops Q n l a w := by
  intro n
  induction n with
  | zero =>
    intro l a w hI hc
    have hr : Region.ready md ops l = [] := by
      cases h : Region.ready md ops l with
      | nil => rfl
      | cons j r =>
        exfalso
        have hj : j ∈ Region.ready md ops l := by rw [h]; exact List.mem_cons_self
        have hf := (mem_ready.1 hj).1
        have hjl : j < l.size := by
          apply Decidable.byContradiction
          intro hn
          rw [Array.getD_eq_getD_getElem?, Array.getElem?_eq_none (by omega)] at hf
          cases hf
        rw [Array.getD_eq_getD_getElem?, Array.getElem?_eq_getElem hjl] at hf
        have hz : l.toList.countP (fun b => !b) = 0 := by omega
        rw [List.countP_eq_zero] at hz
        have := hz l[j] (by simp)
        simp at hf
        simp [hf] at this
    exact ⟨hr, hdone l a w hI (all_listed he l (hsz l a w hI) hr)⟩
  | succ n ih =>
    intro l a w hI hc
    refine ⟨fun hr => hdone l a w hI (all_listed he l (hsz l a w hI) hr), fun i hi => ?_⟩
    obtain ⟨hf, o, ho, hd⟩ := mem_ready.1 hi
    refine hstep l a w i _ hI (Array.getElem?_eq_some_iff.1 ho).1 hf (depB_of ho hd) fun a' w' hI' => ih _ a' w' hI' ?_
    have hil : i < l.size := by
      apply Decidable.byContradiction
      intro hn
      rw [Array.getD_eq_getD_getElem?, Array.getElem?_eq_none (by omega)] at hf
      cases hf
    rw [Array.getD_eq_getD_getElem?, Array.getElem?_eq_getElem hil] at hf
    simp only [Option.getD_some] at hf
    rw [Array.toList_setIfInBounds, List.countP_set (by simpa using hil)]
    have hpos : 0 < l.toList.countP (fun b => !b) := List.countP_pos_iff.2 ⟨l[i], by simp, by simp [hf]⟩
    rw [if_pos (by simp [hf]), if_neg (by simp)]
    omega

/-- The beginning: a region that asks the tape. -/
theorem wp_region_inv {id : Nat} {a : Act} {w : World} (hm : P.follows .mixedOrders = true) (Inv : Array Bool → Act → World → Prop) (he : EarlierB .any ops = true)
    (hsz : ∀ l a w, Inv l a w → l.size = ops.size)
    (hstep : ∀ l a w i (K : Act → World → Prop), Inv l a w → i < ops.size → l.getD i true = false → depB .any ops l i = true → (∀ a' w', Inv (l.setIfInBounds i true) a' w' → K a' w') → wpOp P ops Q i K a w)
    (hdone : ∀ l a w, Inv l a w → (∀ j, l.getD j true = true) → Q .normal a w)
    (h0 : Inv (Array.replicate ops.size false) a w.drew) : (Code.region id ops true).wp P Q a w := by
  refine wp_region_any hm (wpAny_inv Inv he hsz hstep hdone _ _ _ _ h0 ?_)
  refine Nat.le_trans List.countP_le_length ?_
  simp
end
end Go.Proofs.YtkfokofccakagaaDoor

namespace Go.Proofs.YtkfokofccakagaaDoor
open Go.RowKit

/-- A slot that is written, or not yet. -/
def slotV (f : Bool) (v : Value) : Value := if f then v else undef
theorem slotV_true (v : Value) : slotV true v = v := rfl

def slotU (f : Bool) (v u : Value) : Value := if f then v else u
theorem slotU_true (v u : Value) : slotU true v u = v := rfl

/-- A row of pieces, and where it lies. -/
def RowOK (B : Nat) (w : World) (X : Option Addr) (xc : Nat) (l : List Seg) : Prop := SegsAt w (.slice X l.length xc) l ∧ (X = none ∨ ∃ g, X = some ⟨g, 0, none⟩ ∧ B ≤ g ∧ g < w.heap.size)
def Off (X : Option Addr) (p : Nat) : Prop := ∀ g, X = some ⟨g, 0, none⟩ → g ≠ p
def zeroPat : Array Value := #[.string ⟨#[]⟩, .string ⟨#[]⟩, .slice none 0 0]
def patCells (f : Bool) (m h : ByteArray) (X : Option Addr) (n xc : Nat) : Array Value := if f then #[.string m, .string h, .slice X n xc] else zeroPat

/-- One of the two: its row (f1), its variable (f4), stored (f6). -/
structure Lane (W0 w : World) (m h : ByteArray) (l : List Seg) (f1 f4 f6 : Bool) (X : Option Addr) (xc p : Nat) : Prop where
  row : f1 = true → RowOK W0.heap.size w X xc l
  blk : f4 = true → W0.heap.size ≤ p ∧ w.heap[p]? = some (.cells (patCells f6 m h X l.length xc) 28 (0, 0))
  off : f1 = true → f4 = true → Off X p
  dep : f6 = true → f1 = true ∧ f4 = true

structure Lanes (W0 w : World) (m1 h1 m2 h2 : ByteArray) (l1 l2 : List Seg) (f1 f4 f6 f3 f5 f7 : Bool) (X : Option Addr) (xc p : Nat) (Y : Option Addr) (yc q : Nat) : Prop where
  one : Lane W0 w m1 h1 l1 f1 f4 f6 X xc p
  two : Lane W0 w m2 h2 l2 f3 f5 f7 Y yc q
  ne : f4 = true → f5 = true → p ≠ q
  off1 : f1 = true → f5 = true → Off X q
  off2 : f3 = true → f4 = true → Off Y p
  bel : Below W0.heap.size W0 w

theorem Lanes.swap {W0 w : World} {m1 h1 m2 h2 : ByteArray} {l1 l2 : List Seg} {f1 f4 f6 f3 f5 f7 : Bool} {X Y : Option Addr} {xc p yc q : Nat} (H : Lanes W0 w m1 h1 m2 h2 l1 l2 f1 f4 f6 f3 f5 f7 X xc p Y yc q) :
    Lanes W0 w m2 h2 m1 h1 l2 l1 f3 f5 f7 f1 f4 f6 Y yc q X xc p :=
  ⟨H.two, H.one, fun a b e => H.ne b a e.symm, H.off2, H.off1, H.bel⟩

theorem RowOK.keep {B : Nat} {w w' : World} {X : Option Addr} {xc : Nat} {l : List Seg} (H : RowOK B w X xc l) (hb : Below w.heap.size w w') : RowOK B w' X xc l :=
  ⟨H.1.keep hb, H.2.elim .inl fun ⟨g, e, h0, hg⟩ => .inr ⟨g, e, h0, Nat.lt_of_lt_of_le hg hb.size⟩⟩

theorem RowOK.mono {B B' : Nat} {w : World} {X : Option Addr} {xc : Nat} {l : List Seg} (H : RowOK B w X xc l) (h : B' ≤ B) : RowOK B' w X xc l :=
  ⟨H.1, H.2.elim .inl fun ⟨g, e, h0, hg⟩ => .inr ⟨g, e, Nat.le_trans h h0, hg⟩⟩

theorem Lane.keep {W0 w w' : World} {m h : ByteArray} {l : List Seg} {f1 f4 f6 : Bool} {X : Option Addr} {xc p : Nat} (H : Lane W0 w m h l f1 f4 f6 X xc p) (hb : Below w.heap.size w w') : Lane W0 w' m h l f1 f4 f6 X xc p :=
  ⟨fun a => (H.row a).keep hb, fun a => ⟨(H.blk a).1, blk_below (H.blk a).2 hb⟩, H.off, H.dep⟩

section
variable {W0 w w' : World} {m1 h1 m2 h2 : ByteArray} {l1 l2 : List Seg} {f1 f4 f6 f3 f5 f7 : Bool} {X Y : Option Addr} {xc p yc q : Nat}

theorem Lanes.keep (H : Lanes W0 w m1 h1 m2 h2 l1 l2 f1 f4 f6 f3 f5 f7 X xc p Y yc q) (hb : Below w.heap.size w w') : Lanes W0 w' m1 h1 m2 h2 l1 l2 f1 f4 f6 f3 f5 f7 X xc p Y yc q :=
  ⟨H.one.keep hb, H.two.keep hb, H.ne, H.off1, H.off2, H.bel.trans (hb.mono H.bel.size)⟩

theorem own_row {B : Nat} {e : TypeId} {v : Value} {l : List Seg} (h : w.ownsRow B e 3 v l.length (segCells l)) : ∃ X xc, v = .slice X l.length xc ∧ RowOK B w X xc l ∧ ∀ g, X = some ⟨g, 0, none⟩ → B ≤ g := by
  have hs := SegsAt.of_own h
  rcases h.2 with ⟨rfl, hx⟩ | ⟨g, cap, cur, rfl, hb, hg, _⟩
  · obtain ⟨A, cap, e, _⟩ := id hs
    simp only [Value.slice.injEq] at e
    obtain ⟨rfl, hl, rfl⟩ := e
    rw [← hl]
    refine ⟨none, 0, rfl, ⟨?_, .inl rfl⟩, fun g hg => by cases hg⟩
    rw [← hl]
    exact hs
  · exact ⟨some ⟨g, 0, none⟩, cap, rfl, ⟨hs, .inr ⟨g, rfl, hb, (Array.getElem?_eq_some_iff.1 hg).1⟩⟩, fun g' e => by simp only [Option.some.injEq, Addr.mk.injEq, and_true] at e; omega⟩

/-- The first copy is made. -/
theorem Lanes.copied {X' : Option Addr} {xc' : Nat} (H : Lanes W0 w m1 h1 m2 h2 l1 l2 false f4 f6 f3 f5 f7 X xc p Y yc q) (hb : Below w.heap.size w w') (hr : RowOK W0.heap.size w' X' xc' l1) (hx : ∀ g, X' = some ⟨g, 0, none⟩ → w.heap.size ≤ g) :
    Lanes W0 w' m1 h1 m2 h2 l1 l2 true f4 f6 f3 f5 f7 X' xc' p Y yc q := by
  have H' := H.keep hb
  have h6 : f6 = false := by
    cases f6
    · rfl
    · exact absurd (H.one.dep rfl).1 (by simp)
  subst h6
  refine ⟨⟨fun _ => hr, fun a => H'.one.blk a, fun _ a g e => ?_, fun a => by cases a⟩, H'.two, H'.ne, fun _ a g e => ?_, H'.off2, H'.bel⟩
  · have h1 := blk_lt (H.one.blk a).2
    have h2 := hx g e
    omega
  · have h1 := blk_lt (H.two.blk a).2
    have h2 := hx g e
    omega

/-- The first variable is made. -/
theorem Lanes.made (H : Lanes W0 w m1 h1 m2 h2 l1 l2 f1 false f6 f3 f5 f7 X xc p Y yc q) :
    Lanes W0 (w.alloc (.cells zeroPat 28 (0, 0))) m1 h1 m2 h2 l1 l2 f1 true f6 f3 f5 f7 X xc w.heap.size Y yc q := by
  have h6 : f6 = false := by
    cases f6
    · rfl
    · exact absurd (H.one.dep rfl).2 (by simp)
  subst h6
  have H' := H.keep ((Below.refl w.heap.size w).alloc (Nat.le_refl _) (.cells zeroPat 28 (0, 0)))
  refine ⟨⟨H'.one.row, fun _ => ⟨H.bel.size, new0 w _⟩, fun a _ g e => ?_, fun a => by cases a⟩, H'.two, fun _ a e => ?_, H'.off1, fun a _ g e => ?_, H'.bel⟩
  · rcases (H.one.row a).2 with h | ⟨g', h, _, hg⟩
    · rw [h] at e; cases e
    · rw [h] at e; simp only [Option.some.injEq, Addr.mk.injEq, and_true] at e; omega
  · have h1 := blk_lt (H.two.blk a).2
    omega
  · rcases (H.two.row a).2 with h | ⟨g', h, _, hg⟩
    · rw [h] at e; cases e
    · rw [h] at e; simp only [Option.some.injEq, Addr.mk.injEq, and_true] at e; omega

theorem SegsAt.set {B : Nat} {l : List Seg} (H : RowOK B w X xc l) (ho : Off X p) (i : Nat) (u : Value) : RowOK B (w.setCell ⟨p, i, none⟩ u) X xc l := by
  refine ⟨?_, H.2.elim .inl fun ⟨g, e, h0, hg⟩ => .inr ⟨g, e, h0, by simpa using hg⟩⟩
  obtain ⟨A, cap, hv, hc, hf⟩ := H.1
  refine ⟨A, cap, hv, hc, fun j g hj => ?_⟩
  obtain ⟨b, o, hA, hlt, h1, h2, h3⟩ := hf j g hj
  have hX : X = A := by simp only [Value.slice.injEq] at hv; exact hv.1
  have hb : b ≠ p := by
    rcases H.2 with h | ⟨g', h, _, _⟩
    · rw [hX, hA] at h; cases h
    · have e := h
      rw [hX, hA] at e
      simp only [Option.some.injEq, Addr.mk.injEq, and_true] at e
      rw [e.1]
      exact ho g' h
  have far : ∀ k, (w.setCell ⟨p, i, none⟩ u).cell? ⟨b, k, none⟩ = w.cell? ⟨b, k, none⟩ := fun k => World.cell?_setCell_far w ⟨p, i, none⟩ ⟨b, k, none⟩ u (fun e => hb e.symm)
  exact ⟨b, o, hA, by simpa using hlt, (far _).trans h1, (far _).trans h2, (far _).trans h3⟩

/-- The first is stored. -/
theorem Lanes.stored (H : Lanes W0 w m1 h1 m2 h2 l1 l2 true true false f3 f5 f7 X xc p Y yc q) :
    Lanes W0 (((w.setCell ⟨p, 0, none⟩ (.string m1)).setCell ⟨p, 1, none⟩ (.string h1)).setCell ⟨p, 2, none⟩ (.slice X l1.length xc)) m1 h1 m2 h2 l1 l2 true true true f3 f5 f7 X xc p Y yc q := by
  obtain ⟨hp, hb⟩ := H.one.blk rfl
  have ho := H.one.off rfl rfl
  refine ⟨⟨fun _ => ((SegsAt.set ((SegsAt.set (SegsAt.set (H.one.row rfl) ho 0 _) ho 1 _)) ho 2 _)), fun _ => ⟨hp, ?_⟩, fun _ _ => ho, fun _ => ⟨rfl, rfl⟩⟩, ⟨fun a => ?_, fun a => ⟨(H.two.blk a).1, ?_⟩, H.two.off, H.two.dep⟩, H.ne, H.off1, H.off2, ?_⟩
  · have h := blk_set (blk_set (blk_set hb 0 (.string m1)) 1 (.string h1)) 2 (.slice X l1.length xc)
    exact h
  · have o2 := H.off2 a rfl
    exact SegsAt.set (SegsAt.set (SegsAt.set (H.two.row a) o2 0 _) o2 1 _) o2 2 _
  · have hn := H.ne rfl a
    exact blk_far (blk_far (blk_far (H.two.blk a).2 (fun e => hn e.symm) _) (fun e => hn e.symm) _) (fun e => hn e.symm) _
  · exact ((H.bel.setCell hp _).setCell hp _).setCell hp _

/-- What holds between the operations of the second statement: the two variables p and q are read, the results' cells r1 and r2 (f8, f9: stored). -/
structure Half (w : World) (m1 h1 m2 h2 : ByteArray) (l1 l2 : List Seg) (W0 : World) (X : Option Addr) (xc p : Nat) (Y : Option Addr) (yc q r1 r2 : Nat) (f8 f9 : Bool) (w' : World) : Prop where
  bel : Below w.heap.size w w'
  hp : w'.heap[p]? = some (.cells #[.string m1, .string h1, .slice X l1.length xc] 28 (0, 0))
  hq : w'.heap[q]? = some (.cells #[.string m2, .string h2, .slice Y l2.length yc] 28 (0, 0))
  c1 : w'.heap[r1]? = some (.cells (patCells f8 m1 h1 X l1.length xc) 28 (0, 0))
  c2 : w'.heap[r2]? = some (.cells (patCells f9 m2 h2 Y l2.length yc) 28 (0, 0))
  rowX : RowOK W0.heap.size w' X xc l1
  rowY : RowOK W0.heap.size w' Y yc l2
  lt : r1 < W0.heap.size ∧ r2 < W0.heap.size ∧ w.heap.size ≤ r1 ∧ w.heap.size ≤ r2 ∧ r1 ≠ r2 ∧ W0.heap.size ≤ p ∧ W0.heap.size ≤ q

theorem Half.keep {r1 r2 : Nat} {f8 f9 : Bool} {v : World} (H : Half w m1 h1 m2 h2 l1 l2 W0 X xc p Y yc q r1 r2 f8 f9 v) (hb : Below v.heap.size v w') : Half w m1 h1 m2 h2 l1 l2 W0 X xc p Y yc q r1 r2 f8 f9 w' :=
  ⟨H.bel.trans (hb.mono H.bel.size), blk_below H.hp hb, blk_below H.hq hb, blk_below H.c1 hb, blk_below H.c2 hb, H.rowX.keep hb, H.rowY.keep hb, H.lt⟩

theorem off_of {B r : Nat} {l : List Seg} (H : RowOK B w X xc l) (h : r < B) : Off X r := by
  intro g e
  rcases H.2 with h' | ⟨g', e', h0, _⟩
  · rw [h'] at e; cases e
  · rw [e'] at e
    simp only [Option.some.injEq, Addr.mk.injEq, and_true] at e
    omega

theorem Half.store1 {r1 r2 : Nat} {f9 : Bool} {v : World} (H : Half w m1 h1 m2 h2 l1 l2 W0 X xc p Y yc q r1 r2 false f9 v) :
    Half w m1 h1 m2 h2 l1 l2 W0 X xc p Y yc q r1 r2 true f9 (((v.setCell ⟨r1, 0, none⟩ (.string m1)).setCell ⟨r1, 1, none⟩ (.string h1)).setCell ⟨r1, 2, none⟩ (.slice X l1.length xc)) := by
  obtain ⟨a, b, c, d, e, f, g⟩ := H.lt
  have o1 := off_of H.rowX a
  have o2 := off_of H.rowY a
  refine ⟨((H.bel.setCell c _).setCell c _).setCell c _, ?_, ?_, ?_, ?_, ?_, ?_, H.lt⟩
  · exact blk_far (blk_far (blk_far H.hp (by simp; omega) _) (by simp; omega) _) (by simp; omega) _
  · exact blk_far (blk_far (blk_far H.hq (by simp; omega) _) (by simp; omega) _) (by simp; omega) _
  · have h := blk_set (blk_set (blk_set H.c1 0 (.string m1)) 1 (.string h1)) 2 (.slice X l1.length xc)
    exact h
  · exact blk_far (blk_far (blk_far H.c2 (by simp; omega) _) (by simp; omega) _) (by simp; omega) _
  · exact SegsAt.set (SegsAt.set (SegsAt.set H.rowX o1 0 _) o1 1 _) o1 2 _
  · exact SegsAt.set (SegsAt.set (SegsAt.set H.rowY o2 0 _) o2 1 _) o2 2 _

theorem Half.store2 {r1 r2 : Nat} {f8 : Bool} {v : World} (H : Half w m1 h1 m2 h2 l1 l2 W0 X xc p Y yc q r1 r2 f8 false v) :
    Half w m1 h1 m2 h2 l1 l2 W0 X xc p Y yc q r1 r2 f8 true (((v.setCell ⟨r2, 0, none⟩ (.string m2)).setCell ⟨r2, 1, none⟩ (.string h2)).setCell ⟨r2, 2, none⟩ (.slice Y l2.length yc)) := by
  obtain ⟨a, b, c, d, e, f, g⟩ := H.lt
  have o1 := off_of H.rowX b
  have o2 := off_of H.rowY b
  refine ⟨((H.bel.setCell d _).setCell d _).setCell d _, ?_, ?_, ?_, ?_, ?_, ?_, H.lt⟩
  · exact blk_far (blk_far (blk_far H.hp (by simp; omega) _) (by simp; omega) _) (by simp; omega) _
  · exact blk_far (blk_far (blk_far H.hq (by simp; omega) _) (by simp; omega) _) (by simp; omega) _
  · exact blk_far (blk_far (blk_far H.c1 (by simp; omega) _) (by simp; omega) _) (by simp; omega) _
  · have h := blk_set (blk_set (blk_set H.c2 0 (.string m2)) 1 (.string h2)) 2 (.slice Y l2.length yc)
    exact h
  · exact SegsAt.set (SegsAt.set (SegsAt.set H.rowX o1 0 _) o1 1 _) o1 2 _
  · exact SegsAt.set (SegsAt.set (SegsAt.set H.rowY o2 0 _) o2 1 _) o2 2 _
end
end Go.Proofs.YtkfokofccakagaaDoor
