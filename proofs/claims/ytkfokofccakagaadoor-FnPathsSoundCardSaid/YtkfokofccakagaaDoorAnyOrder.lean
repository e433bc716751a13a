/-
  Proved: a law for a region whose order is open, by an invariant: whatever may come up next keeps the invariant; when all have come up the post holds. No conditions but those it states.
-/
import Derived.Orders
import Derived.WalkKit
namespace Go.Proofs.YtkfokofccakagaaDoor
open Go

section
variable {P : Program} {md : Region.Mode} {ops : Array Oper} {Q : Exit → Act → World → Prop}

/-- Each operation waits for earlier ones alone. -/
def EarlierB (md : Region.Mode) (ops : Array Oper) : Bool := (List.range ops.size).all fun j => match ops[j]? with
  | some o => o.after.all fun e => !Region.binds md e || decide (e.on < j)
  | none => true

theorem all_listed (he : EarlierB md ops = true) (l : Array Bool) (hs : l.size = ops.size) (hr : Region.ready md ops l = []) : ∀ j, l.getD j true = true := by
  have key : ∀ n j, j < n → l.getD j true = true := by
    intro n
    induction n with
    | zero => intro j hj; omega
    | succ n ih =>
      intro j hj
      apply Classical.byContradiction
      intro hne
      have hf : l.getD j true = false := by simpa using hne
      have hjs : j < ops.size := by
        apply Decidable.byContradiction
        intro h
        rw [Array.getD_eq_getD_getElem?, Array.getElem?_eq_none (by omega)] at hf
        cases hf
      obtain ⟨o, ho⟩ : ∃ o, ops[j]? = some o := ⟨_, Array.getElem?_eq_getElem hjs⟩
      have hm : j ∈ Region.ready md ops l := by
        refine mem_ready.2 ⟨hf, o, ho, fun e hemem hbind => ?_⟩
        have h1 := List.all_eq_true.1 he j (List.mem_range.2 hjs)
        simp only [ho] at h1
        have h2 : e.on < j := by
          have := Array.all_eq_true'.1 h1 e hemem
          simpa [hbind] using this
        have h3 := ih e.on (by omega)
        rw [Array.getD_eq_getD_getElem?, Array.getElem?_eq_getElem (by omega)] at h3 ⊢
        exact h3
      rw [hr] at hm
      cases hm
  exact fun j => key (j + 1) j (by omega)

/-- All that an operation waits for have come up. -/
def depB (md : Region.Mode) (ops : Array Oper) (l : Array Bool) (i : Nat) : Bool := match ops[i]? with
  | some o => o.after.toList.all fun e => !Region.binds md e || l.getD e.on false
  | none => true

theorem depB_of {l : Array Bool} {i : Nat} {o : Oper} (ho : ops[i]? = some o) (hd : ∀ e ∈ o.after, Region.binds md e = true → l.getD e.on false = true) : depB md ops l i = true := by
  unfold depB
  rw [ho]
  refine List.all_eq_true.2 fun e he => ?_
  cases hb : Region.binds md e
  · rfl
  · have := hd e (by simpa using he) hb
    rw [this]; rfl

theorem wpAny_inv (Inv : Array Bool → Act → World → Prop) (he : EarlierB md ops = true)
    (hsz : ∀ l a w, Inv l a w → l.size = ops.size)
    (hstep : ∀ l a w i (K : Act → World → Prop), Inv l a w → i < ops.size → l.getD i true = false → depB md ops l i = true → (∀ a' w', Inv (l.setIfInBounds i true) a' w' → K a' w') → wpOp P ops Q i K a w)
    (hdone : ∀ l a w, Inv l a w → (∀ j, l.getD j true = true) → Q .normal a w) :
    ∀ n l a w, Inv l a w → l.toList.countP (fun b => !b) ≤ n → wpAny P md ops Q n l a w := by
  intro n
  induction n with
  | zero =>
    intro l a w hI hc
    have hr : Region.ready md ops l = [] := by
      cases h : Region.ready md ops l with
      | nil => rfl
      | cons j r =>
        exfalso
        have hj : j ∈ Region.ready md ops l := by rw [h]; exact List.mem_cons_self
        have hf := (mem_ready.1 hj).1
        have hjl : j < l.size := by
          apply Decidable.byContradiction
          intro hn
          rw [Array.getD_eq_getD_getElem?, Array.getElem?_eq_none (by omega)] at hf
          cases hf
        rw [Array.getD_eq_getD_getElem?, Array.getElem?_eq_getElem hjl] at hf
        have hz : l.toList.countP (fun b => !b) = 0 := by omega
        rw [List.countP_eq_zero] at hz
        have := hz l[j] (by simp)
        simp at hf
        simp [hf] at this
    exact ⟨hr, hdone l a w hI (all_listed he l (hsz l a w hI) hr)⟩
  | succ n ih =>
    intro l a w hI hc
    refine ⟨fun hr => hdone l a w hI (all_listed he l (hsz l a w hI) hr), fun i hi => ?_⟩
    obtain ⟨hf, o, ho, hd⟩ := mem_ready.1 hi
    refine hstep l a w i _ hI (Array.getElem?_eq_some_iff.1 ho).1 hf (depB_of ho hd) fun a' w' hI' => ih _ a' w' hI' ?_
    have hil : i < l.size := by
      apply Decidable.byContradiction
      intro hn
      rw [Array.getD_eq_getD_getElem?, Array.getElem?_eq_none (by omega)] at hf
      cases hf
    rw [Array.getD_eq_getD_getElem?, Array.getElem?_eq_getElem hil] at hf
    simp only [Option.getD_some] at hf
    rw [Array.toList_setIfInBounds, List.countP_set (by simpa using hil)]
    have hpos : 0 < l.toList.countP (fun b => !b) := List.countP_pos_iff.2 ⟨l[i], by simp, by simp [hf]⟩
    rw [if_pos (by simp [hf]), if_neg (by simp)]
    omega

/-- The beginning: a region that asks the tape. -/
theorem wp_region_inv {id : Nat} {a : Act} {w : World} (hm : P.follows .mixedOrders = true) (Inv : Array Bool → Act → World → Prop) (he : EarlierB .any ops = true)
    (hsz : ∀ l a w, Inv l a w → l.size = ops.size)
    (hstep : ∀ l a w i (K : Act → World → Prop), Inv l a w → i < ops.size → l.getD i true = false → depB .any ops l i = true → (∀ a' w', Inv (l.setIfInBounds i true) a' w' → K a' w') → wpOp P ops Q i K a w)
    (hdone : ∀ l a w, Inv l a w → (∀ j, l.getD j true = true) → Q .normal a w)
    (h0 : Inv (Array.replicate ops.size false) a w.drew) : (Code.region id ops true).wp P Q a w := by
  refine wp_region_any hm (wpAny_inv Inv he hsz hstep hdone _ _ _ _ h0 ?_)
  refine Nat.le_trans List.countP_le_length ?_
  simp
end
end Go.Proofs.YtkfokofccakagaaDoor
