/-
  Proved: what spec.Relation, spec.Inverse, spec.Combine, inverseRelationship, combineRelationships and their thin callers return at the five relationships. Conditions: the texts are relationships (of Relation: every text).
-/
import Derived.Test.YtkfokofccakagaaDoorRows
import Derived.WalkKit
import Derived.WalkSpells
import Derived.WalkLawsBesides
namespace Go.Proofs.YtkfokofccakagaaDoor
open Go.RowKit

/-- The relationships. -/
inductive Rel where
  | eqv
  | gen
  | spc
  | dis
  | ovl

namespace Rel
/-- The text of a relationship. -/
def text : Rel → ByteArray
  | eqv => ⟨#[101, 113, 117, 105, 118, 97, 108, 101, 110, 116]⟩
  | gen => ⟨#[109, 111, 114, 101, 71, 101, 110, 101, 114, 97, 108]⟩
  | spc => ⟨#[109, 111, 114, 101, 83, 112, 101, 99, 105, 102, 105, 99]⟩
  | dis => ⟨#[100, 105, 115, 106, 111, 105, 110, 116]⟩
  | ovl => ⟨#[111, 118, 101, 114, 108, 97, 112, 115]⟩

def inv : Rel → Rel
  | eqv => eqv
  | gen => spc
  | spc => gen
  | dis => dis
  | ovl => ovl

def comb : Rel → Rel → Rel
  | dis, _ => dis
  | _, dis => dis
  | eqv, b => b
  | a, eqv => a
  | gen, gen => gen
  | spc, spc => spc
  | _, _ => ovl

theorem comb_comm (a b : Rel) : a.comb b = b.comb a := by cases a <;> cases b <;> rfl
theorem comb_assoc (a b c : Rel) : (a.comb b).comb c = a.comb (b.comb c) := by cases a <;> cases b <;> cases c <;> rfl
theorem text_size (a : Rel) : a.text.size ≤ 12 := by cases a <;> decide
end Rel

theorem of_toList {s : ByteArray} {l : List UInt8} (h : s.toList = l) : s = ⟨l.toArray⟩ := by
  rw [ByteArray.toList_eq] at h
  subst h
  cases s
  simp

/-- A text is a relationship. -/
def isRel (s : ByteArray) : Prop := ∃ r : Rel, s = r.text

set_option maxHeartbeats 400000 in
theorem inverse_any (a : Rel) (w : World) :
    Calls Tryd.prog 85 #[.string a.text] w fun e w' => e = .returned (.string a.inv.text) ∧ w = w' := by
  cases a
  all_goals
    simp only [Rel.text, Rel.inv]
    go_enter Tryd.func85, Tryd.ntmps85
    go_wp2
    go_ret
    exact ⟨rfl, rfl⟩

set_option maxHeartbeats 400000 in
theorem relation_yes (r : Rel) (w : World) :
    Calls Tryd.prog 27 #[.string r.text] w fun e w' => e = .returned (.bool true) ∧ w = w' := by
  cases r
  all_goals
    simp only [Rel.text]
    go_enter Tryd.func27, Tryd.ntmps27
    go_wp2
    go_ret
    exact ⟨rfl, rfl⟩

set_option maxHeartbeats 400000 in
theorem relation_no (s : ByteArray) (h : ¬ isRel s) (w : World) :
    Calls Tryd.prog 27 #[.string s] w fun e w' => e = .returned (.bool false) ∧ w = w' := by
  have h1 : (s.toList == [101, 113, 117, 105, 118, 97, 108, 101, 110, 116]) = false := beq_eq_false_iff_ne.2 fun e => h ⟨.eqv, of_toList e⟩
  have h2 : (s.toList == [109, 111, 114, 101, 71, 101, 110, 101, 114, 97, 108]) = false := beq_eq_false_iff_ne.2 fun e => h ⟨.gen, of_toList e⟩
  have h3 : (s.toList == [109, 111, 114, 101, 83, 112, 101, 99, 105, 102, 105, 99]) = false := beq_eq_false_iff_ne.2 fun e => h ⟨.spc, of_toList e⟩
  have h4 : (s.toList == [100, 105, 115, 106, 111, 105, 110, 116]) = false := beq_eq_false_iff_ne.2 fun e => h ⟨.dis, of_toList e⟩
  have h5 : (s.toList == [111, 118, 101, 114, 108, 97, 112, 115]) = false := beq_eq_false_iff_ne.2 fun e => h ⟨.ovl, of_toList e⟩
  clear h
  go_enter Tryd.func27, Tryd.ntmps27
  go_wp2
  go_ret
  exact ⟨rfl, rfl⟩

set_option maxHeartbeats 800000 in
theorem combine_any (a b : Rel) (w : World) :
    Calls Tryd.prog 73 #[.string a.text, .string b.text] w fun e w' => e = .returned (.string (a.comb b).text) ∧ w = w' := by
  cases a <;> cases b
  all_goals
    simp only [Rel.text, Rel.comb]
    go_enter Tryd.func73, Tryd.ntmps73
    go_wp2
    go_ret
    exact ⟨rfl, rfl⟩

set_option maxHeartbeats 800000 in
theorem spec_combine (a b : Rel) (w : World) :
    Calls Tryd.prog 21 #[.string a.text, .string b.text] w fun e w' => e = .returned (.string (a.comb b).text) ∧ w = w' := by
  cases a <;> cases b
  all_goals
    simp only [Rel.text, Rel.comb]
    go_enter Tryd.func21, Tryd.ntmps21
    go_wp2
    go_ret
    exact ⟨rfl, rfl⟩

set_option maxHeartbeats 400000 in
theorem spec_inverse (a : Rel) (w : World) :
    Calls Tryd.prog 28 #[.string a.text] w fun e w' => e = .returned (.string a.inv.text) ∧ w = w' := by
  cases a
  all_goals
    simp only [Rel.text, Rel.inv]
    go_enter Tryd.func28, Tryd.ntmps28
    go_wp2
    go_ret
    exact ⟨rfl, rfl⟩


end Go.Proofs.YtkfokofccakagaaDoor
