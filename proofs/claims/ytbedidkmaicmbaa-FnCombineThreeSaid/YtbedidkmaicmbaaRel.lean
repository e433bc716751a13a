/-
  Proved: what spec.Relation, spec.Inverse, spec.Combine, inverseRelationship, combineRelationships and their thin callers return at the five relationships. Conditions: the texts are relationships (of Relation: every text).
-/
import Derived.Test.YtbedidkmaicmbaaRows
import Derived.WalkKit
import Derived.WalkSpells
import Derived.WalkLawsBesides
namespace Go.Proofs.Ytbedidkmaicmbaa
open Go.RowKit

/-- The relationships. -/
inductive Rel where
  | eqv
  | gen
  | spc
  | dis
  | ovl

namespace Rel
/-- The text of a relationship. -/
def text : Rel → ByteArray
  | eqv => ⟨#[101, 113, 117, 105, 118, 97, 108, 101, 110, 116]⟩
  | gen => ⟨#[109, 111, 114, 101, 71, 101, 110, 101, 114, 97, 108]⟩
  | spc => ⟨#[109, 111, 114, 101, 83, 112, 101, 99, 105, 102, 105, 99]⟩
  | dis => ⟨#[100, 105, 115, 106, 111, 105, 110, 116]⟩
  | ovl => ⟨#[111, 118, 101, 114, 108, 97, 112, 115]⟩

def inv : Rel → Rel
  | eqv => eqv
  | gen => spc
  | spc => gen
  | dis => dis
  | ovl => ovl

def comb : Rel → Rel → Rel
  | dis, _ => dis
  | _, dis => dis
  | eqv, b => b
  | a, eqv => a
  | gen, gen => gen
  | spc, spc => spc
  | _, _ => ovl

theorem comb_comm (a b : Rel) : a.comb b = b.comb a := by cases a <;> cases b <;> rfl
theorem comb_assoc (a b c : Rel) : (a.comb b).comb c = a.comb (b.comb c) := by cases a <;> cases b <;> cases c <;> rfl
theorem text_size (a : Rel) : a.text.size ≤ 12 := by cases a <;> decide
end Rel

theorem of_toList {s : ByteArray} {l : List UInt8} (h : s.toList = l) : s = ⟨l.toArray⟩ := by
  rw [ByteArray.toList_eq] at h
  subst h
  cases s
  simp

/-- A text is a relationship. -/
def isRel (s : ByteArray) : Prop := ∃ r : Rel, s = r.text

set_option maxHeartbeats 400000 in
theorem inverse_any (a : Rel) (w : World) :
    Calls Try.prog 13 #[.string a.text] w fun e w' => e = .returned (.string a.inv.text) ∧ w = w' := by
  cases a
  all_goals
    simp only [Rel.text, Rel.inv]
    go_enter Try.func13, Try.ntmps13
    go_wp2
    go_ret
    exact ⟨rfl, rfl⟩

set_option maxHeartbeats 400000 in
theorem relation_yes (r : Rel) (w : World) :
    Calls Try.prog 6 #[.string r.text] w fun e w' => e = .returned (.bool true) ∧ w = w' := by
  cases r
  all_goals
    simp only [Rel.text]
    go_enter Try.func6, Try.ntmps6
    go_wp2
    go_ret
    exact ⟨rfl, rfl⟩

set_option maxHeartbeats 400000 in
theorem relation_no (s : ByteArray) (h : ¬ isRel s) (w : World) :
    Calls Try.prog 6 #[.string s] w fun e w' => e = .returned (.bool false) ∧ w = w' := by
  have h1 : (s.toList == [101, 113, 117, 105, 118, 97, 108, 101, 110, 116]) = false := beq_eq_false_iff_ne.2 fun e => h ⟨.eqv, of_toList e⟩
  have h2 : (s.toList == [109, 111, 114, 101, 71, 101, 110, 101, 114, 97, 108]) = false := beq_eq_false_iff_ne.2 fun e => h ⟨.gen, of_toList e⟩
  have h3 : (s.toList == [109, 111, 114, 101, 83, 112, 101, 99, 105, 102, 105, 99]) = false := beq_eq_false_iff_ne.2 fun e => h ⟨.spc, of_toList e⟩
  have h4 : (s.toList == [100, 105, 115, 106, 111, 105, 110, 116]) = false := beq_eq_false_iff_ne.2 fun e => h ⟨.dis, of_toList e⟩
  have h5 : (s.toList == [111, 118, 101, 114, 108, 97, 112, 115]) = false := beq_eq_false_iff_ne.2 fun e => h ⟨.ovl, of_toList e⟩
  clear h
  go_enter Try.func6, Try.ntmps6
  go_wp2
  go_ret
  exact ⟨rfl, rfl⟩

set_option maxHeartbeats 800000 in
theorem combine_any (a b : Rel) (w : World) :
    Calls Try.prog 14 #[.string a.text, .string b.text] w fun e w' => e = .returned (.string (a.comb b).text) ∧ w = w' := by
  cases a <;> cases b
  all_goals
    simp only [Rel.text, Rel.comb]
    go_enter Try.func14, Try.ntmps14
    go_wp2
    go_ret
    exact ⟨rfl, rfl⟩

set_option maxHeartbeats 800000 in
theorem spec_combine (a b : Rel) (w : World) :
    Calls Try.prog 10 #[.string a.text, .string b.text] w fun e w' => e = .returned (.string (a.comb b).text) ∧ w = w' := by
  cases a <;> cases b
  all_goals
    simp only [Rel.text, Rel.comb]
    go_enter Try.func10, Try.ntmps10
    go_wp2
    go_ret
    exact ⟨rfl, rfl⟩

set_option maxHeartbeats 400000 in
theorem spec_inverse (a : Rel) (w : World) :
    Calls Try.prog 8 #[.string a.text] w fun e w' => e = .returned (.string a.inv.text) ∧ w = w' := by
  cases a
  all_goals
    simp only [Rel.text, Rel.inv]
    go_enter Try.func8, Try.ntmps8
    go_wp2
    go_ret
    exact ⟨rfl, rfl⟩

set_option maxHeartbeats 400000 in
theorem impl_inverse (a : Rel) (w : World) :
    Calls Try.prog 7 #[.string a.text] w fun e w' => e = .returned (.string a.inv.text) ∧ w = w' := by
  go_enter Try.func7, Try.ntmps7
  go_wp2_with (first
    | (go_at_call 13; refine (inverse_any a _).mono ?_; rintro e w' ⟨rfl, rfl⟩)
    | (go_at_call 11; go_in))
  go_ret
  exact ⟨rfl, rfl⟩

set_option maxHeartbeats 400000 in
theorem impl_combine (a b : Rel) (w : World) :
    Calls Try.prog 9 #[.string a.text, .string b.text] w fun e w' => e = .returned (.string (a.comb b).text) ∧ w = w' := by
  go_enter Try.func9, Try.ntmps9
  go_wp2_with (first
    | (go_at_call 14; refine (combine_any a b _).mono ?_; rintro e w' ⟨rfl, rfl⟩)
    | (go_at_call 12; go_in))
  go_ret
  exact ⟨rfl, rfl⟩
end Go.Proofs.Ytbedidkmaicmbaa
