/-
  Proved, in plain words of lists: the pieces of a path of which something is stated are few and small.
  Proved: spec.Items answers true only with the pieces of the path, which can be read. Condition: the text has at most 2^63 - 1 bytes.
-/
import Derived.Test.YtkfokofccakagaaDoorItems
import Derived.Test.YtkfokofccakagaaDoorMatches
import Derived.Test.YtkfokofccakagaaDoorItemsWalk
namespace Go.Proofs.YtkfokofccakagaaDoor
open Go.RowKit Go.Lib.Pa

theorem els_small : ∀ l : List UInt8, (els l).length ≤ l.length + 1 ∧ ∀ x ∈ els l, x.length ≤ l.length
  | [] => by simp [els]
  | c :: t => by
    obtain ⟨h1, h2⟩ := els_small t
    by_cases hc : c = 47
    · subst hc
      rw [els_slash]
      refine ⟨by simp only [List.length_cons]; omega, fun x hx => ?_⟩
      rcases List.mem_cons.1 hx with rfl | hx
      · simp
      · have := h2 x hx
        simp only [List.length_cons]; omega
    · cases he : els t with
      | nil => exact ((els_ne t) he).elim
      | cons e r =>
        have e1 : els (c :: t) = (c :: e) :: r := by simp [els, he, hc]
        rw [he] at h1 h2
        rw [e1]
        refine ⟨by simp only [List.length_cons] at h1 ⊢; omega, fun x hx => ?_⟩
        rcases List.mem_cons.1 hx with rfl | hx
        · have := h2 e List.mem_cons_self
          simp only [List.length_cons]; omega
        · have := h2 x (List.mem_cons_of_mem _ hx)
          simp only [List.length_cons]; omega

theorem itemsOf_small : ∀ (ts its : List (List UInt8)) (n : Nat), 1 ≤ n → (∀ x ∈ ts, x.length ≤ n) → itemsOf ts = some its → its.length = ts.length ∧ ∀ x ∈ its, x.length ≤ n
  | [], its, n, _, _, h => by simp [itemsOf] at h
  | [x], its, n, hn, hx, h => by
    simp only [itemsOf, Option.some.injEq] at h
    subst h
    refine ⟨rfl, fun y hy => ?_⟩
    simp only [List.mem_singleton] at hy
    subst hy
    split
    · simpa using hn
    · exact hx x List.mem_cons_self
  | x :: y :: t, its, n, hn, hx, h => by
    rw [itemsOf] at h
    split at h
    · cases h
    · cases hh : itemsOf (y :: t) with
      | none => rw [hh] at h; cases h
      | some js =>
        rw [hh] at h
        simp only [Option.map_some, Option.some.injEq] at h
        subst h
        obtain ⟨i1, i2⟩ := itemsOf_small (y :: t) js n hn (fun z hz => hx z (List.mem_cons_of_mem _ hz)) hh
        refine ⟨by simp only [List.length_cons] at i1 ⊢; omega, fun z hz => ?_⟩
        rcases List.mem_cons.1 hz with rfl | hz
        · exact hx _ List.mem_cons_self
        · exact i2 z hz

theorem items_small (l : List UInt8) (its : List (List UInt8)) (h : itemsL l = some its) : SmallIts its := by
  unfold itemsL at h
  split at h
  · rename_i hc
    obtain ⟨h1, h2⟩ := els_small l.tail
    have hl := hc.2.1
    have ht : l.tail.length + 1 = l.length := by
      cases l with
      | nil => simp at hc
      | cons c t => rfl
    obtain ⟨i1, i2⟩ := itemsOf_small _ its 120 (by omega) (fun x hx => by have := h2 x hx; omega) h
    exact ⟨by omega, i2⟩
  · cases h
end Go.Proofs.YtkfokofccakagaaDoor

namespace Go.Proofs.YtkfokofccakagaaDoor
open Go.RowKit

/-- What Items answers. -/
def ItemsOk (l : List UInt8) (w : World) (e : Ending) (w' : World) : Prop :=
  ∃ v b its, e = .returned (.tuple #[v, .bool b]) ∧ (b = true → itemsL l = some its ∧ StrsAt w' v its) ∧ Below w.heap.size w w'

theorem items_ok (s : ByteArray) (w : World) (hs : s.size ≤ 9223372036854775807) : Calls Tryd.prog 29 #[.string s] w (ItemsOk (bs s) w) := by
  refine (items_any s w hs).mono ?_
  rintro e w' ⟨hb, ⟨h, rfl⟩ | ⟨its, v, h, rfl, hown⟩⟩
  · exact ⟨_, false, [], rfl, (fun h => by cases h), hb⟩
  · exact ⟨_, true, its, rfl, fun _ => ⟨h, StrsAt.of_own hown⟩, hb⟩
end Go.Proofs.YtkfokofccakagaaDoor
