/-
  Proved: spec.has tells whether a letter is in a text, and spec.Items returns the pieces of a path ('itemsL') in new memory, or nothing and false. Condition: the text has at most 2^63 - 1 bytes.
-/
import Derived.Test.YtodmlommidifjaaDoorCut
import Derived.Test.YtodmlommidifjaaDoorMem
namespace Go.Proofs.YtodmlommidifjaaDoor
open Go.RowKit Go.Lib.Pa

def hasB (l : List UInt8) (c : Int) : Bool := l.any fun b => (b.toNat : Int) == c

theorem hasB_iff (l : List UInt8) (b : UInt8) : hasB l (b.toNat : Int) = true ↔ b ∈ l := by
  unfold hasB
  rw [List.any_eq_true]
  constructor
  · rintro ⟨x, hx, h⟩
    rw [beq_iff_eq] at h
    have : x = b := UInt8.toNat_inj.1 (by exact_mod_cast h)
    exact this ▸ hx
  · exact fun h => ⟨b, h, by simp⟩

set_option maxHeartbeats 400000 in
theorem has_any (s : ByteArray) (c : Int) (w : World) (hs : s.size ≤ 9223372036854775807) :
    Calls Tryd.prog 20 #[.string s, .int .u8 c] w fun e w' => e = .returned (.bool (hasB (bs s) c)) ∧ w = w' := by
  go_enter Tryd.func20, Tryd.ntmps20
  go_wp2_with fail
  go_loop [8] (fun i => ∃ k : Nat, k ≤ s.size ∧ i = .int .i64 k ∧ Hid (∀ j x, j < k → (bs s)[j]? = some x → ((x.toNat : Int) == c) = false)) (fun i => s.size - (intOf i).toNat)
  case atStart => exact ⟨0, Nat.zero_le _, rfl, fun j x hj => by omega⟩
  case round =>
    obtain ⟨k, hk, rfl, HN⟩ := hrel
    by_cases hlt : k < s.size
    · cases hc : (((s[k]'hlt).toNat : Int) == c)
      · go_wp2_with fail
        go_round
        case rel =>
          refine ⟨k + 1, by omega, by go_num, fun j x hj hx => ?_⟩
          by_cases hjk : j = k
          · subst hjk
            rw [bs_at s j hlt] at hx
            simp only [Option.some.injEq] at hx
            rw [← hx]; exact hc
          · exact HN.out j x (by omega) hx
        case measure => simp [intOf]; omega
      · have hb : hasB (bs s) c = true := by
          unfold hasB
          rw [List.any_eq_true]
          exact ⟨s[k]'hlt, List.mem_of_getElem? (bs_at s k hlt), hc⟩
        have HB := Lib.hid hb
        clear hb
        go_wp2_with fail
        go_ret
        exact ⟨by rw [HB.out]; rfl, rfl⟩
    · have hb : hasB (bs s) c = false := by
        unfold hasB
        rw [List.any_eq_false]
        intro x hx
        obtain ⟨j, hj⟩ := List.getElem?_of_mem hx
        have hjl : j < s.size := by
          rw [← bs_size]
          exact (List.getElem?_eq_some_iff.1 hj).1
        rw [HN.out j x (by omega) hj]; simp
      have HB := Lib.hid hb
      clear hb
      go_wp2_with fail
      go_ret
      exact ⟨by rw [HB.out]; rfl, rfl⟩

/-- The items of the pieces behind the first slash: an empty piece stands at the end alone, for the slash. -/
def itemsOf : List (List UInt8) → Option (List (List UInt8))
  | [] => none
  | [x] => some [if x = [] then [47] else x]
  | x :: y :: t => if x = [] then none else (itemsOf (y :: t)).map (x :: ·)

def itemsL (l : List UInt8) : Option (List (List UInt8)) :=
  if l.head? = some 47 ∧ l.length ≤ 120 ∧ hasB l 37 = false then itemsOf (els l.tail) else none

theorem itemsOf_snoc : ∀ (D : List (List UInt8)) (x : List UInt8), (∀ y ∈ D, y ≠ []) → itemsOf (D ++ [x]) = some (D ++ [if x = [] then [47] else x])
  | [], x, _ => rfl
  | [y], x, h => by simp [itemsOf, h y List.mem_cons_self]
  | y :: z :: D, x, h => by
    have ih := itemsOf_snoc (z :: D) x fun a ha => h a (List.mem_cons_of_mem _ ha)
    have hy := h y List.mem_cons_self
    simp only [List.cons_append] at ih ⊢
    rw [itemsOf, if_neg hy, ih]
    rfl

theorem itemsOf_bad : ∀ (D T : List (List UInt8)), T ≠ [] → itemsOf (D ++ [] :: T) = none
  | [], T, h => by
    cases T with
    | nil => exact (h rfl).elim
    | cons t T => simp [itemsOf]
  | y :: D, T, h => by
    have ih := itemsOf_bad D T h
    cases hD : D ++ [] :: T with
    | nil => simp at hD
    | cons z Z =>
      rw [List.cons_append, hD, itemsOf]
      split
      · rfl
      · rw [← hD, ih]; rfl

theorem fold_prefix : ∀ (t : List UInt8) (st : List (List UInt8) × List UInt8), ∃ X, (t.foldl cutStep st).1 = st.1 ++ X
  | [], st => ⟨[], by simp⟩
  | c :: t, st => by
    obtain ⟨X, h⟩ := fold_prefix t (cutStep st c)
    simp only [List.foldl_cons, h]
    unfold cutStep
    split
    · exact ⟨st.2 :: X, by simp⟩
    · exact ⟨X, rfl⟩

theorem done_prefix (s : ByteArray) (k : Nat) : ∃ X, els (bs s) = doneP s k ++ X ∧ X ≠ [] := by
  obtain ⟨X, h⟩ := fold_prefix ((bs s).drop k) (cutSt ((bs s).take k))
  have e : cutSt (bs s) = ((bs s).drop k).foldl cutStep (cutSt ((bs s).take k)) := by
    unfold cutSt
    rw [← List.foldl_append, List.take_append_drop]
  refine ⟨X ++ [(cutSt (bs s)).2], ?_, by simp⟩
  rw [cutSt_els, e, h, List.append_assoc]
  rfl

theorem done_one (s : ByteArray) (h : 0 < s.size) (h0 : s[0] = 47) : doneP s 1 = [[]] ∧ curP s 1 = [] := by
  have := cut_hit s 0 h h0
  simpa [doneP, curP, cutSt] using this

/-- What the loop of Items holds at place i. -/
def ItRel (s : ByteArray) (base : Nat) (out frm : Value) (i : Nat) (wr : World) : Prop :=
  (1 ≤ i ∧ i ≤ s.size ∧ ∃ D, doneP s i = [] :: D ∧ (∀ y ∈ D, y ≠ []) ∧ frm = .int .i64 ((i - (curP s i).length : Nat) : Int) ∧ wr.ownsRow base 9 1 out D.length (D.map strV)) ∨
  (i = s.size + 1 ∧ ∃ its, itemsOf (els (bs s).tail) = some its ∧ wr.ownsRow base 9 1 out its.length (its.map strV))
end Go.Proofs.YtodmlommidifjaaDoor
