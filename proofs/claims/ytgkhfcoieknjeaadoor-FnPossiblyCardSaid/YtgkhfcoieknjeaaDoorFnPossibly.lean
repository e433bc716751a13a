/-
  Proved: laws.FnPossibly (all patterns of an index that conflict with one are among those that may conflict with it, and only patterns of the index are) returns true at every input that the domain describes, and shows no change.
  The frame of the row and of the card follows the guide's worked examples (BesupProofs, UptoLaidToy, ChunkProofs); the walk is ours.
-/
import Derived.Test.YtgkhfcoieknjeaaDoorCards
import Derived.Test.YtgkhfcoieknjeaaDoorTie
import Derived.Test.YtgkhfcoieknjeaaDoorWFnPossibly
import Derived.Test.YtgkhfcoieknjeaaDoorOpenPats
import Derived.Test.YtgkhfcoieknjeaaDoorLaidFacts
import Derived.ProofKit
import Derived.OpenShut
import Derived.ShutString
import Derived.ChangeOld
import Derived.Below
import Derived.LaidMore
import Derived.Lay
import Derived.SevenTiedAt
import Derived.Stop.Joined
import Derived.Deep.DeepHandedRow
import Derived.OpenVars
import Derived.ChangeVars
import Derived.Carry
namespace Go.Proofs.YtgkhfcoieknjeaaDoor.fnPossibly
open Go.ChangeShapes Go.WideShapes Go.ChangeAt Go.RowKit
open Go.ChangeMaps (open_string shut_string)
set_option linter.unusedVariables false

theorem own : ownKnob Tryd.prog.godebug = none := by kernel_rfl
theorem laidOut : laidOutB Tryd.prog = true := by kernel_rfl

theorem laid_plain (w : World) : laidMetH Tryd.prog Rows.fnPossiblyRow.laid w = laidMet Tryd.prog Rows.fnPossiblyRow.laid w := MakeChecks.laidMetH_plain _ _ _ (by kernel_rfl)

theorem trod_places {H : Type} {enc : TypeId × Value → H} {w : World} {sp : Nat → Bool} {t : TypeId} {v : Value} {d : DataW H} {p : List MemPlace} (h : DataW.Trod enc Tryd.prog w 0 sp true t v d p) : ∀ x ∈ p, x.block < w.heap.size := by
  obtain ⟨n, hn⟩ := h
  exact DataW.trod_lt n _ _ _ hn

set_option maxRecDepth 100000 in
theorem lifted (os : Os) (started : os.Started) (H : Type) (enc : TypeId × Value → H) :
    ReturnsInHanded {} Tryd.checked os 5 .any (fun w args => (Rows.fnPossiblySpec.pre enc Tryd.prog Tryd.f5 Rows.fnPossiblyRow.domain false w args ∧ laidMetH Tryd.prog Rows.fnPossiblyRow.laid w) ∧ sizedMet enc Tryd.prog Tryd.f5 (OpenSpec.ofChange Rows.fnPossiblySpec) false w args)
      (Rows.fnPossiblySpec.post enc Tryd.prog Tryd.f5 false true false false) := by
  refine returnsInHanded_of_change_and (C := Tryd.checked) (X := fun w _ => laidMetH Tryd.prog Rows.fnPossiblyRow.laid w) (fun _ _ _ hh h => h.of_heap hh) own started (by kernel_rfl) Tryd.func5
    (ChangeSpec.witness_shaped (enc := enc) (C := Tryd.checked) (os := os) (X := fun w _ => laidMetH Tryd.prog Rows.fnPossiblyRow.laid w) false (World.laidAll Tryd.prog os Rows.fnPossiblyRow.laid) #[.slice none 0 0, .agg #[.string ByteArray.empty, .string ByteArray.empty, .slice none 0 0]] 8 (World.laidAll_os _ _ _)
      (World.shaped_of_ZipB (by kernel_rfl) (by kernel_rfl)) (by kernel_rfl) (by kernel_rfl) (by kernel_rfl)
      (by rw [laid_plain]; exact laidMet_laidAll _ (by kernel_rfl) (by kernel_rfl))) ?_
  intro W base args ds gs before hval0 hW _ _ hL _
  have hval : ∀ (j : Nat) t v, Tryd.f5.params[j]? = some t → args[j]? = some v → Value.okWide Tryd.prog W .any base t v := hval0
  have hW' := hW
  obtain ⟨p, q, hA0, hV, rfl, _, _⟩ := hW
  have hA : DataW.TrodAll enc Tryd.prog W 0 (fun _ => true) true Tryd.f5.params.toList args.toList ds p := hA0
  rw [Tryd.params5] at hA hval
  obtain ⟨v0, vs0, d0, ds0, p0, q0, hargs, rfl, rfl, h0, r0⟩ := trodAll_cons hA
  obtain ⟨v1, vs1, d1, ds1, p1, q1, rfl, rfl, rfl, h1, r1⟩ := trodAll_cons r0
  obtain ⟨rfl, rfl, rfl⟩ := trodAll_nil r1
  obtain rfl : args = #[v0, v1] := by cases args; simp_all
  have hV0 := hV
  obtain ⟨_, _, _, _, dg, _, rfl, _, _, _, _, _⟩ := trodVars_one hV0
  obtain ⟨s0, L0, rfl, hs0⟩ := open_patterns (hval 0 22 v0 rfl rfl) h0
  obtain ⟨m1, g1, s1, l1, rfl, zm1, zg1, hs1, sh1, zl1⟩ := open_pattern (hval 1 36 v1 rfl rfl) h1
  clear hA0 hval0
  rw [laid_plain] at hL
  have hP : PropsAt W := propsAt_of W _ hL
  refine (walk_FnPossibly v0 L0 m1 g1 s1 l1 W hs0 zm1 zg1 hs1 sh1 zl1 hP).mono fun e W' ⟨he, bel⟩ => ?_
  subst he
  exact ⟨_, rfl, _, _, _, _, _, q, hW', trodAll_mk1 (shut_bool Tryd.underlying4 _), (trodAll_cons_mk (Below.trod laidOut (by kernel_rfl) (of_decide_eq_true (by kernel_rfl)) h0 bel (trod_places h0)) (trodAll_cons_mk (Below.trod laidOut (by kernel_rfl) (of_decide_eq_true (by kernel_rfl)) h1 bel (trod_places h1)) trodAll_mk0)), Below.trodVars laidOut bel (by kernel_rfl) hV, bel.frame _, fun h => by cases h⟩

theorem said : Rows.FnPossiblySaid :=
  OpenClaim.holds_of_wide 5 Tryd.f5 rfl rfl rfl rfl rfl rfl rfl ⟨rfl, rfl, rfl, rfl, rfl⟩ rfl rfl rfl rfl rfl (by kernel_rfl) Tryd.func5 (by kernel_rfl)
    (of_decide_eq_true (by kernel_rfl)) (by unfold Func.isWrapper; first | (rw [if_pos (by decide +kernel)]; kernel_rfl) | (rw [if_neg (by decide +kernel)]; exact ⟨rfl, rfl⟩))
    (fun os started H enc _ => lifted os started H enc)

theorem plain (f : FuncId) (fn : Func) (hf : Tryd.pinned.checked.prog.funcNamed Rows.fnPossiblyRow.func = some f) (hfn : Tryd.pinned.checked.prog.funcs[f]? = some fn) :
    false = Tryd.pinned.checked.prog.looks [] ∧ ∀ (j : Nat) t, fn.params[j]? = some t → Tryd.pinned.checked.prog.wantsStandIn t = false := by
  obtain rfl : f = 5 := Option.some.inj ((show Tryd.prog.funcNamed Rows.fnPossiblyRow.func = some 5 by kernel_rfl).symm.trans hf) |>.symm
  obtain rfl : fn = Tryd.f5 := (Option.some.inj (Tryd.func5.symm.trans hfn)).symm
  refine ⟨by kernel_rfl, fun j t ht => ?_⟩
  rw [Tryd.params5] at ht
  have ho : t = 22 ∨ t = 36 := by have := Array.mem_of_getElem? ht; simpa using this
  rcases ho with rfl | rfl
  · exact (show Tryd.prog.wantsStandIn 22 = false by kernel_rfl)
  · exact (show Tryd.prog.wantsStandIn 36 = false by kernel_rfl)

/-- The card. -/
theorem card : Rows.FnPossiblyCardSaid :=
  Claim7.holds_tied_plain_at .later [] _ _ _ _ said (fun _ h => by cases h) (by kernel_rfl) (fun _ h => by cases h) fnPossibly_row_tie rfl ⟨rfl, rfl⟩ (by kernel_rfl) rfl plain (by kernel_rfl)
#print axioms card
end Go.Proofs.YtgkhfcoieknjeaaDoor.fnPossibly
