/-
  Proved: laws.FnMatchMore (a pattern more that does not match a request does not change which one takes it) returns true at every input that the domain describes, and shows no change.
  The frame of the row and of the card follows the guide's worked examples (BesupProofs, UptoLaidToy, ChunkProofs); the walk is ours.
-/
import Derived.Test.YtgkhfcoieknjeaaDoorCards
import Derived.Test.YtgkhfcoieknjeaaDoorTie
import Derived.Test.YtgkhfcoieknjeaaDoorWFnMatchMore
import Derived.Test.YtgkhfcoieknjeaaDoorOpenPats
import Derived.Test.YtgkhfcoieknjeaaDoorReq
import Derived.Test.YtgkhfcoieknjeaaDoorLaidFacts
import Derived.ProofKit
import Derived.OpenShut
import Derived.ShutString
import Derived.ChangeOld
import Derived.Below
import Derived.LaidMore
import Derived.Lay
import Derived.SevenTiedAt
import Derived.Stop.Joined
import Derived.Deep.DeepHandedRow
import Derived.OpenVars
import Derived.ChangeVars
import Derived.Carry
namespace Go.Proofs.YtgkhfcoieknjeaaDoor.fnMatchMore
open Go.ChangeShapes Go.WideShapes Go.ChangeAt Go.RowKit
open Go.ChangeMaps (open_string shut_string)
set_option linter.unusedVariables false

theorem own : ownKnob Tryd.prog.godebug = none := by kernel_rfl
theorem laidOut : laidOutB Tryd.prog = true := by kernel_rfl

theorem laid_plain (w : World) : laidMetH Tryd.prog Rows.fnMatchMoreRow.laid w = laidMet Tryd.prog Rows.fnMatchMoreRow.laid w := MakeChecks.laidMetH_plain _ _ _ (by kernel_rfl)

theorem trod_places {H : Type} {enc : TypeId × Value → H} {w : World} {sp : Nat → Bool} {t : TypeId} {v : Value} {d : DataW H} {p : List MemPlace} (h : DataW.Trod enc Tryd.prog w 0 sp true t v d p) : ∀ x ∈ p, x.block < w.heap.size := by
  obtain ⟨n, hn⟩ := h
  exact DataW.trod_lt n _ _ _ hn

set_option maxRecDepth 100000 in
theorem lifted (os : Os) (started : os.Started) (H : Type) (enc : TypeId × Value → H) :
    ReturnsInHanded {} Tryd.checked os 7 .any (fun w args => (Rows.fnMatchMoreSpec.pre enc Tryd.prog Tryd.f7 Rows.fnMatchMoreRow.domain false w args ∧ laidMetH Tryd.prog Rows.fnMatchMoreRow.laid w) ∧ sizedMet enc Tryd.prog Tryd.f7 (OpenSpec.ofChange Rows.fnMatchMoreSpec) false w args)
      (Rows.fnMatchMoreSpec.post enc Tryd.prog Tryd.f7 false true false false) := by
  refine returnsInHanded_of_change_and (C := Tryd.checked) (X := fun w _ => laidMetH Tryd.prog Rows.fnMatchMoreRow.laid w) (fun _ _ _ hh h => h.of_heap hh) own started (by kernel_rfl) Tryd.func7
    (ChangeSpec.witness_shaped (enc := enc) (C := Tryd.checked) (os := os) (X := fun w _ => laidMetH Tryd.prog Rows.fnMatchMoreRow.laid w) false (World.laidAll Tryd.prog os Rows.fnMatchMoreRow.laid) #[.slice none 0 0, .agg #[.string ByteArray.empty, .string ByteArray.empty, .slice none 0 0], .agg #[.string ByteArray.empty, .string ByteArray.empty, .string ByteArray.empty]] 8 (World.laidAll_os _ _ _)
      (World.shaped_of_ZipB (by kernel_rfl) (by kernel_rfl)) (by kernel_rfl) (by kernel_rfl) (by kernel_rfl)
      (by rw [laid_plain]; exact laidMet_laidAll _ (by kernel_rfl) (by kernel_rfl))) ?_
  intro W base args ds gs before hval0 hW _ _ hL _
  have hval : ∀ (j : Nat) t v, Tryd.f7.params[j]? = some t → args[j]? = some v → Value.okWide Tryd.prog W .any base t v := hval0
  have hW' := hW
  obtain ⟨p, q, hA0, hV, rfl, _, _⟩ := hW
  have hA : DataW.TrodAll enc Tryd.prog W 0 (fun _ => true) true Tryd.f7.params.toList args.toList ds p := hA0
  rw [Tryd.params7] at hA hval
  obtain ⟨v0, vs0, d0, ds0, p0, q0, hargs, rfl, rfl, h0, r0⟩ := trodAll_cons hA
  obtain ⟨v1, vs1, d1, ds1, p1, q1, rfl, rfl, rfl, h1, r1⟩ := trodAll_cons r0
  obtain ⟨v2, vs2, d2, ds2, p2, q2, rfl, rfl, rfl, h2, r2⟩ := trodAll_cons r1
  obtain ⟨rfl, rfl, rfl⟩ := trodAll_nil r2
  obtain rfl : args = #[v0, v1, v2] := by cases args; simp_all
  have hV0 := hV
  obtain ⟨_, _, _, _, dg, _, rfl, _, _, _, _, _⟩ := trodVars_one hV0
  obtain ⟨s0, L0, rfl, hs0⟩ := open_patterns (hval 0 22 v0 rfl rfl) h0
  obtain ⟨m1, g1, s1, l1, rfl, zm1, zg1, hs1, sh1, zl1⟩ := open_pattern (hval 1 36 v1 rfl rfl) h1
  obtain ⟨a2, b2, c2, rfl, za2, zb2, zc2⟩ := open_request (hval 2 24 v2 rfl rfl) h2
  clear hA0 hval0
  rw [laid_plain] at hL
  have hP : PropsAt W := propsAt_of W _ hL
  refine (walk_FnMatchMore v0 L0 m1 g1 s1 l1 a2 b2 c2 W hs0 zm1 zg1 hs1 sh1 zl1 za2 zb2 zc2 hP).mono fun e W' ⟨he, bel⟩ => ?_
  subst he
  exact ⟨_, rfl, _, _, _, _, _, q, hW', trodAll_mk1 (shut_bool Tryd.underlying4 _), (trodAll_cons_mk (Below.trod laidOut (by kernel_rfl) (of_decide_eq_true (by kernel_rfl)) h0 bel (trod_places h0)) (trodAll_cons_mk (Below.trod laidOut (by kernel_rfl) (of_decide_eq_true (by kernel_rfl)) h1 bel (trod_places h1)) (trodAll_cons_mk (Below.trod laidOut (by kernel_rfl) (of_decide_eq_true (by kernel_rfl)) h2 bel (trod_places h2)) trodAll_mk0))), Below.trodVars laidOut bel (by kernel_rfl) hV, bel.frame _, fun h => by cases h⟩

theorem said : Rows.FnMatchMoreSaid :=
  OpenClaim.holds_of_wide 7 Tryd.f7 rfl rfl rfl rfl rfl rfl rfl ⟨rfl, rfl, rfl, rfl, rfl⟩ rfl rfl rfl rfl rfl (by kernel_rfl) Tryd.func7 (by kernel_rfl)
    (of_decide_eq_true (by kernel_rfl)) (by unfold Func.isWrapper; first | (rw [if_pos (by decide +kernel)]; kernel_rfl) | (rw [if_neg (by decide +kernel)]; exact ⟨rfl, rfl⟩))
    (fun os started H enc _ => lifted os started H enc)

theorem plain (f : FuncId) (fn : Func) (hf : Tryd.pinned.checked.prog.funcNamed Rows.fnMatchMoreRow.func = some f) (hfn : Tryd.pinned.checked.prog.funcs[f]? = some fn) :
    false = Tryd.pinned.checked.prog.looks [] ∧ ∀ (j : Nat) t, fn.params[j]? = some t → Tryd.pinned.checked.prog.wantsStandIn t = false := by
  obtain rfl : f = 7 := Option.some.inj ((show Tryd.prog.funcNamed Rows.fnMatchMoreRow.func = some 7 by kernel_rfl).symm.trans hf) |>.symm
  obtain rfl : fn = Tryd.f7 := (Option.some.inj (Tryd.func7.symm.trans hfn)).symm
  refine ⟨by kernel_rfl, fun j t ht => ?_⟩
  rw [Tryd.params7] at ht
  have ho : t = 22 ∨ t = 36 ∨ t = 24 := by have := Array.mem_of_getElem? ht; simpa using this
  rcases ho with rfl | rfl | rfl
  · exact (show Tryd.prog.wantsStandIn 22 = false by kernel_rfl)
  · exact (show Tryd.prog.wantsStandIn 36 = false by kernel_rfl)
  · exact (show Tryd.prog.wantsStandIn 24 = false by kernel_rfl)

/-- The card. -/
theorem card : Rows.FnMatchMoreCardSaid :=
  Claim7.holds_tied_plain_at .later [] _ _ _ _ said (fun _ h => by cases h) (by kernel_rfl) (fun _ h => by cases h) fnMatchMore_row_tie rfl ⟨rfl, rfl⟩ (by kernel_rfl) rfl plain (by kernel_rfl)
#print axioms card
end Go.Proofs.YtgkhfcoieknjeaaDoor.fnMatchMore
