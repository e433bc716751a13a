/-
  DERIVED. GIVEN WITH THE SEED: THE CARDS: each row of YtkfokofccakagaaDoorRows.lean that lists a variable, with what it lists TIED to the program's text (the seventh form; the later family's looks); each row that meets fmt, with fmt's text TOLD by the authors' own Lean function (tested against real Go, not proved from fmt's source: count such statements apart). THE CARD IS WHAT COUNTS. Prove the row's statement (the work); the ties are given (YtkfokofccakagaaDoorTie.lean); close each card by the builder's one call (the guide's Derived/Test/ToyasCard.lean, 'card_holds'). Laid BY PROGRAM, IN A SANDBOX (cutbox-door.mjs). By AI agents, Wed Nov 11 2026. No macro, syntax, notation, axiom, sorry.
-/
import Derived.Test.YtkfokofccakagaaDoorRows
import GoSem.ClaimSeven
namespace Go.Proofs.YtkfokofccakagaaDoor
namespace Rows

/-- THE TIED CARD OF 'laws.FnCommon'. -/
def fnCommonCard : Claim7 := { stood := { row := fnCommonRow, standIns := [], harness := (true, "42d9ef3fae592df4eea3d8221210d0945adba2704941f939b677716cebf2250b"), looks := false }, kinds := [], alts := [], laidByText := true, laidKinds := [.data, .data, .pinned, .pinned], laidTests := true, laidLooks := .later }
def FnCommonCardSaid : Prop := Claim7.holds Tryd.pinned (.plain (OpenSpec.ofChange fnCommonSpec)) fnCommonCard

/-- THE TIED CARD OF 'laws.FnBoth'. -/
def fnBothCard : Claim7 := { stood := { row := fnBothRow, standIns := [], harness := (true, "42d9ef3fae592df4eea3d8221210d0945adba2704941f939b677716cebf2250b"), looks := false }, kinds := [], alts := [], laidByText := true, laidKinds := [.data, .data, .pinned, .pinned], laidTests := true, laidLooks := .later }
def FnBothCardSaid : Prop := Claim7.holds Tryd.pinned (.plain (OpenSpec.ofChange fnBothSpec)) fnBothCard

/-- THE TIED CARD OF 'laws.FnMethods'. -/
def fnMethodsCard : Claim7 := { stood := { row := fnMethodsRow, standIns := [], harness := (true, "42d9ef3fae592df4eea3d8221210d0945adba2704941f939b677716cebf2250b"), looks := false }, kinds := [], alts := [], laidByText := true, laidKinds := [.data, .data, .pinned, .pinned], laidTests := true, laidLooks := .later }
def FnMethodsCardSaid : Prop := Claim7.holds Tryd.pinned (.plain (OpenSpec.ofChange fnMethodsSpec)) fnMethodsCard

/-- THE TIED CARD OF 'laws.FnMethodsSound'. -/
def fnMethodsSoundCard : Claim7 := { stood := { row := fnMethodsSoundRow, standIns := [], harness := (true, "42d9ef3fae592df4eea3d8221210d0945adba2704941f939b677716cebf2250b"), looks := false }, kinds := [], alts := [], laidByText := true, laidKinds := [.data, .data, .pinned, .pinned], laidTests := true, laidLooks := .later }
def FnMethodsSoundCardSaid : Prop := Claim7.holds Tryd.pinned (.plain (OpenSpec.ofChange fnMethodsSoundSpec)) fnMethodsSoundCard

/-- THE TIED CARD OF 'laws.FnPaths'. -/
def fnPathsCard : Claim7 := { stood := { row := fnPathsRow, standIns := [], harness := (true, "42d9ef3fae592df4eea3d8221210d0945adba2704941f939b677716cebf2250b"), looks := false }, kinds := [], alts := [], laidByText := true, laidKinds := [.data, .data, .pinned, .pinned], laidTests := true, laidLooks := .later }
def FnPathsCardSaid : Prop := Claim7.holds Tryd.pinned (.plain (OpenSpec.ofChange fnPathsSpec)) fnPathsCard

/-- THE TIED CARD OF 'laws.FnPathsBack'. -/
def fnPathsBackCard : Claim7 := { stood := { row := fnPathsBackRow, standIns := [], harness := (true, "42d9ef3fae592df4eea3d8221210d0945adba2704941f939b677716cebf2250b"), looks := false }, kinds := [], alts := [], laidByText := true, laidKinds := [.data, .data, .pinned, .pinned], laidTests := true, laidLooks := .later }
def FnPathsBackCardSaid : Prop := Claim7.holds Tryd.pinned (.plain (OpenSpec.ofChange fnPathsBackSpec)) fnPathsBackCard

/-- THE TIED CARD OF 'laws.FnPathsSound'. -/
def fnPathsSoundCard : Claim7 := { stood := { row := fnPathsSoundRow, standIns := [], harness := (true, "42d9ef3fae592df4eea3d8221210d0945adba2704941f939b677716cebf2250b"), looks := false }, kinds := [], alts := [], laidByText := true, laidKinds := [.data, .data, .pinned, .pinned], laidTests := true, laidLooks := .later }
def FnPathsSoundCardSaid : Prop := Claim7.holds Tryd.pinned (.plain (OpenSpec.ofChange fnPathsSoundSpec)) fnPathsSoundCard

/-- THE TIED CARD OF 'laws.FnPathsThree'. -/
def fnPathsThreeCard : Claim7 := { stood := { row := fnPathsThreeRow, standIns := [], harness := (true, "42d9ef3fae592df4eea3d8221210d0945adba2704941f939b677716cebf2250b"), looks := false }, kinds := [], alts := [], laidByText := true, laidKinds := [.data, .data, .pinned, .pinned], laidTests := true, laidLooks := .later }
def FnPathsThreeCardSaid : Prop := Claim7.holds Tryd.pinned (.plain (OpenSpec.ofChange fnPathsThreeSpec)) fnPathsThreeCard

/-- THE TIED CARD OF 'laws.FnConflict'. -/
def fnConflictCard : Claim7 := { stood := { row := fnConflictRow, standIns := [], harness := (true, "42d9ef3fae592df4eea3d8221210d0945adba2704941f939b677716cebf2250b"), looks := false }, kinds := [], alts := [], laidByText := true, laidKinds := [.data, .data, .pinned, .pinned], laidTests := true, laidLooks := .later }
def FnConflictCardSaid : Prop := Claim7.holds Tryd.pinned (.plain (OpenSpec.ofChange fnConflictSpec)) fnConflictCard

/-- THE TIED CARD OF 'laws.FnNoConflict'. -/
def fnNoConflictCard : Claim7 := { stood := { row := fnNoConflictRow, standIns := [], harness := (true, "42d9ef3fae592df4eea3d8221210d0945adba2704941f939b677716cebf2250b"), looks := false }, kinds := [], alts := [], laidByText := true, laidKinds := [.data, .data, .pinned, .pinned], laidTests := true, laidLooks := .later }
def FnNoConflictCardSaid : Prop := Claim7.holds Tryd.pinned (.plain (OpenSpec.ofChange fnNoConflictSpec)) fnNoConflictCard

/-- THE SECOND FORM's CARD OF 'laws.FnCommon'. -/
def fnCommonUptoCard : Claim7 := { stood := { row := fnCommonUptoRow, standIns := [], harness := (true, "42d9ef3fae592df4eea3d8221210d0945adba2704941f939b677716cebf2250b"), looks := false }, kinds := [], alts := [], laidByText := true, laidKinds := [.data, .data, .pinned, .pinned], laidTests := true, laidLooks := .later }
def FnCommonUptoCardSaid : Prop := Claim7.holds Tryd.pinned (.plain (OpenSpec.upto fnCommonSpec)) fnCommonUptoCard

/-- THE SECOND FORM's CARD OF 'laws.FnBoth'. -/
def fnBothUptoCard : Claim7 := { stood := { row := fnBothUptoRow, standIns := [], harness := (true, "42d9ef3fae592df4eea3d8221210d0945adba2704941f939b677716cebf2250b"), looks := false }, kinds := [], alts := [], laidByText := true, laidKinds := [.data, .data, .pinned, .pinned], laidTests := true, laidLooks := .later }
def FnBothUptoCardSaid : Prop := Claim7.holds Tryd.pinned (.plain (OpenSpec.upto fnBothSpec)) fnBothUptoCard

/-- THE SECOND FORM's CARD OF 'laws.FnMethods'. -/
def fnMethodsUptoCard : Claim7 := { stood := { row := fnMethodsUptoRow, standIns := [], harness := (true, "42d9ef3fae592df4eea3d8221210d0945adba2704941f939b677716cebf2250b"), looks := false }, kinds := [], alts := [], laidByText := true, laidKinds := [.data, .data, .pinned, .pinned], laidTests := true, laidLooks := .later }
def FnMethodsUptoCardSaid : Prop := Claim7.holds Tryd.pinned (.plain (OpenSpec.upto fnMethodsSpec)) fnMethodsUptoCard

/-- THE SECOND FORM's CARD OF 'laws.FnMethodsSound'. -/
def fnMethodsSoundUptoCard : Claim7 := { stood := { row := fnMethodsSoundUptoRow, standIns := [], harness := (true, "42d9ef3fae592df4eea3d8221210d0945adba2704941f939b677716cebf2250b"), looks := false }, kinds := [], alts := [], laidByText := true, laidKinds := [.data, .data, .pinned, .pinned], laidTests := true, laidLooks := .later }
def FnMethodsSoundUptoCardSaid : Prop := Claim7.holds Tryd.pinned (.plain (OpenSpec.upto fnMethodsSoundSpec)) fnMethodsSoundUptoCard

/-- THE SECOND FORM's CARD OF 'laws.FnPaths'. -/
def fnPathsUptoCard : Claim7 := { stood := { row := fnPathsUptoRow, standIns := [], harness := (true, "42d9ef3fae592df4eea3d8221210d0945adba2704941f939b677716cebf2250b"), looks := false }, kinds := [], alts := [], laidByText := true, laidKinds := [.data, .data, .pinned, .pinned], laidTests := true, laidLooks := .later }
def FnPathsUptoCardSaid : Prop := Claim7.holds Tryd.pinned (.plain (OpenSpec.upto fnPathsSpec)) fnPathsUptoCard

/-- THE SECOND FORM's CARD OF 'laws.FnPathsBack'. -/
def fnPathsBackUptoCard : Claim7 := { stood := { row := fnPathsBackUptoRow, standIns := [], harness := (true, "42d9ef3fae592df4eea3d8221210d0945adba2704941f939b677716cebf2250b"), looks := false }, kinds := [], alts := [], laidByText := true, laidKinds := [.data, .data, .pinned, .pinned], laidTests := true, laidLooks := .later }
def FnPathsBackUptoCardSaid : Prop := Claim7.holds Tryd.pinned (.plain (OpenSpec.upto fnPathsBackSpec)) fnPathsBackUptoCard

/-- THE SECOND FORM's CARD OF 'laws.FnPathsSound'. -/
def fnPathsSoundUptoCard : Claim7 := { stood := { row := fnPathsSoundUptoRow, standIns := [], harness := (true, "42d9ef3fae592df4eea3d8221210d0945adba2704941f939b677716cebf2250b"), looks := false }, kinds := [], alts := [], laidByText := true, laidKinds := [.data, .data, .pinned, .pinned], laidTests := true, laidLooks := .later }
def FnPathsSoundUptoCardSaid : Prop := Claim7.holds Tryd.pinned (.plain (OpenSpec.upto fnPathsSoundSpec)) fnPathsSoundUptoCard

/-- THE SECOND FORM's CARD OF 'laws.FnPathsThree'. -/
def fnPathsThreeUptoCard : Claim7 := { stood := { row := fnPathsThreeUptoRow, standIns := [], harness := (true, "42d9ef3fae592df4eea3d8221210d0945adba2704941f939b677716cebf2250b"), looks := false }, kinds := [], alts := [], laidByText := true, laidKinds := [.data, .data, .pinned, .pinned], laidTests := true, laidLooks := .later }
def FnPathsThreeUptoCardSaid : Prop := Claim7.holds Tryd.pinned (.plain (OpenSpec.upto fnPathsThreeSpec)) fnPathsThreeUptoCard

/-- THE SECOND FORM's CARD OF 'laws.FnConflict'. -/
def fnConflictUptoCard : Claim7 := { stood := { row := fnConflictUptoRow, standIns := [], harness := (true, "42d9ef3fae592df4eea3d8221210d0945adba2704941f939b677716cebf2250b"), looks := false }, kinds := [], alts := [], laidByText := true, laidKinds := [.data, .data, .pinned, .pinned], laidTests := true, laidLooks := .later }
def FnConflictUptoCardSaid : Prop := Claim7.holds Tryd.pinned (.plain (OpenSpec.upto fnConflictSpec)) fnConflictUptoCard

/-- THE SECOND FORM's CARD OF 'laws.FnNoConflict'. -/
def fnNoConflictUptoCard : Claim7 := { stood := { row := fnNoConflictUptoRow, standIns := [], harness := (true, "42d9ef3fae592df4eea3d8221210d0945adba2704941f939b677716cebf2250b"), looks := false }, kinds := [], alts := [], laidByText := true, laidKinds := [.data, .data, .pinned, .pinned], laidTests := true, laidLooks := .later }
def FnNoConflictUptoCardSaid : Prop := Claim7.holds Tryd.pinned (.plain (OpenSpec.upto fnNoConflictSpec)) fnNoConflictUptoCard
end Rows
end Go.Proofs.YtkfokofccakagaaDoor
