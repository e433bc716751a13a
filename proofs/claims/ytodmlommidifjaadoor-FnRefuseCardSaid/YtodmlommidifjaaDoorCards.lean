/-
  DERIVED. GIVEN WITH THE SEED: THE CARDS: each row of YtodmlommidifjaaDoorRows.lean that lists a variable, with what it lists TIED to the program's text (the seventh form; the later family's looks); each row that meets fmt, with fmt's text TOLD by the authors' own Lean function (tested against real Go, not proved from fmt's source: count such statements apart). THE CARD IS WHAT COUNTS. Prove the row's statement (the work); the ties are given (YtodmlommidifjaaDoorTie.lean); close each card by the builder's one call (the guide's Derived/Test/ToyasCard.lean, 'card_holds'). Laid BY PROGRAM, IN A SANDBOX (cutbox-door.mjs). By AI agents, Wed Nov 11 2026. No macro, syntax, notation, axiom, sorry.
-/
import Derived.Test.YtodmlommidifjaaDoorRows
import GoSem.ClaimSeven
namespace Go.Proofs.YtodmlommidifjaaDoor
namespace Rows

/-- THE TIED CARD OF 'laws.FnName'. -/
def fnNameCard : Claim7 := { stood := { row := fnNameRow, standIns := [], harness := (true, "b36db3f42dc0da8d7eb15aa209d943d19602bac0543b7ceb99c46118a3280d97"), looks := false }, kinds := [], alts := [], laidByText := true, laidKinds := [.data, .pinned, .pinned], laidTests := true, laidLooks := .later }
def FnNameCardSaid : Prop := Claim7.holds Tryd.pinned (.plain (OpenSpec.ofChange fnNameSpec)) fnNameCard

/-- THE TIED CARD OF 'laws.FnFirst'. -/
def fnFirstCard : Claim7 := { stood := { row := fnFirstRow, standIns := [], harness := (true, "b36db3f42dc0da8d7eb15aa209d943d19602bac0543b7ceb99c46118a3280d97"), looks := false }, kinds := [], alts := [], laidByText := true, laidKinds := [.data], laidTests := true, laidLooks := .later }
def FnFirstCardSaid : Prop := Claim7.holds Tryd.pinned (.plain (OpenSpec.ofChange fnFirstSpec)) fnFirstCard

/-- THE TIED CARD OF 'laws.FnParse'. -/
def fnParseCard : Claim7 := { stood := { row := fnParseRow, standIns := [], harness := (true, "b36db3f42dc0da8d7eb15aa209d943d19602bac0543b7ceb99c46118a3280d97"), looks := false }, kinds := [], alts := [], laidByText := true, laidKinds := [.data, .data, .pinned, .pinned], laidTests := true, laidLooks := .later }
def FnParseCardSaid : Prop := Claim7.holds Tryd.pinned (.plain (OpenSpec.ofChange fnParseSpec)) fnParseCard

/-- THE TIED CARD OF 'laws.FnRefuse'. -/
def fnRefuseCard : Claim7 := { stood := { row := fnRefuseRow, standIns := [], harness := (true, "b36db3f42dc0da8d7eb15aa209d943d19602bac0543b7ceb99c46118a3280d97"), looks := false }, kinds := [], alts := [], laidByText := true, laidKinds := [.data, .data, .pinned, .pinned], laidTests := true, laidLooks := .later }
def FnRefuseCardSaid : Prop := Claim7.holds Tryd.pinned (.plain (OpenSpec.ofChange fnRefuseSpec)) fnRefuseCard

/-- THE TIED CARD OF 'laws.FnWritten'. -/
def fnWrittenCard : Claim7 := { stood := { row := fnWrittenRow, standIns := [], harness := (true, "b36db3f42dc0da8d7eb15aa209d943d19602bac0543b7ceb99c46118a3280d97"), looks := false }, kinds := [], alts := [], laidByText := true, laidKinds := [.data, .data, .pinned, .pinned], laidTests := true, laidLooks := .later }
def FnWrittenCardSaid : Prop := Claim7.holds Tryd.pinned (.plain (OpenSpec.ofChange fnWrittenSpec)) fnWrittenCard

/-- THE SECOND FORM's CARD OF 'laws.FnName'. -/
def fnNameUptoCard : Claim7 := { stood := { row := fnNameUptoRow, standIns := [], harness := (true, "b36db3f42dc0da8d7eb15aa209d943d19602bac0543b7ceb99c46118a3280d97"), looks := false }, kinds := [], alts := [], laidByText := true, laidKinds := [.data, .pinned, .pinned], laidTests := true, laidLooks := .later }
def FnNameUptoCardSaid : Prop := Claim7.holds Tryd.pinned (.plain (OpenSpec.upto fnNameSpec)) fnNameUptoCard

/-- THE SECOND FORM's CARD OF 'laws.FnFirst'. -/
def fnFirstUptoCard : Claim7 := { stood := { row := fnFirstUptoRow, standIns := [], harness := (true, "b36db3f42dc0da8d7eb15aa209d943d19602bac0543b7ceb99c46118a3280d97"), looks := false }, kinds := [], alts := [], laidByText := true, laidKinds := [.data], laidTests := true, laidLooks := .later }
def FnFirstUptoCardSaid : Prop := Claim7.holds Tryd.pinned (.plain (OpenSpec.upto fnFirstSpec)) fnFirstUptoCard

/-- THE SECOND FORM's CARD OF 'laws.FnParse'. -/
def fnParseUptoCard : Claim7 := { stood := { row := fnParseUptoRow, standIns := [], harness := (true, "b36db3f42dc0da8d7eb15aa209d943d19602bac0543b7ceb99c46118a3280d97"), looks := false }, kinds := [], alts := [], laidByText := true, laidKinds := [.data, .data, .pinned, .pinned], laidTests := true, laidLooks := .later }
def FnParseUptoCardSaid : Prop := Claim7.holds Tryd.pinned (.plain (OpenSpec.upto fnParseSpec)) fnParseUptoCard

/-- THE SECOND FORM's CARD OF 'laws.FnRefuse'. -/
def fnRefuseUptoCard : Claim7 := { stood := { row := fnRefuseUptoRow, standIns := [], harness := (true, "b36db3f42dc0da8d7eb15aa209d943d19602bac0543b7ceb99c46118a3280d97"), looks := false }, kinds := [], alts := [], laidByText := true, laidKinds := [.data, .data, .pinned, .pinned], laidTests := true, laidLooks := .later }
def FnRefuseUptoCardSaid : Prop := Claim7.holds Tryd.pinned (.plain (OpenSpec.upto fnRefuseSpec)) fnRefuseUptoCard

/-- THE SECOND FORM's CARD OF 'laws.FnWritten'. -/
def fnWrittenUptoCard : Claim7 := { stood := { row := fnWrittenUptoRow, standIns := [], harness := (true, "b36db3f42dc0da8d7eb15aa209d943d19602bac0543b7ceb99c46118a3280d97"), looks := false }, kinds := [], alts := [], laidByText := true, laidKinds := [.data, .data, .pinned, .pinned], laidTests := true, laidLooks := .later }
def FnWrittenUptoCardSaid : Prop := Claim7.holds Tryd.pinned (.plain (OpenSpec.upto fnWrittenSpec)) fnWrittenUptoCard
end Rows
end Go.Proofs.YtodmlommidifjaaDoor
