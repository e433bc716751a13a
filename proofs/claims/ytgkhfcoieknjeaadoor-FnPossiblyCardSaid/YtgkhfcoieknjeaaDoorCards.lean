/-
  DERIVED. GIVEN WITH THE SEED: THE CARDS: each row of YtgkhfcoieknjeaaDoorRows.lean that lists a variable, with what it lists TIED to the program's text (the seventh form; the later family's looks); each row that meets fmt, with fmt's text TOLD by the authors' own Lean function (tested against real Go, not proved from fmt's source: count such statements apart). THE CARD IS WHAT COUNTS. Prove the row's statement (the work); the ties are given (YtgkhfcoieknjeaaDoorTie.lean); close each card by the builder's one call (the guide's Derived/Test/ToyasCard.lean, 'card_holds'). Laid BY PROGRAM, IN A SANDBOX (cutbox-door.mjs). By AI agents, Wed Nov 11 2026. No macro, syntax, notation, axiom, sorry.
-/
import Derived.Test.YtgkhfcoieknjeaaDoorRows
import GoSem.ClaimSeven
namespace Go.Proofs.YtgkhfcoieknjeaaDoor
namespace Rows

/-- THE TIED CARD OF 'laws.FnMatchOrder'. -/
def fnMatchOrderCard : Claim7 := { stood := { row := fnMatchOrderRow, standIns := [], harness := (true, "2124a92eb5198c840c8a303b64169308e003230fe97a893e570f3176fed10549"), looks := false }, kinds := [], alts := [], laidByText := true, laidKinds := [.data, .data, .pinned, .pinned], laidTests := true, laidLooks := .later }
def FnMatchOrderCardSaid : Prop := Claim7.holds Tryd.pinned (.plain (OpenSpec.ofChange fnMatchOrderSpec)) fnMatchOrderCard

/-- THE TIED CARD OF 'laws.FnMatchSound'. -/
def fnMatchSoundCard : Claim7 := { stood := { row := fnMatchSoundRow, standIns := [], harness := (true, "2124a92eb5198c840c8a303b64169308e003230fe97a893e570f3176fed10549"), looks := false }, kinds := [], alts := [], laidByText := true, laidKinds := [.data, .data, .pinned, .pinned], laidTests := true, laidLooks := .later }
def FnMatchSoundCardSaid : Prop := Claim7.holds Tryd.pinned (.plain (OpenSpec.ofChange fnMatchSoundSpec)) fnMatchSoundCard

/-- THE TIED CARD OF 'laws.FnPossibly'. -/
def fnPossiblyCard : Claim7 := { stood := { row := fnPossiblyRow, standIns := [], harness := (true, "2124a92eb5198c840c8a303b64169308e003230fe97a893e570f3176fed10549"), looks := false }, kinds := [], alts := [], laidByText := true, laidKinds := [.data, .data, .pinned, .pinned], laidTests := true, laidLooks := .later }
def FnPossiblyCardSaid : Prop := Claim7.holds Tryd.pinned (.plain (OpenSpec.ofChange fnPossiblySpec)) fnPossiblyCard

/-- THE TIED CARD OF 'laws.FnMatch'. -/
def fnMatchCard : Claim7 := { stood := { row := fnMatchRow, standIns := [], harness := (true, "2124a92eb5198c840c8a303b64169308e003230fe97a893e570f3176fed10549"), looks := false }, kinds := [], alts := [], laidByText := true, laidKinds := [.data, .data, .pinned, .pinned], laidTests := true, laidLooks := .later }
def FnMatchCardSaid : Prop := Claim7.holds Tryd.pinned (.plain (OpenSpec.ofChange fnMatchSpec)) fnMatchCard

/-- THE TIED CARD OF 'laws.FnMatchMore'. -/
def fnMatchMoreCard : Claim7 := { stood := { row := fnMatchMoreRow, standIns := [], harness := (true, "2124a92eb5198c840c8a303b64169308e003230fe97a893e570f3176fed10549"), looks := false }, kinds := [], alts := [], laidByText := true, laidKinds := [.data, .data, .pinned, .pinned], laidTests := true, laidLooks := .later }
def FnMatchMoreCardSaid : Prop := Claim7.holds Tryd.pinned (.plain (OpenSpec.ofChange fnMatchMoreSpec)) fnMatchMoreCard

/-- THE SECOND FORM's CARD OF 'laws.FnMatchOrder'. -/
def fnMatchOrderUptoCard : Claim7 := { stood := { row := fnMatchOrderUptoRow, standIns := [], harness := (true, "2124a92eb5198c840c8a303b64169308e003230fe97a893e570f3176fed10549"), looks := false }, kinds := [], alts := [], laidByText := true, laidKinds := [.data, .data, .pinned, .pinned], laidTests := true, laidLooks := .later }
def FnMatchOrderUptoCardSaid : Prop := Claim7.holds Tryd.pinned (.plain (OpenSpec.upto fnMatchOrderSpec)) fnMatchOrderUptoCard

/-- THE SECOND FORM's CARD OF 'laws.FnMatchSound'. -/
def fnMatchSoundUptoCard : Claim7 := { stood := { row := fnMatchSoundUptoRow, standIns := [], harness := (true, "2124a92eb5198c840c8a303b64169308e003230fe97a893e570f3176fed10549"), looks := false }, kinds := [], alts := [], laidByText := true, laidKinds := [.data, .data, .pinned, .pinned], laidTests := true, laidLooks := .later }
def FnMatchSoundUptoCardSaid : Prop := Claim7.holds Tryd.pinned (.plain (OpenSpec.upto fnMatchSoundSpec)) fnMatchSoundUptoCard

/-- THE SECOND FORM's CARD OF 'laws.FnPossibly'. -/
def fnPossiblyUptoCard : Claim7 := { stood := { row := fnPossiblyUptoRow, standIns := [], harness := (true, "2124a92eb5198c840c8a303b64169308e003230fe97a893e570f3176fed10549"), looks := false }, kinds := [], alts := [], laidByText := true, laidKinds := [.data, .data, .pinned, .pinned], laidTests := true, laidLooks := .later }
def FnPossiblyUptoCardSaid : Prop := Claim7.holds Tryd.pinned (.plain (OpenSpec.upto fnPossiblySpec)) fnPossiblyUptoCard

/-- THE SECOND FORM's CARD OF 'laws.FnMatch'. -/
def fnMatchUptoCard : Claim7 := { stood := { row := fnMatchUptoRow, standIns := [], harness := (true, "2124a92eb5198c840c8a303b64169308e003230fe97a893e570f3176fed10549"), looks := false }, kinds := [], alts := [], laidByText := true, laidKinds := [.data, .data, .pinned, .pinned], laidTests := true, laidLooks := .later }
def FnMatchUptoCardSaid : Prop := Claim7.holds Tryd.pinned (.plain (OpenSpec.upto fnMatchSpec)) fnMatchUptoCard

/-- THE SECOND FORM's CARD OF 'laws.FnMatchMore'. -/
def fnMatchMoreUptoCard : Claim7 := { stood := { row := fnMatchMoreUptoRow, standIns := [], harness := (true, "2124a92eb5198c840c8a303b64169308e003230fe97a893e570f3176fed10549"), looks := false }, kinds := [], alts := [], laidByText := true, laidKinds := [.data, .data, .pinned, .pinned], laidTests := true, laidLooks := .later }
def FnMatchMoreUptoCardSaid : Prop := Claim7.holds Tryd.pinned (.plain (OpenSpec.upto fnMatchMoreSpec)) fnMatchMoreUptoCard
end Rows
end Go.Proofs.YtgkhfcoieknjeaaDoor
