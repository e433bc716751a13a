/-
  NARROWER THAN 'FOR EVERY INPUT', by the rows' own cells (each row's printed sentence says how): FnMatchOrder: laid · FnMatchSound: laid · FnPossibly: laid · FnMatch: laid · FnMatchMore: laid.
  DERIVED. THE GIVEN ROWS OF THIS SEAT. 5 by the template 'for every input the law returns true; each argument reads behind the call as it read before'; 0 by the template 'total and deterministic' (their statements: YtgkhfcoieknjeaaDoorTotals.lean).
  GIVEN WITH THE SEED: the statements are not yours to turn. If you find one false, say at which input.
  Laid BY PROGRAM, IN A SANDBOX (cutbox-rows.mjs): the forced cells as the released guide's own fill.sh prints them over the translation a915775d065f4a34… (all of the seat's roots in one cut). By AI agents, Wed Nov 11 2026. No macro, syntax, notation, axiom, sorry.
-/
import Derived.Test.YtgkhfcoieknjeaaDoorChecked
import GoSem.PinnedTables
import GoSem.Claim
import GoSem.ClaimJoined
import GoSem.ClaimMapViews
import Derived.JoinedTies
import Derived.KernelRfl
namespace Go.Proofs.YtgkhfcoieknjeaaDoor
/- THE CELL 'sum', in the pinned program and in every row, IS THE sha256 OF THE DUMP (.gsa) THAT YtgkhfcoieknjeaaDoorProg.lean LOADS. Nothing in Lean hashes anything: it is a label: what it is worth is what the hold of that sum in a sandbox is worth. -/
noncomputable def Tryd.pinned : Pinned := { name := "ytgkhfcoieknjeaadoor", sum := "a915775d065f4a3448ca42376d798a3c3cfe400bd8d41fece6dd4fa00ae2d533", checked := Tryd.checked }
namespace Rows
def none {H : Type} : Left H := { results := [], args := [] }

/- WHAT THE LISTED PACKAGE-LEVEL VARIABLES READ AS WHEN THE CALL BEGINS. Each datum BY PROGRAM (the guide's laid-datum.mjs) off the statement by which the dump's own 'gosem.cut.vars' lays the variable. In a bare row this is a premise. The card (YtgkhfcoieknjeaaDoorCards.lean) ties it to the program's text. -/
def laid_unicode_properties {H : Type} : DataW H := .agg [.lit (.int .u8 1), .lit (.int .u8 1), .lit (.int .u8 1), .lit (.int .u8 1), .lit (.int .u8 1), .lit (.int .u8 1), .lit (.int .u8 1), .lit (.int .u8 1), .lit (.int .u8 1), .lit (.int .u8 1), .lit (.int .u8 1), .lit (.int .u8 1), .lit (.int .u8 1), .lit (.int .u8 1), .lit (.int .u8 1), .lit (.int .u8 1), .lit (.int .u8 1), .lit (.int .u8 1), .lit (.int .u8 1), .lit (.int .u8 1), .lit (.int .u8 1), .lit (.int .u8 1), .lit (.int .u8 1), .lit (.int .u8 1), .lit (.int .u8 1), .lit (.int .u8 1), .lit (.int .u8 1), .lit (.int .u8 1), .lit (.int .u8 1), .lit (.int .u8 1), .lit (.int .u8 1), .lit (.int .u8 1), .lit (.int .u8 144), .lit (.int .u8 130), .lit (.int .u8 130), .lit (.int .u8 130), .lit (.int .u8 136), .lit (.int .u8 130), .lit (.int .u8 130), .lit (.int .u8 130), .lit (.int .u8 130), .lit (.int .u8 130), .lit (.int .u8 130), .lit (.int .u8 136), .lit (.int .u8 130), .lit (.int .u8 130), .lit (.int .u8 130), .lit (.int .u8 130), .lit (.int .u8 132), .lit (.int .u8 132), .lit (.int .u8 132), .lit (.int .u8 132), .lit (.int .u8 132), .lit (.int .u8 132), .lit (.int .u8 132), .lit (.int .u8 132), .lit (.int .u8 132), .lit (.int .u8 132), .lit (.int .u8 130), .lit (.int .u8 130), .lit (.int .u8 136), .lit (.int .u8 136), .lit (.int .u8 136), .lit (.int .u8 130), .lit (.int .u8 130), .lit (.int .u8 160), .lit (.int .u8 160), .lit (.int .u8 160), .lit (.int .u8 160), .lit (.int .u8 160), .lit (.int .u8 160), .lit (.int .u8 160), .lit (.int .u8 160), .lit (.int .u8 160), .lit (.int .u8 160), .lit (.int .u8 160), .lit (.int .u8 160), .lit (.int .u8 160), .lit (.int .u8 160), .lit (.int .u8 160), .lit (.int .u8 160), .lit (.int .u8 160), .lit (.int .u8 160), .lit (.int .u8 160), .lit (.int .u8 160), .lit (.int .u8 160), .lit (.int .u8 160), .lit (.int .u8 160), .lit (.int .u8 160), .lit (.int .u8 160), .lit (.int .u8 160), .lit (.int .u8 130), .lit (.int .u8 130), .lit (.int .u8 130), .lit (.int .u8 136), .lit (.int .u8 130), .lit (.int .u8 136), .lit (.int .u8 192), .lit (.int .u8 192), .lit (.int .u8 192), .lit (.int .u8 192), .lit (.int .u8 192), .lit (.int .u8 192), .lit (.int .u8 192), .lit (.int .u8 192), .lit (.int .u8 192), .lit (.int .u8 192), .lit (.int .u8 192), .lit (.int .u8 192), .lit (.int .u8 192), .lit (.int .u8 192), .lit (.int .u8 192), .lit (.int .u8 192), .lit (.int .u8 192), .lit (.int .u8 192), .lit (.int .u8 192), .lit (.int .u8 192), .lit (.int .u8 192), .lit (.int .u8 192), .lit (.int .u8 192), .lit (.int .u8 192), .lit (.int .u8 192), .lit (.int .u8 192), .lit (.int .u8 130), .lit (.int .u8 136), .lit (.int .u8 130), .lit (.int .u8 136), .lit (.int .u8 1), .lit (.int .u8 1), .lit (.int .u8 1), .lit (.int .u8 1), .lit (.int .u8 1), .lit (.int .u8 1), .lit (.int .u8 1), .lit (.int .u8 1), .lit (.int .u8 1), .lit (.int .u8 1), .lit (.int .u8 1), .lit (.int .u8 1), .lit (.int .u8 1), .lit (.int .u8 1), .lit (.int .u8 1), .lit (.int .u8 1), .lit (.int .u8 1), .lit (.int .u8 1), .lit (.int .u8 1), .lit (.int .u8 1), .lit (.int .u8 1), .lit (.int .u8 1), .lit (.int .u8 1), .lit (.int .u8 1), .lit (.int .u8 1), .lit (.int .u8 1), .lit (.int .u8 1), .lit (.int .u8 1), .lit (.int .u8 1), .lit (.int .u8 1), .lit (.int .u8 1), .lit (.int .u8 1), .lit (.int .u8 1), .lit (.int .u8 16), .lit (.int .u8 130), .lit (.int .u8 136), .lit (.int .u8 136), .lit (.int .u8 136), .lit (.int .u8 136), .lit (.int .u8 136), .lit (.int .u8 130), .lit (.int .u8 136), .lit (.int .u8 136), .lit (.int .u8 224), .lit (.int .u8 130), .lit (.int .u8 136), .lit (.int .u8 0), .lit (.int .u8 136), .lit (.int .u8 136), .lit (.int .u8 136), .lit (.int .u8 136), .lit (.int .u8 132), .lit (.int .u8 132), .lit (.int .u8 136), .lit (.int .u8 192), .lit (.int .u8 130), .lit (.int .u8 130), .lit (.int .u8 136), .lit (.int .u8 132), .lit (.int .u8 224), .lit (.int .u8 130), .lit (.int .u8 132), .lit (.int .u8 132), .lit (.int .u8 132), .lit (.int .u8 130), .lit (.int .u8 160), .lit (.int .u8 160), .lit (.int .u8 160), .lit (.int .u8 160), .lit (.int .u8 160), .lit (.int .u8 160), .lit (.int .u8 160), .lit (.int .u8 160), .lit (.int .u8 160), .lit (.int .u8 160), .lit (.int .u8 160), .lit (.int .u8 160), .lit (.int .u8 160), .lit (.int .u8 160), .lit (.int .u8 160), .lit (.int .u8 160), .lit (.int .u8 160), .lit (.int .u8 160), .lit (.int .u8 160), .lit (.int .u8 160), .lit (.int .u8 160), .lit (.int .u8 160), .lit (.int .u8 160), .lit (.int .u8 136), .lit (.int .u8 160), .lit (.int .u8 160), .lit (.int .u8 160), .lit (.int .u8 160), .lit (.int .u8 160), .lit (.int .u8 160), .lit (.int .u8 160), .lit (.int .u8 192), .lit (.int .u8 192), .lit (.int .u8 192), .lit (.int .u8 192), .lit (.int .u8 192), .lit (.int .u8 192), .lit (.int .u8 192), .lit (.int .u8 192), .lit (.int .u8 192), .lit (.int .u8 192), .lit (.int .u8 192), .lit (.int .u8 192), .lit (.int .u8 192), .lit (.int .u8 192), .lit (.int .u8 192), .lit (.int .u8 192), .lit (.int .u8 192), .lit (.int .u8 192), .lit (.int .u8 192), .lit (.int .u8 192), .lit (.int .u8 192), .lit (.int .u8 192), .lit (.int .u8 192), .lit (.int .u8 192), .lit (.int .u8 136), .lit (.int .u8 192), .lit (.int .u8 192), .lit (.int .u8 192), .lit (.int .u8 192), .lit (.int .u8 192), .lit (.int .u8 192), .lit (.int .u8 192), .lit (.int .u8 192)]
def laid_loop_example_pub_routepatterns_pub_neturl_table {H : Type} : DataW H := .agg [.lit (.int .u8 0), .lit (.int .u8 0), .lit (.int .u8 0), .lit (.int .u8 0), .lit (.int .u8 0), .lit (.int .u8 0), .lit (.int .u8 0), .lit (.int .u8 0), .lit (.int .u8 0), .lit (.int .u8 0), .lit (.int .u8 0), .lit (.int .u8 0), .lit (.int .u8 0), .lit (.int .u8 0), .lit (.int .u8 0), .lit (.int .u8 0), .lit (.int .u8 0), .lit (.int .u8 0), .lit (.int .u8 0), .lit (.int .u8 0), .lit (.int .u8 0), .lit (.int .u8 0), .lit (.int .u8 0), .lit (.int .u8 0), .lit (.int .u8 0), .lit (.int .u8 0), .lit (.int .u8 0), .lit (.int .u8 0), .lit (.int .u8 0), .lit (.int .u8 0), .lit (.int .u8 0), .lit (.int .u8 0), .lit (.int .u8 0), .lit (.int .u8 76), .lit (.int .u8 12), .lit (.int .u8 0), .lit (.int .u8 95), .lit (.int .u8 0), .lit (.int .u8 95), .lit (.int .u8 12), .lit (.int .u8 76), .lit (.int .u8 76), .lit (.int .u8 76), .lit (.int .u8 95), .lit (.int .u8 93), .lit (.int .u8 127), .lit (.int .u8 127), .lit (.int .u8 65), .lit (.int .u8 255), .lit (.int .u8 255), .lit (.int .u8 255), .lit (.int .u8 255), .lit (.int .u8 255), .lit (.int .u8 255), .lit (.int .u8 255), .lit (.int .u8 255), .lit (.int .u8 255), .lit (.int .u8 255), .lit (.int .u8 79), .lit (.int .u8 93), .lit (.int .u8 12), .lit (.int .u8 95), .lit (.int .u8 12), .lit (.int .u8 64), .lit (.int .u8 67), .lit (.int .u8 255), .lit (.int .u8 255), .lit (.int .u8 255), .lit (.int .u8 255), .lit (.int .u8 255), .lit (.int .u8 255), .lit (.int .u8 127), .lit (.int .u8 127), .lit (.int .u8 127), .lit (.int .u8 127), .lit (.int .u8 127), .lit (.int .u8 127), .lit (.int .u8 127), .lit (.int .u8 127), .lit (.int .u8 127), .lit (.int .u8 127), .lit (.int .u8 127), .lit (.int .u8 127), .lit (.int .u8 127), .lit (.int .u8 127), .lit (.int .u8 127), .lit (.int .u8 127), .lit (.int .u8 127), .lit (.int .u8 127), .lit (.int .u8 127), .lit (.int .u8 127), .lit (.int .u8 12), .lit (.int .u8 0), .lit (.int .u8 12), .lit (.int .u8 0), .lit (.int .u8 127), .lit (.int .u8 0), .lit (.int .u8 255), .lit (.int .u8 255), .lit (.int .u8 255), .lit (.int .u8 255), .lit (.int .u8 255), .lit (.int .u8 255), .lit (.int .u8 127), .lit (.int .u8 127), .lit (.int .u8 127), .lit (.int .u8 127), .lit (.int .u8 127), .lit (.int .u8 127), .lit (.int .u8 127), .lit (.int .u8 127), .lit (.int .u8 127), .lit (.int .u8 127), .lit (.int .u8 127), .lit (.int .u8 127), .lit (.int .u8 127), .lit (.int .u8 127), .lit (.int .u8 127), .lit (.int .u8 127), .lit (.int .u8 127), .lit (.int .u8 127), .lit (.int .u8 127), .lit (.int .u8 127), .lit (.int .u8 0), .lit (.int .u8 0), .lit (.int .u8 0), .lit (.int .u8 127), .lit (.int .u8 0), .lit (.int .u8 0), .lit (.int .u8 0), .lit (.int .u8 0), .lit (.int .u8 0), .lit (.int .u8 0), .lit (.int .u8 0), .lit (.int .u8 0), .lit (.int .u8 0), .lit (.int .u8 0), .lit (.int .u8 0), .lit (.int .u8 0), .lit (.int .u8 0), .lit (.int .u8 0), .lit (.int .u8 0), .lit (.int .u8 0), .lit (.int .u8 0), .lit (.int .u8 0), .lit (.int .u8 0), .lit (.int .u8 0), .lit (.int .u8 0), .lit (.int .u8 0), .lit (.int .u8 0), .lit (.int .u8 0), .lit (.int .u8 0), .lit (.int .u8 0), .lit (.int .u8 0), .lit (.int .u8 0), .lit (.int .u8 0), .lit (.int .u8 0), .lit (.int .u8 0), .lit (.int .u8 0), .lit (.int .u8 0), .lit (.int .u8 0), .lit (.int .u8 0), .lit (.int .u8 0), .lit (.int .u8 0), .lit (.int .u8 0), .lit (.int .u8 0), .lit (.int .u8 0), .lit (.int .u8 0), .lit (.int .u8 0), .lit (.int .u8 0), .lit (.int .u8 0), .lit (.int .u8 0), .lit (.int .u8 0), .lit (.int .u8 0), .lit (.int .u8 0), .lit (.int .u8 0), .lit (.int .u8 0), .lit (.int .u8 0), .lit (.int .u8 0), .lit (.int .u8 0), .lit (.int .u8 0), .lit (.int .u8 0), .lit (.int .u8 0), .lit (.int .u8 0), .lit (.int .u8 0), .lit (.int .u8 0), .lit (.int .u8 0), .lit (.int .u8 0), .lit (.int .u8 0), .lit (.int .u8 0), .lit (.int .u8 0), .lit (.int .u8 0), .lit (.int .u8 0), .lit (.int .u8 0), .lit (.int .u8 0), .lit (.int .u8 0), .lit (.int .u8 0), .lit (.int .u8 0), .lit (.int .u8 0), .lit (.int .u8 0), .lit (.int .u8 0), .lit (.int .u8 0), .lit (.int .u8 0), .lit (.int .u8 0), .lit (.int .u8 0), .lit (.int .u8 0), .lit (.int .u8 0), .lit (.int .u8 0), .lit (.int .u8 0), .lit (.int .u8 0), .lit (.int .u8 0), .lit (.int .u8 0), .lit (.int .u8 0), .lit (.int .u8 0), .lit (.int .u8 0), .lit (.int .u8 0), .lit (.int .u8 0), .lit (.int .u8 0), .lit (.int .u8 0), .lit (.int .u8 0), .lit (.int .u8 0), .lit (.int .u8 0), .lit (.int .u8 0), .lit (.int .u8 0), .lit (.int .u8 0), .lit (.int .u8 0), .lit (.int .u8 0), .lit (.int .u8 0), .lit (.int .u8 0), .lit (.int .u8 0), .lit (.int .u8 0), .lit (.int .u8 0), .lit (.int .u8 0), .lit (.int .u8 0), .lit (.int .u8 0), .lit (.int .u8 0), .lit (.int .u8 0), .lit (.int .u8 0), .lit (.int .u8 0), .lit (.int .u8 0), .lit (.int .u8 0), .lit (.int .u8 0), .lit (.int .u8 0), .lit (.int .u8 0), .lit (.int .u8 0), .lit (.int .u8 0), .lit (.int .u8 0), .lit (.int .u8 0), .lit (.int .u8 0), .lit (.int .u8 0), .lit (.int .u8 0), .lit (.int .u8 0), .lit (.int .u8 0), .lit (.int .u8 0), .lit (.int .u8 0), .lit (.int .u8 0)]
/-- One of Go's own tables, pinned by name: the form's constant. -/
def laid_unicode_Digit : DataW Unit := Go.Pinned.digit
/-- One of Go's own tables, pinned by name: the form's constant. -/
def laid_unicode_Letter : DataW Unit := Go.Pinned.letter

/-- 'laws.FnMatchOrder': WHATEVER THE INPUT: true; the input reads as it did. -/
def fnMatchOrderSpec : ChangeSpec := { name := "fnMatchOrder", vars := ["loop.example/pub-routepatterns/pub/neturl.table"], fn := fun _ => fun
  | [d1, d2, g1] => { results := [.lit (.bool true)], args := [d1, d2], vars := [g1] }
  | _ => none }
def fnMatchOrderRow : OpenClaim := { program := "ytgkhfcoieknjeaadoor", sum := "a915775d065f4a3448ca42376d798a3c3cfe400bd8d41fece6dd4fa00ae2d533", func := "loop.example/pub-routepatterns/laws.FnMatchOrder", spec := "fnMatchOrder", inPlace := ["internal/bytealg.IndexByteString", "internal/abi.NoEscape", "internal/bytealg.MakeNoZero"], unfollowed := true, recurses := true, named := ["loop.example/pub-routepatterns/pub/neturl.table", "unicode.properties", "unicode.Letter", "unicode.Digit"], plainKeys := false, apart := false, laid := [("unicode.properties", laid_unicode_properties), ("loop.example/pub-routepatterns/pub/neturl.table", laid_loop_example_pub_routepatterns_pub_neturl_table), ("unicode.Digit", laid_unicode_Digit), ("unicode.Letter", laid_unicode_Letter)] }
def FnMatchOrderSaid : Prop := fnMatchOrderRow.holds Tryd.pinned (OpenSpec.ofChange fnMatchOrderSpec)

/-- ITS FALSE NEIGHBOUR: 'it returns false'. Refute it at one input. -/
def fnMatchOrderWrong : ChangeSpec := { name := "fnMatchOrder", vars := ["loop.example/pub-routepatterns/pub/neturl.table"], fn := fun _ => fun
  | [d1, d2, g1] => { results := [.lit (.bool false)], args := [d1, d2], vars := [g1] }
  | _ => none }
def FnMatchOrderWrongFalsely : Prop := fnMatchOrderRow.holds Tryd.pinned (OpenSpec.ofChange fnMatchOrderWrong)

/-- 'laws.FnMatchSound': WHATEVER THE INPUT: true; the input reads as it did. -/
def fnMatchSoundSpec : ChangeSpec := { name := "fnMatchSound", vars := ["loop.example/pub-routepatterns/pub/neturl.table"], fn := fun _ => fun
  | [d1, d2, g1] => { results := [.lit (.bool true)], args := [d1, d2], vars := [g1] }
  | _ => none }
def fnMatchSoundRow : OpenClaim := { program := "ytgkhfcoieknjeaadoor", sum := "a915775d065f4a3448ca42376d798a3c3cfe400bd8d41fece6dd4fa00ae2d533", func := "loop.example/pub-routepatterns/laws.FnMatchSound", spec := "fnMatchSound", inPlace := ["internal/bytealg.IndexByteString", "internal/abi.NoEscape", "internal/bytealg.MakeNoZero"], unfollowed := true, recurses := true, named := ["loop.example/pub-routepatterns/pub/neturl.table", "unicode.properties", "unicode.Letter", "unicode.Digit"], plainKeys := false, apart := false, laid := [("unicode.properties", laid_unicode_properties), ("loop.example/pub-routepatterns/pub/neturl.table", laid_loop_example_pub_routepatterns_pub_neturl_table), ("unicode.Digit", laid_unicode_Digit), ("unicode.Letter", laid_unicode_Letter)] }
def FnMatchSoundSaid : Prop := fnMatchSoundRow.holds Tryd.pinned (OpenSpec.ofChange fnMatchSoundSpec)

/-- ITS FALSE NEIGHBOUR: 'it returns false'. Refute it at one input. -/
def fnMatchSoundWrong : ChangeSpec := { name := "fnMatchSound", vars := ["loop.example/pub-routepatterns/pub/neturl.table"], fn := fun _ => fun
  | [d1, d2, g1] => { results := [.lit (.bool false)], args := [d1, d2], vars := [g1] }
  | _ => none }
def FnMatchSoundWrongFalsely : Prop := fnMatchSoundRow.holds Tryd.pinned (OpenSpec.ofChange fnMatchSoundWrong)

/-- 'laws.FnPossibly': WHATEVER THE INPUT: true; the input reads as it did. -/
def fnPossiblySpec : ChangeSpec := { name := "fnPossibly", vars := ["loop.example/pub-routepatterns/pub/neturl.table"], fn := fun _ => fun
  | [d1, d2, g1] => { results := [.lit (.bool true)], args := [d1, d2], vars := [g1] }
  | _ => none }
def fnPossiblyRow : OpenClaim := { program := "ytgkhfcoieknjeaadoor", sum := "a915775d065f4a3448ca42376d798a3c3cfe400bd8d41fece6dd4fa00ae2d533", func := "loop.example/pub-routepatterns/laws.FnPossibly", spec := "fnPossibly", inPlace := ["internal/bytealg.IndexByteString", "internal/abi.NoEscape", "internal/bytealg.MakeNoZero"], unfollowed := true, recurses := true, named := ["loop.example/pub-routepatterns/pub/neturl.table", "unicode.properties", "unicode.Letter", "unicode.Digit"], plainKeys := false, apart := false, laid := [("unicode.properties", laid_unicode_properties), ("loop.example/pub-routepatterns/pub/neturl.table", laid_loop_example_pub_routepatterns_pub_neturl_table), ("unicode.Digit", laid_unicode_Digit), ("unicode.Letter", laid_unicode_Letter)] }
def FnPossiblySaid : Prop := fnPossiblyRow.holds Tryd.pinned (OpenSpec.ofChange fnPossiblySpec)

/-- ITS FALSE NEIGHBOUR: 'it returns false'. Refute it at one input. -/
def fnPossiblyWrong : ChangeSpec := { name := "fnPossibly", vars := ["loop.example/pub-routepatterns/pub/neturl.table"], fn := fun _ => fun
  | [d1, d2, g1] => { results := [.lit (.bool false)], args := [d1, d2], vars := [g1] }
  | _ => none }
def FnPossiblyWrongFalsely : Prop := fnPossiblyRow.holds Tryd.pinned (OpenSpec.ofChange fnPossiblyWrong)

/-- 'laws.FnMatch': WHATEVER THE INPUT: true; the input reads as it did. -/
def fnMatchSpec : ChangeSpec := { name := "fnMatch", vars := ["loop.example/pub-routepatterns/pub/neturl.table"], fn := fun _ => fun
  | [d1, d2, g1] => { results := [.lit (.bool true)], args := [d1, d2], vars := [g1] }
  | _ => none }
def fnMatchRow : OpenClaim := { program := "ytgkhfcoieknjeaadoor", sum := "a915775d065f4a3448ca42376d798a3c3cfe400bd8d41fece6dd4fa00ae2d533", func := "loop.example/pub-routepatterns/laws.FnMatch", spec := "fnMatch", inPlace := ["internal/bytealg.IndexByteString", "internal/abi.NoEscape", "internal/bytealg.MakeNoZero"], unfollowed := true, recurses := true, named := ["loop.example/pub-routepatterns/pub/neturl.table", "unicode.properties", "unicode.Letter", "unicode.Digit"], plainKeys := false, apart := false, laid := [("unicode.properties", laid_unicode_properties), ("loop.example/pub-routepatterns/pub/neturl.table", laid_loop_example_pub_routepatterns_pub_neturl_table), ("unicode.Digit", laid_unicode_Digit), ("unicode.Letter", laid_unicode_Letter)] }
def FnMatchSaid : Prop := fnMatchRow.holds Tryd.pinned (OpenSpec.ofChange fnMatchSpec)

/-- ITS FALSE NEIGHBOUR: 'it returns false'. Refute it at one input. -/
def fnMatchWrong : ChangeSpec := { name := "fnMatch", vars := ["loop.example/pub-routepatterns/pub/neturl.table"], fn := fun _ => fun
  | [d1, d2, g1] => { results := [.lit (.bool false)], args := [d1, d2], vars := [g1] }
  | _ => none }
def FnMatchWrongFalsely : Prop := fnMatchRow.holds Tryd.pinned (OpenSpec.ofChange fnMatchWrong)

/-- 'laws.FnMatchMore': WHATEVER THE INPUT: true; the input reads as it did. -/
def fnMatchMoreSpec : ChangeSpec := { name := "fnMatchMore", vars := ["loop.example/pub-routepatterns/pub/neturl.table"], fn := fun _ => fun
  | [d1, d2, d3, g1] => { results := [.lit (.bool true)], args := [d1, d2, d3], vars := [g1] }
  | _ => none }
def fnMatchMoreRow : OpenClaim := { program := "ytgkhfcoieknjeaadoor", sum := "a915775d065f4a3448ca42376d798a3c3cfe400bd8d41fece6dd4fa00ae2d533", func := "loop.example/pub-routepatterns/laws.FnMatchMore", spec := "fnMatchMore", inPlace := ["internal/bytealg.IndexByteString", "internal/abi.NoEscape", "internal/bytealg.MakeNoZero"], unfollowed := true, recurses := true, named := ["loop.example/pub-routepatterns/pub/neturl.table", "unicode.properties", "unicode.Letter", "unicode.Digit"], plainKeys := false, apart := false, laid := [("unicode.properties", laid_unicode_properties), ("loop.example/pub-routepatterns/pub/neturl.table", laid_loop_example_pub_routepatterns_pub_neturl_table), ("unicode.Digit", laid_unicode_Digit), ("unicode.Letter", laid_unicode_Letter)] }
def FnMatchMoreSaid : Prop := fnMatchMoreRow.holds Tryd.pinned (OpenSpec.ofChange fnMatchMoreSpec)

/-- ITS FALSE NEIGHBOUR: 'it returns false'. Refute it at one input. -/
def fnMatchMoreWrong : ChangeSpec := { name := "fnMatchMore", vars := ["loop.example/pub-routepatterns/pub/neturl.table"], fn := fun _ => fun
  | [d1, d2, d3, g1] => { results := [.lit (.bool false)], args := [d1, d2, d3], vars := [g1] }
  | _ => none }
def FnMatchMoreWrongFalsely : Prop := fnMatchMoreRow.holds Tryd.pinned (OpenSpec.ofChange fnMatchMoreWrong)

/- THE SECOND FORM. 'bulk': how many values and letters a reading holds, each counted each time it is reached (what is shared counts as often as it is met; a slice's spare places count too). A statement '..UptoSaid' is the law's where the arguments, and the package variables that the reading takes, are together of bulk at most 1048576: NARROWER than '..Said'. Prove '..Said' where nothing that the law and all that it calls make is longer than what came in: it says more and counts as full. Else prove '..UptoSaid'. A law counts once. -/
mutual
def uptoBulk {H : Type} : DataW H → Nat
  | .lit (.string bytes) => bytes.length + 1
  | .lit _ => 1
  | .nil => 1
  | .ptr d => uptoBulk d + 1
  | .slice elems spare => uptoBulkAll elems + uptoBulkAll spare + 1
  | .agg parts => uptoBulkAll parts + 1
  | .iface _ d => uptoBulk d + 1
  | .map entries => uptoBulkEntries entries + 1
  | .held _ => 1
def uptoBulkAll {H : Type} : List (DataW H) → Nat
  | [] => 0
  | d :: r => uptoBulk d + uptoBulkAll r
def uptoBulkEntries {H : Type} : List (Lit × DataW H) → Nat
  | [] => 0
  | x :: r => uptoBulkEntry x + uptoBulkEntries r
def uptoBulkEntry {H : Type} : Lit × DataW H → Nat
  | (.string bytes, d) => bytes.length + uptoBulk d + 1
  | (_, d) => uptoBulk d + 1
 end
def uptoSmall : (H : Type) → List (DataW H) → Bool := fun _ ds => decide (uptoBulkAll ds ≤ 1048576)
def OpenSpec.upto (s : _root_.Go.ChangeSpec) : _root_.Go.OpenSpec := { _root_.Go.OpenSpec.ofChange s with cond := some uptoSmall }

/-- 'laws.FnMatchOrder', WHERE WHAT IT READS IS OF BULK AT MOST 1048576: true; the input reads as it did. -/
def fnMatchOrderUptoRow : OpenClaim := { program := "ytgkhfcoieknjeaadoor", sum := "a915775d065f4a3448ca42376d798a3c3cfe400bd8d41fece6dd4fa00ae2d533", func := "loop.example/pub-routepatterns/laws.FnMatchOrder", spec := "fnMatchOrder", inPlace := ["internal/bytealg.IndexByteString", "internal/abi.NoEscape", "internal/bytealg.MakeNoZero"], unfollowed := true, recurses := true, named := ["loop.example/pub-routepatterns/pub/neturl.table", "unicode.properties", "unicode.Letter", "unicode.Digit"], plainKeys := false, apart := false, laid := [("unicode.properties", laid_unicode_properties), ("loop.example/pub-routepatterns/pub/neturl.table", laid_loop_example_pub_routepatterns_pub_neturl_table), ("unicode.Digit", laid_unicode_Digit), ("unicode.Letter", laid_unicode_Letter)], narrowed := true }
def FnMatchOrderUptoSaid : Prop := fnMatchOrderUptoRow.holds Tryd.pinned (OpenSpec.upto fnMatchOrderSpec)

/-- 'laws.FnMatchSound', WHERE WHAT IT READS IS OF BULK AT MOST 1048576: true; the input reads as it did. -/
def fnMatchSoundUptoRow : OpenClaim := { program := "ytgkhfcoieknjeaadoor", sum := "a915775d065f4a3448ca42376d798a3c3cfe400bd8d41fece6dd4fa00ae2d533", func := "loop.example/pub-routepatterns/laws.FnMatchSound", spec := "fnMatchSound", inPlace := ["internal/bytealg.IndexByteString", "internal/abi.NoEscape", "internal/bytealg.MakeNoZero"], unfollowed := true, recurses := true, named := ["loop.example/pub-routepatterns/pub/neturl.table", "unicode.properties", "unicode.Letter", "unicode.Digit"], plainKeys := false, apart := false, laid := [("unicode.properties", laid_unicode_properties), ("loop.example/pub-routepatterns/pub/neturl.table", laid_loop_example_pub_routepatterns_pub_neturl_table), ("unicode.Digit", laid_unicode_Digit), ("unicode.Letter", laid_unicode_Letter)], narrowed := true }
def FnMatchSoundUptoSaid : Prop := fnMatchSoundUptoRow.holds Tryd.pinned (OpenSpec.upto fnMatchSoundSpec)

/-- 'laws.FnPossibly', WHERE WHAT IT READS IS OF BULK AT MOST 1048576: true; the input reads as it did. -/
def fnPossiblyUptoRow : OpenClaim := { program := "ytgkhfcoieknjeaadoor", sum := "a915775d065f4a3448ca42376d798a3c3cfe400bd8d41fece6dd4fa00ae2d533", func := "loop.example/pub-routepatterns/laws.FnPossibly", spec := "fnPossibly", inPlace := ["internal/bytealg.IndexByteString", "internal/abi.NoEscape", "internal/bytealg.MakeNoZero"], unfollowed := true, recurses := true, named := ["loop.example/pub-routepatterns/pub/neturl.table", "unicode.properties", "unicode.Letter", "unicode.Digit"], plainKeys := false, apart := false, laid := [("unicode.properties", laid_unicode_properties), ("loop.example/pub-routepatterns/pub/neturl.table", laid_loop_example_pub_routepatterns_pub_neturl_table), ("unicode.Digit", laid_unicode_Digit), ("unicode.Letter", laid_unicode_Letter)], narrowed := true }
def FnPossiblyUptoSaid : Prop := fnPossiblyUptoRow.holds Tryd.pinned (OpenSpec.upto fnPossiblySpec)

/-- 'laws.FnMatch', WHERE WHAT IT READS IS OF BULK AT MOST 1048576: true; the input reads as it did. -/
def fnMatchUptoRow : OpenClaim := { program := "ytgkhfcoieknjeaadoor", sum := "a915775d065f4a3448ca42376d798a3c3cfe400bd8d41fece6dd4fa00ae2d533", func := "loop.example/pub-routepatterns/laws.FnMatch", spec := "fnMatch", inPlace := ["internal/bytealg.IndexByteString", "internal/abi.NoEscape", "internal/bytealg.MakeNoZero"], unfollowed := true, recurses := true, named := ["loop.example/pub-routepatterns/pub/neturl.table", "unicode.properties", "unicode.Letter", "unicode.Digit"], plainKeys := false, apart := false, laid := [("unicode.properties", laid_unicode_properties), ("loop.example/pub-routepatterns/pub/neturl.table", laid_loop_example_pub_routepatterns_pub_neturl_table), ("unicode.Digit", laid_unicode_Digit), ("unicode.Letter", laid_unicode_Letter)], narrowed := true }
def FnMatchUptoSaid : Prop := fnMatchUptoRow.holds Tryd.pinned (OpenSpec.upto fnMatchSpec)

/-- 'laws.FnMatchMore', WHERE WHAT IT READS IS OF BULK AT MOST 1048576: true; the input reads as it did. -/
def fnMatchMoreUptoRow : OpenClaim := { program := "ytgkhfcoieknjeaadoor", sum := "a915775d065f4a3448ca42376d798a3c3cfe400bd8d41fece6dd4fa00ae2d533", func := "loop.example/pub-routepatterns/laws.FnMatchMore", spec := "fnMatchMore", inPlace := ["internal/bytealg.IndexByteString", "internal/abi.NoEscape", "internal/bytealg.MakeNoZero"], unfollowed := true, recurses := true, named := ["loop.example/pub-routepatterns/pub/neturl.table", "unicode.properties", "unicode.Letter", "unicode.Digit"], plainKeys := false, apart := false, laid := [("unicode.properties", laid_unicode_properties), ("loop.example/pub-routepatterns/pub/neturl.table", laid_loop_example_pub_routepatterns_pub_neturl_table), ("unicode.Digit", laid_unicode_Digit), ("unicode.Letter", laid_unicode_Letter)], narrowed := true }
def FnMatchMoreUptoSaid : Prop := fnMatchMoreUptoRow.holds Tryd.pinned (OpenSpec.upto fnMatchMoreSpec)

end Rows
end Go.Proofs.YtgkhfcoieknjeaaDoor
