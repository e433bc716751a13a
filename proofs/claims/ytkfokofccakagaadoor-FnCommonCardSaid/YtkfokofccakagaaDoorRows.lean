/-
  NARROWER THAN 'FOR EVERY INPUT', by the rows' own cells (each row's printed sentence says how): FnCommon: laid · FnBoth: laid · FnMethods: laid · FnMethodsSound: laid · FnPaths: laid · FnPathsBack: laid · FnPathsSound: laid · FnPathsThree: laid · FnConflict: laid · FnNoConflict: laid.
  DERIVED. THE GIVEN ROWS OF THIS SEAT. 10 by the template 'for every input the law returns true; each argument reads behind the call as it read before'; 0 by the template 'total and deterministic' (their statements: YtkfokofccakagaaDoorTotals.lean).
  GIVEN WITH THE SEED: the statements are not yours to turn. If you find one false, say at which input.
  Laid BY PROGRAM, IN A SANDBOX (cutbox-rows.mjs): the forced cells as the released guide's own fill.sh prints them over the translation 63da7fe4c2cc37e5… (all of the seat's roots in one cut). By AI agents, Wed Nov 11 2026. No macro, syntax, notation, axiom, sorry.
-/
import Derived.Test.YtkfokofccakagaaDoorChecked
import GoSem.PinnedTables
import GoSem.Claim
import GoSem.ClaimJoined
import GoSem.ClaimMapViews
import Derived.JoinedTies
import Derived.KernelRfl
namespace Go.Proofs.YtkfokofccakagaaDoor
/- THE CELL 'sum', in the pinned program and in every row, IS THE sha256 OF THE DUMP (.gsa) THAT YtkfokofccakagaaDoorProg.lean LOADS. Nothing in Lean hashes anything: it is a label: what it is worth is what the hold of that sum in a sandbox is worth. -/
noncomputable def Tryd.pinned : Pinned := { name := "ytkfokofccakagaadoor", sum := "63da7fe4c2cc37e59d27d2d4d712048f381835fb5418ddb5b98cd430596b65d4", checked := Tryd.checked }
namespace Rows
def none {H : Type} : Left H := { results := [], args := [] }

/- WHAT THE LISTED PACKAGE-LEVEL VARIABLES READ AS WHEN THE CALL BEGINS. Each datum BY PROGRAM (the guide's laid-datum.mjs) off the statement by which the dump's own 'gosem.cut.vars' lays the variable. In a bare row this is a premise. The card (YtkfokofccakagaaDoorCards.lean) ties it to the program's text. -/
def laid_unicode_properties {H : Type} : DataW H := .agg [.lit (.int .u8 1), .lit (.int .u8 1), .lit (.int .u8 1), .lit (.int .u8 1), .lit (.int .u8 1), .lit (.int .u8 1), .lit (.int .u8 1), .lit (.int .u8 1), .lit (.int .u8 1), .lit (.int .u8 1), .lit (.int .u8 1), .lit (.int .u8 1), .lit (.int .u8 1), .lit (.int .u8 1), .lit (.int .u8 1), .lit (.int .u8 1), .lit (.int .u8 1), .lit (.int .u8 1), .lit (.int .u8 1), .lit (.int .u8 1), .lit (.int .u8 1), .lit (.int .u8 1), .lit (.int .u8 1), .lit (.int .u8 1), .lit (.int .u8 1), .lit (.int .u8 1), .lit (.int .u8 1), .lit (.int .u8 1), .lit (.int .u8 1), .lit (.int .u8 1), .lit (.int .u8 1), .lit (.int .u8 1), .lit (.int .u8 144), .lit (.int .u8 130), .lit (.int .u8 130), .lit (.int .u8 130), .lit (.int .u8 136), .lit (.int .u8 130), .lit (.int .u8 130), .lit (.int .u8 130), .lit (.int .u8 130), .lit (.int .u8 130), .lit (.int .u8 130), .lit (.int .u8 136), .lit (.int .u8 130), .lit (.int .u8 130), .lit (.int .u8 130), .lit (.int .u8 130), .lit (.int .u8 132), .lit (.int .u8 132), .lit (.int .u8 132), .lit (.int .u8 132), .lit (.int .u8 132), .lit (.int .u8 132), .lit (.int .u8 132), .lit (.int .u8 132), .lit (.int .u8 132), .lit (.int .u8 132), .lit (.int .u8 130), .lit (.int .u8 130), .lit (.int .u8 136), .lit (.int .u8 136), .lit (.int .u8 136), .lit (.int .u8 130), .lit (.int .u8 130), .lit (.int .u8 160), .lit (.int .u8 160), .lit (.int .u8 160), .lit (.int .u8 160), .lit (.int .u8 160), .lit (.int .u8 160), .lit (.int .u8 160), .lit (.int .u8 160), .lit (.int .u8 160), .lit (.int .u8 160), .lit (.int .u8 160), .lit (.int .u8 160), .lit (.int .u8 160), .lit (.int .u8 160), .lit (.int .u8 160), .lit (.int .u8 160), .lit (.int .u8 160), .lit (.int .u8 160), .lit (.int .u8 160), .lit (.int .u8 160), .lit (.int .u8 160), .lit (.int .u8 160), .lit (.int .u8 160), .lit (.int .u8 160), .lit (.int .u8 160), .lit (.int .u8 160), .lit (.int .u8 130), .lit (.int .u8 130), .lit (.int .u8 130), .lit (.int .u8 136), .lit (.int .u8 130), .lit (.int .u8 136), .lit (.int .u8 192), .lit (.int .u8 192), .lit (.int .u8 192), .lit (.int .u8 192), .lit (.int .u8 192), .lit (.int .u8 192), .lit (.int .u8 192), .lit (.int .u8 192), .lit (.int .u8 192), .lit (.int .u8 192), .lit (.int .u8 192), .lit (.int .u8 192), .lit (.int .u8 192), .lit (.int .u8 192), .lit (.int .u8 192), .lit (.int .u8 192), .lit (.int .u8 192), .lit (.int .u8 192), .lit (.int .u8 192), .lit (.int .u8 192), .lit (.int .u8 192), .lit (.int .u8 192), .lit (.int .u8 192), .lit (.int .u8 192), .lit (.int .u8 192), .lit (.int .u8 192), .lit (.int .u8 130), .lit (.int .u8 136), .lit (.int .u8 130), .lit (.int .u8 136), .lit (.int .u8 1), .lit (.int .u8 1), .lit (.int .u8 1), .lit (.int .u8 1), .lit (.int .u8 1), .lit (.int .u8 1), .lit (.int .u8 1), .lit (.int .u8 1), .lit (.int .u8 1), .lit (.int .u8 1), .lit (.int .u8 1), .lit (.int .u8 1), .lit (.int .u8 1), .lit (.int .u8 1), .lit (.int .u8 1), .lit (.int .u8 1), .lit (.int .u8 1), .lit (.int .u8 1), .lit (.int .u8 1), .lit (.int .u8 1), .lit (.int .u8 1), .lit (.int .u8 1), .lit (.int .u8 1), .lit (.int .u8 1), .lit (.int .u8 1), .lit (.int .u8 1), .lit (.int .u8 1), .lit (.int .u8 1), .lit (.int .u8 1), .lit (.int .u8 1), .lit (.int .u8 1), .lit (.int .u8 1), .lit (.int .u8 1), .lit (.int .u8 16), .lit (.int .u8 130), .lit (.int .u8 136), .lit (.int .u8 136), .lit (.int .u8 136), .lit (.int .u8 136), .lit (.int .u8 136), .lit (.int .u8 130), .lit (.int .u8 136), .lit (.int .u8 136), .lit (.int .u8 224), .lit (.int .u8 130), .lit (.int .u8 136), .lit (.int .u8 0), .lit (.int .u8 136), .lit (.int .u8 136), .lit (.int .u8 136), .lit (.int .u8 136), .lit (.int .u8 132), .lit (.int .u8 132), .lit (.int .u8 136), .lit (.int .u8 192), .lit (.int .u8 130), .lit (.int .u8 130), .lit (.int .u8 136), .lit (.int .u8 132), .lit (.int .u8 224), .lit (.int .u8 130), .lit (.int .u8 132), .lit (.int .u8 132), .lit (.int .u8 132), .lit (.int .u8 130), .lit (.int .u8 160), .lit (.int .u8 160), .lit (.int .u8 160), .lit (.int .u8 160), .lit (.int .u8 160), .lit (.int .u8 160), .lit (.int .u8 160), .lit (.int .u8 160), .lit (.int .u8 160), .lit (.int .u8 160), .lit (.int .u8 160), .lit (.int .u8 160), .lit (.int .u8 160), .lit (.int .u8 160), .lit (.int .u8 160), .lit (.int .u8 160), .lit (.int .u8 160), .lit (.int .u8 160), .lit (.int .u8 160), .lit (.int .u8 160), .lit (.int .u8 160), .lit (.int .u8 160), .lit (.int .u8 160), .lit (.int .u8 136), .lit (.int .u8 160), .lit (.int .u8 160), .lit (.int .u8 160), .lit (.int .u8 160), .lit (.int .u8 160), .lit (.int .u8 160), .lit (.int .u8 160), .lit (.int .u8 192), .lit (.int .u8 192), .lit (.int .u8 192), .lit (.int .u8 192), .lit (.int .u8 192), .lit (.int .u8 192), .lit (.int .u8 192), .lit (.int .u8 192), .lit (.int .u8 192), .lit (.int .u8 192), .lit (.int .u8 192), .lit (.int .u8 192), .lit (.int .u8 192), .lit (.int .u8 192), .lit (.int .u8 192), .lit (.int .u8 192), .lit (.int .u8 192), .lit (.int .u8 192), .lit (.int .u8 192), .lit (.int .u8 192), .lit (.int .u8 192), .lit (.int .u8 192), .lit (.int .u8 192), .lit (.int .u8 192), .lit (.int .u8 136), .lit (.int .u8 192), .lit (.int .u8 192), .lit (.int .u8 192), .lit (.int .u8 192), .lit (.int .u8 192), .lit (.int .u8 192), .lit (.int .u8 192), .lit (.int .u8 192)]
def laid_loop_example_pub_routepatterns_pub_neturl_table {H : Type} : DataW H := .agg [.lit (.int .u8 0), .lit (.int .u8 0), .lit (.int .u8 0), .lit (.int .u8 0), .lit (.int .u8 0), .lit (.int .u8 0), .lit (.int .u8 0), .lit (.int .u8 0), .lit (.int .u8 0), .lit (.int .u8 0), .lit (.int .u8 0), .lit (.int .u8 0), .lit (.int .u8 0), .lit (.int .u8 0), .lit (.int .u8 0), .lit (.int .u8 0), .lit (.int .u8 0), .lit (.int .u8 0), .lit (.int .u8 0), .lit (.int .u8 0), .lit (.int .u8 0), .lit (.int .u8 0), .lit (.int .u8 0), .lit (.int .u8 0), .lit (.int .u8 0), .lit (.int .u8 0), .lit (.int .u8 0), .lit (.int .u8 0), .lit (.int .u8 0), .lit (.int .u8 0), .lit (.int .u8 0), .lit (.int .u8 0), .lit (.int .u8 0), .lit (.int .u8 76), .lit (.int .u8 12), .lit (.int .u8 0), .lit (.int .u8 95), .lit (.int .u8 0), .lit (.int .u8 95), .lit (.int .u8 12), .lit (.int .u8 76), .lit (.int .u8 76), .lit (.int .u8 76), .lit (.int .u8 95), .lit (.int .u8 93), .lit (.int .u8 127), .lit (.int .u8 127), .lit (.int .u8 65), .lit (.int .u8 255), .lit (.int .u8 255), .lit (.int .u8 255), .lit (.int .u8 255), .lit (.int .u8 255), .lit (.int .u8 255), .lit (.int .u8 255), .lit (.int .u8 255), .lit (.int .u8 255), .lit (.int .u8 255), .lit (.int .u8 79), .lit (.int .u8 93), .lit (.int .u8 12), .lit (.int .u8 95), .lit (.int .u8 12), .lit (.int .u8 64), .lit (.int .u8 67), .lit (.int .u8 255), .lit (.int .u8 255), .lit (.int .u8 255), .lit (.int .u8 255), .lit (.int .u8 255), .lit (.int .u8 255), .lit (.int .u8 127), .lit (.int .u8 127), .lit (.int .u8 127), .lit (.int .u8 127), .lit (.int .u8 127), .lit (.int .u8 127), .lit (.int .u8 127), .lit (.int .u8 127), .lit (.int .u8 127), .lit (.int .u8 127), .lit (.int .u8 127), .lit (.int .u8 127), .lit (.int .u8 127), .lit (.int .u8 127), .lit (.int .u8 127), .lit (.int .u8 127), .lit (.int .u8 127), .lit (.int .u8 127), .lit (.int .u8 127), .lit (.int .u8 127), .lit (.int .u8 12), .lit (.int .u8 0), .lit (.int .u8 12), .lit (.int .u8 0), .lit (.int .u8 127), .lit (.int .u8 0), .lit (.int .u8 255), .lit (.int .u8 255), .lit (.int .u8 255), .lit (.int .u8 255), .lit (.int .u8 255), .lit (.int .u8 255), .lit (.int .u8 127), .lit (.int .u8 127), .lit (.int .u8 127), .lit (.int .u8 127), .lit (.int .u8 127), .lit (.int .u8 127), .lit (.int .u8 127), .lit (.int .u8 127), .lit (.int .u8 127), .lit (.int .u8 127), .lit (.int .u8 127), .lit (.int .u8 127), .lit (.int .u8 127), .lit (.int .u8 127), .lit (.int .u8 127), .lit (.int .u8 127), .lit (.int .u8 127), .lit (.int .u8 127), .lit (.int .u8 127), .lit (.int .u8 127), .lit (.int .u8 0), .lit (.int .u8 0), .lit (.int .u8 0), .lit (.int .u8 127), .lit (.int .u8 0), .lit (.int .u8 0), .lit (.int .u8 0), .lit (.int .u8 0), .lit (.int .u8 0), .lit (.int .u8 0), .lit (.int .u8 0), .lit (.int .u8 0), .lit (.int .u8 0), .lit (.int .u8 0), .lit (.int .u8 0), .lit (.int .u8 0), .lit (.int .u8 0), .lit (.int .u8 0), .lit (.int .u8 0), .lit (.int .u8 0), .lit (.int .u8 0), .lit (.int .u8 0), .lit (.int .u8 0), .lit (.int .u8 0), .lit (.int .u8 0), .lit (.int .u8 0), .lit (.int .u8 0), .lit (.int .u8 0), .lit (.int .u8 0), .lit (.int .u8 0), .lit (.int .u8 0), .lit (.int .u8 0), .lit (.int .u8 0), .lit (.int .u8 0), .lit (.int .u8 0), .lit (.int .u8 0), .lit (.int .u8 0), .lit (.int .u8 0), .lit (.int .u8 0), .lit (.int .u8 0), .lit (.int .u8 0), .lit (.int .u8 0), .lit (.int .u8 0), .lit (.int .u8 0), .lit (.int .u8 0), .lit (.int .u8 0), .lit (.int .u8 0), .lit (.int .u8 0), .lit (.int .u8 0), .lit (.int .u8 0), .lit (.int .u8 0), .lit (.int .u8 0), .lit (.int .u8 0), .lit (.int .u8 0), .lit (.int .u8 0), .lit (.int .u8 0), .lit (.int .u8 0), .lit (.int .u8 0), .lit (.int .u8 0), .lit (.int .u8 0), .lit (.int .u8 0), .lit (.int .u8 0), .lit (.int .u8 0), .lit (.int .u8 0), .lit (.int .u8 0), .lit (.int .u8 0), .lit (.int .u8 0), .lit (.int .u8 0), .lit (.int .u8 0), .lit (.int .u8 0), .lit (.int .u8 0), .lit (.int .u8 0), .lit (.int .u8 0), .lit (.int .u8 0), .lit (.int .u8 0), .lit (.int .u8 0), .lit (.int .u8 0), .lit (.int .u8 0), .lit (.int .u8 0), .lit (.int .u8 0), .lit (.int .u8 0), .lit (.int .u8 0), .lit (.int .u8 0), .lit (.int .u8 0), .lit (.int .u8 0), .lit (.int .u8 0), .lit (.int .u8 0), .lit (.int .u8 0), .lit (.int .u8 0), .lit (.int .u8 0), .lit (.int .u8 0), .lit (.int .u8 0), .lit (.int .u8 0), .lit (.int .u8 0), .lit (.int .u8 0), .lit (.int .u8 0), .lit (.int .u8 0), .lit (.int .u8 0), .lit (.int .u8 0), .lit (.int .u8 0), .lit (.int .u8 0), .lit (.int .u8 0), .lit (.int .u8 0), .lit (.int .u8 0), .lit (.int .u8 0), .lit (.int .u8 0), .lit (.int .u8 0), .lit (.int .u8 0), .lit (.int .u8 0), .lit (.int .u8 0), .lit (.int .u8 0), .lit (.int .u8 0), .lit (.int .u8 0), .lit (.int .u8 0), .lit (.int .u8 0), .lit (.int .u8 0), .lit (.int .u8 0), .lit (.int .u8 0), .lit (.int .u8 0), .lit (.int .u8 0), .lit (.int .u8 0), .lit (.int .u8 0), .lit (.int .u8 0), .lit (.int .u8 0), .lit (.int .u8 0), .lit (.int .u8 0), .lit (.int .u8 0), .lit (.int .u8 0), .lit (.int .u8 0), .lit (.int .u8 0), .lit (.int .u8 0), .lit (.int .u8 0), .lit (.int .u8 0)]
/-- One of Go's own tables, pinned by name: the form's constant. -/
def laid_unicode_Digit : DataW Unit := Go.Pinned.digit
/-- One of Go's own tables, pinned by name: the form's constant. -/
def laid_unicode_Letter : DataW Unit := Go.Pinned.letter

/-- 'laws.FnCommon': WHATEVER THE INPUT: true; the input reads as it did. -/
def fnCommonSpec : ChangeSpec := { name := "fnCommon", vars := ["loop.example/pub-routepatterns/pub/neturl.table"], fn := fun _ => fun
  | [d1, d2, g1] => { results := [.lit (.bool true)], args := [d1, d2], vars := [g1] }
  | _ => none }
def fnCommonRow : OpenClaim := { program := "ytkfokofccakagaadoor", sum := "63da7fe4c2cc37e59d27d2d4d712048f381835fb5418ddb5b98cd430596b65d4", func := "loop.example/pub-routepatterns/laws.FnCommon", spec := "fnCommon", inPlace := ["internal/bytealg.IndexByteString", "internal/abi.NoEscape", "internal/bytealg.MakeNoZero"], unfollowed := true, recurses := true, named := ["loop.example/pub-routepatterns/pub/neturl.table", "unicode.properties", "unicode.Letter", "unicode.Digit"], apart := false, laid := [("unicode.properties", laid_unicode_properties), ("loop.example/pub-routepatterns/pub/neturl.table", laid_loop_example_pub_routepatterns_pub_neturl_table), ("unicode.Digit", laid_unicode_Digit), ("unicode.Letter", laid_unicode_Letter)] }
def FnCommonSaid : Prop := fnCommonRow.holds Tryd.pinned (OpenSpec.ofChange fnCommonSpec)

/-- ITS FALSE NEIGHBOUR: 'it returns false'. Refute it at one input. -/
def fnCommonWrong : ChangeSpec := { name := "fnCommon", vars := ["loop.example/pub-routepatterns/pub/neturl.table"], fn := fun _ => fun
  | [d1, d2, g1] => { results := [.lit (.bool false)], args := [d1, d2], vars := [g1] }
  | _ => none }
def FnCommonWrongFalsely : Prop := fnCommonRow.holds Tryd.pinned (OpenSpec.ofChange fnCommonWrong)

/-- 'laws.FnBoth': WHATEVER THE INPUT: true; the input reads as it did. -/
def fnBothSpec : ChangeSpec := { name := "fnBoth", vars := ["loop.example/pub-routepatterns/pub/neturl.table"], fn := fun _ => fun
  | [d1, d2, g1] => { results := [.lit (.bool true)], args := [d1, d2], vars := [g1] }
  | _ => none }
def fnBothRow : OpenClaim := { program := "ytkfokofccakagaadoor", sum := "63da7fe4c2cc37e59d27d2d4d712048f381835fb5418ddb5b98cd430596b65d4", func := "loop.example/pub-routepatterns/laws.FnBoth", spec := "fnBoth", inPlace := ["internal/bytealg.IndexByteString", "internal/abi.NoEscape", "internal/bytealg.MakeNoZero"], unfollowed := true, recurses := true, named := ["loop.example/pub-routepatterns/pub/neturl.table", "unicode.properties", "unicode.Letter", "unicode.Digit"], apart := false, laid := [("unicode.properties", laid_unicode_properties), ("loop.example/pub-routepatterns/pub/neturl.table", laid_loop_example_pub_routepatterns_pub_neturl_table), ("unicode.Digit", laid_unicode_Digit), ("unicode.Letter", laid_unicode_Letter)] }
def FnBothSaid : Prop := fnBothRow.holds Tryd.pinned (OpenSpec.ofChange fnBothSpec)

/-- ITS FALSE NEIGHBOUR: 'it returns false'. Refute it at one input. -/
def fnBothWrong : ChangeSpec := { name := "fnBoth", vars := ["loop.example/pub-routepatterns/pub/neturl.table"], fn := fun _ => fun
  | [d1, d2, g1] => { results := [.lit (.bool false)], args := [d1, d2], vars := [g1] }
  | _ => none }
def FnBothWrongFalsely : Prop := fnBothRow.holds Tryd.pinned (OpenSpec.ofChange fnBothWrong)

/-- 'laws.FnMethods': WHATEVER THE INPUT: true; the input reads as it did. -/
def fnMethodsSpec : ChangeSpec := { name := "fnMethods", vars := ["loop.example/pub-routepatterns/pub/neturl.table"], fn := fun _ => fun
  | [d1, d2, g1] => { results := [.lit (.bool true)], args := [d1, d2], vars := [g1] }
  | _ => none }
def fnMethodsRow : OpenClaim := { program := "ytkfokofccakagaadoor", sum := "63da7fe4c2cc37e59d27d2d4d712048f381835fb5418ddb5b98cd430596b65d4", func := "loop.example/pub-routepatterns/laws.FnMethods", spec := "fnMethods", inPlace := ["internal/bytealg.IndexByteString", "internal/abi.NoEscape", "internal/bytealg.MakeNoZero"], unfollowed := true, recurses := true, named := ["loop.example/pub-routepatterns/pub/neturl.table", "unicode.properties", "unicode.Letter", "unicode.Digit"], apart := false, laid := [("unicode.properties", laid_unicode_properties), ("loop.example/pub-routepatterns/pub/neturl.table", laid_loop_example_pub_routepatterns_pub_neturl_table), ("unicode.Digit", laid_unicode_Digit), ("unicode.Letter", laid_unicode_Letter)] }
def FnMethodsSaid : Prop := fnMethodsRow.holds Tryd.pinned (OpenSpec.ofChange fnMethodsSpec)

/-- ITS FALSE NEIGHBOUR: 'it returns false'. Refute it at one input. -/
def fnMethodsWrong : ChangeSpec := { name := "fnMethods", vars := ["loop.example/pub-routepatterns/pub/neturl.table"], fn := fun _ => fun
  | [d1, d2, g1] => { results := [.lit (.bool false)], args := [d1, d2], vars := [g1] }
  | _ => none }
def FnMethodsWrongFalsely : Prop := fnMethodsRow.holds Tryd.pinned (OpenSpec.ofChange fnMethodsWrong)

/-- 'laws.FnMethodsSound': WHATEVER THE INPUT: true; the input reads as it did. -/
def fnMethodsSoundSpec : ChangeSpec := { name := "fnMethodsSound", vars := ["loop.example/pub-routepatterns/pub/neturl.table"], fn := fun _ => fun
  | [d1, d2, d3, g1] => { results := [.lit (.bool true)], args := [d1, d2, d3], vars := [g1] }
  | _ => none }
def fnMethodsSoundRow : OpenClaim := { program := "ytkfokofccakagaadoor", sum := "63da7fe4c2cc37e59d27d2d4d712048f381835fb5418ddb5b98cd430596b65d4", func := "loop.example/pub-routepatterns/laws.FnMethodsSound", spec := "fnMethodsSound", inPlace := ["internal/bytealg.IndexByteString", "internal/abi.NoEscape", "internal/bytealg.MakeNoZero"], unfollowed := true, recurses := true, named := ["loop.example/pub-routepatterns/pub/neturl.table", "unicode.properties", "unicode.Letter", "unicode.Digit"], apart := false, laid := [("unicode.properties", laid_unicode_properties), ("loop.example/pub-routepatterns/pub/neturl.table", laid_loop_example_pub_routepatterns_pub_neturl_table), ("unicode.Digit", laid_unicode_Digit), ("unicode.Letter", laid_unicode_Letter)] }
def FnMethodsSoundSaid : Prop := fnMethodsSoundRow.holds Tryd.pinned (OpenSpec.ofChange fnMethodsSoundSpec)

/-- ITS FALSE NEIGHBOUR: 'it returns false'. Refute it at one input. -/
def fnMethodsSoundWrong : ChangeSpec := { name := "fnMethodsSound", vars := ["loop.example/pub-routepatterns/pub/neturl.table"], fn := fun _ => fun
  | [d1, d2, d3, g1] => { results := [.lit (.bool false)], args := [d1, d2, d3], vars := [g1] }
  | _ => none }
def FnMethodsSoundWrongFalsely : Prop := fnMethodsSoundRow.holds Tryd.pinned (OpenSpec.ofChange fnMethodsSoundWrong)

/-- 'laws.FnPaths': WHATEVER THE INPUT: true; the input reads as it did. -/
def fnPathsSpec : ChangeSpec := { name := "fnPaths", vars := ["loop.example/pub-routepatterns/pub/neturl.table"], fn := fun _ => fun
  | [d1, d2, g1] => { results := [.lit (.bool true)], args := [d1, d2], vars := [g1] }
  | _ => none }
def fnPathsRow : OpenClaim := { program := "ytkfokofccakagaadoor", sum := "63da7fe4c2cc37e59d27d2d4d712048f381835fb5418ddb5b98cd430596b65d4", func := "loop.example/pub-routepatterns/laws.FnPaths", spec := "fnPaths", inPlace := ["internal/bytealg.IndexByteString", "internal/abi.NoEscape", "internal/bytealg.MakeNoZero"], unfollowed := true, recurses := true, named := ["loop.example/pub-routepatterns/pub/neturl.table", "unicode.properties", "unicode.Letter", "unicode.Digit"], apart := false, laid := [("unicode.properties", laid_unicode_properties), ("loop.example/pub-routepatterns/pub/neturl.table", laid_loop_example_pub_routepatterns_pub_neturl_table), ("unicode.Digit", laid_unicode_Digit), ("unicode.Letter", laid_unicode_Letter)] }
def FnPathsSaid : Prop := fnPathsRow.holds Tryd.pinned (OpenSpec.ofChange fnPathsSpec)

/-- ITS FALSE NEIGHBOUR: 'it returns false'. Refute it at one input. -/
def fnPathsWrong : ChangeSpec := { name := "fnPaths", vars := ["loop.example/pub-routepatterns/pub/neturl.table"], fn := fun _ => fun
  | [d1, d2, g1] => { results := [.lit (.bool false)], args := [d1, d2], vars := [g1] }
  | _ => none }
def FnPathsWrongFalsely : Prop := fnPathsRow.holds Tryd.pinned (OpenSpec.ofChange fnPathsWrong)

/-- 'laws.FnPathsBack': WHATEVER THE INPUT: true; the input reads as it did. -/
def fnPathsBackSpec : ChangeSpec := { name := "fnPathsBack", vars := ["loop.example/pub-routepatterns/pub/neturl.table"], fn := fun _ => fun
  | [d1, d2, g1] => { results := [.lit (.bool true)], args := [d1, d2], vars := [g1] }
  | _ => none }
def fnPathsBackRow : OpenClaim := { program := "ytkfokofccakagaadoor", sum := "63da7fe4c2cc37e59d27d2d4d712048f381835fb5418ddb5b98cd430596b65d4", func := "loop.example/pub-routepatterns/laws.FnPathsBack", spec := "fnPathsBack", inPlace := ["internal/bytealg.IndexByteString", "internal/abi.NoEscape", "internal/bytealg.MakeNoZero"], unfollowed := true, recurses := true, named := ["loop.example/pub-routepatterns/pub/neturl.table", "unicode.properties", "unicode.Letter", "unicode.Digit"], apart := false, laid := [("unicode.properties", laid_unicode_properties), ("loop.example/pub-routepatterns/pub/neturl.table", laid_loop_example_pub_routepatterns_pub_neturl_table), ("unicode.Digit", laid_unicode_Digit), ("unicode.Letter", laid_unicode_Letter)] }
def FnPathsBackSaid : Prop := fnPathsBackRow.holds Tryd.pinned (OpenSpec.ofChange fnPathsBackSpec)

/-- ITS FALSE NEIGHBOUR: 'it returns false'. Refute it at one input. -/
def fnPathsBackWrong : ChangeSpec := { name := "fnPathsBack", vars := ["loop.example/pub-routepatterns/pub/neturl.table"], fn := fun _ => fun
  | [d1, d2, g1] => { results := [.lit (.bool false)], args := [d1, d2], vars := [g1] }
  | _ => none }
def FnPathsBackWrongFalsely : Prop := fnPathsBackRow.holds Tryd.pinned (OpenSpec.ofChange fnPathsBackWrong)

/-- 'laws.FnPathsSound': WHATEVER THE INPUT: true; the input reads as it did. -/
def fnPathsSoundSpec : ChangeSpec := { name := "fnPathsSound", vars := ["loop.example/pub-routepatterns/pub/neturl.table"], fn := fun _ => fun
  | [d1, d2, d3, g1] => { results := [.lit (.bool true)], args := [d1, d2, d3], vars := [g1] }
  | _ => none }
def fnPathsSoundRow : OpenClaim := { program := "ytkfokofccakagaadoor", sum := "63da7fe4c2cc37e59d27d2d4d712048f381835fb5418ddb5b98cd430596b65d4", func := "loop.example/pub-routepatterns/laws.FnPathsSound", spec := "fnPathsSound", inPlace := ["internal/bytealg.IndexByteString", "internal/abi.NoEscape", "internal/bytealg.MakeNoZero"], unfollowed := true, recurses := true, named := ["loop.example/pub-routepatterns/pub/neturl.table", "unicode.properties", "unicode.Letter", "unicode.Digit"], apart := false, laid := [("unicode.properties", laid_unicode_properties), ("loop.example/pub-routepatterns/pub/neturl.table", laid_loop_example_pub_routepatterns_pub_neturl_table), ("unicode.Digit", laid_unicode_Digit), ("unicode.Letter", laid_unicode_Letter)] }
def FnPathsSoundSaid : Prop := fnPathsSoundRow.holds Tryd.pinned (OpenSpec.ofChange fnPathsSoundSpec)

/-- ITS FALSE NEIGHBOUR: 'it returns false'. Refute it at one input. -/
def fnPathsSoundWrong : ChangeSpec := { name := "fnPathsSound", vars := ["loop.example/pub-routepatterns/pub/neturl.table"], fn := fun _ => fun
  | [d1, d2, d3, g1] => { results := [.lit (.bool false)], args := [d1, d2, d3], vars := [g1] }
  | _ => none }
def FnPathsSoundWrongFalsely : Prop := fnPathsSoundRow.holds Tryd.pinned (OpenSpec.ofChange fnPathsSoundWrong)

/-- 'laws.FnPathsThree': WHATEVER THE INPUT: true; the input reads as it did. -/
def fnPathsThreeSpec : ChangeSpec := { name := "fnPathsThree", vars := ["loop.example/pub-routepatterns/pub/neturl.table"], fn := fun _ => fun
  | [d1, d2, d3, g1] => { results := [.lit (.bool true)], args := [d1, d2, d3], vars := [g1] }
  | _ => none }
def fnPathsThreeRow : OpenClaim := { program := "ytkfokofccakagaadoor", sum := "63da7fe4c2cc37e59d27d2d4d712048f381835fb5418ddb5b98cd430596b65d4", func := "loop.example/pub-routepatterns/laws.FnPathsThree", spec := "fnPathsThree", inPlace := ["internal/bytealg.IndexByteString", "internal/abi.NoEscape", "internal/bytealg.MakeNoZero"], unfollowed := true, recurses := true, named := ["loop.example/pub-routepatterns/pub/neturl.table", "unicode.properties", "unicode.Letter", "unicode.Digit"], apart := false, laid := [("unicode.properties", laid_unicode_properties), ("loop.example/pub-routepatterns/pub/neturl.table", laid_loop_example_pub_routepatterns_pub_neturl_table), ("unicode.Digit", laid_unicode_Digit), ("unicode.Letter", laid_unicode_Letter)] }
def FnPathsThreeSaid : Prop := fnPathsThreeRow.holds Tryd.pinned (OpenSpec.ofChange fnPathsThreeSpec)

/-- ITS FALSE NEIGHBOUR: 'it returns false'. Refute it at one input. -/
def fnPathsThreeWrong : ChangeSpec := { name := "fnPathsThree", vars := ["loop.example/pub-routepatterns/pub/neturl.table"], fn := fun _ => fun
  | [d1, d2, d3, g1] => { results := [.lit (.bool false)], args := [d1, d2, d3], vars := [g1] }
  | _ => none }
def FnPathsThreeWrongFalsely : Prop := fnPathsThreeRow.holds Tryd.pinned (OpenSpec.ofChange fnPathsThreeWrong)

/-- 'laws.FnConflict': WHATEVER THE INPUT: true; the input reads as it did. -/
def fnConflictSpec : ChangeSpec := { name := "fnConflict", vars := ["loop.example/pub-routepatterns/pub/neturl.table"], fn := fun _ => fun
  | [d1, d2, g1] => { results := [.lit (.bool true)], args := [d1, d2], vars := [g1] }
  | _ => none }
def fnConflictRow : OpenClaim := { program := "ytkfokofccakagaadoor", sum := "63da7fe4c2cc37e59d27d2d4d712048f381835fb5418ddb5b98cd430596b65d4", func := "loop.example/pub-routepatterns/laws.FnConflict", spec := "fnConflict", inPlace := ["internal/bytealg.IndexByteString", "internal/abi.NoEscape", "internal/bytealg.MakeNoZero"], unfollowed := true, recurses := true, named := ["loop.example/pub-routepatterns/pub/neturl.table", "unicode.properties", "unicode.Letter", "unicode.Digit"], apart := false, laid := [("unicode.properties", laid_unicode_properties), ("loop.example/pub-routepatterns/pub/neturl.table", laid_loop_example_pub_routepatterns_pub_neturl_table), ("unicode.Digit", laid_unicode_Digit), ("unicode.Letter", laid_unicode_Letter)] }
def FnConflictSaid : Prop := fnConflictRow.holds Tryd.pinned (OpenSpec.ofChange fnConflictSpec)

/-- ITS FALSE NEIGHBOUR: 'it returns false'. Refute it at one input. -/
def fnConflictWrong : ChangeSpec := { name := "fnConflict", vars := ["loop.example/pub-routepatterns/pub/neturl.table"], fn := fun _ => fun
  | [d1, d2, g1] => { results := [.lit (.bool false)], args := [d1, d2], vars := [g1] }
  | _ => none }
def FnConflictWrongFalsely : Prop := fnConflictRow.holds Tryd.pinned (OpenSpec.ofChange fnConflictWrong)

/-- 'laws.FnNoConflict': WHATEVER THE INPUT: true; the input reads as it did. -/
def fnNoConflictSpec : ChangeSpec := { name := "fnNoConflict", vars := ["loop.example/pub-routepatterns/pub/neturl.table"], fn := fun _ => fun
  | [d1, d2, d3, g1] => { results := [.lit (.bool true)], args := [d1, d2, d3], vars := [g1] }
  | _ => none }
def fnNoConflictRow : OpenClaim := { program := "ytkfokofccakagaadoor", sum := "63da7fe4c2cc37e59d27d2d4d712048f381835fb5418ddb5b98cd430596b65d4", func := "loop.example/pub-routepatterns/laws.FnNoConflict", spec := "fnNoConflict", inPlace := ["internal/bytealg.IndexByteString", "internal/abi.NoEscape", "internal/bytealg.MakeNoZero"], unfollowed := true, recurses := true, named := ["loop.example/pub-routepatterns/pub/neturl.table", "unicode.properties", "unicode.Letter", "unicode.Digit"], apart := false, laid := [("unicode.properties", laid_unicode_properties), ("loop.example/pub-routepatterns/pub/neturl.table", laid_loop_example_pub_routepatterns_pub_neturl_table), ("unicode.Digit", laid_unicode_Digit), ("unicode.Letter", laid_unicode_Letter)] }
def FnNoConflictSaid : Prop := fnNoConflictRow.holds Tryd.pinned (OpenSpec.ofChange fnNoConflictSpec)

/-- ITS FALSE NEIGHBOUR: 'it returns false'. Refute it at one input. -/
def fnNoConflictWrong : ChangeSpec := { name := "fnNoConflict", vars := ["loop.example/pub-routepatterns/pub/neturl.table"], fn := fun _ => fun
  | [d1, d2, d3, g1] => { results := [.lit (.bool false)], args := [d1, d2, d3], vars := [g1] }
  | _ => none }
def FnNoConflictWrongFalsely : Prop := fnNoConflictRow.holds Tryd.pinned (OpenSpec.ofChange fnNoConflictWrong)

/- THE SECOND FORM. 'bulk': how many values and letters a reading holds, each counted each time it is reached (what is shared counts as often as it is met; a slice's spare places count too). A statement '..UptoSaid' is the law's where the arguments, and the package variables that the reading takes, are together of bulk at most 1048576: NARROWER than '..Said'. Prove '..Said' where nothing that the law and all that it calls make is longer than what came in: it says more and counts as full. Else prove '..UptoSaid'. A law counts once. -/
mutual
def uptoBulk {H : Type} : DataW H → Nat
  | .lit (.string bytes) => bytes.length + 1
  | .lit _ => 1
  | .nil => 1
  | .ptr d => uptoBulk d + 1
  | .slice elems spare => uptoBulkAll elems + uptoBulkAll spare + 1
  | .agg parts => uptoBulkAll parts + 1
  | .iface _ d => uptoBulk d + 1
  | .map entries => uptoBulkEntries entries + 1
  | .held _ => 1
def uptoBulkAll {H : Type} : List (DataW H) → Nat
  | [] => 0
  | d :: r => uptoBulk d + uptoBulkAll r
def uptoBulkEntries {H : Type} : List (Lit × DataW H) → Nat
  | [] => 0
  | x :: r => uptoBulkEntry x + uptoBulkEntries r
def uptoBulkEntry {H : Type} : Lit × DataW H → Nat
  | (.string bytes, d) => bytes.length + uptoBulk d + 1
  | (_, d) => uptoBulk d + 1
 end
def uptoSmall : (H : Type) → List (DataW H) → Bool := fun _ ds => decide (uptoBulkAll ds ≤ 1048576)
def OpenSpec.upto (s : _root_.Go.ChangeSpec) : _root_.Go.OpenSpec := { _root_.Go.OpenSpec.ofChange s with cond := some uptoSmall }

/-- 'laws.FnCommon', WHERE WHAT IT READS IS OF BULK AT MOST 1048576: true; the input reads as it did. -/
def fnCommonUptoRow : OpenClaim := { program := "ytkfokofccakagaadoor", sum := "63da7fe4c2cc37e59d27d2d4d712048f381835fb5418ddb5b98cd430596b65d4", func := "loop.example/pub-routepatterns/laws.FnCommon", spec := "fnCommon", inPlace := ["internal/bytealg.IndexByteString", "internal/abi.NoEscape", "internal/bytealg.MakeNoZero"], unfollowed := true, recurses := true, named := ["loop.example/pub-routepatterns/pub/neturl.table", "unicode.properties", "unicode.Letter", "unicode.Digit"], apart := false, laid := [("unicode.properties", laid_unicode_properties), ("loop.example/pub-routepatterns/pub/neturl.table", laid_loop_example_pub_routepatterns_pub_neturl_table), ("unicode.Digit", laid_unicode_Digit), ("unicode.Letter", laid_unicode_Letter)], narrowed := true }
def FnCommonUptoSaid : Prop := fnCommonUptoRow.holds Tryd.pinned (OpenSpec.upto fnCommonSpec)

/-- 'laws.FnBoth', WHERE WHAT IT READS IS OF BULK AT MOST 1048576: true; the input reads as it did. -/
def fnBothUptoRow : OpenClaim := { program := "ytkfokofccakagaadoor", sum := "63da7fe4c2cc37e59d27d2d4d712048f381835fb5418ddb5b98cd430596b65d4", func := "loop.example/pub-routepatterns/laws.FnBoth", spec := "fnBoth", inPlace := ["internal/bytealg.IndexByteString", "internal/abi.NoEscape", "internal/bytealg.MakeNoZero"], unfollowed := true, recurses := true, named := ["loop.example/pub-routepatterns/pub/neturl.table", "unicode.properties", "unicode.Letter", "unicode.Digit"], apart := false, laid := [("unicode.properties", laid_unicode_properties), ("loop.example/pub-routepatterns/pub/neturl.table", laid_loop_example_pub_routepatterns_pub_neturl_table), ("unicode.Digit", laid_unicode_Digit), ("unicode.Letter", laid_unicode_Letter)], narrowed := true }
def FnBothUptoSaid : Prop := fnBothUptoRow.holds Tryd.pinned (OpenSpec.upto fnBothSpec)

/-- 'laws.FnMethods', WHERE WHAT IT READS IS OF BULK AT MOST 1048576: true; the input reads as it did. -/
def fnMethodsUptoRow : OpenClaim := { program := "ytkfokofccakagaadoor", sum := "63da7fe4c2cc37e59d27d2d4d712048f381835fb5418ddb5b98cd430596b65d4", func := "loop.example/pub-routepatterns/laws.FnMethods", spec := "fnMethods", inPlace := ["internal/bytealg.IndexByteString", "internal/abi.NoEscape", "internal/bytealg.MakeNoZero"], unfollowed := true, recurses := true, named := ["loop.example/pub-routepatterns/pub/neturl.table", "unicode.properties", "unicode.Letter", "unicode.Digit"], apart := false, laid := [("unicode.properties", laid_unicode_properties), ("loop.example/pub-routepatterns/pub/neturl.table", laid_loop_example_pub_routepatterns_pub_neturl_table), ("unicode.Digit", laid_unicode_Digit), ("unicode.Letter", laid_unicode_Letter)], narrowed := true }
def FnMethodsUptoSaid : Prop := fnMethodsUptoRow.holds Tryd.pinned (OpenSpec.upto fnMethodsSpec)

/-- 'laws.FnMethodsSound', WHERE WHAT IT READS IS OF BULK AT MOST 1048576: true; the input reads as it did. -/
def fnMethodsSoundUptoRow : OpenClaim := { program := "ytkfokofccakagaadoor", sum := "63da7fe4c2cc37e59d27d2d4d712048f381835fb5418ddb5b98cd430596b65d4", func := "loop.example/pub-routepatterns/laws.FnMethodsSound", spec := "fnMethodsSound", inPlace := ["internal/bytealg.IndexByteString", "internal/abi.NoEscape", "internal/bytealg.MakeNoZero"], unfollowed := true, recurses := true, named := ["loop.example/pub-routepatterns/pub/neturl.table", "unicode.properties", "unicode.Letter", "unicode.Digit"], apart := false, laid := [("unicode.properties", laid_unicode_properties), ("loop.example/pub-routepatterns/pub/neturl.table", laid_loop_example_pub_routepatterns_pub_neturl_table), ("unicode.Digit", laid_unicode_Digit), ("unicode.Letter", laid_unicode_Letter)], narrowed := true }
def FnMethodsSoundUptoSaid : Prop := fnMethodsSoundUptoRow.holds Tryd.pinned (OpenSpec.upto fnMethodsSoundSpec)

/-- 'laws.FnPaths', WHERE WHAT IT READS IS OF BULK AT MOST 1048576: true; the input reads as it did. -/
def fnPathsUptoRow : OpenClaim := { program := "ytkfokofccakagaadoor", sum := "63da7fe4c2cc37e59d27d2d4d712048f381835fb5418ddb5b98cd430596b65d4", func := "loop.example/pub-routepatterns/laws.FnPaths", spec := "fnPaths", inPlace := ["internal/bytealg.IndexByteString", "internal/abi.NoEscape", "internal/bytealg.MakeNoZero"], unfollowed := true, recurses := true, named := ["loop.example/pub-routepatterns/pub/neturl.table", "unicode.properties", "unicode.Letter", "unicode.Digit"], apart := false, laid := [("unicode.properties", laid_unicode_properties), ("loop.example/pub-routepatterns/pub/neturl.table", laid_loop_example_pub_routepatterns_pub_neturl_table), ("unicode.Digit", laid_unicode_Digit), ("unicode.Letter", laid_unicode_Letter)], narrowed := true }
def FnPathsUptoSaid : Prop := fnPathsUptoRow.holds Tryd.pinned (OpenSpec.upto fnPathsSpec)

/-- 'laws.FnPathsBack', WHERE WHAT IT READS IS OF BULK AT MOST 1048576: true; the input reads as it did. -/
def fnPathsBackUptoRow : OpenClaim := { program := "ytkfokofccakagaadoor", sum := "63da7fe4c2cc37e59d27d2d4d712048f381835fb5418ddb5b98cd430596b65d4", func := "loop.example/pub-routepatterns/laws.FnPathsBack", spec := "fnPathsBack", inPlace := ["internal/bytealg.IndexByteString", "internal/abi.NoEscape", "internal/bytealg.MakeNoZero"], unfollowed := true, recurses := true, named := ["loop.example/pub-routepatterns/pub/neturl.table", "unicode.properties", "unicode.Letter", "unicode.Digit"], apart := false, laid := [("unicode.properties", laid_unicode_properties), ("loop.example/pub-routepatterns/pub/neturl.table", laid_loop_example_pub_routepatterns_pub_neturl_table), ("unicode.Digit", laid_unicode_Digit), ("unicode.Letter", laid_unicode_Letter)], narrowed := true }
def FnPathsBackUptoSaid : Prop := fnPathsBackUptoRow.holds Tryd.pinned (OpenSpec.upto fnPathsBackSpec)

/-- 'laws.FnPathsSound', WHERE WHAT IT READS IS OF BULK AT MOST 1048576: true; the input reads as it did. -/
def fnPathsSoundUptoRow : OpenClaim := { program := "ytkfokofccakagaadoor", sum := "63da7fe4c2cc37e59d27d2d4d712048f381835fb5418ddb5b98cd430596b65d4", func := "loop.example/pub-routepatterns/laws.FnPathsSound", spec := "fnPathsSound", inPlace := ["internal/bytealg.IndexByteString", "internal/abi.NoEscape", "internal/bytealg.MakeNoZero"], unfollowed := true, recurses := true, named := ["loop.example/pub-routepatterns/pub/neturl.table", "unicode.properties", "unicode.Letter", "unicode.Digit"], apart := false, laid := [("unicode.properties", laid_unicode_properties), ("loop.example/pub-routepatterns/pub/neturl.table", laid_loop_example_pub_routepatterns_pub_neturl_table), ("unicode.Digit", laid_unicode_Digit), ("unicode.Letter", laid_unicode_Letter)], narrowed := true }
def FnPathsSoundUptoSaid : Prop := fnPathsSoundUptoRow.holds Tryd.pinned (OpenSpec.upto fnPathsSoundSpec)

/-- 'laws.FnPathsThree', WHERE WHAT IT READS IS OF BULK AT MOST 1048576: true; the input reads as it did. -/
def fnPathsThreeUptoRow : OpenClaim := { program := "ytkfokofccakagaadoor", sum := "63da7fe4c2cc37e59d27d2d4d712048f381835fb5418ddb5b98cd430596b65d4", func := "loop.example/pub-routepatterns/laws.FnPathsThree", spec := "fnPathsThree", inPlace := ["internal/bytealg.IndexByteString", "internal/abi.NoEscape", "internal/bytealg.MakeNoZero"], unfollowed := true, recurses := true, named := ["loop.example/pub-routepatterns/pub/neturl.table", "unicode.properties", "unicode.Letter", "unicode.Digit"], apart := false, laid := [("unicode.properties", laid_unicode_properties), ("loop.example/pub-routepatterns/pub/neturl.table", laid_loop_example_pub_routepatterns_pub_neturl_table), ("unicode.Digit", laid_unicode_Digit), ("unicode.Letter", laid_unicode_Letter)], narrowed := true }
def FnPathsThreeUptoSaid : Prop := fnPathsThreeUptoRow.holds Tryd.pinned (OpenSpec.upto fnPathsThreeSpec)

/-- 'laws.FnConflict', WHERE WHAT IT READS IS OF BULK AT MOST 1048576: true; the input reads as it did. -/
def fnConflictUptoRow : OpenClaim := { program := "ytkfokofccakagaadoor", sum := "63da7fe4c2cc37e59d27d2d4d712048f381835fb5418ddb5b98cd430596b65d4", func := "loop.example/pub-routepatterns/laws.FnConflict", spec := "fnConflict", inPlace := ["internal/bytealg.IndexByteString", "internal/abi.NoEscape", "internal/bytealg.MakeNoZero"], unfollowed := true, recurses := true, named := ["loop.example/pub-routepatterns/pub/neturl.table", "unicode.properties", "unicode.Letter", "unicode.Digit"], apart := false, laid := [("unicode.properties", laid_unicode_properties), ("loop.example/pub-routepatterns/pub/neturl.table", laid_loop_example_pub_routepatterns_pub_neturl_table), ("unicode.Digit", laid_unicode_Digit), ("unicode.Letter", laid_unicode_Letter)], narrowed := true }
def FnConflictUptoSaid : Prop := fnConflictUptoRow.holds Tryd.pinned (OpenSpec.upto fnConflictSpec)

/-- 'laws.FnNoConflict', WHERE WHAT IT READS IS OF BULK AT MOST 1048576: true; the input reads as it did. -/
def fnNoConflictUptoRow : OpenClaim := { program := "ytkfokofccakagaadoor", sum := "63da7fe4c2cc37e59d27d2d4d712048f381835fb5418ddb5b98cd430596b65d4", func := "loop.example/pub-routepatterns/laws.FnNoConflict", spec := "fnNoConflict", inPlace := ["internal/bytealg.IndexByteString", "internal/abi.NoEscape", "internal/bytealg.MakeNoZero"], unfollowed := true, recurses := true, named := ["loop.example/pub-routepatterns/pub/neturl.table", "unicode.properties", "unicode.Letter", "unicode.Digit"], apart := false, laid := [("unicode.properties", laid_unicode_properties), ("loop.example/pub-routepatterns/pub/neturl.table", laid_loop_example_pub_routepatterns_pub_neturl_table), ("unicode.Digit", laid_unicode_Digit), ("unicode.Letter", laid_unicode_Letter)], narrowed := true }
def FnNoConflictUptoSaid : Prop := fnNoConflictUptoRow.holds Tryd.pinned (OpenSpec.upto fnNoConflictSpec)

end Rows
end Go.Proofs.YtkfokofccakagaaDoor
