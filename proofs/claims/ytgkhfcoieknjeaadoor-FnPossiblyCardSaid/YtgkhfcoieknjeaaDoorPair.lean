/-
  The relationship of two patterns, in plain words of lists (definitions).
-/
import Derived.Test.YtgkhfcoieknjeaaDoorPat
import Derived.Test.YtgkhfcoieknjeaaDoorGood
import Derived.Test.YtgkhfcoieknjeaaDoorWrite
namespace Go.Proofs.YtgkhfcoieknjeaaDoor
open Go.RowKit

/-- The pieces' kinds. -/
def kinds (l : List Seg) : List Kd := l.map kindOf
/-- The relationship of two patterns. -/
def byBoth (m1 m2 : List UInt8) (l1 l2 : List Seg) : Rel := (byM m1 m2).comb (Kd.byPaths (kinds l1) (kinds l2))
def isConf : Rel → Bool
  | .eqv => true
  | .ovl => true
  | _ => false
/-- Two patterns conflict. -/
def confB (m1 m2 h1 h2 : List UInt8) (l1 l2 : List Seg) : Bool := decide (h1 = h2) && isConf (byBoth m1 m2 l1 l2)

theorem good_len {m h : List UInt8} {l : List Seg} (G : GoodP m h l) : l.length ≤ 2147483647 := by have := G.six; omega

/-- A pattern as it is written. -/
def writeS (m h : ByteArray) (l : List Seg) : ByteArray := ⟨(writeL (bs m) (bs h) l).toArray⟩

end Go.Proofs.YtgkhfcoieknjeaaDoor
