/-
  The mirror of parsePattern on lists of bytes: one piece, all pieces. (For texts that spec.Read does not leave open.)
-/
import Derived.Test.YtgkhfcoieknjeaaDoorBase
import Derived.Test.YtgkhfcoieknjeaaDoorName
namespace Go.Proofs.YtgkhfcoieknjeaaDoor
open Go.RowKit

/-- A piece with a brace: its name without the dots, and whether it had them. -/
def braceName (x : List UInt8) : List UInt8 := x.tail.dropLast
def dotsB (n : List UInt8) : Bool := decide (3 ≤ n.length) && decide (n.drop (n.length - 3) = [46, 46, 46])
def undot (n : List UInt8) : List UInt8 := if dotsB n then n.take (n.length - 3) else n

/-- What one piece stands for; none: it is refused. -/
def pieceL (x : List UInt8) (last : Bool) : Option Seg :=
  if x = [] ∧ last = true then some ⟨[], true, true⟩
  else if x.contains 123 = false then some ⟨x, false, false⟩
  else if x.head? ≠ some 123 ∨ x.getLast? ≠ some 125 then none
  else if braceName x = [36] then (if last then some ⟨[47], false, false⟩ else none)
  else if (dotsB (braceName x) && !last) || !nameB (undot (braceName x)) then none
  else some ⟨undot (braceName x), true, dotsB (braceName x)⟩

/-- All pieces, the names that are seen already kept aside. -/
def piecesL : List (List UInt8) → List (List UInt8) → Option (List Seg)
  | [], _ => some []
  | x :: r, seen =>
    match pieceL x r.isEmpty with
    | none => none
    | some g =>
      if g.wild && seen.contains g.s then none
      else match piecesL r (if g.wild then g.s :: seen else seen) with
        | none => none
        | some l => some (g :: l)

theorem piecesL_len : ∀ (ks seen : List (List UInt8)) (l : List Seg), piecesL ks seen = some l → l.length = ks.length
  | [], _, l, h => by simp [piecesL] at h; subst h; rfl
  | x :: r, seen, l, h => by
    unfold piecesL at h
    split at h
    · cases h
    · split at h
      · cases h
      · split at h
        · cases h
        · rename_i hl
          have ih := piecesL_len r _ _ hl
          simp only [Option.some.injEq] at h
          subst h
          simp [ih]
end Go.Proofs.YtgkhfcoieknjeaaDoor
