/-
  Proved: small lemmas on texts and their letters, as the walks of this seat use them. Conditions: as each lemma says.
-/
import Derived.Test.YtodmlommidifjaaDoorRows
import Derived.WalkKit
import Derived.WalkSpells
import Derived.WalkLawsBesides
import Derived.Lib.Hide
import Derived.Lib.PathFns
namespace Go.Proofs.YtodmlommidifjaaDoor
open Go.RowKit

/-- A text's letters. -/
def bs (s : ByteArray) : List UInt8 := s.data.toList
/-- A text as a value. -/
def strV (l : List UInt8) : Value := .string ⟨l.toArray⟩

theorem strV_bs (s : ByteArray) : strV (bs s) = .string s := by
  cases s
  simp [strV, bs]
theorem bs_size (s : ByteArray) : (bs s).length = s.size := rfl
theorem bs_extract (s : ByteArray) (a b : Nat) : bs (s.extract a b) = ((bs s).drop a).take (b - a) := Go.Lib.extract_data s a b
theorem bs_at (s : ByteArray) (i : Nat) (h : i < s.size) : (bs s)[i]? = some (s[i]'h) := Go.Lib.Pa.at_eq s i h

theorem bs_inj {a : ByteArray} {l : List UInt8} (h : bs a = l) : a = ⟨l.toArray⟩ := by
  subst h
  cases a
  simp [bs]

theorem bs_append (a b : ByteArray) : bs (a ++ b) = bs a ++ bs b := by simp [bs]

theorem bs_last (s : ByteArray) (h : 0 < s.size) : (bs s).getLast? = some (s[s.size - 1]'(by omega)) := by
  rw [List.getLast?_eq_getElem?, bs_size]
  exact bs_at s (s.size - 1) (by omega)

theorem bs_head (s : ByteArray) (h : 0 < s.size) : (bs s).head? = some (s[0]'h) := by
  rw [List.head?_eq_getElem?]
  exact bs_at s 0 h

theorem bs_toList (s : ByteArray) : s.toList = bs s := ByteArray.toList_eq s

theorem info_string : (Tryd.prog.info? 9).map (fun i => (i.zero, i.size, i.bytes)) = some (some (.string ⟨#[]⟩), 1, 16) := by kernel_rfl

theorem slash_yes {c : UInt8} (h : ((c.toNat : Int) == 47) = true) : c = 47 := by
  rw [Go.Lib.Pa.beq47] at h
  simpa using h
theorem slash_no {c : UInt8} (h : ((c.toNat : Int) == 47) = false) : c ≠ 47 := by
  rw [Go.Lib.Pa.beq47] at h
  simpa using h

end Go.Proofs.YtodmlommidifjaaDoor
