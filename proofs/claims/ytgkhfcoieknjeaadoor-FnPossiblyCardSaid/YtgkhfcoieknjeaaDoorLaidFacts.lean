/-
  Proved: what the rows' lists of package-level variables give the walks: the cells of unicode.properties. Condition: the list opens with that variable.
-/
import Derived.Test.YtgkhfcoieknjeaaDoorName
import Derived.ProofKit
import Derived.LaidMore
import Derived.Lay
import Derived.Lib.LaidTab
namespace Go.Proofs.YtgkhfcoieknjeaaDoor
open Go.RowKit Go.ChangeShapes Go.WideShapes Go.ChangeAt

theorem props_laid : (Rows.laid_unicode_properties : DataW Unit) = .agg (propZ.map fun n => .lit (.int .u8 n)) := by kernel_rfl

theorem gProps : Tryd.prog.globalNamed "unicode.properties" = some 0 := by kernel_rfl
theorem gPropsType : (Tryd.prog.globals[0]?).map (·.type) = some 146 := by kernel_rfl
theorem cellsProps : Tryd.prog.cellsOf 146 = 256 := by kernel_rfl
theorem cellsByte : Tryd.prog.cellsOf 5 = 1 := by kernel_rfl
theorem propZ_length : propZ.length = 256 := by kernel_rfl

theorem propsAt_of (W : World) (rest : List (String × DataW Unit)) (h : laidMet Tryd.prog (("unicode.properties", Rows.laid_unicode_properties) :: rest) W) : PropsAt W := by
  rw [props_laid] at h
  have ht : Go.Lib.TabIs Tryd.prog W "unicode.properties" .u8 propZ := Go.Lib.tabIs_of_head (rest := rest) gProps gPropsType Tryd.underlying146 Tryd.underlying5 cellsByte cellsProps h
  intro c hc
  have hl := propZ_length
  exact ht.cell gProps c (by omega)
end Go.Proofs.YtgkhfcoieknjeaaDoor
