/-
  Proved: must gives the pattern that spec.Write wrote, in new memory. Conditions: the pattern is good; the table unicode.properties is as it was laid.
-/
import Derived.Test.YtkfokofccakagaaDoorPPWritten
import Derived.Test.YtkfokofccakagaaDoorCmp
namespace Go.Proofs.YtkfokofccakagaaDoor
open Go.RowKit

/-- What must answers. -/
def MustEnd (w : World) (m h : ByteArray) (l : List Seg) (e : Ending) (w' : World) : Prop := ∃ b, e = .returned (.pointer (some ⟨b, 0, none⟩)) ∧ PatAt w' b m h l ∧ Below w.heap.size w w'

theorem must_written (m h : ByteArray) (l : List Seg) (w : World) (G : GoodP (bs m) (bs h) l) (hprops : PropsAt w) :
    Calls Tryd.prog 50 #[.string ⟨(writeL (bs m) (bs h) l).toArray⟩] w (MustEnd w m h l) := by
  have HPP := Lib.hid (pp_written m h l w G hprops)
  clear hprops
  go_enter Tryd.func50, Tryd.ntmps50
  go_wp2_with (go_at_call 56; refine HPP.out.mono ?_; rintro e w1 ⟨b, sv, rfl, hb1, c1, c2, c3, hsv, hbel⟩; have HP : Hid (PatAt w1 b m h l) := ⟨hb1, c1, c2, sv, c3, hsv⟩; have HB := Lib.hid hbel; clear c1 c2 c3 hsv hbel)
  go_ret
  exact ⟨b, rfl, HP.out, HB.out⟩

end Go.Proofs.YtkfokofccakagaaDoor
