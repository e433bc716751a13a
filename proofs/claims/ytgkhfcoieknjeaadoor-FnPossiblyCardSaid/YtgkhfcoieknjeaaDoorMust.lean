/-
  Proved: must gives the pattern that spec.Write wrote, in new memory. Conditions: the pattern is good; the table unicode.properties is as it was laid.
-/
import Derived.Test.YtgkhfcoieknjeaaDoorPPWritten
import Derived.Test.YtgkhfcoieknjeaaDoorPat
namespace Go.Proofs.YtgkhfcoieknjeaaDoor
open Go.RowKit

/-- What must answers. -/
def MustEnd (w : World) (m h : ByteArray) (l : List Seg) (e : Ending) (w' : World) : Prop := ∃ b, e = .returned (.pointer (some ⟨b, 0, none⟩)) ∧ PatAt w' b m h l ∧ Below w.heap.size w w'

/-- The same, and that all lies in new memory. -/
def MustLow (w : World) (m h : ByteArray) (l : List Seg) (e : Ending) (w' : World) : Prop := ∃ b, e = .returned (.pointer (some ⟨b, 0, none⟩)) ∧ PatAt w' b m h l ∧ Below w.heap.size w w' ∧ w.heap.size ≤ b ∧ ∀ sv g, w'.cell? ⟨b, 3, none⟩ = some sv → sv.ownBlock = some g → w.heap.size ≤ g

theorem must_low (m h : ByteArray) (l : List Seg) (w : World) (G : GoodP (bs m) (bs h) l) (hprops : PropsAt w) :
    Calls Tryd.prog 43 #[.string ⟨(writeL (bs m) (bs h) l).toArray⟩] w (MustLow w m h l) := by
  have HPP := Lib.hid (pp_written m h l w G hprops)
  clear hprops
  go_enter Tryd.func43, Tryd.ntmps43
  go_wp2_with (go_at_call 51; refine HPP.out.mono ?_; rintro e w1 ⟨b, sv, rfl, hb1, c1, c2, c3, hsv, hbel, hlow⟩; have HP : Hid (PatAt w1 b m h l) := ⟨hb1, c1, c2, sv, c3, hsv⟩; have HB := Lib.hid hbel; have HLO : Hid (w.heap.size ≤ b ∧ ∀ sv' g, w1.cell? ⟨b, 3, none⟩ = some sv' → sv'.ownBlock = some g → w.heap.size ≤ g) := ⟨hlow.1, fun sv' g h1 h2 => by rw [c3] at h1; cases h1; exact hlow.2 g h2⟩; clear c1 c2 c3 hsv hbel hlow)
  go_ret
  exact ⟨b, rfl, HP.out, HB.out, HLO.out⟩

theorem must_written (m h : ByteArray) (l : List Seg) (w : World) (G : GoodP (bs m) (bs h) l) (hprops : PropsAt w) :
    Calls Tryd.prog 43 #[.string ⟨(writeL (bs m) (bs h) l).toArray⟩] w (MustEnd w m h l) :=
  (must_low m h l w G hprops).mono fun _ _ ⟨b, x, y, z, _⟩ => ⟨b, x, y, z⟩

end Go.Proofs.YtgkhfcoieknjeaaDoor
