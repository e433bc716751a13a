/-
  Proved: lastSegment answers the last piece of a pattern. Condition: the pattern can be read and has pieces, at most 2^31 - 1.
-/
import Derived.Test.YtgkhfcoieknjeaaDoorPat
import Derived.RegionTactic
import Derived.BigRegion
namespace Go.Proofs.YtgkhfcoieknjeaaDoor
open Go.RowKit

/-- What lastSegment answers. -/
def LastEnd (w : World) (g : Seg) (e : Ending) (w' : World) : Prop := e = .returned (.agg #[.string ⟨g.s.toArray⟩, .bool g.wild, .bool g.multi]) ∧ Below w.heap.size w w'

set_option maxRecDepth 100000 in
set_option maxHeartbeats 1600000 in
theorem last_any (a : Nat) (m h : ByteArray) (l : List Seg) (g : Seg) (w : World) (H : PatAt w a m h l) (hg : l.getLast? = some g) (hl : l.length ≤ 2147483647) :
    Calls Tryd.prog 50 #[.pointer (some ⟨a, 0, none⟩)] w (LastEnd w g) := by
  obtain ⟨n, hn⟩ : ∃ n, l.length = n + 1 := ⟨l.length - 1, by cases l with | nil => simp at hg | cons x t => simp⟩
  have hgn : l[n]? = some g := by rw [List.getLast?_eq_getElem?, hn] at hg; exact hg
  obtain ⟨_, _, _, sv, c3, A, cap, rfl, hlc, hf⟩ := H
  obtain ⟨b, o, rfl, hb, d0, d1, d2⟩ := hf n g hgn
  rw [hn] at c3 hlc hl
  have d0' : w.cell? ⟨b, o + n * 3, none⟩ = some (.string ⟨g.s.toArray⟩) := d0
  have i1 : (0 : Int) ≤ (n : Int) := by omega
  clear hf hg hgn hn d0
  go_enter Tryd.func50, Tryd.ntmps50
  go_wp2_with fail
  go_region
  go_wp2_with fail
  refine bodyPost_ret (v := .agg #[.string ⟨g.s.toArray⟩, .bool g.wild, .bool g.multi]) (by simp [results, Tryd.results50, go_sem]) rfl ⟨rfl, ?_⟩
  exact below_drew3 ((Below.refl _ _).alloc (Nat.le_refl _) _) 1

theorem field2 (x : List UInt8) (a b : Bool) (w : World) : (Instr.field 100 (.agg #[.string ⟨x.toArray⟩, .bool a, .bool b]) 2).run Tryd.prog w = .ok (.bool b) w := by kernel_rfl

end Go.Proofs.YtgkhfcoieknjeaaDoor
