/-
  Proved: errors.New returns an interface value that is not nil; parsePattern's deferred closure leaves no error as it is, and puts another error that is not nil in an error's place.
-/
import Derived.Test.YtgkhfcoieknjeaaDoorBase
import Derived.Defers
namespace Go.Proofs.YtgkhfcoieknjeaaDoor
open Go.RowKit

theorem cell_alloc_keep (w : World) (o : Obj) (p : Addr) (h : p.block < w.heap.size) : (w.alloc o).cell? p = w.cell? p := ((Below.refl w.heap.size w).alloc (Nat.le_refl _) o).cell h

theorem errorsNew_any (s : ByteArray) (w : World) : Calls Tryd.prog 56 #[.string s] w fun e w' => ∃ t v, e = .returned (.iface t v) ∧ Below w.heap.size w w' := by
  go_enter Tryd.func56, Tryd.ntmps56
  go_wp2_with fail
  go_ret
  exact ⟨_, _, rfl, (Below.refl _ _).alloc (Nat.le_refl _) _⟩

theorem wrap_nil (b : Nat) (u : FrameMode) (w : World) (h : w.cell? ⟨b, 0, none⟩ = some .nilIface) :
    CallsD Tryd.prog 57 #[.pointer (some ⟨b, 0, none⟩)] u w fun e u' w' => u' = u ∧ (e = .returned (.tuple #[]) ∧ w' = w) := by
  go_enter_d Tryd.func57, Tryd.ntmps57
  go_wp2_with fail
  go_end0
  exact ⟨rfl, rfl⟩

theorem wrap_err (b : Nat) (t : TypeId) (v : Value) (u : FrameMode) (w : World) (h : w.cell? ⟨b, 0, none⟩ = some (.iface t v)) (hf : w.frozen? ⟨b, 0, none⟩ = false) (hb : b < w.heap.size) :
    CallsD Tryd.prog 57 #[.pointer (some ⟨b, 0, none⟩)] u w fun e u' w' => u' = u ∧ (e = .returned (.tuple #[]) ∧ ∃ t' v', w'.cell? ⟨b, 0, none⟩ = some (.iface t' v') ∧ Below b w w') := by
  go_enter_d Tryd.func57, Tryd.ntmps57
  go_wp2_with fail
  go_end0
  refine ⟨rfl, 111, .pointer (some ⟨w.heap.size, 0, none⟩), ?_, ?_⟩
  rotate_left
  · refine Below.alloc ((Below.refl b w).setCell (Nat.le_refl _) _) ?_ _
    simp
    omega
  have hc : (w.setCell ⟨b, 0, none⟩ (Value.iface 111 (.pointer (some ⟨w.heap.size, 0, none⟩)))).cell? ⟨b, 0, none⟩ = some (Value.iface 111 (.pointer (some ⟨w.heap.size, 0, none⟩))) := World.cell?_setCell_same' _ _ _ (by rw [h]; rfl)
  rw [cell_alloc_keep]
  · exact hc
  · simpa using hb
end Go.Proofs.YtgkhfcoieknjeaaDoor
