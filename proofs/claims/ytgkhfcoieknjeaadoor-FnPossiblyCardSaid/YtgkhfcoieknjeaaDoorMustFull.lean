/-
  Proved: must gives the pattern that spec.Write wrote, whole (with its text), in new memory. Conditions: the pattern is good; the table unicode.properties is as it was laid.
-/
import Derived.Test.YtgkhfcoieknjeaaDoorPPWritten
import Derived.Test.YtgkhfcoieknjeaaDoorIndex
namespace Go.Proofs.YtgkhfcoieknjeaaDoor
open Go.RowKit

theorem pp_written_full (p : PtB) (w : World) (G : p.pt.good) (hprops : PropsAt w) :
    Calls Tryd.prog 51 #[.string ⟨p.text.toArray⟩] w fun e w' => ∃ b, e = .returned (.tuple #[.pointer (some ⟨b, 0, none⟩), .nilIface]) ∧ PatFull w' b p ∧ Below w.heap.size w w' := by
  have G' : GoodP (bs p.m) (bs p.h) p.l := G
  have e : bs (⟨p.text.toArray⟩ : ByteArray) = writeL (bs p.m) (bs p.h) p.l := by simp [bs, PtB.text]
  have h1 := pp_full ⟨p.text.toArray⟩ w (by have := writeL_len G'; show (writeL (bs p.m) (bs p.h) p.l).toArray.size ≤ _; simp; exact Nat.le_trans this (by omega)) (by rw [e]; exact pptext_written G') hprops
  rw [e, parse_written G'] at h1
  refine h1.mono fun e' _ hg => ?_
  have hm : (⟨(bs p.m).toArray⟩ : ByteArray) = p.m := (bs_inj (a := p.m) rfl).symm
  have hh : (⟨(bs p.h).toArray⟩ : ByteArray) = p.h := (bs_inj (a := p.h) rfl).symm
  unfold PPOutF at hg
  simp only [hm, hh] at hg
  obtain ⟨b, sv, base, a1, a2, a3, a4, _⟩ := hg
  exact ⟨b, a1, ⟨sv, base, a2, a3⟩, a4⟩

theorem must_full (p : PtB) (w : World) (G : p.pt.good) (hprops : PropsAt w) :
    Calls Tryd.prog 43 #[.string ⟨p.text.toArray⟩] w fun e w' => ∃ b, e = .returned (.pointer (some ⟨b, 0, none⟩)) ∧ PatFull w' b p ∧ Below w.heap.size w w' := by
  have HPP := Lib.hid (pp_written_full p w G hprops)
  clear hprops
  go_enter Tryd.func43, Tryd.ntmps43
  go_wp2_with (go_at_call 51; refine HPP.out.mono ?_; rintro e w1 ⟨b, rfl, hp, hbel⟩; have HP := Lib.hid hp; have HB := Lib.hid hbel; clear hp hbel)
  go_ret
  exact ⟨b, rfl, HP.out, HB.out⟩
end Go.Proofs.YtgkhfcoieknjeaaDoor
