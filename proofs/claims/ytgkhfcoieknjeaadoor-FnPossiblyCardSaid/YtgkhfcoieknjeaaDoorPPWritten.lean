/-
  Proved: parsePattern at what spec.Write writes of a good pattern gives that pattern. Condition: the table unicode.properties is as it was laid.
-/
import Derived.Test.YtgkhfcoieknjeaaDoorPP
import Derived.Test.YtgkhfcoieknjeaaDoorWritten
import Derived.Test.YtgkhfcoieknjeaaDoorFits
namespace Go.Proofs.YtgkhfcoieknjeaaDoor
open Go.RowKit

theorem writeL_len {m h : List UInt8} {l : List Seg} (G : GoodP m h l) : (writeL m h l).length ≤ 200 := by
  have h1 := segsText_len l fun g hg => by
    obtain ⟨i, hi⟩ := List.mem_iff_getElem?.1 hg
    exact (G.seg i g hi).1
  have h2 := G.six
  have h3 := G.method
  have h4 := G.host
  simp only [methodB, hostB, Bool.and_eq_true, decide_eq_true_eq] at h3 h4
  unfold writeL headText
  split
  · rw [List.length_append]; omega
  · rw [List.length_append, List.length_append, List.length_cons]; omega

/-- parsePattern at what is written. -/
theorem pp_written (m h : ByteArray) (l : List Seg) (w : World) (G : GoodP (bs m) (bs h) l) (hprops : PropsAt w) :
    Calls Tryd.prog 51 #[.string ⟨(writeL (bs m) (bs h) l).toArray⟩] w fun e w' => PPGood w w' e m h l := by
  have e : bs (⟨(writeL (bs m) (bs h) l).toArray⟩ : ByteArray) = writeL (bs m) (bs h) l := by simp [bs]
  have h1 := pp_any ⟨(writeL (bs m) (bs h) l).toArray⟩ w (by have := writeL_len G; show (writeL (bs m) (bs h) l).toArray.size ≤ _; simp; omega) (by rw [e]; exact pptext_written G) hprops
  rw [e, parse_written G] at h1
  refine h1.mono fun e _ hg => ?_
  have hm : (⟨(bs m).toArray⟩ : ByteArray) = m := (bs_inj (a := m) rfl).symm
  have hh : (⟨(bs h).toArray⟩ : ByteArray) = h := (bs_inj (a := h) rfl).symm
  unfold PPOut at hg
  simp only [hm, hh] at hg
  exact hg

theorem fits_bool {p : Prop} {w w' : World} {e : Ending} (h : FitsEnd p w e w') : ∃ b : Bool, e = .returned (.bool b) ∧ Hid (Below w.heap.size w w') ∧ Hid (b = true → p) := by
  obtain ⟨hb, rfl | ⟨rfl, hp⟩⟩ := h
  · exact ⟨false, rfl, hb, fun h => by cases h⟩
  · exact ⟨true, rfl, hb, fun _ => hp⟩

end Go.Proofs.YtgkhfcoieknjeaaDoor
