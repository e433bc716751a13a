/-
  Proved: what an argument that is a request holds when it can be read as data.
  Proved: laws.zzFits4 tells whether a request's texts have at most 2^31 - 1 bytes; spec.Asks and laws.request cut a request's path into its pieces, and answer true only where something is stated of it. Condition: the texts are shorter than 2^63 bytes.
-/
import Derived.Test.YtgkhfcoieknjeaaDoorOpen
import Derived.Test.YtgkhfcoieknjeaaDoorFits
import Derived.Test.YtgkhfcoieknjeaaDoorItemsWalk
import Derived.Test.YtgkhfcoieknjeaaDoorClasses
import Derived.Deep.CutBlock
namespace Go.Proofs.YtgkhfcoieknjeaaDoor
open Go.RowKit Go.ChangeShapes Go.WideShapes Go.Deep Go.Joins

section
variable {H : Type} {enc : TypeId × Value → H} {w : World} {base : Nat} {spare : Nat → Bool} {held : Bool}
set_option maxRecDepth 100000 in
/-- A request. -/
theorem open_request {r : Reach} {b0 : Nat} {v : Value} {d : DataW H} {p : List MemPlace} (hv : Value.okWide Tryd.prog w r b0 24 v) (h : DataW.Trod enc Tryd.prog w base spare held 24 v d p) :
    ∃ (m hst pt : ByteArray), v = .agg #[.string m, .string hst, .string pt] ∧ m.size ≤ 9223372036854775807 ∧ hst.size ≤ 9223372036854775807 ∧ pt.size ≤ 9223372036854775807 := by
  obtain ⟨v0, v1, v2, y0, y1, y2, n, rfl, _, _, t0, t1, t2⟩ := open_agg3 Tryd.underlying24 (by kernel_rfl) (by kernel_rfl) hv h
  obtain ⟨s0, hs0, _, z0⟩ := DataW.trod_string Tryd.underlying9 t0
  obtain ⟨s1, hs1, _, z1⟩ := DataW.trod_string Tryd.underlying9 t1
  obtain ⟨s2, hs2, _, z2⟩ := DataW.trod_string Tryd.underlying9 t2
  simp only [List.cons.injEq, and_true] at hs0 hs1 hs2
  subst hs0 hs1 hs2
  unfold maxLen at z0 z1 z2
  exact ⟨s0, s1, s2, rfl, z0, z1, z2⟩
end
end Go.Proofs.YtgkhfcoieknjeaaDoor

namespace Go.Proofs.YtgkhfcoieknjeaaDoor
open Go.RowKit

/-- A request that fits. -/
def FitsR (m h p : ByteArray) : Prop := m.size ≤ 2147483647 ∧ h.size ≤ 2147483647 ∧ p.size ≤ 2147483647

set_option maxHeartbeats 800000 in
theorem zfFour (m h p : ByteArray) (w : World) (hm : m.size ≤ 9223372036854775807) (hh : h.size ≤ 9223372036854775807) (hp : p.size ≤ 9223372036854775807) :
    Calls Tryd.prog 9 #[.agg #[.string m, .string h, .string p]] w (FitsEnd (FitsR m h p) w) := by
  by_cases h1 : 2147483647 < m.size
  · go_enter Tryd.func9, Tryd.ntmps9
    go_wp2_with fail
    go_ret
    exact ⟨(Below.refl _ _).alloc (Nat.le_refl _) _, .inl rfl⟩
  by_cases h2 : 2147483647 < h.size
  · go_enter Tryd.func9, Tryd.ntmps9
    go_wp2_with fail
    go_ret
    exact ⟨(Below.refl _ _).alloc (Nat.le_refl _) _, .inl rfl⟩
  by_cases h3 : 2147483647 < p.size
  · go_enter Tryd.func9, Tryd.ntmps9
    go_wp2_with fail
    go_ret
    exact ⟨(Below.refl _ _).alloc (Nat.le_refl _) _, .inl rfl⟩
  go_enter Tryd.func9, Tryd.ntmps9
  go_wp2_with fail
  go_ret
  exact ⟨(Below.refl _ _).alloc (Nat.le_refl _) _, .inr ⟨rfl, by omega, by omega, by omega⟩⟩

/-- Something is stated of a request. -/
def AskOk (m h p : List UInt8) (its : List (List UInt8)) : Prop := itemsL p = some its ∧ methodB m = true ∧ hostB h = true

/-- What Items answers, in new memory. -/
def ItemsOwn (l : List UInt8) (w : World) (e : Ending) (w' : World) : Prop :=
  ∃ v b its, e = .returned (.tuple #[v, .bool b]) ∧ (b = true → itemsL l = some its ∧ w'.ownsRow w.heap.size 9 1 v its.length (its.map strV)) ∧ Below w.heap.size w w'

theorem items_own (s : ByteArray) (w : World) (hs : s.size ≤ 9223372036854775807) : Calls Tryd.prog 39 #[.string s] w (ItemsOwn (bs s) w) := by
  refine (items_any s w hs).mono ?_
  rintro e w' ⟨hb, ⟨h, rfl⟩ | ⟨its, v, h, rfl, hown⟩⟩
  · exact ⟨_, false, [], rfl, (fun h => by cases h), hb⟩
  · exact ⟨_, true, its, rfl, fun _ => ⟨h, hown⟩, hb⟩

/-- How Asks ends. -/
def AsksEnd (m h p : List UInt8) (w : World) (e : Ending) (w' : World) : Prop :=
  ∃ v ok its, e = .returned (.tuple #[v, .bool ok]) ∧ (ok = true → AskOk m h p its ∧ w'.ownsRow w.heap.size 9 1 v its.length (its.map strV)) ∧ Below w.heap.size w w'

set_option maxRecDepth 100000 in
set_option maxHeartbeats 800000 in
theorem asks_any (m h p : ByteArray) (w : World) (hf : FitsR m h p) :
    Calls Tryd.prog 26 #[.agg #[.string m, .string h, .string p]] w (AsksEnd (bs m) (bs h) (bs p) w) := by
  obtain ⟨hm, hh, hp⟩ := hf
  obtain ⟨bm, hbm⟩ : ∃ b, b = methodB (bs m) := ⟨_, rfl⟩
  obtain ⟨bh, hbh⟩ : ∃ b, b = hostB (bs h) := ⟨_, rfl⟩
  have HM : Hid (∀ W, Calls Tryd.prog 31 #[.string m] W fun e w' => e = .returned (.bool bm) ∧ W = w') := by
    intro W; rw [hbm]; exact method_loop m W (by omega)
  have HH : Hid (∀ W, Calls Tryd.prog 32 #[.string h] W fun e w' => e = .returned (.bool bh) ∧ W = w') := by
    intro W; rw [hbh]; exact host_loop h W (by omega)
  have HI : Hid (∀ W, Calls Tryd.prog 39 #[.string p] W (ItemsOwn (bs p) W)) := fun W => items_own p W (by omega)
  have HBM := Lib.hid hbm
  have HBH := Lib.hid hbh
  have hc0 := new0 w (.cells #[.string m, .string h, .string p] 29)
  have HB0 : Hid (Below w.heap.size w (w.alloc (.cells #[.string m, .string h, .string p] 29))) := (Below.refl _ _).alloc (Nat.le_refl _) _
  obtain ⟨W0, hW0⟩ : ∃ W0, W0 = w.alloc (.cells #[.string m, .string h, .string p] 29) := ⟨_, rfl⟩
  rw [← hW0] at hc0 HB0
  have HC : Hid (∀ w', Below W0.heap.size W0 w' → w'.cell? ⟨w.heap.size, 0, none⟩ = some (.string m) ∧ w'.cell? ⟨w.heap.size, 1, none⟩ = some (.string h) ∧ w'.cell? ⟨w.heap.size, 2, none⟩ = some (.string p)) := fun w' hb =>
    ⟨blk_cell (blk_below hc0 hb) 0, blk_cell (blk_below hc0 hb) 1, blk_cell (blk_below hc0 hb) 2⟩
  clear hbm hbh hc0
  go_enter Tryd.func26, Tryd.ntmps26
  go_upto_region 1 with fail
  rw [← hW0]
  clear hW0
  obtain ⟨s0, s1, s2⟩ := HC.out _ (Below.refl _ _)
  go_upto_region 2 with (go_at_call 39; (with_reducible refine (HI.out _).mono ?_); rintro e w1 ⟨v, b, its, rfl, hk, hb⟩; have HK := Lib.hid hk; have HBB := Lib.hid hb; clear hk hb)
  obtain ⟨x0, x1, x2⟩ := HC.out _ HBB.out
  clear s0 s1 s2
  have HR : Hid (Below w.heap.size w w1) := HB0.out.trans (HBB.out.mono HB0.out.size)
  clear HBB
  cases b
  · go_wp2_with fail
    go_ret2
    exact ⟨_, _, its, rfl, (fun h => by cases h), HR.out⟩
  · cases bm
    · go_wp2_with (go_at_call 31; (with_reducible refine (HM.out _).mono ?_); rintro e wm ⟨rfl, rfl⟩)
      go_ret2
      exact ⟨_, _, its, rfl, (fun h => by cases h), HR.out⟩
    · cases bh
      · go_wp2_with (first | (go_at_call 31; (with_reducible refine (HM.out _).mono ?_); rintro e wm ⟨rfl, rfl⟩) | (go_at_call 32; (with_reducible refine (HH.out _).mono ?_); rintro e wm ⟨rfl, rfl⟩))
        go_ret2
        exact ⟨_, _, its, rfl, (fun h => by cases h), HR.out⟩
      · go_wp2_with (first | (go_at_call 31; (with_reducible refine (HM.out _).mono ?_); rintro e wm ⟨rfl, rfl⟩) | (go_at_call 32; (with_reducible refine (HH.out _).mono ?_); rintro e wm ⟨rfl, rfl⟩))
        go_ret2
        exact ⟨_, _, its, rfl, fun _ => ⟨⟨(HK.out (by first | rfl | trivial)).1, HBM.out.symm, HBH.out.symm⟩, own_lower (HK.out (by first | rfl | trivial)).2 HB0.out.size⟩, HR.out⟩

/-- How laws.request ends. -/
def ReqEnd (m h p : ByteArray) (w : World) (e : Ending) (w' : World) : Prop :=
  ∃ v ok its, e = .returned (.tuple #[.agg #[.string m, .string h, .string p], v, .bool ok]) ∧ (ok = true → AskOk (bs m) (bs h) (bs p) its ∧ StrsAt w' v its) ∧ Below w.heap.size w w'

set_option maxRecDepth 100000 in
set_option maxHeartbeats 800000 in
theorem request_any (m h p : ByteArray) (w : World) (hf : FitsR m h p) :
    Calls Tryd.prog 11 #[.agg #[.string m, .string h, .string p]] w (ReqEnd m h p w) := by
  have HA : Hid (∀ W, Calls Tryd.prog 26 #[.agg #[.string m, .string h, .string p]] W (AsksEnd (bs m) (bs h) (bs p) W)) := fun W => asks_any m h p W hf
  clear hf
  have hz := blk_alloc (new1 w (.cells #[.string m, .string h, .string p] 24) (.cells #[.string ⟨#[]⟩, .string ⟨#[]⟩, .string ⟨#[]⟩] 29)) (.cells #[.string m, .string h, .string p] 29)
  have hx := new2 w (.cells #[.string m, .string h, .string p] 24) (.cells #[.string ⟨#[]⟩, .string ⟨#[]⟩, .string ⟨#[]⟩] 29) (.cells #[.string m, .string h, .string p] 29)
  have HB0 : Hid (Below w.heap.size w (((w.alloc (.cells #[.string m, .string h, .string p] 24)).alloc (.cells #[.string ⟨#[]⟩, .string ⟨#[]⟩, .string ⟨#[]⟩] 29)).alloc (.cells #[.string m, .string h, .string p] 29))) := (((Below.refl _ _).alloc (Nat.le_refl _) _).alloc (by simp) _).alloc (by simp; omega) _
  obtain ⟨W0, hW0⟩ : ∃ W0, W0 = ((w.alloc (.cells #[.string m, .string h, .string p] 24)).alloc (.cells #[.string ⟨#[]⟩, .string ⟨#[]⟩, .string ⟨#[]⟩] 29)).alloc (.cells #[.string m, .string h, .string p] 29) := ⟨_, rfl⟩
  rw [← hW0] at hz hx HB0
  have x0 : W0.cell? ⟨w.heap.size + 1 + 1, 0, none⟩ = some (.string m) := blk_cell hx 0
  have x1 : W0.cell? ⟨w.heap.size + 1 + 1, 1, none⟩ = some (.string h) := blk_cell hx 1
  have x2 : W0.cell? ⟨w.heap.size + 1 + 1, 2, none⟩ = some (.string p) := blk_cell hx 2
  have HZ := Lib.hid hz
  have HX := Lib.hid hx
  clear hz hx
  go_enter Tryd.func11, Tryd.ntmps11
  go_upto_region 2 with fail
  rw [← hW0]
  clear hW0
  go_upto_region 3 with (go_at_call 26; (with_reducible refine (HA.out _).mono ?_); rintro e w1 ⟨v, ok, its, rfl, hk, hb⟩; have HK := Lib.hid hk; have HBB := Lib.hid hb; clear hk hb)
  clear x0 x1 x2
  have hx1 := blk_below HX.out HBB.out
  have x0 : w1.cell? ⟨w.heap.size + 1 + 1, 0, none⟩ = some (.string m) := blk_cell hx1 0
  have x1 : w1.cell? ⟨w.heap.size + 1 + 1, 1, none⟩ = some (.string h) := blk_cell hx1 1
  have x2 : w1.cell? ⟨w.heap.size + 1 + 1, 2, none⟩ = some (.string p) := blk_cell hx1 2
  have hz1 := blk_below HZ.out HBB.out
  have z0 : w1.cell? ⟨w.heap.size + 1, 0, none⟩ = some (.string ⟨#[]⟩) := blk_cell hz1 0
  have z1 : w1.cell? ⟨w.heap.size + 1, 1, none⟩ = some (.string ⟨#[]⟩) := blk_cell hz1 1
  have z2 : w1.cell? ⟨w.heap.size + 1, 2, none⟩ = some (.string ⟨#[]⟩) := blk_cell hz1 2
  have f0 := blk_free hz1 0
  have f1 := blk_free hz1 1
  have f2 := blk_free hz1 2
  have HR : Hid (Below w.heap.size w w1) := HB0.out.trans (HBB.out.mono HB0.out.size)
  have HZ1 := Lib.hid hz1
  have hlt := blk_lt hz1
  clear hx1 hz1 HB0
  have hs0 : w.heap.size + 1 < W0.heap.size := by have := blk_lt HX.out; omega
  go_wp2_with fail
  refine bodyPost_ret (v := .tuple #[.agg #[.string m, .string h, .string p], v, .bool ok]) (by simp [results, Tryd.results11, go_sem, z0, z1, z2]) rfl ⟨v, ok, its, rfl, fun h => ?_, ?_⟩
  · obtain ⟨k1, k2⟩ := HK.out h
    exact ⟨k1, StrsAt.of_own (ownsRow_setCell_below (ownsRow_setCell_below (ownsRow_setCell_below k2 (by simpa using hs0) _) (by simpa using hs0) _) (by simpa using hs0) _)⟩
  · exact ((HR.out.setCell (by simp) _).setCell (by simp) _).setCell (by simp) _
end Go.Proofs.YtgkhfcoieknjeaaDoor
