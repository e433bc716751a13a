/-
  A trial: parsePattern from its entry.
-/
import Derived.Test.YtgkhfcoieknjeaaDoorBlank
import Derived.Test.YtgkhfcoieknjeaaDoorPPDefs
import Derived.Test.YtgkhfcoieknjeaaDoorWrapErr
import Derived.Test.YtgkhfcoieknjeaaDoorShelf
namespace Go.Proofs.YtgkhfcoieknjeaaDoor
open Go.RowKit

set_option maxRecDepth 100000 in
set_option maxHeartbeats 1600000 in
theorem pp_empty (w : World) :
    Calls Tryd.prog 51 #[.string ⟨#[]⟩] w fun e w' => PPBad w w' e := by
  have hmf : ∀ (fn : Fn) (first cap : Array Value) (w : World), (Instr.makeFunc fn first cap).run Tryd.prog w = .ok (.func fn first cap) w := fun _ _ _ _ => rfl
  go_enter_defers Tryd.func51, Tryd.ntmps51
  go_wp2_with (go_at_call 56; refine (errorsNew_any _ _).mono ?_; rintro e w1 ⟨t, v, rfl, hb1⟩; have hb0 : w1.heap[w.heap.size]? = some (.cells #[.nilIface] 78 (0, 0)) := (hb1.block _ (by simp)).trans (new0 _ _); have hc1 := blk_cell hb0 0; have hf1 := blk_free hb0 0; have HB1 := Lib.hid hb1; have hl1 := blk_lt hb0; clear hb1 hb0)
  refine ⟨.tuple #[.pointer none, .iface t v], by simp [results, Tryd.results51, go_sem, hc1], t, v, rfl, ?_⟩
  exact (((Below.refl w.heap.size w).alloc (Nat.le_refl _) _).trans (HB1.out.mono (by simp))).setCell (Nat.le_refl _) _

/-- Behind the door: an error in the cell is wrapped. -/
theorem door_bad (w W : World) (tmps : Array Value) (b : Nat) (t : TypeId) (v : Value) (hb : w.heap.size ≤ b) (hl : b < W.heap.size) (hc : W.cell? ⟨b, 0, none⟩ = some (.iface t v)) (hf : W.frozen? ⟨b, 0, none⟩ = false) (hbel : Below w.heap.size w W)
    (h2 : tmps[2]?.getD undef = .pointer none) (h3 : tmps[3]?.getD undef = .pointer (some ⟨b, 0, none⟩)) :
    Leaves Tryd.prog Tryd.f51 tmps (fun e w' => PPBad w w' e) [{ target := Target.fn (Fn.func 57) #[.pointer (some ⟨b, 0, none⟩)], args := #[] }] .returning W := by
  refine leaves_cons (f := 57) (args := #[.pointer (some ⟨b, 0, none⟩)]) (by simp) (by simp [go_sem]) ?_
  refine (wrap_err b t v .returning W hc hf hl).mono ?_
  rintro e u' w'' ⟨rfl, rfl, t', v', hc', hb'⟩
  refine ⟨.tuple #[.pointer none, .iface t' v'], ?_, t', v', rfl, hbel.trans (hb'.mono hb)⟩
  simp [results, Tryd.results51, go_sem, h2, h3, hc']

set_option maxRecDepth 100000 in
set_option maxHeartbeats 1600000 in
/-- No blank and no slash: refused. -/
theorem pp_noslash (s : ByteArray) (w : World) (hs : s.size ≤ 2147483647) (he : bs s ≠ []) (hasc : ∀ b ∈ bs s, b.toNat < 128) (hbl : blankIdx (bs s) = -1) (hsl : Go.Lib.indexByte (bs s) 47 = -1) :
    Calls Tryd.prog 51 #[.string s] w fun e w' => PPBad w w' e := by
  have hmf : ∀ (fn : Fn) (first cap : Array Value) (w : World), (Instr.makeFunc fn first cap).run Tryd.prog w = .ok (.func fn first cap) w := fun _ _ _ _ => rfl
  have HIX : Hid (∀ w, Calls Tryd.prog 61 #[.string s, .int .u8 47] w fun e w' => e = .returned (.int .i64 (-1)) ∧ w = w') := by
    intro w
    have := Tryd.strings_IndexByte s 47 w
    exact this.mono fun e w' ⟨h1, h2⟩ => ⟨h1.trans (congrArg (fun x => Ending.returned (Value.int .i64 x)) hsl), h2.symm⟩
  have HAN : Hid (∀ w, Calls Tryd.prog 58 #[.string s, .string ⟨#[32, 9]⟩] w fun e w' => e = .returned (.int .i64 (-1)) ∧ Below w.heap.size w w') := by
    intro w
    have := indexAny_any s w (by omega) hasc
    rw [hbl] at this
    exact this
  have hz : ((s.size : Int) == 0) = false := by
    rw [beq_eq_false_iff_ne]
    intro h
    exact he (List.eq_nil_of_length_eq_zero (by rw [bs_size]; omega))
  clear hasc hbl hsl he
  go_enter_defers Tryd.func51, Tryd.ntmps51
  go_wp2_with (first
    | (go_at_call 58; refine (HAN.out _).mono ?_; rintro e w1 ⟨rfl, hb1⟩; have hb0 : w1.heap[w.heap.size]? = some (.cells #[.nilIface] 78 (0, 0)) := (hb1.block _ (by simp)).trans (new0 _ _); have HC0 := Lib.hid hb0; have HB1 := Lib.hid hb1; clear hb1 hb0)
    | (go_at_call 61; refine (HIX.out _).mono ?_; rintro e w2 ⟨rfl, rfl⟩)
    | (go_at_call 56; refine (errorsNew_any _ _).mono ?_; rintro e w3 ⟨t, v, rfl, hb3⟩; have hb0 := blk_below (blk_alloc HC0.out _) hb3; have HB3 := Lib.hid hb3; have hc1 := blk_cell hb0 0; have hf1 := blk_free hb0 0; have hl3 := blk_lt hb0; clear hb3 hb0))
  have hbw : Below w.heap.size w w1 := ((Below.refl w.heap.size w).alloc (Nat.le_refl _) _).trans (HB1.out.mono (by simp))
  have hbw3 : Below w.heap.size w w3 := (hbw.alloc hbw.size _).trans (HB3.out.mono (by have := hbw.size; simp; omega))
  exact door_bad w _ _ w.heap.size t v (Nat.le_refl _) (by simpa using hl3) (World.cell?_setCell_same' _ _ _ (by rw [hc1]; rfl)) (by simp [hf1]) (hbw3.setCell (Nat.le_refl _) _) rfl rfl
end Go.Proofs.YtgkhfcoieknjeaaDoor
