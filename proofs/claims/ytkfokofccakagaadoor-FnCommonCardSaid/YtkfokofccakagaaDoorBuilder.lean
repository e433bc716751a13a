/-
  Proved: (*strings.Builder).copyCheck, WriteByte and WriteString, as this dump has them (the copy check's panic is cut off by the loader), write behind what the builder holds, and touch nothing else but rows of bytes. Condition: the new length is at most 2^47 bytes.
  Proved: writeSegment and writeMatchingPath write a slash and the text of each piece behind what a strings.Builder holds. Conditions: the builder and the pieces can be read; at most 100000 bytes are written, each piece has at most 1000.
-/
import Derived.Test.YtkfokofccakagaaDoorShelf
import Derived.Test.YtkfokofccakagaaDoorBytes
import Derived.Shelf.Strings.BuilderK
import Derived.Test.YtkfokofccakagaaDoorCommonLaw
namespace Go.Proofs.YtkfokofccakagaaDoor
open Go.RowKit

theorem info_builder : (Tryd.prog.info? 73).map (·.size) = some 2 := by kernel_rfl
theorem info_byte : (Tryd.prog.info? 5).map (fun i => (i.zero, i.size, i.bytes)) = some (some (.int .u8 0), 1, 1) := by kernel_rfl
theorem lies_builder : liesAt Tryd.prog Tryd.prog.depth 73 (2 / Tryd.prog.cellsOf 73) 0 73 1 = true := by kernel_rfl

set_option maxHeartbeats 1000000 in
set_option maxRecDepth 100000 in
theorem copyCheck_used (b : Nat) (w : World) (h0 : w.cell? ⟨b, 0, none⟩ = some (.pointer (some ⟨b, 0, none⟩))) :
    Calls Tryd.prog 76 #[.pointer (some ⟨b, 0, none⟩)] w fun e w' => e = .returned (.tuple #[]) ∧ w' = w := by
  obtain ⟨j, hj, _⟩ := Option.map_eq_some_iff.1 info_builder
  go_enter Tryd.func76, Tryd.ntmps76
  go_wp2
  rw [Lib.run_neq_ptr_same w _ Tryd.underlying70 hj]
  go_wp2
  go_end0
  exact ⟨rfl, rfl⟩

set_option maxHeartbeats 1000000 in
set_option maxRecDepth 100000 in
theorem copyCheck_fresh (b : Nat) (w : World) (h0 : w.cell? ⟨b, 0, none⟩ = some (.pointer none)) (hsh : w.shape? b = some (73, 2)) (hfz : w.frozen? ⟨b, 0, none⟩ = false) :
    Calls Tryd.prog 76 #[.pointer (some ⟨b, 0, none⟩)] w fun e w' => e = .returned (.tuple #[]) ∧ w' = w.setCell ⟨b, 0, none⟩ (.pointer (some ⟨b, 0, none⟩)) := by
  obtain ⟨j, hj, hjs⟩ := Option.map_eq_some_iff.1 info_builder
  go_enter Tryd.func76, Tryd.ntmps76
  go_wp2
  rw [Lib.run_to_unsafe w ⟨b, 0, none⟩ Tryd.underlying70 Tryd.underlying113 hj (by rw [hjs]; decide) hsh (Nat.zero_lt_succ 1)]
  simp only [Result.andThen]
  rw [Oper.upon_value]
  go_wp2
  rw [run_callFunc_extern Tryd.func86 (by kernel_rfl) (by kernel_rfl) (by kernel_rfl) (e := Extern.AbiNoEscape.same) (by kernel_rfl)]
  rw [Lib.run_noEscape]
  simp only [Result.andThen]
  rw [Oper.upon_value]
  go_wp2
  rw [Lib.run_from_unsafe w ⟨b, 0, none⟩ Tryd.underlying113 Tryd.underlying70 hj hsh lies_builder]
  simp only [Result.andThen]
  rw [Oper.upon_value]
  go_wp2
  go_end0
  exact ⟨rfl, rfl⟩

theorem copyCheck_any (B b : Nat) (bs : List Value) (w : World) (h : Lib.IsBuilderF 73 5 B b bs w) :
    Calls Tryd.prog 76 #[.pointer (some ⟨b, 0, none⟩)] w fun e w' => e = .returned (.tuple #[]) ∧ (Lib.BuilderAtF 73 5 B b (.pointer (some ⟨b, 0, none⟩)) bs w' ∧ Below B w w' ∧ Lib.OthersKept 5 (some b) w w') := by
  rcases h with h | h
  · refine (copyCheck_fresh b w h.cell0 h.shape h.frozen0).mono ?_
    rintro e w' ⟨rfl, rfl⟩
    exact ⟨rfl, h.used _, (Below.refl B w).setCell (p := ⟨b, 0, none⟩) h.1 _, (Lib.OthersKept.refl _ _ w).setCell ⟨b, 0, none⟩ rfl _⟩
  · refine (copyCheck_used b w h.cell0).mono ?_
    rintro e w' ⟨rfl, rfl⟩
    exact ⟨rfl, h, Below.refl B _, Lib.OthersKept.refl _ _ _⟩

set_option maxHeartbeats 2000000 in
set_option maxRecDepth 100000 in
theorem bldWriteByte (B b : Nat) (bs : List Value) (c : Int) (w : World) (h : Lib.IsBuilderF 73 5 B b bs w) (hlen : bs.length + 1 ≤ 140737488355328) (hBw : B ≤ w.heap.size) :
    Calls Tryd.prog 61 #[.pointer (some ⟨b, 0, none⟩), .int .u8 c] w fun e w' => e = .returned .nilIface ∧ (Lib.BuilderAtF 73 5 B b (.pointer (some ⟨b, 0, none⟩)) (bs ++ [.int .u8 c]) w' ∧ Below B w w' ∧ Lib.OthersKept 5 (some b) w w') := by
  obtain ⟨i0, hi, hz0, hz1, hz2⟩ := info_parts info_byte
  go_enter Tryd.func61, Tryd.ntmps61
  go_wp2_with (go_at_call 76; refine (copyCheck_any B b bs _ h).mono ?_)
  rintro e w1 ⟨rfl, h1, hb1, hk1⟩
  obtain ⟨hB, v, hbk, hown, hne⟩ := h1
  have c0 : w1.cell? ⟨b, 0, none⟩ = some (.pointer (some ⟨b, 0, none⟩)) := by rw [Lib.cell_of_heap hbk]; rfl
  have c1 : w1.cell? ⟨b, 1, none⟩ = some v := by rw [Lib.cell_of_heap hbk]; rfl
  go_wp2_with (at_builtin; refine wpList_append_ownF _ rfl _ _ 71 rfl B 5 i0 (.int .u8 0) 1 1 Tryd.underlying71 hi hz0 hz1 hz2 rfl (by decide) _ _ _ rfl (hown.alloc _) ⟨w1.heap.size, 0, none⟩ 1 1 [.int .u8 c] rfl rfl ?c1 ?c2 ?c3 ?c4 ?c5 ?_)
  case c1 =>
    intro j u hj
    match j, hj with
    | 0, hj => simp at hj; subst hj; simp [Addr.add]
  case c2 => intro u hu; simp at hu; subst hu; rfl
  case c3 => unfold maxLen; omega
  case c4 => omega
  case c5 => have := hb1.size; simp; omega
  intro v' w2 hown' hgrow _
  have hlt : b < w1.heap.size := by
    rcases Nat.lt_or_ge b w1.heap.size with h' | h'
    · exact h'
    · simp [Array.getElem?_eq_none h'] at hbk
  have hb2 : w2.heap[b]? = some (.cells #[.pointer (some ⟨b, 0, none⟩), v] 73 (0, 0)) := by
    rw [hgrow.block b (by simp; omega) (fun e => hne e.symm), Lib.alloc_old w1 _ b hlt]
    exact hbk
  have d0 : w2.cell? ⟨b, 0, none⟩ = some (.pointer (some ⟨b, 0, none⟩)) := by rw [Lib.cell_of_heap hb2]; rfl
  have d1 : w2.cell? ⟨b, 1, none⟩ = some v := by rw [Lib.cell_of_heap hb2]; rfl
  have f1 : w2.frozen? ⟨b, 1, none⟩ = false := Lib.frozen_of_heap hb2 1
  obtain ⟨g, cap, rfl⟩ : ∃ g cap, v' = .slice (some ⟨g, 0, none⟩) (bs.length + 1) cap := by
    rcases hown'.2 with ⟨_, h0⟩ | ⟨g, cap, cur, fz, hv, _⟩
    · omega
    · exact ⟨g, cap, hv⟩
  go_wp2
  go_ret
  refine ⟨rfl, ?_, ?_, ((hk1.alloc _).grown hgrow (Lib.ownsRowF_kind (hown.alloc _))).setCell ⟨b, 1, none⟩ rfl _⟩
  · exact Lib.BuilderAtF.put (T := 73) (e := 5) hB hb2 (bs' := bs ++ [.int .u8 c]) (by simpa using hown') (by decide)
  · exact ((hb1.alloc (by have := hb1.size; omega) _).grown hgrow (by have := hb1.size; simp; omega) (fun k hk => (hown.lt k hk).1)).setCell (p := ⟨b, 1, none⟩) hB _

set_option maxHeartbeats 2000000 in
set_option maxRecDepth 100000 in
theorem bldWriteString (B b : Nat) (bs : List Value) (s : ByteArray) (w : World) (h : Lib.IsBuilderF 73 5 B b bs w) (hlen : bs.length + s.size ≤ 140737488355328) (hBw : B ≤ w.heap.size) :
    Calls Tryd.prog 62 #[.pointer (some ⟨b, 0, none⟩), .string s] w fun e w' => e = .returned (.tuple #[.int .i64 s.size, .nilIface]) ∧ (Lib.BuilderAtF 73 5 B b (.pointer (some ⟨b, 0, none⟩)) (bs ++ Lib.strCells s) w' ∧ Below B w w' ∧ Lib.OthersKept 5 (some b) w w') := by
  obtain ⟨i0, hi, hz0, hz1, hz2⟩ := info_parts info_byte
  go_enter Tryd.func62, Tryd.ntmps62
  go_wp2_with (go_at_call 76; refine (copyCheck_any B b bs _ h).mono ?_)
  rintro e w1 ⟨rfl, h1, hb1, hk1⟩
  obtain ⟨hB, v, hbk, hown, hne⟩ := h1
  have c0 : w1.cell? ⟨b, 0, none⟩ = some (.pointer (some ⟨b, 0, none⟩)) := by rw [Lib.cell_of_heap hbk]; rfl
  have c1 : w1.cell? ⟨b, 1, none⟩ = some v := by rw [Lib.cell_of_heap hbk]; rfl
  go_wp2_with (at_builtin; refine Lib.wpList_append_own_stringF _ rfl _ _ 71 9 rfl B 5 i0 Tryd.underlying71 Tryd.underlying9 hi hz0 hz1 hz2 _ _ _ rfl hown s rfl ?c3 ?c4 ?c5 ?_)
  case c3 => unfold maxLen; omega
  case c4 => omega
  case c5 => have := hb1.size; omega
  intro v' w2 hown' hgrow _
  have hlt : b < w1.heap.size := by
    rcases Nat.lt_or_ge b w1.heap.size with h' | h'
    · exact h'
    · simp [Array.getElem?_eq_none h'] at hbk
  have hb2 : w2.heap[b]? = some (.cells #[.pointer (some ⟨b, 0, none⟩), v] 73 (0, 0)) := by
    rw [hgrow.block b hlt (fun e => hne e.symm)]
    exact hbk
  have d0 : w2.cell? ⟨b, 0, none⟩ = some (.pointer (some ⟨b, 0, none⟩)) := by rw [Lib.cell_of_heap hb2]; rfl
  have d1 : w2.cell? ⟨b, 1, none⟩ = some v := by rw [Lib.cell_of_heap hb2]; rfl
  have f1 : w2.frozen? ⟨b, 1, none⟩ = false := Lib.frozen_of_heap hb2 1
  obtain ⟨ao, n', cap, rfl⟩ : ∃ ao n' cap, v' = .slice ao n' cap := by
    rcases hown'.2 with ⟨hv, _⟩ | ⟨g, cap, cur, fz, hv, _⟩
    · exact ⟨_, _, _, hv⟩
    · exact ⟨_, _, _, hv⟩
  go_wp2
  go_ret2
  refine ⟨rfl, ?_, ?_, (hk1.grown hgrow (Lib.ownsRowF_kind hown)).setCell ⟨b, 1, none⟩ rfl _⟩
  · exact Lib.BuilderAtF.put (T := 73) (e := 5) hB hb2 (bs' := bs ++ Lib.strCells s) (by simpa [Lib.strCells_length] using hown') (by decide)
  · exact (hb1.grown hgrow (by have := hb1.size; omega) (fun k hk => (hown.lt k hk).1)).setCell (p := ⟨b, 1, none⟩) hB _
end Go.Proofs.YtkfokofccakagaaDoor

namespace Go.Proofs.YtkfokofccakagaaDoor
open Go.RowKit

/-- A builder that holds bytes. -/
def BldAt (B : Nat) (l : List UInt8) (w : World) : Prop := Lib.IsBuilderF 73 5 B B (Lib.byteCells l) w

theorem BldAt.lt {B : Nat} {l : List UInt8} {w : World} (h : BldAt B l w) : B < w.heap.size := by
  rcases h with h | h <;> exact h.lt
theorem BldAt.alloc {B : Nat} {l : List UInt8} {w : World} (h : BldAt B l w) (o : Obj) : BldAt B l (w.alloc o) := by
  rcases h with h | h
  · exact .inl (h.alloc o)
  · exact .inr (h.alloc o)
theorem BldAt.drew {B : Nat} {l : List UInt8} {w : World} (h : BldAt B l w) (n : Nat) : BldAt B l (w.drewN n) := h

theorem seg_kept {B : Nat} {w W : World} (o : Array Value) (k : Lib.OthersKept 5 (some B) (w.alloc (.cells o 78)) W) (hB : B < w.heap.size) (i : Nat) (hi : i < o.size) :
    W.cell? ⟨w.heap.size, i, none⟩ = some o[i] := by
  have h := k w.heap.size (.cells o 78 (0, 0)) (new0 w _) (by simp; omega) (fun c fz h => by cases h)
  rw [Lib.cell_of_heap h]
  simp [hi]

set_option maxRecDepth 100000 in
set_option maxHeartbeats 1600000 in
theorem writeSegment_any (B : Nat) (g : Seg) (acc : List UInt8) (w : World) (H : BldAt B acc w) (hl : acc.length ≤ 100000) (hg : g.s.length ≤ 1000) :
    Calls Tryd.prog 53 #[.pointer (some ⟨B, 0, none⟩), .agg #[.string ⟨g.s.toArray⟩, .bool g.wild, .bool g.multi]] w fun e w' => e = .returned (.tuple #[]) ∧ BldAt B (acc ++ 47 :: wtext g) w' ∧ Below B w w' := by
  obtain ⟨s, wd, m⟩ := g
  have hlt := H.lt
  have H0 := H.alloc (.cells #[.string ⟨s.toArray⟩, .bool wd, .bool m] 78)
  have HB0 : Hid (Below B w (w.alloc (.cells #[.string ⟨s.toArray⟩, .bool wd, .bool m] 78))) := (Below.refl _ _).alloc (by omega) _
  have HW1 : Hid (Calls Tryd.prog 61 #[.pointer (some ⟨B, 0, none⟩), .int .u8 47] (w.alloc (.cells #[.string ⟨s.toArray⟩, .bool wd, .bool m] 78)) fun e W => e = .returned .nilIface ∧ BldAt B (acc ++ [47]) W ∧ Below B w W ∧ W.cell? ⟨w.heap.size, 0, none⟩ = some (.string ⟨s.toArray⟩) ∧ W.cell? ⟨w.heap.size, 1, none⟩ = some (.bool wd) ∧ W.cell? ⟨w.heap.size, 2, none⟩ = some (.bool m)) := by
    refine (bldWriteByte B B _ 47 _ H0 (by rw [Lib.byteCells_length]; omega) (by simp; omega)).mono ?_
    rintro e W ⟨rfl, h1, b1, k1⟩
    refine ⟨rfl, ?_, HB0.out.trans b1, seg_kept _ k1 hlt 0 (by simp), seg_kept _ k1 hlt 1 (by simp), seg_kept _ k1 hlt 2 (by simp)⟩
    unfold BldAt
    rw [Lib.byteCells_append]
    exact .inr h1
  have HW2 : Hid (∀ W, BldAt B (acc ++ [47]) W → Calls Tryd.prog 62 #[.pointer (some ⟨B, 0, none⟩), .string ⟨s.toArray⟩] W fun e W' => (∃ v, e = .returned v) ∧ BldAt B (acc ++ 47 :: s) W' ∧ Below B W W') := by
    intro W hW
    refine (bldWriteString B B _ ⟨s.toArray⟩ _ hW (by rw [Lib.byteCells_length]; simp [ByteArray.size]; simp at hg; omega) (by have := hW.lt; omega)).mono ?_
    rintro e W' ⟨rfl, h1, b1, _⟩
    refine ⟨⟨_, rfl⟩, ?_, b1⟩
    unfold BldAt
    rw [show acc ++ 47 :: s = (acc ++ [47]) ++ s by simp, Lib.byteCells_append]
    exact .inr h1
  have HT : Hid (acc ++ 47 :: wtext ⟨s, wd, m⟩ = if (!m && !decide (s = [47])) = true then acc ++ 47 :: s else acc ++ [47]) := by
    show _ = _
    unfold wtext
    split <;> rfl
  generalize acc ++ 47 :: wtext ⟨s, wd, m⟩ = out at HT ⊢
  clear H H0 hl hg
  cases m
  · by_cases hs : s = [47]
    · have e0 : (s == [47]) = true := by simpa using hs
      have HT2 : Hid (out = acc ++ [47]) := HT.out.trans (by simp [hs])
      clear hs
      go_enter Tryd.func53, Tryd.ntmps53
      go_wp2_with (go_at_call 61; refine HW1.out.mono ?_; rintro e w1 ⟨rfl, h1, b1, c0, c1, c2⟩; have H1 := Lib.hid h1; have B1 := Lib.hid b1; clear h1 b1)
      go_end0
      exact ⟨rfl, HT2.out ▸ H1.out, B1.out⟩
    · have e0 : (s == [47]) = false := by simpa using hs
      have HT2 : Hid (out = acc ++ 47 :: s) := HT.out.trans (by simp [hs])
      clear hs
      go_enter Tryd.func53, Tryd.ntmps53
      go_wp2_with (first
        | (go_at_call 61; refine HW1.out.mono ?_; rintro e w1 ⟨rfl, h1, b1, c0, c1, c2⟩; have H1 := Lib.hid h1; have B1 := Lib.hid b1; clear h1 b1)
        | (go_at_call 62; refine (HW2.out _ H1.out).mono ?_; rintro e w2 ⟨⟨v, rfl⟩, h2, b2⟩; have H2 := Lib.hid h2; have B2 := Lib.hid (B1.out.trans b2); clear h2 b2))
      go_end0
      exact ⟨rfl, HT2.out ▸ H2.out, B2.out⟩
  · have HT2 : Hid (out = acc ++ [47]) := HT.out.trans (by simp)
    go_enter Tryd.func53, Tryd.ntmps53
    go_wp2_with (go_at_call 61; refine HW1.out.mono ?_; rintro e w1 ⟨rfl, h1, b1, c0, c1, c2⟩; have H1 := Lib.hid h1; have B1 := Lib.hid b1; clear h1 b1)
    go_end0
    exact ⟨rfl, HT2.out ▸ H1.out, B1.out⟩
end Go.Proofs.YtkfokofccakagaaDoor
