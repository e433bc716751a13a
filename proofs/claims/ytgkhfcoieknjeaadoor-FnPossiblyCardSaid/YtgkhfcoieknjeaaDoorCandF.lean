/-
  Proved: the two closures of the index: Candidates$1 appends a pattern's text to the list, possiblyConflictingPatterns$1 does so for each pattern of a row. Conditions: the cells that they capture are as said; the patterns are in memory.
-/
import Derived.Test.YtgkhfcoieknjeaaDoorIdxAdd
namespace Go.Proofs.YtgkhfcoieknjeaaDoor
open Go.RowKit

/-- The list of texts in its cell. -/
def LAt (w : World) (lb base : Nat) (L : List (List UInt8)) : Prop := ∃ v, w.heap[lb]? = some (.cells #[v] 30 (0, 0)) ∧ w.ownsRow base 9 1 v L.length (L.map strV)

/-- Below 'base' nothing but the list's cell has turned. -/
structure ButL (base lb : Nat) (w w' : World) : Prop where
  os : w'.os = w.os
  tape : w'.tape = w.tape
  output : w'.output = w.output
  size : w.heap.size ≤ w'.heap.size
  block : ∀ b, b < base → b ≠ lb → w'.heap[b]? = w.heap[b]?

theorem ButL.refl (base lb : Nat) (w : World) : ButL base lb w w := ⟨rfl, rfl, rfl, Nat.le_refl _, fun _ _ _ => rfl⟩
theorem ButL.trans {base lb : Nat} {w w' w'' : World} (h : ButL base lb w w') (k : ButL base lb w' w'') : ButL base lb w w'' :=
  ⟨k.os.trans h.os, k.tape.trans h.tape, k.output.trans h.output, Nat.le_trans h.size k.size, fun b h1 h2 => (k.block b h1 h2).trans (h.block b h1 h2)⟩
theorem ButL.below {base lb B : Nat} {w w' : World} (h : ButL base lb w w') (h1 : B ≤ base) (h2 : B ≤ lb) : Below B w w' := ⟨h.os, h.tape, h.output, h.size, fun b hb => h.block b (by omega) (by omega)⟩
theorem ButL.of_below {base lb : Nat} {w w' : World} (h : Below base w w') : ButL base lb w w' := ⟨h.os, h.tape, h.output, h.size, fun b hb _ => h.block b hb⟩
theorem ButL.drew {base lb : Nat} {w w' : World} (h : ButL base lb w w') : ButL base lb w w'.drew := ⟨h.os, h.tape, h.output, h.size, h.block⟩

/-- Nothing turns but the list's cell and rows of texts. -/
def StayS (lb : Nat) (w w' : World) : Prop := ∀ (b : Nat), b < w.heap.size → b ≠ lb → (∀ (cs : Array Value) (fr : Nat × Nat), w.heap[b]? ≠ some (Obj.cells cs 9 fr)) → w'.heap[b]? = w.heap[b]?
theorem StayS.refl (lb : Nat) (w : World) : StayS lb w w := fun _ _ _ _ => rfl
theorem StayS.trans {lb : Nat} {w w' w'' : World} (h : StayS lb w w') (k : StayS lb w' w'') (hz : w.heap.size ≤ w'.heap.size) : StayS lb w w'' := fun b h1 h2 h3 => by
  have e := h b h1 h2 h3
  exact (k b (by omega) h2 (fun cs fr => by rw [e]; exact h3 cs fr)).trans e

/-- How the closures end. -/
def FEnd (w : World) (lb base : Nat) (L : List (List UInt8)) (e : Ending) (w' : World) : Prop := e = .returned .nilIface ∧ LAt w' lb base L ∧ ButL base lb w w' ∧ Keeps w w' ∧ StayS lb w w'

set_option maxRecDepth 100000 in
set_option maxHeartbeats 3200000 in
theorem cand1_any {w : World} {lb base a : Nat} {p : PtB} {L : List (List UInt8)} (HL : LAt w lb base L) (HP : PatFull w a p) (hlb : lb < base) (hba : base ≤ w.heap.size) (hlen : L.length ≤ 10000) :
    Calls Tryd.prog 45 #[.pointer (some ⟨a, 0, none⟩), .pointer (some ⟨lb, 0, none⟩)] w (FEnd w lb base (L ++ [p.text])) := by
  obtain ⟨i0, hi, hz0, hz1, hz2⟩ := info_parts info_str
  obtain ⟨v, hb, hown⟩ := HL
  obtain ⟨sv, sb, hp1, _⟩ := HP
  obtain ⟨v3, w3, hrun, hown3, hgrow3, -, -⟩ := run_append_own_at (P := Tryd.prog) (w.drew.alloc (.cells #[strV p.text] 9)) base 30 30 9 i0 (.string ⟨#[]⟩) 1 16 Tryd.underlying30 hi hz0 hz1 hz2 rfl (by decide) v L.length (L.map strV)
    (World.ownsRow.alloc (w := w.drew) hown _) ⟨w.heap.size, 0, none⟩ 1 1 [strV p.text] rfl (cell_one_new w.drew (strV p.text) 9) (by simp [strV, Value.oneCell']) (by unfold maxLen; omega) (by omega) (by simp; omega)
  obtain ⟨A3, cap3, rfl, -, -, -⟩ := own_form hown3
  have hlo : ∀ g, v.ownBlock = some g → base ≤ g ∧ ∃ cur, w.heap[g]? = some (.cells cur 9 (0, 0)) := by
    intro g hg
    rcases hown.2 with ⟨rfl, _⟩ | ⟨g', cap, cur, rfl, h1, h2, _⟩
    · cases hg
    · have : g' = g := by simpa [Value.ownBlock] using hg
      subst this
      exact ⟨h1, cur, h2⟩
  have hl0 : lb < w.heap.size := lt_of_heap hb
  have hb3 : w3.heap[lb]? = some (.cells #[v] 30 (0, 0)) := blk_grown (blk_alloc (w := w.drew) hb _) hgrow3 (fun e => by have := (hlo lb e.symm).1; omega)
  have hb4 : (w3.setCell ⟨lb, 0, none⟩ (.slice A3 (L.length + 1) cap3)).heap[lb]? = some (.cells #[.slice A3 (L.length + 1) cap3] 30 (0, 0)) := by simpa using blk_set hb3 0 (.slice A3 (L.length + 1) cap3)
  have hown4 : (w3.setCell ⟨lb, 0, none⟩ (.slice A3 (L.length + 1) cap3)).ownsRow base 9 1 (.slice A3 (L.length + 1) cap3) (L ++ [p.text]).length ((L ++ [p.text]).map strV) := by
    refine ownsRow_of_heap (w := w3) (by simpa using hown3) fun g hg => Below.heap_setCell _ _ _ _ (fun e => ?_)
    have h5 := (hown3.lt g hg).1
    simp only at e
    omega
  have hblk : ∀ b, b < w.heap.size → b ≠ lb → v.ownBlock ≠ some b → (w3.setCell ⟨lb, 0, none⟩ (.slice A3 (L.length + 1) cap3)).heap[b]? = w.heap[b]? := by
    intro b h1 h2 h3
    rw [Below.heap_setCell _ _ _ _ h2, hgrow3.block b (by simp; omega) (fun e => h3 e.symm)]
    exact Below.heap_alloc w.drew _ _ h1
  have HR : Hid (FEnd w lb base (L ++ [p.text]) (.returned .nilIface) (w3.setCell ⟨lb, 0, none⟩ (.slice A3 (L.length + 1) cap3))) := by
    refine ⟨rfl, ⟨_, hb4, hown4⟩, ⟨hgrow3.os, hgrow3.tape, hgrow3.output, by have := hgrow3.size; simp at this ⊢; omega, fun b h1 h2 => hblk b (by omega) h2 (fun e => by have := (hlo b e).1; omega)⟩, ?_, fun b h1 h2 h3 => hblk b h1 h2 (fun e => by obtain ⟨_, cur, h4⟩ := hlo b e; exact h3 cur _ h4)⟩
    refine keeps_but (P := fun b => b = lb ∨ v.ownBlock = some b) (fun b hb' => ?_) (fun b h1 h2 => hblk b h1 (fun e => h2 (.inl e)) (fun e => h2 (.inr e)))
    rcases hb' with rfl | hb'
    · exact .inl ⟨_, _, hb, by decide, by decide⟩
    · obtain ⟨_, cur, h3⟩ := hlo b hb'
      exact .inl ⟨_, _, h3, by decide, by decide⟩
  have c1 : w.cell? ⟨lb, 0, none⟩ = some v := blk_cell hb 0
  have c2 : w.cell? ⟨a, 0, none⟩ = some (.string ⟨p.text.toArray⟩) := blk_cell hp1 0
  have c1' : (w.alloc (.cells #[.string ⟨p.text.toArray⟩] 9)).cell? ⟨lb, 0, none⟩ = some v := blk_cell (blk_alloc hb _) 0
  have c2' : (w.alloc (.cells #[.string ⟨p.text.toArray⟩] 9)).cell? ⟨a, 0, none⟩ = some (.string ⟨p.text.toArray⟩) := blk_cell (blk_alloc hp1 _) 0
  have k3 := blk_cell hb3 0
  have f3 := blk_free hb3 0
  have hrun' : (Builtin.append_ #[30, 30] 30 #[v, .slice (some ⟨w.heap.size, 0, none⟩) 1 1]).run Tryd.prog (w.alloc (.cells #[.string ⟨p.text.toArray⟩] 9)).drew = .ok (.slice A3 (L.length + 1) cap3) w3 := hrun
  clear hown hp1 hown3 hgrow3 hlo hb3 hb4 hown4 hblk hb hrun
  go_enter Tryd.func45, Tryd.ntmps45
  go_upto_region 1 with fail
  go_region_law (first
    | (refine step_append_run rfl (.tmp 4) (.tmp 9) 30 rfl rfl v (.slice (some ⟨w.heap.size, 0, none⟩) 1 1) rfl rfl _ _ hrun' ?_))
  all_goals
    (go_wp2_with fail
     go_ret
     exact HR.out)

/-- A row of pointers below 'base'. -/
def RowAt (w : World) (base lb : Nat) (v : Value) (xs : List Cl) : Prop :=
  ∃ A cap, v = .slice A xs.length cap ∧ ∀ (j : Nat) (x : Cl), xs[j]? = some x → ∃ g, A = some ⟨g, 0, none⟩ ∧ g < base ∧ g ≠ lb ∧ w.cell? ⟨g, j, none⟩ = some (.pointer (some ⟨x.a, 0, none⟩))

theorem set_same {w : World} {eb : Nat} {u : Value} {t : TypeId} (h : w.heap[eb]? = some (.cells #[u] t (0, 0))) (b : Nat) : (w.setCell ⟨eb, 0, none⟩ u).heap[b]? = w.heap[b]? := by
  by_cases hb : b = eb
  · subst hb
    rw [h]
    simpa using blk_set h 0 u
  · exact Below.heap_setCell _ _ _ _ hb

def txts (xs : List Cl) : List (List UInt8) := xs.map fun x => x.p.text

theorem txts_take {xs : List Cl} {k : Nat} {x : Cl} (h : xs[k]? = some x) : txts (xs.take (k + 1)) = txts (xs.take k) ++ [x.p.text] := by
  unfold txts
  rw [List.take_add_one, h]
  simp

set_option maxRecDepth 100000 in
set_option maxHeartbeats 3200000 in
theorem apply_any {w : World} {lb base eb fb : Nat} {v : Value} {xs : List Cl} {L : List (List UInt8)} (HL : LAt w lb base L) (HR : RowAt w base lb v xs) (HPS : ∀ x ∈ xs, PatFull w x.a x.p)
    (he : w.heap[eb]? = some (.cells #[.nilIface] 78 (0, 0))) (heb : eb < base ∧ eb ≠ lb) (hf : w.heap[fb]? = some (.cells #[.func (.func 45) #[] #[.pointer (some ⟨lb, 0, none⟩)]] 83 (0, 0))) (hfb : fb < base ∧ fb ≠ lb)
    (hlb : lb < base) (hba : base ≤ w.heap.size) (hlen : L.length + xs.length ≤ 10000) :
    Calls Tryd.prog 52 #[v, .pointer (some ⟨eb, 0, none⟩), .pointer (some ⟨fb, 0, none⟩)] w (FEnd w lb base (L ++ txts xs)) := by
  obtain ⟨A, cap, rfl, hrf⟩ := HR
  have HRF := Lib.hid hrf
  have HPP := Lib.hid HPS
  have HE := Lib.hid he
  have HF := Lib.hid hf
  have HLL := Lib.hid HL
  have HEB := Lib.hid heb
  have HFB := Lib.hid hfb
  have ce : w.cell? ⟨eb, 0, none⟩ = some .nilIface := blk_cell he 0
  clear hrf HPS he hf HL heb hfb
  go_enter Tryd.func52, Tryd.ntmps52
  go_wp2_with fail
  go_loopw [12] (fun kv wr => ∃ k : Nat, k ≤ xs.length ∧ kv = .int .i64 k ∧ Hid (LAt wr lb base (L ++ txts (xs.take k))) ∧ Hid (ButL base lb w wr) ∧ Hid (Keeps w wr) ∧ Hid (StayS lb w wr)) (fun kv _ => xs.length - (intOf kv).toNat)
  case atStart => exact ⟨0, Nat.zero_le _, rfl, by show LAt w lb base _; simpa [txts] using HLL.out, ButL.refl _ _ _, Keeps.refl _, StayS.refl _ _⟩
  case round =>
    obtain ⟨k, hk, rfl, HLK, HBK, HKK, HSK⟩ := hrel
    clear ce
    by_cases hlt : k < xs.length
    · obtain ⟨x, hx⟩ : ∃ x, xs[k]? = some x := ⟨_, List.getElem?_eq_getElem hlt⟩
      obtain ⟨g, rfl, hg1, hg2, hg3⟩ := HRF.out k x hx
      have d0 : wr.cell? ⟨g, k, none⟩ = some (.pointer (some ⟨x.a, 0, none⟩)) := (World.cell?_of_block (a := ⟨g, k, none⟩) (HBK.out.block g hg1 hg2)).trans hg3
      have hfw : wr.heap[fb]? = some (.cells #[.func (.func 45) #[] #[.pointer (some ⟨lb, 0, none⟩)]] 83 (0, 0)) := (HBK.out.block fb HFB.out.1 HFB.out.2).trans HF.out
      have hew : wr.heap[eb]? = some (.cells #[.nilIface] 78 (0, 0)) := (HBK.out.block eb HEB.out.1 HEB.out.2).trans HE.out
      have cf := blk_cell hfw 0
      have hszr := HBK.out.size
      have hlk : (L ++ txts (xs.take k)).length ≤ 10000 := by
        rw [List.length_append]
        unfold txts
        simp
        omega
      have HC : Hid (Calls Tryd.prog 45 #[.pointer (some ⟨x.a, 0, none⟩), .pointer (some ⟨lb, 0, none⟩)] wr (FEnd wr lb base (L ++ txts (xs.take k) ++ [x.p.text]))) :=
        cand1_any HLK.out ((HPP.out x (List.mem_of_getElem? hx)).keep HKK.out) hlb (by omega) hlk
      unfold FEnd at HC
      have HTX : Hid (L ++ txts (xs.take (k + 1)) = L ++ txts (xs.take k) ++ [x.p.text]) := by show _ = _; rw [txts_take hx, List.append_assoc]
      have HEW := Lib.hid hew
      clear hx hg1 hg2 hg3 hfw hew hlk
      go_wp2_with (go_at_call 45; (with_reducible refine HC.out.mono ?_); rintro e w2 ⟨rfl, hl2, hb2, hk2, hst2⟩; have HS2 := Lib.hid hst2; have HL2 := Lib.hid hl2; have HB2 := Lib.hid hb2; have HK2 := Lib.hid hk2; have he2 : w2.heap[eb]? = some (.cells #[.nilIface] 78 (0, 0)) := (hb2.block eb HEB.out.1 HEB.out.2).trans HEW.out; have HE2 := Lib.hid he2; have ce2 := blk_cell he2 0; have fe2 := blk_free he2 0; clear hl2 hb2 hk2 he2 hst2)
      go_roundw
      case rel =>
        have hs := set_same HE2.out
        refine ⟨k + 1, by omega, by go_num, ?_, ?_, ?_, ?_⟩
        · obtain ⟨u, h1, h2⟩ := HL2.out
          rw [← HTX.out] at h2
          exact ⟨u, (hs lb).trans h1, ownsRow_of_heap h2 fun b _ => hs b⟩
        · have h1 := HBK.out.trans HB2.out
          exact ⟨h1.os, h1.tape, h1.output, by have := h1.size; simpa using this, fun b h2 h3 => (hs b).trans (h1.block b h2 h3)⟩
        · refine (HKK.out.trans HK2.out).trans ?_
          exact fun b cs t fr _ _ => hs b
        · exact fun b h1 h2 h3 => (hs b).trans ((HSK.out.trans HS2.out HBK.out.size) b h1 h2 h3)
      case measure => simp [intOf]; omega
    · have HLE : Hid (LAt wr lb base (L ++ txts xs)) := by
        have := HLK.out
        rwa [List.take_of_length_le (by omega)] at this
      go_wp2_with fail
      go_ret
      exact ⟨rfl, HLE.out, HBK.out, HKK.out, HSK.out⟩
end Go.Proofs.YtgkhfcoieknjeaaDoor
