/-
  Proved: laws.take answers as MatchRes says; spec.SameTexts tells whether two rows of texts are equal. Conditions: the patterns are good, no two conflict, at most ten; something is stated of the request; the rows can be read.
-/
import Derived.Test.YtgkhfcoieknjeaaDoorPats
import Derived.Test.YtgkhfcoieknjeaaDoorReq
import Derived.Test.YtgkhfcoieknjeaaDoorMatchAll
import Derived.Deep.RegionHeld3
namespace Go.Proofs.YtgkhfcoieknjeaaDoor
open Go.RowKit Go.Lib.Pa

theorem in_slashed : ∀ (qs : List (List UInt8)) (q : List UInt8), q ∈ qs → ∀ c ∈ q, c ∈ slashed qs
  | [], q, h, c, hc => by simp at h
  | y :: ys, q, h, c, hc => by
    simp only [slashed, List.mem_cons, List.mem_append]
    rcases List.mem_cons.1 h with rfl | h
    · exact .inr (.inl hc)
    · exact .inr (.inr (in_slashed ys q h c hc))

theorem MatchRes.rebase {ps : List PtB} {rm rh : List UInt8} {its : List (List UInt8)} {w W : World} {e : Ending} {w' : World} (h : MatchRes ps rm rh its W e w') (hb : Below w.heap.size w W) : MatchRes ps rm rh its w e w' :=
  ⟨hb.trans (h.1.mono hb.size), h.2⟩

theorem MatchRes.parts {ps : List PtB} {rm rh : List UInt8} {its : List (List UInt8)} {w : World} {i : Int} {v : Value} {w' : World} (h : MatchRes ps rm rh its w (.returned (.tuple #[.int .i64 i, v])) w') :
    (i = -1 ∧ v = .slice none 0 0 ∧ ∀ (j : Nat) (q : PtB), ps[j]? = some q → q.pt.takes rm rh its = false) ∨
      ∃ (n : Nat) (p : PtB), i = (n : Int) ∧ IsBest (ps.map PtB.pt) rm rh its n ∧ ps[n]? = some p ∧ StrsAt w' v (vals p.l its) := by
  obtain ⟨_, ⟨h1, h2⟩ | ⟨n, p, v', h1, h2, h3, h4⟩⟩ := h
  · simp at h2
    exact .inl ⟨h2.1, h2.2, h1⟩
  · simp at h3
    obtain ⟨rfl, rfl⟩ := h3
    exact .inr ⟨n, p, rfl, h1, h2, h4⟩

theorem ask_facts {m h p : ByteArray} {its : List (List UInt8)} (H : AskOk (bs m) (bs h) (bs p) its) :
    GoodIts its ∧ bs p = joinT its ∧ p.size ≤ 1000 ∧ its.length ≤ 1000 ∧ (∀ z ∈ its, z.length ≤ 1000) ∧ m.size ≤ 1000 ∧ h.size ≤ 1000 := by
  obtain ⟨h1, h2, h3⟩ := H
  obtain ⟨s1, s2⟩ := items_small _ _ h1
  unfold itemsL at h1
  split at h1
  · rename_i hc
    obtain ⟨c1, c2, c3⟩ := hc
    have e1 : bs p = 47 :: (bs p).tail := by
      cases hp : bs p with
      | nil => rw [hp] at c1; simp at c1
      | cons x t => rw [hp] at c1; simp at c1; rw [c1]; rfl
    have e2 : slashed (els (bs p).tail) = bs p := by rw [slashed_els]; exact e1.symm
    have hch : ∀ q ∈ els (bs p).tail, ∀ c ∈ q, c ≠ 47 ∧ c ≠ 37 := by
      intro q hq c hcq
      refine ⟨els_noSlash _ q hq c hcq, ?_⟩
      rintro rfl
      have hin : (37 : UInt8) ∈ bs p := by rw [← e2]; exact in_slashed _ q hq 37 hcq
      have h37 : hasB (bs p) 37 = true := (hasB_iff (bs p) 37).2 hin
      rw [h37] at c3; cases c3
    obtain ⟨g1, g2⟩ := join_itemsOf _ its hch h1
    have z1 := bs_size p
    have z2 := bs_size m
    have z3 := bs_size h
    simp only [methodB, hostB, Bool.and_eq_true, decide_eq_true_eq] at h2 h3
    refine ⟨g2, by rw [← g1, e2], by omega, by omega, fun z hz => by have := s2 z hz; omega, by omega, by omega⟩
  · cases h1

set_option maxRecDepth 100000 in
theorem imatch_any (ps : List PtB) (sv : Value) (its : List (List UInt8)) (h m pth : ByteArray) (w : World) (HS : StrsAt w sv (ps.map PtB.text)) (hn : ps.length ≤ 10) (hgood : AllGoodB ps) (hpeace : PeaceB ps) (hprops : PropsAt w)
    (hask : AskOk (bs m) (bs h) (bs pth) its) : Calls Tryd.prog 27 #[sv, .string h, .string m, .string pth] w (MatchRes ps (bs m) (bs h) its w) := by
  obtain ⟨a1, a2, a3, a4, a5, a6, a7⟩ := ask_facts hask
  have HP : Hid (Calls Tryd.prog 40 #[sv, .string h, .string m, .string pth] w (MatchRes ps (bs m) (bs h) its w)) := pmatch_any ps sv its h m pth w HS hn hgood hpeace hprops a1 a2 a3 a4 a5 a6 a7
  clear HS hgood hpeace hprops hask a1 a2 a5
  go_enter Tryd.func27, Tryd.ntmps27
  go_wp2_with (go_at_call 40; (with_reducible refine HP.out.mono ?_); intro e w1 hm; obtain ⟨u, v', rfl, HM⟩ := MatchRes.uni hm; clear hm)
  go_ret2
  exact HM.out

set_option maxRecDepth 100000 in
set_option maxHeartbeats 1600000 in
theorem take_any (v : Value) (ps : List PtB) (its : List (List UInt8)) (h m pth : ByteArray) (w : World) (H : PatsAt w v ps) (hn : ps.length ≤ 10) (hgood : AllGoodB ps) (hpeace : PeaceB ps) (hprops : PropsAt w)
    (hask : AskOk (bs m) (bs h) (bs pth) its) : Calls Tryd.prog 14 #[v, .agg #[.string m, .string h, .string pth]] w (MatchRes ps (bs m) (bs h) its w) := by
  have hn0 := new0 w (.cells #[.string m, .string h, .string pth] 24)
  have HB0 : Hid (Below w.heap.size w (w.alloc (.cells #[.string m, .string h, .string pth] 24))) := (Below.refl _ _).alloc (Nat.le_refl _) _
  obtain ⟨w0, hw0⟩ : ∃ w0, w0 = w.alloc (.cells #[.string m, .string h, .string pth] 24) := ⟨_, rfl⟩
  rw [← hw0] at hn0 HB0
  have HC : Hid (∀ w', Below w0.heap.size w0 w' → w'.cell? ⟨w.heap.size, 0, none⟩ = some (.string m) ∧ w'.cell? ⟨w.heap.size, 1, none⟩ = some (.string h) ∧ w'.cell? ⟨w.heap.size, 2, none⟩ = some (.string pth)) := fun w' hb =>
    ⟨blk_cell (blk_below hn0 hb) 0, blk_cell (blk_below hn0 hb) 1, blk_cell (blk_below hn0 hb) 2⟩
  have HW : Hid (∀ W, Below w0.heap.size w0 W → Calls Tryd.prog 20 #[v] W fun e w' => ∃ v', e = .returned v' ∧ StrsAt w' v' (ps.map PtB.text) ∧ Below w0.heap.size w0 w') := fun W hb => (written_any v ps W (H.keep (HB0.out.trans (hb.mono HB0.out.size))) hn hgood).mono fun e w' ⟨v', a1, a2, a3⟩ => ⟨v', a1, a2, hb.trans (a3.mono hb.size)⟩
  have HI : Hid (∀ (W : World) (sv : Value), Below w0.heap.size w0 W → StrsAt W sv (ps.map PtB.text) → Calls Tryd.prog 27 #[sv, .string h, .string m, .string pth] W fun e w' => ∃ (u : Int) (v' : Value), e = .returned (.tuple #[.int .i64 u, v']) ∧ Hid (MatchRes ps (bs m) (bs h) its w (.returned (.tuple #[.int .i64 u, v'])) w') ∧ Below w0.heap.size w0 w') := by
    intro W sv hb hs
    refine (imatch_any ps sv its h m pth W hs hn hgood hpeace (hprops.below (HB0.out.trans (hb.mono HB0.out.size))) hask).mono ?_
    intro e w' hm
    obtain ⟨u, v', rfl, HM⟩ := (hm.rebase (HB0.out.trans (hb.mono HB0.out.size))).uni
    exact ⟨u, v', rfl, HM, hb.trans (hm.1.mono hb.size)⟩
  clear H hgood hpeace hprops hask hn0
  go_enter Tryd.func14, Tryd.ntmps14
  go_upto_region 1 with fail
  rw [← hw0]
  clear hw0
  obtain ⟨s0, s1, s2⟩ := HC.out _ (Below.refl _ _)
  go_region_held3 (fun w' => w'.cell? ⟨w.heap.size, 0, none⟩ = some (.string m) ∧ w'.cell? ⟨w.heap.size, 1, none⟩ = some (.string h) ∧ w'.cell? ⟨w.heap.size, 2, none⟩ = some (.string pth))
    (first | exact ⟨s0, s1, s2⟩ | exact HC.out _ (by assumption))
    (first
      | (go_at_call 20; (with_reducible refine (HW.out _ (Below.drew (Below.refl _ _))).mono ?_); rintro e w1 ⟨sv, rfl, hs1, hb1⟩; have HS1 := Lib.hid hs1)
      | (go_at_call 27; (with_reducible refine (HI.out _ _ hb1 HS1.out).mono ?_); rintro e w2 ⟨u, v', rfl, HM, hb2⟩))
  all_goals
    (go_wp2_with fail
     go_ret2
     exact HM.out)

set_option maxRecDepth 100000 in
set_option maxHeartbeats 1600000 in
theorem sameTexts_any (v u : Value) (l : List (List UInt8)) (w : World) (H : StrsAt w v l) (K : StrsAt w u l) :
    Calls Tryd.prog 15 #[v, u] w fun e w' => e = .returned (.bool true) ∧ Below w.heap.size w w' := by
  obtain ⟨A, cap, rfl, hlc, hcm, hf⟩ := H
  obtain ⟨C, kap, rfl, hkc, hkm, kf⟩ := K
  have HF := Lib.hid hf
  have HK := Lib.hid kf
  unfold maxLen at hcm hkm
  clear hf kf
  go_enter Tryd.func15, Tryd.ntmps15
  go_wp2_with fail
  go_loopw [13] (fun iv wr => ∃ k : Nat, k ≤ l.length ∧ iv = .int .i64 k ∧ Below w.heap.size w wr) (fun iv _ => l.length - (intOf iv).toNat)
  case atStart => exact ⟨0, Nat.zero_le _, rfl, Below.refl _ _⟩
  case round =>
    obtain ⟨k, hk, rfl, hb⟩ := hrel
    by_cases hlt : k < l.length
    · obtain ⟨x, hx⟩ : ∃ x, l[k]? = some x := ⟨_, List.getElem?_eq_getElem hlt⟩
      obtain ⟨b, o, rfl, hbl, h1⟩ := HF.out k x hx
      obtain ⟨d, q, rfl, hdl, h2⟩ := HK.out k x hx
      have g1 : wr.cell? ⟨b, o + k, none⟩ = some (.string ⟨x.toArray⟩) := (hb.cell hbl).trans h1
      have g2 : wr.cell? ⟨d, q + k, none⟩ = some (.string ⟨x.toArray⟩) := (hb.cell hdl).trans h2
      have HB := Lib.hid hb
      have i1 : (0 : Int) ≤ (k : Int) := by omega
      have i2 : (k : Int) < (l.length : Int) := by omega
      clear h1 h2 hx hb
      go_wp2_with fail
      go_region
      go_wp2_with fail
      go_roundw
      case rel => exact ⟨k + 1, by omega, by go_num, below_drew3 HB.out 1⟩
      case measure => simp [intOf]; omega
    · go_wp2_with fail
      go_ret
      exact ⟨rfl, hb⟩
end Go.Proofs.YtgkhfcoieknjeaaDoor
