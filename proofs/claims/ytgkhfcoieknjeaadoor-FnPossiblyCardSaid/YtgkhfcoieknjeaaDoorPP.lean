/-
  Proved: what parsePattern answers, as 'parseL' says. Conditions: the text is ASCII without percent signs in its path, not longer than 2^31 bytes, and as PPText says; the table unicode.properties is as it was laid.
-/
import Derived.Test.YtgkhfcoieknjeaaDoorPP0
import Derived.Test.YtgkhfcoieknjeaaDoorPPLaw
import Derived.Test.YtgkhfcoieknjeaaDoorValidMethod
import Derived.Test.YtgkhfcoieknjeaaDoorValid
import Derived.Test.YtgkhfcoieknjeaaDoorCleanPath
import Derived.Test.YtgkhfcoieknjeaaDoorBoolMap
import Derived.Deep.CutBlock
import Derived.Deep.DeepCutAuto
import Derived.BigQuiet
import Derived.Maps.OwnSet
import Derived.Maps.OwnOps
import Derived.Deep.RegionHeld3
namespace Go.Proofs.YtgkhfcoieknjeaaDoor
open Go.RowKit
open Go.Lib.Pa (els)

/-- What parsePattern answers. -/
def PPOut (o : Option (List UInt8 × List UInt8 × List Seg)) (w w' : World) (e : Ending) : Prop := match o with
  | none => PPBad w w' e
  | some (m, h, l) => PPGood w w' e ⟨m.toArray⟩ ⟨h.toArray⟩ l

/-- What parsePattern answers at a text that it takes: the pattern's block whole, its pieces' row. -/
def PPFull (s : ByteArray) (w w' : World) (e : Ending) (m h : ByteArray) (l : List Seg) : Prop :=
  ∃ b sv base, e = .returned (.tuple #[.pointer (some ⟨b, 0, none⟩), .nilIface]) ∧ w'.heap[b]? = some (.cells #[.string s, .string m, .string h, sv, .string ⟨#[]⟩] 82 (0, 0)) ∧
    w'.ownsRow base 100 3 sv l.length (segCells l) ∧ Below w.heap.size w w' ∧ w.heap.size ≤ b ∧ w.heap.size ≤ base

def PPOutF (s : ByteArray) (o : Option (List UInt8 × List UInt8 × List Seg)) (w w' : World) (e : Ending) : Prop := match o with
  | none => PPBad w w' e
  | some (m, h, l) => PPFull s w w' e ⟨m.toArray⟩ ⟨h.toArray⟩ l

theorem PPOutF.out {s : ByteArray} {o : Option (List UInt8 × List UInt8 × List Seg)} {w w' : World} {e : Ending} (h : PPOutF s o w w' e) : PPOut o w w' e := by
  match o, h with
  | none, h => exact h
  | some (m, h', l), h =>
    obtain ⟨b, sv, base, rfl, h1, h2, h3, h4, h5⟩ := h
    exact ⟨b, sv, rfl, blk_lt h1, blk_cell h1 1, blk_cell h1 2, blk_cell h1 3, SegsAt.of_own h2, h3, h4, fun g hg => Nat.le_trans h5 (h2.lt g hg).1⟩

theorem door_none (w W : World) (tmps : Array Value) {s : ByteArray} (o : Option (List UInt8 × List UInt8 × List Seg)) (ho : o = none) (b : Nat) (t : TypeId) (v : Value) (hb : w.heap.size ≤ b) (hl : b < W.heap.size) (hc : W.cell? ⟨b, 0, none⟩ = some (.iface t v)) (hf : W.frozen? ⟨b, 0, none⟩ = false) (hbel : Below w.heap.size w W)
    (h2 : tmps[2]?.getD undef = .pointer none) (h3 : tmps[3]?.getD undef = .pointer (some ⟨b, 0, none⟩)) :
    Leaves Tryd.prog Tryd.f51 tmps (fun e w' => PPOutF s o w w' e) [{ target := Target.fn (Fn.func 57) #[.pointer (some ⟨b, 0, none⟩)], args := #[] }] .returning W := by
  subst ho
  exact door_bad w W tmps b t v hb hl hc hf hbel h2 h3

/-- What the first cut leaves. -/
def Cut1 (s a b : ByteArray) (f : Bool) : Prop := if f then bs a = methodOf (bs s) ∧ bs b = restOf (bs s) else a = s ∧ methodOf (bs s) = [] ∧ restOf (bs s) = bs s

theorem zero_bool (w : World) : (zeroValue 4).run Tryd.prog w = .ok (.bool false) w := by kernel_rfl
theorem info_seg : (Tryd.prog.info? 100).map (fun i => (i.zero, i.size, i.bytes)) = some (some (.agg #[.string ⟨#[]⟩, .bool false, .bool false]), 3, 24) := by kernel_rfl

def strLen : Value → Nat
  | .string q => q.size
  | _ => 0

/-- What lies in memory between two steps of a round. -/
def PPMem (s m h : ByteArray) (w : World) (pb mb : Nat) (cur : Value) (dn : List Seg) (D : DataW Unit) (wr : World) : Prop :=
  wr.heap[pb]? = some (.cells #[.string s, .string m, .string h, cur, .string ⟨#[]⟩] 82 (0, 0)) ∧
    wr.heap[w.heap.size]? = some (.cells #[.nilIface] 78 (0, 0)) ∧ wr.ownsRow (mb + 1) 100 3 cur dn.length (segCells dn) ∧
    wr.ownsMap Tryd.prog 9 (plainElem Tryd.prog 4) mb dn.length D ∧ Below w.heap.size w wr

theorem PPMem.below {s m h : ByteArray} {w : World} {pb mb : Nat} {cur : Value} {dn : List Seg} {D : DataW Unit} {wr wx : World} (H : PPMem s m h w pb mb cur dn D wr) (hw : w.heap.size ≤ wr.heap.size) (hb : Below wr.heap.size wr wx) : PPMem s m h w pb mb cur dn D wx := by
  obtain ⟨h1, h2, h3, h4, h5⟩ := H
  exact ⟨blk_below h1 hb, blk_below h2 hb, own_below h3 hb, h4.kept (row := none) ⟨hb.os, hb.tape, hb.output, hb.size, fun i hi _ => hb.block i hi⟩ (by simp), h5.trans (hb.mono hw)⟩

theorem pieces_step {ks qr seen : List (List UInt8)} {dn : List Seg} {x : List UInt8} {g : Seg} (h : piecesL ks [] = (piecesL (x :: qr) seen).map (dn ++ ·)) (hg : pieceL x qr.isEmpty = some g) (hn : (g.wild && seen.contains g.s) = false) :
    piecesL ks [] = (piecesL qr (if g.wild then g.s :: seen else seen)).map ((dn ++ [g]) ++ ·) := by
  rw [h]
  simp only [piecesL, hg, hn, Bool.false_eq_true, if_false]
  cases piecesL qr (if g.wild then g.s :: seen else seen) <;> simp

theorem pieces_bad {ks qr seen : List (List UInt8)} {dn : List Seg} {x : List UInt8} (h : piecesL ks [] = (piecesL (x :: qr) seen).map (dn ++ ·)) (hg : pieceL x qr.isEmpty = none) : piecesL ks [] = none := by
  rw [h]
  simp only [piecesL, hg]
  rfl

theorem pieces_dup {ks qr seen : List (List UInt8)} {dn : List Seg} {x : List UInt8} {g : Seg} (h : piecesL ks [] = (piecesL (x :: qr) seen).map (dn ++ ·)) (hg : pieceL x qr.isEmpty = some g) (hn : (g.wild && seen.contains g.s) = true) : piecesL ks [] = none := by
  rw [h]
  simp only [piecesL, hg, hn, if_true]
  rfl

theorem dots_suffix (n : List UInt8) : Go.Lib.hasSuffix n [46, 46, 46] = dotsB n ∧ Go.Lib.trimSuffix n [46, 46, 46] = undot n := by
  have h1 : Go.Lib.hasSuffix n [46, 46, 46] = dotsB n := by
    unfold Go.Lib.hasSuffix dotsB
    rw [Bool.eq_iff_iff]
    simp only [List.isSuffixOf_iff_suffix, Bool.and_eq_true, decide_eq_true_eq]
    constructor
    · intro h
      exact ⟨h.length_le, (List.suffix_iff_eq_drop.1 h).symm⟩
    · intro h
      exact List.suffix_iff_eq_drop.2 h.2.symm
  refine ⟨h1, ?_⟩
  unfold Go.Lib.trimSuffix undot
  rw [h1]
  rfl

theorem bne125 (c : UInt8) : ((c.toNat : Int) != 125) = (c != 125) := by
  by_cases h : c = 125
  · subst h; rfl
  · have h1 : (c != 125) = true := by simpa using h
    rw [h1, bne_iff_ne]
    intro e
    exact h (UInt8.toNat_inj.1 (by rw [show (125 : UInt8).toNat = 125 from rfl]; omega))

theorem isEmpty_slashed (qr : List (List UInt8)) : qr.isEmpty = decide ((slashed qr).length = 0) := by
  cases qr <;> simp [slashed]

theorem indexByte_slash_none (x : List UInt8) (hx : ∀ c ∈ x, c ≠ 47) : Go.Lib.indexByte (x ++ slashed []) 47 = -1 := by
  rw [show x ++ slashed [] = x from List.append_nil x]
  rcases indexByte_any 47 x with ⟨h, _, _⟩ | ⟨_, h, _⟩
  · exact h
  · have : (47 : UInt8) ∈ x := by simpa using h
    exact absurd rfl (hx 47 this)

theorem indexByte_slash_some (x : List UInt8) (qr : List (List UInt8)) (hq : qr ≠ []) (hx : ∀ c ∈ x, c ≠ 47) : Go.Lib.indexByte (x ++ slashed qr) 47 = (x.length : Int) := by
  rcases indexByte_any 47 (x ++ slashed qr) with ⟨_, h, _⟩ | ⟨h, _, _⟩
  · exfalso
    cases qr with
    | nil => exact hq rfl
    | cons y r => simp [slashed] at h
  · rw [h, (take_piece x qr hx).1]

/-- What holds at the head of each round: the pieces that are left, the names seen, the pieces done. -/
def PPLoop (s m h : ByteArray) (w : World) (pb mb : Nat) (ks : List (List UInt8)) (v6 : Value) (wr : World) : Prop :=
  ∃ (q : ByteArray) (qs seen : List (List UInt8)) (dn : List Seg) (cur : Value) (D : DataW Unit),
    v6 = .string q ∧ Hid (bs q = slashed qs) ∧ Hid (wr.heap[pb]? = some (.cells #[.string s, .string m, .string h, cur, .string ⟨#[]⟩] 82 (0, 0))) ∧
    Hid (wr.heap[w.heap.size]? = some (.cells #[.nilIface] 78 (0, 0))) ∧ wr.ownsRow (mb + 1) 100 3 cur dn.length (segCells dn) ∧
    Hid (wr.ownsMap Tryd.prog 9 (plainElem Tryd.prog 4) mb dn.length D) ∧ Hid (∀ n : List UInt8, D.atKey (.string n) (.lit (.bool false)) = .lit (.bool (seen.contains n))) ∧
    Hid (piecesL ks [] = (piecesL qs seen).map (dn ++ ·)) ∧ Below w.heap.size w wr ∧ Hid (∃ ks0, (∀ x ∈ ks0, Kept x) ∧ (qs = ks0 ∨ qs = ks0 ++ [[]])) ∧
    Hid (∀ c ∈ bs q, c ≠ 37 ∧ c.toNat < 128) ∧ dn.length + qs.length ≤ 2147483647 ∧ q.size ≤ 2147483647 ∧ Hid (seen.contains [] = false)

theorem grown_setCell (w : World) (p : Addr) (u : Value) : w.grownBy (w.setCell p u) (some p.block) :=
  ⟨rfl, rfl, rfl, by simp, fun k _ hk => Below.heap_setCell w p u k (fun e => hk (by rw [e]))⟩

theorem pp_next {s m h : ByteArray} {w w2 : World} {pb mb n : Nat} {cur v' : Value} {ks qr seen : List (List UInt8)} {dn : List Seg} {D : DataW Unit} {g : Seg} {rs : ByteArray}
    (hnew : w2.ownsRow (mb + 1) 100 3 v' (dn.length + 1) (segCells dn ++ [strV g.s, .bool g.wild, .bool g.multi]))
    (hP : w2.heap[pb]? = some (.cells #[.string s, .string m, .string h, cur, .string ⟨#[]⟩] 82 (0, 0)))
    (hE : w2.heap[w.heap.size]? = some (.cells #[.nilIface] 78 (0, 0)))
    (hM : w2.ownsMap Tryd.prog 9 (plainElem Tryd.prog 4) mb n D) (hn : n ≤ dn.length + 1)
    (hS : ∀ n : List UInt8, D.atKey (.string n) (.lit (.bool false)) = .lit (.bool (seen.contains n)))
    (hC : piecesL ks [] = (piecesL qr seen).map ((dn ++ [g]) ++ ·))
    (hK : ∃ ks0, (∀ x ∈ ks0, Kept x) ∧ (qr = ks0 ∨ qr = ks0 ++ [[]]))
    (hR : bs rs = slashed qr) (hA : ∀ c ∈ slashed qr, c ≠ 37 ∧ c.toNat < 128) (hB : Below w.heap.size w w2)
    (hd : dn.length + 1 + qr.length ≤ 2147483647) (hz : rs.size ≤ 2147483647) (hne : seen.contains [] = false) (h1 : w.heap.size < pb) (h2 : pb < mb) :
    PPLoop s m h w pb mb ks (.string rs) (w2.setCell ⟨pb, 3, none⟩ v') := by
  refine ⟨rs, qr, seen, dn ++ [g], v', D, rfl, hR, blk_set hP 3 _, blk_far hE (by simp; omega) _, ?_, ?_, hS, hC, hB.setCell (by simp; omega) _, hK, by rw [hR]; exact hA, by rw [List.length_append]; exact hd, hz, hne⟩
  · rw [segCells_snoc, List.length_append]
    exact ownsRow_setCell_below hnew (by simp; omega) _
  · rw [List.length_append]
    exact (hM.mono hn).kept (grown_setCell _ _ _) (by simp; omega)

theorem slashed_size : ∀ ks : List (List UInt8), ks.length ≤ (slashed ks).length
  | [] => by simp
  | x :: r => by
    have := slashed_size r
    simp only [slashed, List.length_cons, List.length_append]
    omega

/-- Behind the door: no error in the cell. -/
theorem door_some (w W : World) (tmps : Array Value) (o : Option (List UInt8 × List UInt8 × List Seg)) (m h : ByteArray) (l : List Seg) (ho : o = some (bs m, bs h, l)) (b pb : Nat) (sv : Value) (s : ByteArray) (base : Nat)
    (hc : W.cell? ⟨b, 0, none⟩ = some .nilIface) (hP : W.heap[pb]? = some (.cells #[.string s, .string m, .string h, sv, .string ⟨#[]⟩] 82 (0, 0))) (hsv : W.ownsRow base 100 3 sv l.length (segCells l)) (hbel : Below w.heap.size w W) (hlow : w.heap.size ≤ pb ∧ w.heap.size ≤ base)
    (h2 : tmps[2]?.getD undef = .pointer (some ⟨pb, 0, none⟩)) (h3 : tmps[3]?.getD undef = .pointer (some ⟨b, 0, none⟩)) :
    Leaves Tryd.prog Tryd.f51 tmps (fun e w' => PPOutF s o w w' e) [{ target := Target.fn (Fn.func 57) #[.pointer (some ⟨b, 0, none⟩)], args := #[] }] .returning W := by
  subst ho
  refine leaves_cons (f := 57) (args := #[.pointer (some ⟨b, 0, none⟩)]) (by simp) (by simp [go_sem]) ?_
  refine (wrap_nil b .returning W hc).mono ?_
  rintro e u' w'' ⟨rfl, rfl, rfl⟩
  have em : (⟨(bs m).toArray⟩ : ByteArray) = m := (bs_inj (a := m) rfl).symm
  have eh : (⟨(bs h).toArray⟩ : ByteArray) = h := (bs_inj (a := h) rfl).symm
  refine ⟨.tuple #[.pointer (some ⟨pb, 0, none⟩), .nilIface], ?_, pb, sv, base, rfl, ?_, hsv, hbel, hlow⟩
  · simp [results, Tryd.results51, go_sem, h2, h3, hc]
  · rw [em, eh]; exact hP

set_option maxRecDepth 100000 in
set_option maxHeartbeats 3200000 in
theorem pp_full (s : ByteArray) (w : World) (hs : s.size ≤ 2147483647) (hP : PPText (bs s)) (hprops : PropsAt w) :
    Calls Tryd.prog 51 #[.string s] w fun e w' => PPOutF s (parseL (bs s)) w w' e := by
  have hmf : ∀ (fn : Fn) (first cap : Array Value) (w : World), (Instr.makeFunc fn first cap).run Tryd.prog w = .ok (.func fn first cap) w := fun _ _ _ _ => rfl
  obtain ⟨he, hasc, hlet, hpct, hks⟩ := hP
  obtain ⟨i, hi⟩ : ∃ i, blankIdx (bs s) = i := ⟨_, rfl⟩
  have HAN : Hid (∀ w, Calls Tryd.prog 58 #[.string s, .string ⟨#[32, 9]⟩] w fun e w' => e = .returned (.int .i64 i) ∧ Below w.heap.size w w') := by
    intro w
    have := indexAny_any s w (by omega) hasc
    rw [hi] at this
    exact this
  have hz : ((s.size : Int) == 0) = false := by
    rw [beq_eq_false_iff_ne]
    intro h
    exact he (List.eq_nil_of_length_eq_zero (by rw [bs_size]; omega))
  have HASC := Lib.hid hasc
  have HI := Lib.hid hi
  have HLET := Lib.hid hlet
  have HPCT := Lib.hid hpct
  have HKS := Lib.hid hks
  have HPR := Lib.hid hprops
  clear hasc he hi hlet hpct hks hprops
  go_enter_defers Tryd.func51, Tryd.ntmps51
  go_upto_if 27 with (go_at_call 58; refine (HAN.out _).mono ?_; rintro e w1 ⟨rfl, hb1⟩; have hb0 : w1.heap[w.heap.size]? = some (.cells #[.nilIface] 78 (0, 0)) := (hb1.block _ (by simp)).trans (new0 _ _); have HC0 := Lib.hid hb0; have HB1 := Lib.hid hb1; clear hb1 hb0)
  go_cut [5, 6, 7] from 28 to 35 (fun s5 s6 s7 wx => ∃ (a b : ByteArray) (f : Bool), s5 = .string a ∧ s6 = .string b ∧ s7 = .bool f ∧ Hid (Cut1 s a b f) ∧ Below w1.heap.size w1 wx)
  case first =>
    by_cases h : i < 0
    · have e0 : decide ((0 : Int) ≤ i) = false := decide_eq_false (by omega)
      have HM : Hid (Cut1 s s ⟨#[]⟩ false) := by
        show Cut1 _ _ _ _
        unfold Cut1
        rw [if_neg (by simp)]
        unfold methodOf restOf
        rw [HI.out, if_pos h, if_pos h]
        exact ⟨rfl, rfl, rfl⟩
      have HH := Lib.hid h
      go_wp2_with fail
      all_goals (first | (exfalso; rename_i hx; rw [e0] at hx; cases hx; done) | (exfalso; omega) | skip)
      go_meet
      exact ⟨s, ⟨#[]⟩, false, rfl, rfl, rfl, HM, Below.refl _ _⟩
    · have hil := HI.out
      unfold blankIdx at hil
      obtain ⟨k, hk⟩ : ∃ k, k = ((bs s).takeWhile darkB).length := ⟨_, rfl⟩
      rw [← hk, bs_size] at hil
      have hks : k < s.size := by
        apply Decidable.byContradiction
        intro hn
        rw [if_neg hn] at hil
        omega
      rw [if_pos hks] at hil
      subst hil
      have e0 : decide ((0 : Int) ≤ (k : Int)) = true := decide_eq_true (by omega)
      have HH : Hid (¬ ((k : Int) < 0)) := by show ¬ _; omega
      have htd : (bs s).takeWhile darkB = (bs s).take k := by rw [hk]; exact List.prefix_iff_eq_take.1 (List.takeWhile_prefix _)
      have HT := Lib.hid htd
      clear hk htd
      go_wp2_with fail
      all_goals (first | (exfalso; rename_i hx; rw [e0] at hx; cases hx; done) | (exfalso; omega) | skip)
      have hbr : bs (s.extract (k + 1) s.size) = (bs s).drop (k + 1) := by rw [bs_extract, List.take_of_length_le (by rw [List.length_drop, bs_size]; omega)]
      have HTL : Hid (∀ w, Calls Tryd.prog 59 #[.string (s.extract (k + 1) s.size), .string ⟨#[32, 9]⟩] w fun e w' => e = .returned (.string ⟨(((bs s).drop (k + 1)).dropWhile blankB).toArray⟩) ∧ Below w.heap.size w w') := by
        intro w
        have := trimLeft_any (s.extract (k + 1) s.size) w (by simp only [ByteArray.size_extract]; omega) (by rw [hbr]; exact fun b hb => HASC.out b (List.mem_of_mem_drop hb))
        rw [hbr] at this
        exact this
      clear hbr
      have b1 : (k : Int) ≤ (s.size : Int) := by omega
      have b2 : (k : Int) + 1 ≤ (s.size : Int) := by omega
      have b3 : IntKind.i64.wrap ((k : Int) + 1) = ((k + 1 : Nat) : Int) := by rw [IntKind.wrap_i64]; omega
      have b4 : (0 : Int) ≤ (k : Int) + 1 := by omega
      have b5 : (0 : Int) ≤ (k : Int) := by omega
      go_region_held3 (fun _ => True) (exact trivial) (first | (go_at_call 59; refine (HTL.out _).mono ?_; rintro e w2 ⟨rfl, hb2⟩; have HB2 := Lib.hid hb2; clear hb2))
      go_wp2_with fail
      go_meet
      refine ⟨s.extract 0 k, ⟨(((bs s).drop (k + 1)).dropWhile blankB).toArray⟩, true, rfl, rfl, rfl, ?_, (below_drew3 (Below.refl _ w1) 1).trans HB2.out⟩
      show Cut1 _ _ _ _
      unfold Cut1
      rw [if_pos rfl]
      refine ⟨?_, ?_⟩
      · unfold methodOf
        rw [HI.out, if_neg (by omega), bs_extract, HT.out]
        simp
      · unfold restOf
        rw [HI.out, if_neg (by omega)]
        have hd : (bs s).dropWhile darkB = (bs s).drop k := by
          have h1 := List.takeWhile_append_dropWhile (p := darkB) (l := bs s)
          rw [HT.out] at h1
          have h2 := List.take_append_drop k (bs s)
          exact List.append_cancel_left (h1.trans h2.symm)
        rw [hd, List.drop_drop]
        simp [bs]
  case rest =>
    obtain ⟨a, b, f, rfl, rfl, rfl, HC1, hbwc⟩ := hcut
    obtain ⟨wb, rfl⟩ : ∃ wb : World, wb = wc := ⟨_, rfl⟩
    have HBWC := Lib.hid hbwc
    clear hbwc
    go_upto_if 37 with fail
    go_cut [5, 6] from 38 to 38 (fun s5 s6 wx => ∃ m r : ByteArray, s5 = .string m ∧ s6 = .string r ∧ Hid (bs m = methodOf (bs s)) ∧ Hid (bs r = restOf (bs s)) ∧ wb = wx)
    case first =>
      cases f
      · have hc := HC1.out
        unfold Cut1 at hc
        rw [if_neg (by simp)] at hc
        obtain ⟨rfl, h1, h2⟩ := hc
        have HM : Hid (bs (⟨#[]⟩ : ByteArray) = methodOf (bs a)) := h1.symm
        have HR : Hid (bs a = restOf (bs a)) := h2.symm
        clear h1 h2
        go_wp2_with fail
        go_meet
        exact ⟨⟨#[]⟩, a, rfl, rfl, HM, HR, rfl⟩
      · have hc := HC1.out
        unfold Cut1 at hc
        rw [if_pos rfl] at hc
        obtain ⟨h1, h2⟩ := hc
        have HM := Lib.hid h1
        have HR := Lib.hid h2
        clear h1 h2
        go_wp2_with fail
        go_meet
        exact ⟨a, b, rfl, rfl, HM, HR, rfl⟩
    case rest =>
      obtain ⟨m, r, rfl, rfl, HM, HR, rfl⟩ := hcut
      have HBW : Hid (Below w.heap.size w wb) := (((Below.refl w.heap.size w).alloc (Nat.le_refl _) _).trans (HB1.out.mono (by simp))).trans (HBWC.out.mono (by have := blk_lt HC0.out; omega))
      have HCC : Hid (wb.heap[w.heap.size]? = some (.cells #[.nilIface] 78 (0, 0))) := blk_below HC0.out HBWC.out
      clear HC0 HB1 HBWC HC1 HAN
      go_upto_region 12 with fail
      go_cut [45] from 39 to 44 (fun c wx => c = .bool false ∧ wb = wx)
      case first =>
        by_cases hm : bs m = []
        · have e1 : m.toList.isEmpty = true := by rw [bs_toList, hm]; rfl
          clear hm
          go_wp2_with fail
          go_meet
          exact ⟨rfl, rfl⟩
        · have e1 : m.toList.isEmpty = false := by rw [bs_toList]; simpa using hm
          have HVM : Hid (∀ w, Calls Tryd.prog 60 #[.string m] w fun e w' => e = .returned (.bool true) ∧ w = w') := fun w => validMethod_true m w (by
            have h1 := bs_size m
            rw [HM.out] at h1
            have h2 : (methodOf (bs s)).length ≤ (bs s).length := by
              unfold methodOf
              split
              · simp
              · exact (List.takeWhile_prefix darkB).length_le
            rw [bs_size] at h2
            omega) (by rw [HM.out]; exact HLET.out) hm
          clear hm
          go_wp2_with (go_at_call 60; refine (HVM.out _).mono ?_; rintro e w' ⟨rfl, rfl⟩)
          go_meet
          exact ⟨rfl, rfl⟩
      case rest =>
        obtain ⟨rfl, rfl⟩ := hcut
        go_upto_if 51 with fail
        go_cut [4] from 52 to 54 (fun v wx => ∃ n : Int, v = .int .i64 n ∧ wx = wb.alloc (.cells #[.string s, .string m, .string ⟨#[]⟩, .slice none 0 0, .string ⟨#[]⟩] 82))
        case first =>
          cases f
          all_goals
            go_wp2_with fail
            go_meet
            exact ⟨_, rfl, rfl⟩
        case rest =>
          obtain ⟨n4, rfl, rfl⟩ := hcut
          rcases indexByte_any 47 (bs r) with ⟨h1, h2, _⟩ | ⟨h1, h2, h3⟩
          · have HIX : Hid (∀ w, Calls Tryd.prog 61 #[.string r, .int .u8 47] w fun e w' => e = .returned (.int .i64 (-1)) ∧ w = w') := by
              intro w
              have := Tryd.strings_IndexByte r 47 w
              exact this.mono fun e w' ⟨g1, g2⟩ => ⟨g1.trans (congrArg (fun x => Ending.returned (Value.int .i64 x)) h1), g2.symm⟩
            have HO : Hid (parseL (bs s) = none) := by
              show _ = _
              unfold parseL
              rw [HR.out] at h2
              rw [if_pos h2]
            clear h1 h2
            go_wp2_with (first
              | (go_at_call 61; refine (HIX.out _).mono ?_; rintro e w2 ⟨rfl, rfl⟩)
              | (go_at_call 56; refine (errorsNew_any _ _).mono ?_; rintro e w3 ⟨t, v, rfl, hb3⟩; have hb0 := blk_below (blk_alloc HCC.out _) hb3; have HB3 := Lib.hid hb3; have hc1 := blk_cell hb0 0; have hf1 := blk_free hb0 0; have hl3 := blk_lt hb0; clear hb3 hb0))
            exact door_none w _ _ _ HO.out w.heap.size t v (Nat.le_refl _) (by simpa using hl3) (World.cell?_setCell_same' _ _ _ (by rw [hc1]; rfl)) (by simp [hf1]) (((HBW.out.alloc HBW.out.size _).trans (HB3.out.mono (by have := HBW.out.size; simp; omega))).setCell (Nat.le_refl _) _) rfl rfl
          · have hpth : (bs r).take (hostOf (bs r)).length = hostOf (bs r) := take_tw _ _
            have hpth2 : (bs r).drop (hostOf (bs r)).length = pathOf (bs r) := drop_tw _ _
            obtain ⟨j, hj⟩ : ∃ j, j = (hostOf (bs r)).length := ⟨_, rfl⟩
            have HIX : Hid (∀ w, Calls Tryd.prog 61 #[.string r, .int .u8 47] w fun e w' => e = .returned (.int .i64 (j : Int)) ∧ w = w') := by
              intro w
              have := Tryd.strings_IndexByte r 47 w
              exact this.mono fun e w' ⟨g1, g2⟩ => ⟨g1.trans (congrArg (fun x => Ending.returned (Value.int .i64 x)) (by rw [hj]; exact h1)), g2.symm⟩
            have hjr : j < r.size := by rw [hj]; exact h3
            have HHO : Hid (bs (r.extract 0 j) = hostOf (bs r)) := by
              show _ = _
              rw [bs_extract, List.drop_zero, Nat.sub_zero, hj, hpth]
            have HPA : Hid (bs (r.extract j r.size) = pathOf (bs r)) := by
              show _ = _
              rw [bs_extract, List.take_of_length_le (by rw [List.length_drop, bs_size]; omega), hj, hpth2]
            have HSL := Lib.hid h2
            have hrs : r.size ≤ s.size := by
              have g1 := bs_size r
              rw [HR.out] at g1
              have g2 : (restOf (bs s)).length ≤ (bs s).length := by
                unfold restOf
                split
                · exact Nat.le_refl _
                · exact Nat.le_trans (List.dropWhile_suffix blankB).length_le (Nat.le_trans (by rw [List.length_drop]; exact Nat.sub_le _ _) (List.dropWhile_suffix darkB).length_le)
              rw [bs_size] at g2
              omega
            clear h1 h2 h3 hpth hpth2 hj
            rcases indexByte_any 123 (hostOf (bs r)) with ⟨h1, h2, _⟩ | ⟨h1, h2, h3⟩
            · have HIH : Hid (∀ w, Calls Tryd.prog 61 #[.string (r.extract 0 j), .int .u8 123] w fun e w' => e = .returned (.int .i64 (-1)) ∧ w = w') := by
                intro w
                have := Tryd.strings_IndexByte (r.extract 0 j) 123 w
                exact this.mono fun e w' ⟨g1, g2⟩ => ⟨g1.trans (congrArg (fun x => Ending.returned (Value.int .i64 x)) (by rw [← HHO.out] at h1; exact h1)), g2.symm⟩
              have HNB := Lib.hid h2
              clear h1 h2
              go_upto_region 27 with (first
                | (go_at_call 61; (with_reducible refine (HIX.out _).mono ?_); rintro e w2 ⟨rfl, rfl⟩)
                | (go_at_call 61; (with_reducible refine (HIH.out _).mono ?_); rintro e w2 ⟨rfl, rfl⟩)
                | (go_at_call 56; refine (errorsNew_any _ _).mono ?_; rintro e w3 ⟨t, v, rfl, hb3⟩; have hb0 := blk_below (blk_alloc HCC.out _) hb3; have HB3 := Lib.hid hb3; have hc1 := blk_cell hb0 0; have hf1 := blk_free hb0 0; have hl3 := blk_lt hb0; clear hb3 hb0))
              have HPT : Hid (bs (r.extract j r.size) = slashed (els (pathOf (bs r)).tail)) := by
                show _ = _
                obtain ⟨t, ht⟩ := pathOf_head (bs r) HSL.out
                rw [HPA.out, ht]
                exact (slashed_els t).symm
              have HKP := HKS
              rw [← HR.out] at HKP
              have hksr := HKP.out HSL.out HNB.out
              have HO : Hid (parseL (bs s) = (piecesL (els (pathOf (bs r)).tail) []).map fun g => (bs m, bs (r.extract 0 j), g)) := by
                show _ = _
                unfold parseL
                rw [← HR.out, if_neg (by rw [HSL.out]; simp), if_neg (by rw [HNB.out]; simp), HM.out, HHO.out]
              have hpa : ∀ c ∈ bs (r.extract j r.size), c ≠ 37 ∧ c.toNat < 128 := by
                intro c hc
                have h1 : c ∈ bs r := by rw [bs_extract] at hc; exact List.mem_of_mem_drop (List.mem_of_mem_take hc)
                refine ⟨HPCT.out c (by rw [← HR.out]; exact h1), HASC.out c ?_⟩
                rw [HR.out] at h1
                unfold restOf at h1
                split at h1
                · exact h1
                · exact (List.dropWhile_suffix darkB).subset (List.mem_of_mem_drop ((List.dropWhile_suffix blankB).subset h1))
              have hqs : (r.extract j r.size).size ≤ 2147483647 := by simp only [ByteArray.size_extract]; omega
              obtain ⟨ks, hke⟩ : ∃ ks, ks = els (pathOf (bs r)).tail := ⟨_, rfl⟩
              rw [← hke] at hksr HO HPT
              obtain ⟨p, hp⟩ : ∃ p, p = r.extract j r.size := ⟨_, rfl⟩
              rw [← hp] at hqs hpa HPT
              have hclean : cleanPathL (bs p) = bs p := by
                rw [HPT.out]
                obtain ⟨ks0, hk0, hk1 | hk1⟩ := hksr
                · rw [hk1]
                  exact clean_slashed ks0 (by
                    intro e
                    rw [e] at hk1
                    exact Go.Proofs.YtgkhfcoieknjeaaDoor.els_ne _ (hke.symm.trans hk1)) hk0
                · rw [hk1, slashed_snoc]
                  exact clean_slashed_end ks0 hk0
              have HCP : Hid (∀ w, Calls Tryd.prog 62 #[.string p] w fun e w' => e = .returned (.string p) ∧ Below w.heap.size w w') := by
                intro w
                have := cleanPath_any p w (by omega)
                rw [hclean] at this
                exact this.mono fun e w' ⟨g1, g2⟩ => ⟨g1.trans (congrArg (fun x => Ending.returned (Value.string x)) (bs_inj (a := p) rfl).symm), g2⟩
              have HKR := Lib.hid hksr
              have HPAS := Lib.hid hpa
              clear hclean hke hksr hpa HKP HKS HPA
              obtain ⟨hst, hh⟩ : ∃ hst, hst = r.extract 0 j := ⟨_, rfl⟩
              rw [← hh] at HO
              rw [← hp, ← hh]
              clear hp hh HIX HIH HSL HNB HHO
              have HCC2 : Hid ((wb.alloc (.cells #[.string s, .string m, .string hst, .slice none 0 0, .string ⟨#[]⟩] 82)).heap[w.heap.size]? = some (.cells #[.nilIface] 78 (0, 0))) := blk_alloc HCC.out _
              have HBW2 : Hid (Below w.heap.size w (wb.alloc (.cells #[.string s, .string m, .string hst, .slice none 0 0, .string ⟨#[]⟩] 82))) := HBW.out.alloc HBW.out.size _
              go_cut [94] from 83 to 93 (fun c wx => c = .bool false ∧ wx.heap[wb.heap.size]? = some (.cells #[.string s, .string m, .string hst, .slice none 0 0, .string ⟨#[]⟩] 82 (0, 0)) ∧ wx.heap[w.heap.size]? = some (.cells #[.nilIface] 78 (0, 0)) ∧ Below w.heap.size w wx)
              case first =>
                by_cases hm : bs m = []
                · have e1 : m.toList.isEmpty = true := by rw [bs_toList, hm]; rfl
                  clear hm
                  go_wp2_with fail
                  go_meet
                  exact ⟨rfl, new0 _ _, HCC2.out, HBW2.out⟩
                · have e1 : m.toList.isEmpty = false := by rw [bs_toList]; simpa using hm
                  by_cases hcon : bs m = [67, 79, 78, 78, 69, 67, 84]
                  · have e2 : (m.toList == [67, 79, 78, 78, 69, 67, 84]) = true := by rw [bs_toList, hcon]; rfl
                    clear hm hcon
                    go_wp2_with fail
                    go_meet
                    exact ⟨rfl, new0 _ _, HCC2.out, HBW2.out⟩
                  · have e2 : (m.toList == [67, 79, 78, 78, 69, 67, 84]) = false := by rw [bs_toList]; simpa using hcon
                    clear hm hcon
                    go_wp2_with (go_at_call 62; refine (HCP.out _).mono ?_; rintro e w2 ⟨rfl, hb2⟩; have HB2 := Lib.hid hb2; clear hb2)
                    go_meet
                    exact ⟨rfl, blk_below (new0 _ _) HB2.out, blk_below HCC2.out HB2.out, HBW2.out.trans (HB2.out.mono HBW2.out.size)⟩
              case rest =>
                obtain ⟨rfl, hpb, heb, hbw⟩ := hcut
                obtain ⟨wd, rfl⟩ : ∃ wd : World, wd = wc := ⟨_, rfl⟩
                have HPB := Lib.hid hpb
                have HEB := Lib.hid heb
                have HBD := Lib.hid hbw
                have hpbl := blk_lt hpb
                have hebl : w.heap.size < wb.heap.size := by have := blk_lt HCC.out; exact this
                obtain ⟨i0, hi, hz0, hz1, hz2⟩ := info_parts info_seg
                clear hpb heb hbw HCC HBW HCC2 HBW2
                have hmm := @run_makeMap Tryd.prog
                go_wp2_with fail
                go_loopw [6] (fun v6 wr => PPLoop s m hst w wb.heap.size wd.heap.size ks v6 wr) (fun v6 _ => strLen v6)
                case atStart =>
                  refine ⟨p, ks, [], [], .slice none 0 0, .map [], rfl, HPT, ?_, ?_, World.ownsRow_nil _ _ _ _, ?_, ?_, ?_, ?_, HKR, HPAS, ?_, hqs, rfl⟩
                  · exact blk_alloc HPB.out _
                  · exact blk_alloc HEB.out _
                  · exact World.ownsMap_made _ _ _ _
                  · intro n; rfl
                  · show _ = _
                    cases piecesL ks [] <;> rfl
                  · exact HBD.out.alloc HBD.out.size _
                  · have h1 := slashed_size ks
                    have h2 := bs_size p
                    rw [HPT.out] at h2
                    simp
                    omega
                case round =>
                  obtain ⟨q, qs, seen, dn, cur, D, rfl, HQ, HPBr, HEBr, hown, HMAP, HSEEN, HPC, hbel, HKQ, HAQ, hdn, hqz, HNE⟩ := hrel
                  have HBEL := Lib.hid hbel
                  clear HPT HCP HKR HPAS HPB HEB HBD HM HR HI hjr hrs
                  have hwdl := HMAP.out.lt
                  clear hbel
                  cases qs with
                  | nil =>
                    have hq0 : q.size = 0 := by have h1 := HQ.out; have h2 := bs_size q; rw [h1] at h2; simpa [slashed] using h2.symm
                    have e0 : decide ((0 : Int) < q.size) = false := decide_eq_false (by omega)
                    have HO2 : Hid (parseL (bs s) = some (bs m, bs hst, dn)) := by show _ = _; rw [HO.out, HPC.out]; simp [piecesL]
                    have hce := blk_cell HEBr.out 0
                    have hfe := blk_free HEBr.out 0
                    go_wp2_with fail
                    refine door_some w _ _ _ m hst dn HO2.out w.heap.size wb.heap.size cur s _ ?_ ?_ (ownsRow_setCell_below hown (by simp; omega) _) ?_ ?_ rfl rfl
                    · exact World.cell?_setCell_same' _ _ _ (by rw [hce]; rfl)
                    · exact blk_far HPBr.out (by simp; omega) _
                    · exact HBEL.out.setCell (Nat.le_refl _) _
                    · exact ⟨by omega, by omega⟩
                  | cons x qr =>
                    have hq : bs q = 47 :: (x ++ slashed qr) := HQ.out
                    have hqs : q.size = 1 + (x ++ slashed qr).length := by have h2 := bs_size q; rw [hq] at h2; simp only [List.length_cons] at h2; omega
                    have HQ1 : Hid (bs (q.extract 1 q.size) = x ++ slashed qr) := by
                      show _ = _
                      rw [bs_extract, hq, List.take_of_length_le (by simp [hqs])]
                      rfl
                    have e0 : decide ((0 : Int) < q.size) = true := decide_eq_true (by omega)
                    obtain ⟨q1, hq1⟩ : ∃ q1, q1 = q.extract 1 q.size := ⟨_, rfl⟩
                    have hq1s : q1.size = (x ++ slashed qr).length := by rw [← bs_size, hq1, HQ1.out]
                    have HQE := Lib.hid hq1
                    rw [← hq1] at HQ1
                    have c3 : wr.cell? ⟨wb.heap.size, 3, none⟩ = some cur := blk_cell HPBr.out 3
                    have f3 := blk_free HPBr.out 3
                    have b1 : (1 : Int) ≤ q.size := by omega
                    have HQS := Lib.hid hqs
                    have HQ1S := Lib.hid hq1s
                    have hdn1 : dn.length < 2147483647 := by simp only [List.length_cons] at hdn; omega
                    clear hq hq1 hqs hq1s
                    go_upto_region 32 with fail
                    rw [← HQE.out]
                    by_cases hx0 : x = []
                    · have hqr : qr = [] := by
                        obtain ⟨k0, hk0, hk1 | hk1⟩ := HKQ.out
                        · exact absurd hx0 (hk0 x (by rw [← hk1]; exact List.mem_cons_self)).1
                        · cases k0 with
                          | nil => simp at hk1; exact hk1.2
                          | cons y ys =>
                            simp at hk1
                            exact absurd hx0 (hk0 x (by rw [hk1.1]; exact List.mem_cons_self)).1
                      subst hx0 hqr
                      have e1 : ((q1.size : Int) == 0) = true := by rw [HQ1S.out]; rfl
                      have HO2 : Hid (parseL (bs s) = some (bs m, bs hst, dn ++ [⟨[], true, true⟩])) := by show _ = _; rw [HO.out, HPC.out]; have hne := HNE.out; simp at hne; simp [piecesL, pieceL, hne]
                      go_wp2_with (at_builtin; go_loud (refine wpList_append_own _ rfl _ _ 80 rfl (wd.heap.size + 1) 100 i0 (.agg #[.string ⟨#[]⟩, .bool false, .bool false]) 3 24 Tryd.underlying80 hi hz0 hz1 hz2 rfl (by decide) _ _ _ rfl (hown.alloc _) ⟨_, 0, none⟩ 1 1 [_, _, _] rfl rfl (cells3_new _ _ _ _ _ _ rfl) (by simp [Value.oneCell']) (by unfold maxLen; omega) (by omega) (by simp; omega) ?_; intro v' w2 hown' hgrow _; obtain ⟨A', cap', rfl, hnc', hcm', hA'⟩ := own_form hown'; have hP' := blk_grown (blk_alloc HPBr.out _) hgrow (fun e => by have := (hown.lt _ e.symm).1; omega); have hE' := blk_grown (blk_alloc HEBr.out _) hgrow (fun e => by have := (hown.lt _ e.symm).1; omega); have HB' : Hid (Below w.heap.size w w2) := (HBEL.out.alloc HBEL.out.size _).grown hgrow (by have := HBEL.out.size; simp; omega) (fun g hg => by have := (hown.lt g hg).1; omega); have HP' := Lib.hid hP'; have HE' := Lib.hid hE'; have c2' := blk_cell hP' 3; have f2' := blk_free hP' 3; have ce' := blk_cell hE' 0; have fe' := blk_free hE' 0; have HM' := Lib.hid ((HMAP.out.alloc _).kept hgrow (fun e => by have := (hown.lt _ e.symm).1; omega)); clear hgrow hP' hE' hown c3 f3))
                      have hl2 := blk_lt HE'.out
                      have hce : (w2.setCell ⟨wb.heap.size, 3, none⟩ (.slice A' (dn.length + 1) cap')).cell? ⟨w.heap.size, 0, none⟩ = some .nilIface := blk_cell (blk_far HE'.out (by simp; omega) _) 0
                      refine door_some w _ _ _ m hst (dn ++ [⟨[], true, true⟩]) HO2.out w.heap.size wb.heap.size (.slice A' (dn.length + 1) cap') s (wd.heap.size + 1) ?_ ?_ ?_ ?_ ?_ rfl rfl
                      · exact World.cell?_setCell_same' _ _ _ (by rw [hce]; rfl)
                      · exact blk_far (blk_set HP'.out 3 _) (by simp; omega) _
                      · refine ownsRow_setCell_below (ownsRow_setCell_below (base := wd.heap.size + 1) ?_ (by simp; omega) _) (by simp; omega) _
                        rw [segCells_snoc, List.length_append]
                        exact hown'
                      · exact (HB'.out.setCell (by simp; omega) _).setCell (Nat.le_refl _) _
                      · exact ⟨by omega, by omega⟩
                    · have HKX : Hid (Kept x) := by
                        obtain ⟨k0, hk0, hk1 | hk1⟩ := HKQ.out
                        · exact hk0 x (by rw [← hk1]; exact List.mem_cons_self)
                        · cases k0 with
                          | nil => simp at hk1; exact absurd hk1.1 hx0
                          | cons y ys =>
                            simp at hk1
                            exact hk0 x (by rw [hk1.1]; exact List.mem_cons_self)
                      have HKQ2 : Hid (∃ ks0, (∀ x ∈ ks0, Kept x) ∧ (qr = ks0 ∨ qr = ks0 ++ [[]])) := by
                        obtain ⟨k0, hk0, hk1 | hk1⟩ := HKQ.out
                        · cases k0 with
                          | nil => simp at hk1
                          | cons y ys =>
                            simp at hk1
                            exact ⟨ys, fun z hz => hk0 z (List.mem_cons_of_mem _ hz), .inl hk1.2⟩
                        · cases k0 with
                          | nil => simp at hk1; exact absurd hk1.1 hx0
                          | cons y ys =>
                            simp at hk1
                            exact ⟨ys, fun z hz => hk0 z (List.mem_cons_of_mem _ hz), .inr hk1.2⟩
                      have hxl : 0 < x.length := List.length_pos_iff.2 hx0
                      have hxq : x.length ≤ q1.size := by rw [HQ1S.out, List.length_append]; omega
                      have hq1p : 0 < q1.size := by omega
                      have e1 : ((q1.size : Int) == 0) = false := by rw [beq_eq_false_iff_ne]; omega
                      have hq1b : q1.size ≤ 2147483647 := by rw [HQ1S.out]; have := HQS.out; omega
                      have HX0 := Lib.hid hx0
                      clear hx0 HKQ
                      obtain ⟨ix, hix⟩ : ∃ ix : Int, ix = Go.Lib.indexByte (x ++ slashed qr) 47 := ⟨_, rfl⟩
                      have HIX : Hid (∀ w, Calls Tryd.prog 61 #[.string q1, .int .u8 47] w fun e w' => e = .returned (.int .i64 ix) ∧ w = w') := by
                        intro w
                        have := Tryd.strings_IndexByte q1 47 w
                        exact this.mono fun e w' ⟨g1, g2⟩ => ⟨g1.trans (congrArg (fun x => Ending.returned (Value.int .i64 x)) (by rw [hix, ← HQ1.out]; rfl)), g2.symm⟩
                      have HIV := Lib.hid hix
                      clear hix
                      go_upto_if 123 with (go_at_call 61; (with_reducible refine (HIX.out _).mono ?_); rintro e w2 ⟨rfl, rfl⟩)
                      go_cut [13] from 124 to 125 (fun v wx => v = .int .i64 (x.length : Int) ∧ wr = wx)
                      case first =>
                        by_cases hqr : qr = []
                        · have hi : ix = -1 := by rw [HIV.out, hqr]; exact indexByte_slash_none x HKX.out.2.2.2
                          have hl : q1.size = x.length := by rw [HQ1S.out, hqr]; simp [slashed]
                          subst hi
                          have HL : Hid (((q1.size : Nat) : Int) = (x.length : Int)) := by show _ = _; omega
                          clear hl hqr
                          go_wp2_with fail
                          go_meet
                          exact ⟨by rw [HL.out], rfl⟩
                        · have hi : ix = (x.length : Int) := by rw [HIV.out]; exact indexByte_slash_some x qr hqr HKX.out.2.2.2
                          subst hi
                          have hge : ¬ ((x.length : Int) < 0) := by omega
                          clear hqr
                          go_wp2_with fail
                          go_meet
                          exact ⟨rfl, rfl⟩
                      case rest =>
                        obtain ⟨rfl, rfl⟩ := hcut
                        go_upto_region 39 with fail
                        go_cut [14, 6] from 126 to 131 (fun v14 v6 wx => v14 = .string (q1.extract 0 x.length) ∧ v6 = .string (q1.extract x.length q1.size) ∧ PPMem s m hst w wb.heap.size wd.heap.size cur dn D wx)
                        case first =>
                          go_quiet (fail)
                          go_wp2
                          go_meet
                          exact ⟨rfl, rfl, HPBr.out, HEBr.out, hown, HMAP.out, below_drew3 HBEL.out _⟩
                        case rest =>
                          obtain ⟨rfl, rfl, hmem⟩ := hcut
                          obtain ⟨wz, rfl⟩ : ∃ wz : World, wz = wc := ⟨_, rfl⟩
                          have HSG : Hid (bs (q1.extract 0 x.length) = x) := by
                            show _ = _
                            rw [bs_extract, HQ1.out]
                            simp
                          have HRS : Hid (bs (q1.extract x.length q1.size) = slashed qr) := by
                            show _ = _
                            rw [bs_extract, HQ1.out, List.drop_left, List.take_of_length_le (by rw [HQ1S.out]; simp)]
                          have HMEM := Lib.hid hmem
                          have HDN := Lib.hid hdn
                          have HXB : Hid (∀ c ∈ x, c ≠ 37 ∧ c.toNat < 128) := fun c hc => HAQ.out c (by rw [HQ.out]; exact List.mem_cons_of_mem _ (List.mem_append_left _ hc))
                          have HRB : Hid (∀ c ∈ slashed qr, c ≠ 37 ∧ c.toNat < 128) := fun c hc => HAQ.out c (by rw [HQ.out]; exact List.mem_cons_of_mem _ (List.mem_append_right _ hc))
                          have hwz : w.heap.size ≤ wz.heap.size := hmem.2.2.2.2.size
                          have hwdz := hmem.2.2.2.1.lt
                          obtain ⟨sg, hsg⟩ : ∃ sg, sg = q1.extract 0 x.length := ⟨_, rfl⟩
                          obtain ⟨rs, hrs⟩ : ∃ rs, rs = q1.extract x.length q1.size := ⟨_, rfl⟩
                          rw [← hsg] at HSG
                          rw [← hrs] at HRS
                          rw [← hsg, ← hrs]
                          have hsgl : 0 < sg.size := by rw [← bs_size, HSG.out]; exact hxl
                          have hsgb : sg.size ≤ 2147483647 := by rw [← bs_size, HSG.out]; omega
                          have hrsb : rs.size ≤ 2147483647 := by rw [hrs, ByteArray.size_extract]; omega
                          have HLT : Hid (rs.size < q.size) := by
                            show _ < _
                            rw [← bs_size, ← bs_size, HRS.out, HQ.out]
                            show _ < (47 :: (x ++ slashed qr)).length
                            simp
                            omega
                          clear hsg hrs hmem hdn HIX HIV HAQ hxq hq1p e1 hq1b HQ1S HQS HQE HQ1 b1 e0 hown HMAP HEBr HPBr HBEL hwdl c3 f3
                          rcases indexByte_any 123 x with ⟨h1, h2, _⟩ | ⟨h1, h2, h3⟩
                          · have HIH : Hid (∀ w, Calls Tryd.prog 61 #[.string sg, .int .u8 123] w fun e w' => e = .returned (.int .i64 (-1)) ∧ w = w') := by
                              intro w
                              have := Tryd.strings_IndexByte sg 123 w
                              exact this.mono fun e w' ⟨g1, g2⟩ => ⟨g1.trans (congrArg (fun x => Ending.returned (Value.int .i64 x)) (by rw [← HSG.out] at h1; exact h1)), g2.symm⟩
                            have HUN : Hid (∀ w, Calls Tryd.prog 63 #[.string sg] w fun e w' => e = .returned (.string sg) ∧ w = w') := fun w => pathUnescape_any sg w (by omega) (by rw [HSG.out]; exact fun c hc => (HXB.out c hc).1)
                            have HPI : Hid (pieceL x qr.isEmpty = some ⟨x, false, false⟩) := by
                              show _ = _
                              unfold pieceL
                              rw [if_neg (fun e => HX0.out e.1), if_pos h2]
                            clear h1 h2
                            obtain ⟨hpb0, heb0, hown, hmap0, hbel0⟩ := HMEM.out
                            have c3 : wz.cell? ⟨wb.heap.size, 3, none⟩ = some cur := blk_cell hpb0 3
                            have f3 := blk_free hpb0 3
                            have HPBr := Lib.hid hpb0
                            have HEBr := Lib.hid heb0
                            have HMAP := Lib.hid hmap0
                            have HBEL := Lib.hid hbel0
                            clear hpb0 heb0 hmap0 hbel0
                            go_wp2_with (first
                              | (go_at_call 61; (with_reducible refine (HIH.out _).mono ?_); rintro e w2 ⟨rfl, rfl⟩)
                              | (go_at_call 63; (with_reducible refine (HUN.out _).mono ?_); rintro e w2 ⟨rfl, rfl⟩)
                              | (at_builtin; go_loud (refine wpList_append_own _ rfl _ _ 80 rfl (wd.heap.size + 1) 100 i0 (.agg #[.string ⟨#[]⟩, .bool false, .bool false]) 3 24 Tryd.underlying80 hi hz0 hz1 hz2 rfl (by decide) _ _ _ rfl (hown.alloc _) ⟨_, 0, none⟩ 1 1 [_, _, _] rfl rfl (cells3_new _ _ _ _ _ _ rfl) (by simp [Value.oneCell']) (by unfold maxLen; omega) (by omega) (by simp; omega) ?_; intro v' w2 hown' hgrow _; obtain ⟨A', cap', rfl, hnc', hcm', hA'⟩ := own_form hown'; have hP' := blk_grown (blk_alloc HPBr.out _) hgrow (fun e => by have := (hown.lt _ e.symm).1; omega); have hE' := blk_grown (blk_alloc HEBr.out _) hgrow (fun e => by have := (hown.lt _ e.symm).1; omega); have HB' : Hid (Below w.heap.size w w2) := (HBEL.out.alloc HBEL.out.size _).grown hgrow (by have := HBEL.out.size; simp; omega) (fun g hg => by have := (hown.lt g hg).1; omega); have HP' := Lib.hid hP'; have HE' := Lib.hid hE'; have c2' := blk_cell hP' 3; have f2' := blk_free hP' 3; have ce' := blk_cell hE' 0; have fe' := blk_free hE' 0; have HM' := Lib.hid ((HMAP.out.alloc _).kept hgrow (fun e => by have := (hown.lt _ e.symm).1; omega)); clear hgrow hP' hE' hown c3 f3)))
                            go_roundw
                            case rel =>
                              have hsv : Value.string sg = strV x := by rw [← HSG.out, strV_bs]
                              rw [hsv] at hown'
                              have hst2 := pieces_step HPC.out HPI.out rfl
                              exact pp_next (g := ⟨x, false, false⟩) hown' HP'.out HE'.out HM'.out (by omega) HSEEN.out hst2 HKQ2.out HRS.out HRB.out HB'.out (by have := HDN.out; simp only [List.length_cons] at this; omega) hrsb HNE.out hebl hpbl
                            case measure => exact HLT.out
                          · have hni : ∃ ni, ni = (x.takeWhile (· != 123)).length := ⟨_, rfl⟩
                            obtain ⟨ni, hni⟩ := hni
                            have HIH : Hid (∀ w, Calls Tryd.prog 61 #[.string sg, .int .u8 123] w fun e w' => e = .returned (.int .i64 (ni : Int)) ∧ w = w') := by
                              intro w
                              have := Tryd.strings_IndexByte sg 123 w
                              exact this.mono fun e w' ⟨g1, g2⟩ => ⟨g1.trans (congrArg (fun x => Ending.returned (Value.int .i64 x)) (by rw [hni, ← HSG.out]; rw [← HSG.out] at h1; exact h1)), g2.symm⟩
                            by_cases hhd : x.head? = some 123
                            · have hni0 : ni = 0 := by
                                rw [hni]
                                cases x with
                                | nil => rfl
                                | cons y ys => simp at hhd; simp [hhd]
                              subst hni0
                              have HPN : Hid (pieceL x qr.isEmpty = if x.getLast? ≠ some 125 then none else if braceName x = [36] then (if qr.isEmpty then some ⟨[47], false, false⟩ else none) else if (dotsB (braceName x) && !qr.isEmpty) || !nameB (undot (braceName x)) then none else some ⟨undot (braceName x), true, dotsB (braceName x)⟩) := by
                                show _ = _
                                unfold pieceL
                                rw [if_neg (fun e => HX0.out e.1), if_neg (by rw [h2]; simp)]
                                simp only [hhd, ne_eq, not_true_eq_false, false_or]
                              have HIH0 : Hid (∀ w, Calls Tryd.prog 61 #[.string sg, .int .u8 123] w fun e w' => e = .returned (.int .i64 0) ∧ w = w') := HIH.out
                              have hlast := bs_last sg hsgl
                              have HHD := Lib.hid hhd
                              clear h1 h2 h3 hni HIH hhd
                              by_cases hla : sg[sg.size - 1]'(by omega) = 125
                              · have e4 : (((sg[sg.size - 1]'(by omega)).toNat : Int) != 125) = false := by rw [hla]; rfl
                                have hl2 : 2 ≤ sg.size := by
                                  apply Decidable.byContradiction
                                  intro hlt
                                  have h1 : sg.size = 1 := by omega
                                  have h2 := bs_head sg hsgl
                                  rw [HSG.out, HHD.out] at h2
                                  have h3 : (sg[0]'hsgl) = 125 := by rw [← hla]; congr 1; omega
                                  rw [h3] at h2
                                  simp at h2
                                have HNM : Hid (bs (sg.extract 1 (sg.size - 1)) = braceName x) := by
                                  show _ = _
                                  unfold braceName
                                  rw [bs_extract, List.dropLast_eq_take, ← HSG.out, List.length_tail, bs_size, List.drop_one]
                                have HLA : Hid (x.getLast? = some 125) := by show _ = _; rw [← HSG.out, hlast, hla]
                                clear hla hlast
                                have b1 : (1 : Int) ≤ (sg.size : Int) - 1 := by omega
                                obtain ⟨nm, hnm⟩ : ∃ nm, nm = sg.extract 1 (sg.size - 1) := ⟨_, rfl⟩
                                rw [← hnm] at HNM
                                have HNE2 := Lib.hid hnm
                                clear hnm
                                go_upto_region 49 with (go_at_call 61; (with_reducible refine (HIH0.out _).mono ?_); rintro e w2 ⟨rfl, rfl⟩)
                                rw [← HNE2.out]
                                have hnms : nm.size ≤ sg.size := by rw [HNE2.out, ByteArray.size_extract]; omega
                                have HQR : qr = [] → Hid (((rs.size : Int) != 0) = false) := by
                                  intro h
                                  show _ = _
                                  have h1 := bs_size rs
                                  rw [HRS.out, h] at h1
                                  simp [slashed] at h1
                                  rw [← h1]; rfl
                                have HQN : qr ≠ [] → Hid (((rs.size : Int) != 0) = true) := by
                                  intro h
                                  show _ = _
                                  have h1 := bs_size rs
                                  rw [HRS.out] at h1
                                  have h2 : 0 < (slashed qr).length := by cases qr with
                                    | nil => exact absurd rfl h
                                    | cons y ys => simp [slashed]
                                  rw [bne_iff_ne]; omega
                                have HQR2 := Lib.hid HQR
                                have HQN2 := Lib.hid HQN
                                have HPN2 := HPN.out
                                rw [if_neg (by rw [HLA.out]; simp)] at HPN2
                                have HPN := Lib.hid HPN2
                                clear HNE2 HIH0 e4 b1 HQR HQN HPN2 hl2
                                by_cases h36 : braceName x = [36]
                                · have e5 : (nm.toList == [36]) = true := by rw [bs_toList, HNM.out, h36]; rfl
                                  by_cases hqr : qr = []
                                  · have e6 := (HQR2.out hqr).out
                                    have HO2 : Hid (parseL (bs s) = some (bs m, bs hst, dn ++ [⟨[47], false, false⟩])) := by
                                      show _ = _
                                      have h1 := HPN.out
                                      rw [if_pos h36, if_pos (by rw [hqr]; rfl)] at h1
                                      rw [HO.out, pieces_step HPC.out h1 rfl, hqr]
                                      simp [piecesL]
                                    clear h36 hqr
                                    obtain ⟨hpb0, heb0, hown, hmap0, hbel0⟩ := HMEM.out; have c3 : wz.cell? ⟨wb.heap.size, 3, none⟩ = some cur := blk_cell hpb0 3; have f3 := blk_free hpb0 3; have HPBr := Lib.hid hpb0; have HEBr := Lib.hid heb0; have HMAP := Lib.hid hmap0; have HBEL := Lib.hid hbel0; clear hpb0 heb0 hmap0 hbel0
                                    go_wp2_with (at_builtin; go_loud (refine wpList_append_own _ rfl _ _ 80 rfl (wd.heap.size + 1) 100 i0 (.agg #[.string ⟨#[]⟩, .bool false, .bool false]) 3 24 Tryd.underlying80 hi hz0 hz1 hz2 rfl (by decide) _ _ _ rfl (hown.alloc _) ⟨_, 0, none⟩ 1 1 [_, _, _] rfl rfl (cells3_new _ _ _ _ _ _ rfl) (by simp [Value.oneCell']) (by unfold maxLen; omega) (by omega) (by simp; omega) ?_; intro v' w2 hown' hgrow _; obtain ⟨A', cap', rfl, hnc', hcm', hA'⟩ := own_form hown'; have hP' := blk_grown (blk_alloc HPBr.out _) hgrow (fun e => by have := (hown.lt _ e.symm).1; omega); have hE' := blk_grown (blk_alloc HEBr.out _) hgrow (fun e => by have := (hown.lt _ e.symm).1; omega); have HB' : Hid (Below w.heap.size w w2) := (HBEL.out.alloc HBEL.out.size _).grown hgrow (by have := HBEL.out.size; simp; omega) (fun g hg => by have := (hown.lt g hg).1; omega); have HP' := Lib.hid hP'; have HE' := Lib.hid hE'; have c2' := blk_cell hP' 3; have f2' := blk_free hP' 3; have ce' := blk_cell hE' 0; have fe' := blk_free hE' 0; have HM' := Lib.hid ((HMAP.out.alloc _).kept hgrow (fun e => by have := (hown.lt _ e.symm).1; omega)); clear hgrow hP' hE' hown c3 f3))
                                    have hl2 := blk_lt HE'.out
                                    have hce : (w2.setCell ⟨wb.heap.size, 3, none⟩ (.slice A' (dn.length + 1) cap')).cell? ⟨w.heap.size, 0, none⟩ = some .nilIface := blk_cell (blk_far HE'.out (by simp; omega) _) 0
                                    refine door_some w _ _ _ m hst _ HO2.out w.heap.size wb.heap.size (.slice A' (dn.length + 1) cap') s (wd.heap.size + 1) ?_ ?_ ?_ ?_ ?_ rfl rfl
                                    · exact World.cell?_setCell_same' _ _ _ (by rw [hce]; rfl)
                                    · exact blk_far (blk_set HP'.out 3 _) (by simp; omega) _
                                    · refine ownsRow_setCell_below (ownsRow_setCell_below (base := wd.heap.size + 1) ?_ (by simp; omega) _) (by simp; omega) _
                                      rw [segCells_snoc, List.length_append]; exact hown'
                                    · exact (HB'.out.setCell (by simp; omega) _).setCell (Nat.le_refl _) _
                                    · exact ⟨by omega, by omega⟩
                                  · have e6 := (HQN2.out hqr).out
                                    have HO2 : Hid (parseL (bs s) = none) := by
                                      show _ = _
                                      have h1 := HPN.out
                                      rw [if_pos h36, if_neg (by simpa using hqr)] at h1
                                      rw [HO.out, pieces_bad HPC.out h1]
                                      rfl
                                    clear h36 hqr
                                    go_wp2_with (go_at_call 56; refine (errorsNew_any _ _).mono ?_; rintro e w3 ⟨t, v, rfl, hb3⟩; have hb0 := blk_below HMEM.out.2.1 hb3; have HB3 := Lib.hid hb3; have hc1 := blk_cell hb0 0; have hf1 := blk_free hb0 0; have hl3 := blk_lt hb0; clear hb3 hb0)
                                    exact door_none w _ _ _ HO2.out w.heap.size t v (Nat.le_refl _) (by simpa using hl3) (World.cell?_setCell_same' _ _ _ (by rw [hc1]; rfl)) (by simp [hf1]) ((HMEM.out.2.2.2.2.trans (HB3.out.mono hwz)).setCell (Nat.le_refl _) _) rfl rfl
                                · have e5 : (nm.toList == [36]) = false := by rw [bs_toList, HNM.out]; simpa using h36
                                  have HPN2 := HPN.out
                                  rw [if_neg h36] at HPN2
                                  have HPN := Lib.hid HPN2
                                  obtain ⟨n2, hn2⟩ : ∃ n2 : ByteArray, n2 = ⟨(Go.Lib.trimSuffix (bs nm) [46, 46, 46]).toArray⟩ := ⟨_, rfl⟩
                                  obtain ⟨mu, hmu⟩ : ∃ mu : Bool, mu = dotsB (braceName x) := ⟨_, rfl⟩
                                  have HN2 : Hid (bs n2 = undot (braceName x)) := by
                                    show _ = _
                                    rw [hn2, ← HNM.out, ← (dots_suffix (bs nm)).2]
                                    simp [bs]
                                  have HCS : Hid (∀ w, Calls Tryd.prog 64 #[.string nm, .string ⟨#[46, 46, 46]⟩] w fun e w' => e = .returned (.tuple #[.string n2, .bool mu]) ∧ w = w') := by
                                    intro w
                                    have := Tryd.strings_CutSuffix nm ⟨#[46, 46, 46]⟩ w (by omega)
                                    refine this.mono fun e w' ⟨g1, g2⟩ => ⟨g1.trans ?_, g2.symm⟩
                                    have h1 : Go.Lib.hasSuffix nm.data.toList [46, 46, 46] = mu := by rw [hmu, ← HNM.out]; exact (dots_suffix (bs nm)).1
                                    rw [hn2, ← h1]
                                    rfl
                                  have hn2s : n2.size ≤ nm.size := by
                                    have h1 := bs_size n2
                                    rw [HN2.out, ← HNM.out] at h1
                                    have h2 : (undot (bs nm)).length ≤ (bs nm).length := by
                                      unfold undot
                                      split
                                      · rw [List.length_take]; exact Nat.min_le_right _ _
                                      · exact Nat.le_refl _
                                    rw [bs_size] at h2
                                    omega
                                  rw [← hmu] at HPN2
                                  have HPN := Lib.hid HPN2
                                  clear hn2 hmu h36 HPN2
                                  by_cases hbad : mu = true ∧ qr ≠ []
                                  · have e6 := (HQN2.out hbad.2).out
                                    have HO2 : Hid (parseL (bs s) = none) := by
                                      show _ = _
                                      rw [HO.out, pieces_bad HPC.out]
                                      · rfl
                                      · rw [HPN.out, if_pos]
                                        rw [hbad.1]
                                        have : qr.isEmpty = false := by simpa using hbad.2
                                        simp [this]
                                    obtain rfl := hbad.1
                                    clear hbad
                                    go_wp2_with (first
                                      | (go_at_call 64; (with_reducible refine (HCS.out _).mono ?_); rintro e w2 ⟨rfl, rfl⟩)
                                      | (go_at_call 56; refine (errorsNew_any _ _).mono ?_; rintro e w3 ⟨t, v, rfl, hb3⟩; have hb0 := blk_below HMEM.out.2.1 hb3; have HB3 := Lib.hid hb3; have hc1 := blk_cell hb0 0; have hf1 := blk_free hb0 0; have hl3 := blk_lt hb0; clear hb3 hb0))
                                    exact door_none w _ _ _ HO2.out w.heap.size t v (Nat.le_refl _) (by simpa using hl3) (World.cell?_setCell_same' _ _ _ (by rw [hc1]; rfl)) (by simp [hf1]) ((HMEM.out.2.2.2.2.trans (HB3.out.mono hwz)).setCell (Nat.le_refl _) _) rfl rfl
                                  · have HOK : Hid (mu = true → qr = []) := by
                                      intro h
                                      exact Classical.byContradiction fun h2 => hbad ⟨h, h2⟩
                                    have HPN2 := HPN.out
                                    have hfst : (mu && !qr.isEmpty) = false := by
                                      cases mu
                                      · rfl
                                      · rw [HOK.out rfl]; rfl
                                    rw [hfst, Bool.false_or] at HPN2
                                    have HPN := Lib.hid HPN2
                                    clear hbad hfst HPN2
                                    go_upto_region 54 with (go_at_call 64; (with_reducible refine (HCS.out _).mono ?_); rintro e w2 ⟨rfl, rfl⟩)
                                    go_cut [190] from 185 to 189 (fun c wx => c = .bool false ∧ wz = wx)
                                    case first =>
                                      cases mu
                                      · go_wp2_with fail
                                        go_meet
                                        exact ⟨rfl, rfl⟩
                                      · have e6 := (HQR2.out (HOK.out rfl)).out
                                        go_wp2_with fail
                                        go_meet
                                        exact ⟨rfl, rfl⟩
                                    case rest =>
                                      obtain ⟨rfl, rfl⟩ := hcut
                                      by_cases hn0 : bs n2 = []
                                      · have e7 : n2.toList.isEmpty = true := by rw [bs_toList, hn0]; rfl
                                        have HO2 : Hid (parseL (bs s) = none) := by
                                          show _ = _
                                          rw [HO.out, pieces_bad HPC.out]
                                          · rfl
                                          · rw [HPN.out, ← HN2.out, hn0]; rfl
                                        clear hn0
                                        go_wp2_with (go_at_call 56; refine (errorsNew_any _ _).mono ?_; rintro e w3 ⟨t, v, rfl, hb3⟩; have hb0 := blk_below HMEM.out.2.1 hb3; have HB3 := Lib.hid hb3; have hc1 := blk_cell hb0 0; have hf1 := blk_free hb0 0; have hl3 := blk_lt hb0; clear hb3 hb0)
                                        exact door_none w _ _ _ HO2.out w.heap.size t v (Nat.le_refl _) (by simpa using hl3) (World.cell?_setCell_same' _ _ _ (by rw [hc1]; rfl)) (by simp [hf1]) ((HMEM.out.2.2.2.2.trans (HB3.out.mono hwz)).setCell (Nat.le_refl _) _) rfl rfl
                                      · have e7 : n2.toList.isEmpty = false := by rw [bs_toList]; simpa using hn0
                                        obtain ⟨okn, hokn⟩ : ∃ okn, okn = nameB (bs n2) := ⟨_, rfl⟩
                                        have HVA : Hid (Calls Tryd.prog 65 #[.string n2] wz fun e w' => e = .returned (.bool okn) ∧ Below wz.heap.size wz w') := by
                                          show Calls Tryd.prog 65 #[.string n2] wz _
                                          rw [hokn]
                                          refine valid_any n2 wz (by omega) ?_ (HPR.out.below HMEM.out.2.2.2.2)
                                          intro c hc
                                          rw [HN2.out] at hc
                                          have h1 : c ∈ braceName x := by
                                            unfold undot at hc
                                            split at hc
                                            · exact List.mem_of_mem_take hc
                                            · exact hc
                                          unfold braceName at h1
                                          exact (HXB.out c (List.mem_of_mem_tail ((List.dropLast_sublist _).subset h1))).2
                                        have HNZ := Lib.hid hn0
                                        rw [HN2.out] at hokn
                                        have HOKN := Lib.hid hokn
                                        clear hokn hn0
                                        cases okn
                                        · have HO2 : Hid (parseL (bs s) = none) := by
                                            show _ = _
                                            rw [HO.out, pieces_bad HPC.out]
                                            · rfl
                                            · rw [HPN.out, ← HOKN.out]; rfl
                                          go_wp2_with (first
                                            | (go_at_call 65; (with_reducible refine HVA.out.mono ?_); rintro e w5 ⟨rfl, hb5⟩; have hmem5 := HMEM.out.below hwz hb5; have hwz5 : w.heap.size ≤ w5.heap.size := Nat.le_trans hwz hb5.size; have HMEM5 := Lib.hid hmem5; clear hb5 hmem5)
                                            | (go_at_call 56; refine (errorsNew_any _ _).mono ?_; rintro e w3 ⟨t, v, rfl, hb3⟩; have hb0 := blk_below HMEM5.out.2.1 hb3; have HB3 := Lib.hid hb3; have hc1 := blk_cell hb0 0; have hf1 := blk_free hb0 0; have hl3 := blk_lt hb0; clear hb3 hb0))
                                          exact door_none w _ _ _ HO2.out w.heap.size t v (Nat.le_refl _) (by simpa using hl3) (World.cell?_setCell_same' _ _ _ (by rw [hc1]; rfl)) (by simp [hf1]) ((HMEM5.out.2.2.2.2.trans (HB3.out.mono hwz5)).setCell (Nat.le_refl _) _) rfl rfl
                                        · have HPI : Hid (pieceL x qr.isEmpty = some ⟨bs n2, true, mu⟩) := by
                                            show _ = _
                                            rw [HPN.out, ← HOKN.out, HN2.out]; rfl
                                          go_upto_region 60 with (go_at_call 65; (with_reducible refine HVA.out.mono ?_); rintro e w5 ⟨rfl, hb5⟩; have hmem5 := HMEM.out.below hwz hb5; have hwz5 : w.heap.size ≤ w5.heap.size := Nat.le_trans hwz hb5.size; have HMEM5 := Lib.hid hmem5; clear hb5 hmem5)
                                          have hkey : keyOf Tryd.prog 9 (.string n2) = some (.string n2.data.toList) := Go.WideMaps.keyOf_string_mk Tryd.underlying9 (by unfold maxLen; omega)
                                          obtain ⟨dup, hdup⟩ : ∃ dup, dup = seen.contains (bs n2) := ⟨_, rfl⟩
                                          have HCB : Hid (∀ c, D.atKey (.string n2.data.toList) (.lit (.bool false)) = .lit (.bool c) → c = dup) := by
                                            intro c hc
                                            rw [HSEEN.out] at hc
                                            simp only [DataW.lit.injEq, Lit.bool.injEq] at hc
                                            rw [hdup, ← hc]
                                            rfl
                                          have HDUP := Lib.hid hdup
                                          clear hdup
                                          cases dup
                                          · clear HVA HCS
                                            go_wp2_with (first
                                              | (at_lookup; go_loud (refine wpList_lookup_own_bool _ rfl _ _ 117 rfl 9 4 (Go.Maps.string_keyed Tryd.underlying9) Tryd.underlying117 Tryd.underlying4 (zero_bool _) wd.heap.size dn.length D rfl HMEM5.out.2.2.2.1 _ _ rfl hkey ?_; intro c hat; obtain rfl : c = false := HCB.out c hat; clear hat))
                                              | (at_mapUpdate; go_loud (refine wpList_mapUpdate_own _ rfl _ _ _ 117 rfl 9 4 (Go.Maps.string_keyed Tryd.underlying9) Tryd.underlying117 (plainElem (H := Unit) Tryd.prog 4) wd.heap.size dn.length D rfl HMEM5.out.2.2.2.1 (by unfold maxLen; omega) _ _ _ rfl rfl hkey _ [] (plainElem_bool Tryd.underlying4 true) ?_; intro w6 hmap6 hgrow6; have hpb6 := blk_grown HMEM5.out.1 hgrow6 (by simp; omega); have heb6 := blk_grown HMEM5.out.2.1 hgrow6 (by simp; omega); have hown := HMEM5.out.2.2.1.kept hgrow6 (.inr fun e => by have := (HMEM5.out.2.2.1.lt _ e).1; omega); have hbel6 := HMEM5.out.2.2.2.2.grown hgrow6 hwz5 (fun g hg => by simp at hg; omega); have c3 : w6.cell? ⟨wb.heap.size, 3, none⟩ = some cur := blk_cell hpb6 3; have f3 := blk_free hpb6 3; have HPBr := Lib.hid hpb6; have HEBr := Lib.hid heb6; have HMAP := Lib.hid hmap6; have HBEL := Lib.hid hbel6; have hwdl := hmap6.lt; clear hpb6 heb6 hmap6 hbel6 hgrow6))
                                              | (at_builtin; go_loud (refine wpList_append_own _ rfl _ _ 80 rfl (wd.heap.size + 1) 100 i0 (.agg #[.string ⟨#[]⟩, .bool false, .bool false]) 3 24 Tryd.underlying80 hi hz0 hz1 hz2 rfl (by decide) _ _ _ rfl (hown.alloc _) ⟨_, 0, none⟩ 1 1 [_, _, _] rfl rfl (cells3_new _ _ _ _ _ _ rfl) (by simp [Value.oneCell']) (by unfold maxLen; omega) (by omega) (by simp; omega) ?_; intro v' w2 hown' hgrow _; obtain ⟨A', cap', rfl, hnc', hcm', hA'⟩ := own_form hown'; have hP' := blk_grown (blk_alloc HPBr.out _) hgrow (fun e => by have := (hown.lt _ e.symm).1; omega); have hE' := blk_grown (blk_alloc HEBr.out _) hgrow (fun e => by have := (hown.lt _ e.symm).1; omega); have HB' : Hid (Below w.heap.size w w2) := (HBEL.out.alloc HBEL.out.size _).grown hgrow (by have := HBEL.out.size; simp; omega) (fun g hg => by have := (hown.lt g hg).1; omega); have HP' := Lib.hid hP'; have HE' := Lib.hid hE'; have c2' := blk_cell hP' 3; have f2' := blk_free hP' 3; have ce' := blk_cell hE' 0; have fe' := blk_free hE' 0; have HM' := Lib.hid ((HMAP.out.alloc _).kept hgrow (fun e => by have := (hown.lt _ e.symm).1; omega)); clear hgrow hP' hE' hown c3 f3)))
                                            go_roundw
                                            case rel =>
                                              have hsv : Value.string n2 = strV (bs n2) := (strV_bs n2).symm
                                              rw [hsv] at hown'
                                              have hst2 := pieces_step HPC.out HPI.out (by simp only [Bool.true_and]; exact HDUP.out.symm)
                                              refine pp_next (g := ⟨bs n2, true, mu⟩) hown' HP'.out HE'.out HM'.out (by omega) ?_ hst2 HKQ2.out HRS.out HRB.out HB'.out (by have := HDN.out; simp only [List.length_cons] at this; omega) hrsb ?_ hebl hpbl
                                              · intro n
                                                have hism : Maps.IsMap D := (HMEM5.out.2.2.2.1.tidy (Go.Maps.string_keyed Tryd.underlying9)).isMap
                                                by_cases hn : n = bs n2
                                                · subst hn
                                                  rw [show Lit.string (bs n2) = Lit.string n2.data.toList from rfl, Maps.atKey_put_same hism (show WideAt.IsKeyLit (Lit.string n2.data.toList) from trivial)]
                                                  simp
                                                · rw [Maps.atKey_put_other (show Lit.string n ≠ Lit.string n2.data.toList from fun e => hn (Lit.string.inj e)), HSEEN.out]
                                                  simp [hn]
                                              · have h1 := HNE.out
                                                simp at h1 ⊢
                                                exact ⟨fun e => HNZ.out e, h1⟩
                                            case measure => exact HLT.out
                                          · have HO2 : Hid (parseL (bs s) = none) := by
                                              show _ = _
                                              rw [HO.out, pieces_dup HPC.out HPI.out]
                                              · rfl
                                              · simp only [Bool.true_and]; exact HDUP.out.symm
                                            clear HVA HCS
                                            go_wp2_with (first
                                              | (at_lookup; go_loud (refine wpList_lookup_own_bool _ rfl _ _ 117 rfl 9 4 (Go.Maps.string_keyed Tryd.underlying9) Tryd.underlying117 Tryd.underlying4 (zero_bool _) wd.heap.size dn.length D rfl HMEM5.out.2.2.2.1 _ _ rfl hkey ?_; intro c hat; obtain rfl : c = true := HCB.out c hat; clear hat))
                                              | (go_at_call 56; refine (errorsNew_any _ _).mono ?_; rintro e w3 ⟨t, v, rfl, hb3⟩; have hb0 := blk_below HMEM5.out.2.1 hb3; have HB3 := Lib.hid hb3; have hc1 := blk_cell hb0 0; have hf1 := blk_free hb0 0; have hl3 := blk_lt hb0; clear hb3 hb0))
                                            exact door_none w _ _ _ HO2.out w.heap.size t v (Nat.le_refl _) (by simpa using hl3) (World.cell?_setCell_same' _ _ _ (by rw [hc1]; rfl)) (by simp [hf1]) ((HMEM5.out.2.2.2.2.trans (HB3.out.mono hwz5)).setCell (Nat.le_refl _) _) rfl rfl
                              · have e4 : (((sg[sg.size - 1]'(by omega)).toNat : Int) != 125) = true := by rw [bne125]; simpa using hla
                                have HO2 : Hid (parseL (bs s) = none) := by
                                  show _ = _
                                  rw [HO.out, pieces_bad HPC.out]
                                  · rfl
                                  · rw [HPN.out, if_pos]
                                    rw [← HSG.out, hlast]
                                    simpa using hla
                                clear hlast hla
                                go_wp2_with (first
                                  | (go_at_call 61; (with_reducible refine (HIH0.out _).mono ?_); rintro e w2 ⟨rfl, rfl⟩)
                                  | (go_at_call 56; refine (errorsNew_any _ _).mono ?_; rintro e w3 ⟨t, v, rfl, hb3⟩; have hb0 := blk_below HMEM.out.2.1 hb3; have HB3 := Lib.hid hb3; have hc1 := blk_cell hb0 0; have hf1 := blk_free hb0 0; have hl3 := blk_lt hb0; clear hb3 hb0))
                                exact door_none w _ _ _ HO2.out w.heap.size t v (Nat.le_refl _) (by simpa using hl3) (World.cell?_setCell_same' _ _ _ (by rw [hc1]; rfl)) (by simp [hf1]) ((HMEM.out.2.2.2.2.trans (HB3.out.mono hwz)).setCell (Nat.le_refl _) _) rfl rfl
                            · have HO2 : Hid (parseL (bs s) = none) := by
                                show _ = _
                                rw [HO.out, pieces_bad HPC.out]
                                · rfl
                                · unfold pieceL
                                  rw [if_neg (fun e => HX0.out e.1), if_neg (by rw [h2]; simp), if_pos (.inl hhd)]
                              have hnz : 0 < ni := by
                                rw [hni]
                                cases x with
                                | nil => exact absurd rfl HX0.out
                                | cons y ys =>
                                  rw [List.takeWhile_cons_of_pos (by simpa using hhd)]
                                  simp
                              have e3 : ((ni : Int) != 0) = true := by simp; omega
                              clear h1 h2 h3 hni hhd
                              go_wp2_with (first
                                | (go_at_call 61; (with_reducible refine (HIH.out _).mono ?_); rintro e w2 ⟨rfl, rfl⟩)
                                | (go_at_call 56; refine (errorsNew_any _ _).mono ?_; rintro e w3 ⟨t, v, rfl, hb3⟩; have hb0 := blk_below HMEM.out.2.1 hb3; have HB3 := Lib.hid hb3; have hc1 := blk_cell hb0 0; have hf1 := blk_free hb0 0; have hl3 := blk_lt hb0; clear hb3 hb0))
                              exact door_none w _ _ _ HO2.out w.heap.size t v (Nat.le_refl _) (by simpa using hl3) (World.cell?_setCell_same' _ _ _ (by rw [hc1]; rfl)) (by simp [hf1]) ((HMEM.out.2.2.2.2.trans (HB3.out.mono hwz)).setCell (Nat.le_refl _) _) rfl rfl
            · have HIH : Hid (∀ w, Calls Tryd.prog 61 #[.string (r.extract 0 j), .int .u8 123] w fun e w' => e = .returned (.int .i64 ((((hostOf (bs r)).takeWhile (· != 123)).length : Nat) : Int)) ∧ w = w') := by
                intro w
                have := Tryd.strings_IndexByte (r.extract 0 j) 123 w
                exact this.mono fun e w' ⟨g1, g2⟩ => ⟨g1.trans (congrArg (fun x => Ending.returned (Value.int .i64 x)) (by rw [← HHO.out] at h1; rw [← HHO.out]; exact h1)), g2.symm⟩
              have HO : Hid (parseL (bs s) = none) := by
                show _ = _
                unfold parseL
                have hsl := HSL.out
                rw [HR.out] at h2 hsl
                rw [if_neg (by rw [hsl]; simp), if_pos h2]
              obtain ⟨nb, hnb⟩ : ∃ nb, nb = ((hostOf (bs r)).takeWhile (· != 123)).length := ⟨_, rfl⟩
              rw [← hnb] at HIH
              clear h1 h2 h3 hnb
              go_wp2_with (first
                | (go_at_call 61; (with_reducible refine (HIX.out _).mono ?_); rintro e w2 ⟨rfl, rfl⟩)
                | (go_at_call 61; (with_reducible refine (HIH.out _).mono ?_); rintro e w2 ⟨rfl, rfl⟩)
                | (go_at_call 56; refine (errorsNew_any _ _).mono ?_; rintro e w3 ⟨t, v, rfl, hb3⟩; have hb0 := blk_below (blk_alloc HCC.out _) hb3; have HB3 := Lib.hid hb3; have hc1 := blk_cell hb0 0; have hf1 := blk_free hb0 0; have hl3 := blk_lt hb0; clear hb3 hb0))
              exact door_none w _ _ _ HO.out w.heap.size t v (Nat.le_refl _) (by simpa using hl3) (World.cell?_setCell_same' _ _ _ (by rw [hc1]; rfl)) (by simp [hf1]) (((HBW.out.alloc HBW.out.size _).trans (HB3.out.mono (by have := HBW.out.size; simp; omega))).setCell (Nat.le_refl _) _) rfl rfl

theorem pp_any (s : ByteArray) (w : World) (hs : s.size ≤ 2147483647) (hP : PPText (bs s)) (hprops : PropsAt w) :
    Calls Tryd.prog 51 #[.string s] w fun e w' => PPOut (parseL (bs s)) w w' e := (pp_full s w hs hP hprops).mono fun _ _ h => h.out
end Go.Proofs.YtgkhfcoieknjeaaDoor
