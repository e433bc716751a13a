/-
  Proved: spec.Read reads a text as the mirror of parsePattern does, or leaves it open. Condition: the text has at most 2^31 - 1 bytes.
-/
import Derived.Test.YtodmlommidifjaaDoorWild
import Derived.Test.YtodmlommidifjaaDoorItems
import Derived.Test.YtodmlommidifjaaDoorCut
import Derived.BigQuiet
namespace Go.Proofs.YtodmlommidifjaaDoor
open Go.RowKit
open Go.Lib.Pa (els)

/-- How Read ends. -/
def ReadEnd (l : List UInt8) (w : World) (e : Ending) (w' : World) : Prop :=
  ∃ (m h : ByteArray) (A : Option Addr) (n cap : Nat) (st : Nat) (sg : List Seg), e = .returned (.tuple #[.agg #[.string m, .string h, .slice A n cap], .int .i64 (st : Int)]) ∧ (st = 1 → SegsAt w' (.slice A n cap) sg ∧ sg.length ≤ 120) ∧ ReadOut l (bs m) (bs h) sg st ∧ Below w.heap.size w w'

theorem readEnd_open {l : List UInt8} {w w' : World} (hb : Below w.heap.size w w') : ReadEnd l w (.returned (.tuple #[.agg #[.string ⟨#[]⟩, .string ⟨#[]⟩, .slice none 0 0], .int .i64 0])) w' :=
  ⟨⟨#[]⟩, ⟨#[]⟩, none, 0, 0, 0, [], rfl, (fun h => by cases h), .inl rfl, hb⟩

theorem readEnd_wrong {l : List UInt8} {w w' : World} (hb : Below w.heap.size w w') (h : l = [] ∨ (PPText l ∧ parseL l = none)) : ReadEnd l w (.returned (.tuple #[.agg #[.string ⟨#[]⟩, .string ⟨#[]⟩, .slice none 0 0], .int .i64 2])) w' :=
  ⟨⟨#[]⟩, ⟨#[]⟩, none, 0, 0, 2, [], rfl, (fun h => by cases h), .inr (.inr ⟨rfl, h⟩), hb⟩

def zPat : Array Value := #[.string ⟨#[]⟩, .string ⟨#[]⟩, .slice none 0 0]

/-- What lies below the loop's own memory, but for the pattern's variable, stands as it stood. -/
def Stood (P : Nat) (W wr : World) : Prop := W.heap.size ≤ wr.heap.size ∧ ∀ b, b < W.heap.size → b ≠ P → wr.heap[b]? = W.heap[b]?

theorem Stood.refl (P : Nat) (W : World) : Stood P W W := ⟨Nat.le_refl _, fun _ _ _ => rfl⟩
theorem Stood.below {P : Nat} {W wr wx : World} (h : Stood P W wr) (hb : Below wr.heap.size wr wx) : Stood P W wx :=
  ⟨Nat.le_trans h.1 hb.size, fun b h1 h2 => (hb.block b (by have := h.1; omega)).trans (h.2 b h1 h2)⟩

/-- What holds at the head of each round of the loop over the pieces. -/
def ReadR (w W : World) (m hst : ByteArray) (ks : List (List UInt8)) (v8 kv : Value) (wr : World) : Prop :=
  ∃ (k st : Nat) (l0 : List Seg) (sv : Value), k ≤ ks.length ∧ v8 = .int .i64 (st : Int) ∧ kv = .int .i64 (k : Int) ∧ l0.length = k ∧
    wr.heap[w.heap.size + 1]? = some (.cells #[.string m, .string hst, sv] 30 (0, 0)) ∧ wr.ownsRow W.heap.size 46 3 sv l0.length (segCells l0) ∧
    Hid ((st = 1 ∧ ReadSo ks k l0) ∨ (st = 2 ∧ piecesL ks [] = none)) ∧ Hid (∀ (i : Nat) (x : List UInt8), i < k → ks[i]? = some x → Kept x ∨ (x = [] ∧ i + 1 = ks.length)) ∧ Stood (w.heap.size + 1) W wr ∧ Below w.heap.size w wr

theorem seg3_again {w : World} {R : Nat} {a b c a' b' c' : Value} (h : w.heap[R]? = some (.cells #[a, b, c] 46 (0, 0))) :
    (((w.setCell ⟨R, 0, none⟩ a').setCell ⟨R, 1, none⟩ b').setCell ⟨R, 2, none⟩ c').heap[R]? = some (.cells #[a', b', c'] 46 (0, 0)) :=
  blk_set (blk_set (blk_set h 0 _) 1 _) 2 _
theorem pat3_again {w : World} {R : Nat} {a b c a' b' c' : Value} (h : w.heap[R]? = some (.cells #[a, b, c] 30 (0, 0))) :
    (((w.setCell ⟨R, 0, none⟩ a').setCell ⟨R, 1, none⟩ b').setCell ⟨R, 2, none⟩ c').heap[R]? = some (.cells #[a', b', c'] 30 (0, 0)) :=
  blk_set (blk_set (blk_set h 0 _) 1 _) 2 _

theorem rlen : ∀ l : List UInt8, (els l).length ≤ l.length + 1 ∧ ∀ x ∈ els l, x.length ≤ l.length
  | [] => by simp [els]
  | c :: t => by
    obtain ⟨h1, h2⟩ := rlen t
    cases he : els t with
    | nil => exact absurd he (els_ne t)
    | cons e r =>
      rw [he] at h1 h2
      by_cases hc : c = 47
      · subst hc
        rw [els_slash, he]
        refine ⟨by simp at h1 ⊢; omega, fun x hx => ?_⟩
        rcases List.mem_cons.1 hx with rfl | hx
        · simp
        · have := h2 x hx; simp; omega
      · simp only [els, he, hc, if_false]
        refine ⟨by simp at h1 ⊢; omega, fun x hx => ?_⟩
        rcases List.mem_cons.1 hx with rfl | hx
        · have := h2 e (by simp); simp; omega
        · have := h2 x (by simp [hx]); simp; omega

theorem free_step (l0 : List Seg) (g : Seg) (j : Nat) (t : Seg) (h : l0[j]? = some t) : (l0.take (j + 1)).all (fun t => !t.wild || !g.wild || !decide (t.s = g.s)) = ((l0.take j).all (fun t => !t.wild || !g.wild || !decide (t.s = g.s)) && (!t.wild || !g.wild || !decide (t.s = g.s))) := by
  rw [List.take_add_one, h]
  simp

/-- The result's block, written once more with nothing in it. -/
theorem zpat_again {w : World} {R : Nat} (h : w.heap[R]? = some (.cells zPat 30 (0, 0))) :
    (((w.setCell ⟨R, 0, none⟩ (.string ⟨#[]⟩)).setCell ⟨R, 1, none⟩ (.string ⟨#[]⟩)).setCell ⟨R, 2, none⟩ (.slice none 0 0)).heap[R]? = some (.cells zPat 30 (0, 0)) :=
  blk_set (blk_set (blk_set h 0 _) 1 _) 2 _

theorem byteOk_of (c : UInt8) (h1 : 32 ≤ c.toNat ∨ c.toNat = 9) (h2 : c.toNat ≤ 126) (h3 : c.toNat ≠ 37) : ByteOk c :=
  ⟨h1.imp id (fun h => UInt8.toNat.inj h), h2, fun e => h3 (by rw [e]; rfl)⟩

theorem blank_yes {c : UInt8} (h : (c.toNat : Int) = 32) : blankB c = true := by
  unfold blankB blankN
  have : c.toNat = 32 := by omega
  simp [this]
theorem blank_yes9 {c : UInt8} (h : (c.toNat : Int) = 9) : blankB c = true := by
  unfold blankB blankN
  have : c.toNat = 9 := by omega
  simp [this]
theorem blank_rest {c : UInt8} (h : ¬ (c.toNat : Int) = 32) : blankB c = ((c.toNat : Int) == 9) := by
  unfold blankB blankN
  have h1 : ¬ c.toNat = 32 := by omega
  rw [decide_eq_false h1, Bool.false_or]
  by_cases h9 : c.toNat = 9
  · have : ((c.toNat : Int) == 9) = true := by rw [beq_iff_eq]; omega
    rw [this, decide_eq_true h9]
  · have : ((c.toNat : Int) == 9) = false := by rw [beq_eq_false_iff_ne]; omega
    rw [this, decide_eq_false h9]

theorem dark_take : ∀ (l : List UInt8) (k : Nat) (x : UInt8), l[k]? = some x → blankB x = true → (∀ (j : Nat) (y : UInt8), j < k → l[j]? = some y → blankB y = false) → l.takeWhile darkB = l.take k ∧ l.dropWhile darkB = l.drop k
  | [], k, x, h, _, _ => by simp at h
  | c :: t, 0, x, h, hx, _ => by
    simp at h
    subst h
    have : darkB c = false := by unfold darkB; rw [hx]; rfl
    simp [this]
  | c :: t, k + 1, x, h, hx, ha => by
    have hc : darkB c = true := by unfold darkB; rw [ha 0 c (by omega) rfl]; rfl
    obtain ⟨h1, h2⟩ := dark_take t k x (by simpa using h) hx fun j y hj hy => ha (j + 1) y (by omega) (by simpa using hy)
    rw [List.takeWhile_cons_of_pos hc, List.dropWhile_cons_of_pos hc, h1, h2]
    exact ⟨rfl, rfl⟩

theorem split_at (l : List UInt8) (k : Nat) (x : UInt8) (h : l[k]? = some x) (hx : blankB x = true) (ha : ∀ (j : Nat) (y : UInt8), j < k → l[j]? = some y → blankB y = false) : methodOf l = l.take k ∧ restOf l = (l.drop k).dropWhile blankB := by
  obtain ⟨h1, h2⟩ := dark_take l k x h hx ha
  have hi := blankIdx_at l k x h hx ha
  unfold methodOf restOf
  rw [hi, if_neg (by omega), if_neg (by omega), h1, h2]
  refine ⟨rfl, ?_⟩
  obtain ⟨hl, rfl⟩ := List.getElem?_eq_some_iff.1 h
  rw [List.drop_eq_getElem_cons hl, List.dropWhile_cons_of_pos hx]
  rfl

theorem split_none (l : List UInt8) (ha : ∀ (j : Nat) (y : UInt8), l[j]? = some y → blankB y = false) : methodOf l = [] ∧ restOf l = l := by
  have hi := blankIdx_none l ha
  unfold methodOf restOf
  rw [hi]
  exact ⟨rfl, rfl⟩

theorem skip_step (l : List UInt8) (j : Nat) (x : UInt8) (h : l[j]? = some x) : (blankB x = true → (l.drop j).dropWhile blankB = (l.drop (j + 1)).dropWhile blankB) ∧ (blankB x = false → (l.drop j).dropWhile blankB = l.drop j) := by
  obtain ⟨hl, rfl⟩ := List.getElem?_eq_some_iff.1 h
  rw [List.drop_eq_getElem_cons hl]
  exact ⟨fun hx => by rw [List.dropWhile_cons_of_pos hx], fun hx => by rw [List.dropWhile_cons_of_neg (by rw [hx]; simp)]⟩

set_option maxRecDepth 100000 in
set_option maxHeartbeats 6400000 in
theorem read_any (s : ByteArray) (w : World) (hs : s.size ≤ 2147483647) :
    Calls Tryd.prog 12 #[.string s] w (ReadEnd (bs s) w) := by
  have HB1 : Hid (Below w.heap.size w (w.alloc (.cells #[.string ⟨#[]⟩, .string ⟨#[]⟩, .slice none 0 0] 30))) := (Below.refl _ _).alloc (Nat.le_refl _) _
  have hR := new0 w (.cells #[.string ⟨#[]⟩, .string ⟨#[]⟩, .slice none 0 0] 30)
  by_cases he : bs s = []
  · have e0 : s.toList.isEmpty = true := by rw [bs_toList]; simpa using he
    have HW : Hid (bs s = []) := he
    clear he
    go_enter Tryd.func12, Tryd.ntmps12
    go_wp2_with fail
    refine bodyPost_ret (v := .tuple #[.agg #[.string ⟨#[]⟩, .string ⟨#[]⟩, .slice none 0 0], .int .i64 2]) (by simp [results, Tryd.results12, go_sem]) rfl ?_
    exact readEnd_wrong HB1.out (.inl HW.out)
  have e0 : s.toList.isEmpty = false := by rw [bs_toList]; simpa using he
  have HNE := Lib.hid he
  clear he
  go_enter Tryd.func12, Tryd.ntmps12
  go_wp2_with fail
  go_loop [21] (fun kv => ∃ k : Nat, k ≤ s.size ∧ kv = .int .i64 k ∧ Hid (∀ j x, j < k → (bs s)[j]? = some x → ByteOk x)) (fun kv => s.size - (intOf kv).toNat)
  case atStart => exact ⟨0, Nat.zero_le _, rfl, fun j x hj => by omega⟩
  case round =>
    obtain ⟨k, hk, rfl, HK⟩ := hrel
    by_cases hlt : k < s.size
    · have HAT := Lib.hid (bs_at s k hlt)
      go_upto_region 6 with fail
      go_cut [45] (fun c wx => w.alloc (.cells #[.string ⟨#[]⟩, .string ⟨#[]⟩, .slice none 0 0] 30) = wx ∧ ∃ q : Bool, c = .bool q ∧ Hid (q = false → ByteOk s[k]))
      case first =>
        go_wp2_with fail
        all_goals
          go_meet
          refine ⟨rfl, _, rfl, fun h => ?_⟩
          first
            | (cases h; done)
            | exact byteOk_of _ (by omega) (by omega) (by omega)
            | (simp only [Bool.or_eq_false_iff, decide_eq_false_iff_not, beq_eq_false_iff_ne] at h; exact byteOk_of _ (by omega) (by omega) (by omega))
      case rest =>
        obtain ⟨rfl, q, rfl, HQ⟩ := hcut
        cases q
        · have hq := HQ.out rfl
          have HN : Hid (∀ j x, j < k + 1 → (bs s)[j]? = some x → ByteOk x) := by
            intro j x hj hx
            by_cases h : j = k
            · subst h
              rw [HAT.out] at hx
              exact Option.some.inj hx ▸ hq
            · exact HK.out j x (by omega) hx
          clear hq HQ HAT
          go_wp2_with fail
          go_round
          case rel => exact ⟨k + 1, by omega, by go_num, HN⟩
          case measure => simp [intOf]; omega
        · clear HQ HAT
          go_wp2_with fail
          refine bodyPost_ret (v := .tuple #[.agg #[.string ⟨#[]⟩, .string ⟨#[]⟩, .slice none 0 0], .int .i64 0]) (by simp [results, Tryd.results12, go_sem]) rfl ?_
          exact readEnd_open HB1.out
    · have HOK : Hid (∀ c ∈ bs s, ByteOk c) := by
        intro c hc
        obtain ⟨j, hj⟩ := List.mem_iff_getElem?.1 hc
        have hjl := (List.getElem?_eq_some_iff.1 hj).1
        rw [bs_size] at hjl
        exact HK.out j c (by omega) hj
      clear HK
      by_cases h120 : 120 < s.size
      · have j120 : (120 : Int) < (s.size : Int) := by omega
        go_wp2_with fail
        refine bodyPost_ret (v := .tuple #[.agg #[.string ⟨#[]⟩, .string ⟨#[]⟩, .slice none 0 0], .int .i64 0]) (by simp [results, Tryd.results12, go_sem]) rfl ?_
        exact readEnd_open HB1.out
      have j120 : ¬ ((120 : Int) < (s.size : Int)) := by omega
      have hRP := blk_alloc hR (.cells #[.string ⟨#[]⟩, .string ⟨#[]⟩, .slice none 0 0] 30)
      have HP := Lib.hid (new1 w (.cells #[.string ⟨#[]⟩, .string ⟨#[]⟩, .slice none 0 0] 30) (.cells #[.string ⟨#[]⟩, .string ⟨#[]⟩, .slice none 0 0] 30))
      have HB2 : Hid (Below w.heap.size w ((w.alloc (.cells #[.string ⟨#[]⟩, .string ⟨#[]⟩, .slice none 0 0] 30)).alloc (.cells #[.string ⟨#[]⟩, .string ⟨#[]⟩, .slice none 0 0] 30))) := HB1.out.alloc (by simp) _
      go_upto_block 2 with fail
      go_cut [0] from 55 to 111 (fun s' wx => ∃ m r : ByteArray, s' = .string r ∧ Hid (bs m = methodOf (bs s)) ∧ Hid (bs r = restOf (bs s)) ∧ Hid (methodB (bs m) = true) ∧ r.size ≤ 120 ∧
        wx.heap[w.heap.size]? = some (.cells #[.string ⟨#[]⟩, .string ⟨#[]⟩, .slice none 0 0] 30 (0, 0)) ∧ wx.heap[w.heap.size + 1]? = some (.cells #[.string m, .string ⟨#[]⟩, .slice none 0 0] 30 (0, 0)) ∧ Below w.heap.size w wx)
      case first =>
        go_wp2_with fail
        go_loop [0, 55] (fun v0 kv => ∃ k : Nat, v0 = .string s ∧ k ≤ s.size ∧ kv = .int .i64 k ∧ Hid (∀ (j : Nat) (y : UInt8), j < k → (bs s)[j]? = some y → blankB y = false)) (fun _ kv => s.size - (intOf kv).toNat)
        case atStart => exact ⟨0, rfl, Nat.zero_le _, rfl, fun j x hj => by omega⟩
        case round =>
          obtain ⟨k, rfl, hk, rfl, HK⟩ := hrel
          by_cases hlt : k < s.size
          · have HAT := Lib.hid (bs_at s k hlt)
            go_upto_region 15 with fail
            go_cut [67] (fun c wx => (w.alloc (.cells #[.string ⟨#[]⟩, .string ⟨#[]⟩, .slice none 0 0] 30)).alloc (.cells #[.string ⟨#[]⟩, .string ⟨#[]⟩, .slice none 0 0] 30) = wx ∧ ∃ q : Bool, c = .bool q ∧ Hid (q = !blankB s[k]))
            case first =>
              go_wp2_with fail
              all_goals
                go_meet
                refine ⟨rfl, _, rfl, ?_⟩
                show _ = _
                first
                  | (rename_i h _; rw [blank_yes h]; rfl)
                  | (rename_i h _; have h' := h; rw [blank_rest h']; have h2 : ((s[k].toNat : Int) != 32) = true := by rw [bne_iff_ne]; exact h'
                     rw [h2, Bool.true_and]; rfl)
            case rest =>
              obtain ⟨rfl, q, rfl, HQ⟩ := hcut
              cases q
              case true =>
                have HN : Hid (∀ (j : Nat) (y : UInt8), j < k + 1 → (bs s)[j]? = some y → blankB y = false) := by
                  intro j y hj hy
                  by_cases h : j = k
                  · subst h
                    rw [HAT.out] at hy
                    have := HQ.out
                    rw [← Option.some.inj hy]
                    simpa using this.symm
                  · exact HK.out j y (by omega) hy
                clear HQ HAT
                go_wp2_with fail
                go_round
                case rel => exact ⟨k + 1, rfl, by omega, by go_num, HN⟩
                case measure => simp [intOf]; omega
              case false =>
                have hbl : blankB s[k] = true := by simpa using HQ.out.symm
                obtain ⟨hsp1, hsp2⟩ := split_at (bs s) k _ HAT.out hbl HK.out
                have HS1 : Hid (bs (s.extract 0 k) = methodOf (bs s)) := by show _ = _; rw [hsp1, bs_extract]; simp
                have HS2 : Hid (restOf (bs s) = ((bs s).drop k).dropWhile blankB) := hsp2
                clear hbl hsp1 hsp2 HQ HAT HK
                go_upto_block 4 with fail
                go_cut [6] from 72 to 89 (fun v6 wx => (w.alloc (.cells #[.string ⟨#[]⟩, .string ⟨#[]⟩, .slice none 0 0] 30)).alloc (.cells #[.string (s.extract 0 k), .string ⟨#[]⟩, .slice none 0 0] 30) = wx ∧ ∃ j : Nat, v6 = .int .i64 j ∧ j ≤ s.size ∧ Hid (restOf (bs s) = (bs s).drop j))
                case first =>
                  go_wp2_with fail
                  go_loop [6] (fun v6 => ∃ j : Nat, j ≤ s.size ∧ v6 = .int .i64 j ∧ Hid (restOf (bs s) = ((bs s).drop j).dropWhile blankB)) (fun v6 => s.size - (intOf v6).toNat)
                  case atStart => exact ⟨k, by omega, rfl, HS2⟩
                  case round =>
                    obtain ⟨j, hj, rfl, HJ⟩ := hrel
                    by_cases hjl : j < s.size
                    · have HSK := Lib.hid (skip_step (bs s) j _ (bs_at s j hjl))
                      go_upto_region 17 with fail
                      go_cut [87] (fun c wx => (w.alloc (.cells #[.string ⟨#[]⟩, .string ⟨#[]⟩, .slice none 0 0] 30)).alloc (.cells #[.string (s.extract 0 k), .string ⟨#[]⟩, .slice none 0 0] 30) = wx ∧ ∃ q : Bool, c = .bool q ∧ Hid (q = blankB s[j]))
                      case first =>
                        go_wp2_with fail
                        all_goals
                          go_meet
                          refine ⟨rfl, _, rfl, ?_⟩
                          show _ = _
                          first
                            | (rename_i h _; rw [blank_yes h]; done)
                            | (rename_i h _; have h' := h; have h2 : ((s[j].toNat : Int) == 32) = false := by rw [beq_eq_false_iff_ne]; exact h'
                               rw [blank_rest h', h2, Bool.false_or])
                            | trace_state
                      case rest =>
                        obtain ⟨rfl, q, rfl, HQ⟩ := hcut
                        cases q
                        case true =>
                          have HN : Hid (restOf (bs s) = ((bs s).drop (j + 1)).dropWhile blankB) := HJ.out.trans (HSK.out.1 HQ.out.symm)
                          clear HQ HSK HJ
                          go_wp2_with fail
                          go_round
                          case rel => exact ⟨j + 1, by omega, by go_num, HN⟩
                          case measure => simp [intOf]; omega
                        case false =>
                          have HN : Hid (restOf (bs s) = (bs s).drop j) := HJ.out.trans (HSK.out.2 HQ.out.symm)
                          clear HQ HSK HJ
                          go_wp2_with fail
                          go_meet
                          exact ⟨rfl, j, rfl, hj, HN⟩
                    · have HN : Hid (restOf (bs s) = (bs s).drop j) := HJ.out.trans (by rw [List.drop_of_length_le (by rw [bs_size]; omega)]; rfl)
                      go_wp2_with fail
                      go_meet
                      exact ⟨rfl, j, rfl, hj, HN⟩
                case rest =>
                  obtain ⟨rfl, j, rfl, hj, HJ⟩ := hcut
                  have HS3 : Hid (bs (s.extract j s.size) = restOf (bs s)) := by show _ = _; rw [HJ.out, bs_extract, List.take_of_length_le (by rw [List.length_drop, bs_size]; omega)]
                  have hrs : (s.extract j s.size).size ≤ 120 := by rw [ByteArray.size_extract]; omega
                  have hms : (s.extract 0 k).size ≤ 120 := by rw [ByteArray.size_extract]; omega
                  clear HJ HS2
                  have jj : (j : Int) ≤ (s.size : Int) := by omega
                  go_upto_region 20 with fail
                  obtain ⟨m, hm⟩ : ∃ m, m = s.extract 0 k := ⟨_, rfl⟩
                  obtain ⟨r, hr⟩ : ∃ r, r = s.extract j s.size := ⟨_, rfl⟩
                  rw [← hm] at HS1 hms ⊢
                  rw [← hr] at HS3 hrs ⊢
                  clear hm hr jj
                  have hcell : ((w.alloc (.cells #[.string ⟨#[]⟩, .string ⟨#[]⟩, .slice none 0 0] 30)).alloc (.cells #[.string m, .string ⟨#[]⟩, .slice none 0 0] 30)).cell? ⟨w.heap.size + 1, 0, none⟩ = some (.string m) := blk_cell (new1 w _ _) 0
                  have HMT : Hid (∀ W, Calls Tryd.prog 22 #[.string m] W fun e w' => e = .returned (.bool (methodB (bs m))) ∧ W = w') := fun W => method_loop m W (by omega)
                  have HH1 : Hid (∀ (c : Int) W, Calls Tryd.prog 20 #[.string r, .int .u8 c] W fun e w' => e = .returned (.bool (hasB (bs r) c)) ∧ W = w') := fun c W => has_any r c W (by omega)
                  obtain ⟨mb, hmb⟩ : ∃ mb, mb = methodB (bs m) := ⟨_, rfl⟩
                  have HMB : Hid (mb = methodB (bs m)) := hmb
                  rw [← hmb] at HMT
                  clear hmb
                  go_cut [109] (fun c wx => (w.alloc (.cells #[.string ⟨#[]⟩, .string ⟨#[]⟩, .slice none 0 0] 30)).alloc (.cells #[.string m, .string ⟨#[]⟩, .slice none 0 0] 30) = wx ∧ ∃ q : Bool, c = .bool q ∧ Hid (q = false → mb = true))
                  case first =>
                    by_cases hm0 : bs m = []
                    · have e1 : m.toList.isEmpty = true := by rw [bs_toList]; simpa using hm0
                      clear hm0
                      go_wp2_with fail
                      go_meet
                      exact ⟨rfl, true, rfl, (fun h => by cases h)⟩
                    · have e1 : m.toList.isEmpty = false := by rw [bs_toList]; simpa using hm0
                      clear hm0
                      cases mb
                      · go_wp2_with (go_at_call 22; (with_reducible refine (HMT.out _).mono ?_); rintro e wm ⟨rfl, rfl⟩)
                        go_meet
                        exact ⟨rfl, true, rfl, (fun h => by cases h)⟩
                      · go_wp2_with (first
                          | (go_at_call 22; (with_reducible refine (HMT.out _).mono ?_); rintro e wm ⟨rfl, rfl⟩)
                          | (go_at_call 20; (with_reducible refine (HH1.out _ _).mono ?_); rintro e wm ⟨rfl, rfl⟩))
                        all_goals
                          go_meet
                          exact ⟨rfl, _, rfl, fun _ => trivial⟩
                  case rest =>
                    obtain ⟨rfl, q, rfl, HQ⟩ := hcut
                    clear hcell HMT HH1
                    cases q
                    case true =>
                      clear HQ HMB
                      go_wp2_with fail
                      refine bodyPost_ret (v := .tuple #[.agg #[.string ⟨#[]⟩, .string ⟨#[]⟩, .slice none 0 0], .int .i64 0]) (by simp [results, Tryd.results12, go_sem]) rfl ?_
                      exact readEnd_open (HB1.out.alloc (by simp) _)
                    case false =>
                      have HM2 : Hid (methodB (bs m) = true) := HMB.out.symm.trans (HQ.out rfl)
                      clear HQ HMB
                      go_wp2_with fail
                      go_meet
                      exact ⟨m, r, rfl, HS1, HS3, HM2, hrs, blk_alloc hR _, new1 w _ _, HB1.out.alloc (by simp) _⟩
          · have hsp := split_none (bs s) fun j y hy => HK.out j y (by have := (List.getElem?_eq_some_iff.1 hy).1; rw [bs_size] at this; omega) hy
            have HS1 : Hid (bs (⟨#[]⟩ : ByteArray) = methodOf (bs s)) := by show _ = _; rw [hsp.1]; rfl
            have HS2 : Hid (bs s = restOf (bs s)) := hsp.2.symm
            clear hsp
            go_wp2_with fail
            go_meet
            exact ⟨⟨#[]⟩, s, rfl, HS1, HS2, by show methodB _ = true; rfl, by omega, hRP, HP.out, HB2.out⟩
      case rest =>
        obtain ⟨m, r, rfl, HM, HR, HMB, hrs, hRz, hPz, hbz⟩ := hcut
        obtain ⟨wz, rfl⟩ : ∃ wz : World, wz = wc := ⟨_, rfl⟩
        have HRZ := Lib.hid hRz
        have HPZ := Lib.hid hPz
        have HBZ := Lib.hid hbz
        clear hR hRP HP HB2 HB1 hRz hPz hbz e0 j120 h120
        have HCT : Hid (∀ W, Calls Tryd.prog 23 #[.string r, .int .u8 47] W fun e w' => ∃ v, e = .returned v ∧ w'.ownsRow W.heap.size 9 1 v (els (bs r)).length ((els (bs r)).map strV) ∧ Below W.heap.size W w') := fun W => cut_any r W (by omega)
        have hsp : ∃ h0 ks, els (bs r) = h0 :: ks ∧ (((bs r).contains 47 = false ∧ ks = []) ∨ ((bs r).contains 47 = true ∧ h0 = hostOf (bs r) ∧ ks = els (pathOf (bs r)).tail ∧ ks ≠ [])) := by
          cases hc : (bs r).contains 47
          · exact ⟨bs r, [], els_none _ hc, .inl ⟨rfl, rfl⟩⟩
          · exact ⟨_, _, els_host _ hc, .inr ⟨rfl, rfl, rfl, els_ne _⟩⟩
        obtain ⟨h0, ks, hels, hks⟩ := hsp
        have HKS := Lib.hid hks
        have HNS : Hid (∀ x ∈ ks, ∀ c ∈ x, c ≠ 47) := fun x hx => els_noSlash (bs r) x (by rw [hels]; exact List.mem_cons_of_mem _ hx)
        have hlen : ks.length ≤ 120 ∧ h0.length ≤ 120 ∧ ∀ x ∈ ks, x.length ≤ 120 := by
          have hh := rlen (bs r) 
          rw [hels] at hh
          rw [bs_size] at hh
          refine ⟨by have := hh.1; simp at this; omega, by have := hh.2 h0 (by simp); omega, fun x hx => by have := hh.2 x (by simp [hx]); omega⟩
        obtain ⟨hkl, hhl, hxl⟩ := hlen
        have HXL := Lib.hid hxl
        rw [hels] at HCT
        clear hels hks hxl
        go_upto_region 24 with (go_at_call 23; (with_reducible refine (HCT.out _).mono ?_); rintro e wl ⟨v, rfl, hown, hb⟩; obtain ⟨g, cap, rfl, hg1, hg2, hnc, hcm, hcells⟩ := own_pos hown (by simp); have HLC := Lib.hid hcells; have HBL := Lib.hid hb; clear hown hcells hb)
        have hpl := blk_below HPZ.out HBL.out
        have hrl := blk_below HRZ.out HBL.out
        have hPlt := blk_lt HPZ.out
        have hRlt := blk_lt HRZ.out
        have l0c : wl.cell? ⟨g, 0, none⟩ = some (.string ⟨h0.toArray⟩) := HLC.out 0 _ rfl
        have q1 : wl.cell? ⟨w.heap.size + 1, 1, none⟩ = some (.string ⟨#[]⟩) := blk_cell hpl 1
        have f1 : wl.frozen? ⟨w.heap.size + 1, 1, none⟩ = false := blk_free hpl 1
        have hgP : g ≠ w.heap.size + 1 := by omega
        have HBLZ : Hid (Below w.heap.size w wl) := HBZ.out.trans (HBL.out.mono (by omega))
        have hph : (wl.setCell ⟨w.heap.size + 1, 1, none⟩ (.string ⟨h0.toArray⟩)).heap[w.heap.size + 1]? = some (.cells #[.string m, .string ⟨h0.toArray⟩, .slice none 0 0] 30 (0, 0)) := blk_set hpl 1 _
        have hrh := blk_far hrl (p := ⟨w.heap.size + 1, 1, none⟩) (by simp) (.string ⟨h0.toArray⟩)
        have HLH : Hid (∀ (j : Nat) (x : List UInt8), (h0 :: ks)[j]? = some x → (wl.setCell ⟨w.heap.size + 1, 1, none⟩ (.string ⟨h0.toArray⟩)).cell? ⟨g, j, none⟩ = some (.string ⟨x.toArray⟩)) := by
          intro j x hx
          refine (World.cell?_of_block (a := ⟨g, j, none⟩) (Below.heap_setCell _ _ _ _ hgP)).trans (HLC.out j _ ?_)
          rw [List.getElem?_map, hx]; rfl
        have HBH : Hid (Below w.heap.size w (wl.setCell ⟨w.heap.size + 1, 1, none⟩ (.string ⟨h0.toArray⟩))) := HBLZ.out.setCell (by simp) _
        have hgs : g < (wl.setCell ⟨w.heap.size + 1, 1, none⟩ (.string ⟨h0.toArray⟩)).heap.size := by simp; exact hg2
        have hwl : w.heap.size + 1 < (wl.setCell ⟨w.heap.size + 1, 1, none⟩ (.string ⟨h0.toArray⟩)).heap.size := by have := HBL.out.size; simp; omega
        obtain ⟨hst, hhst⟩ : ∃ hst : ByteArray, hst = ⟨h0.toArray⟩ := ⟨_, rfl⟩
        have hbh : bs hst = h0 := by rw [hhst]; simp [bs]
        have hhs : hst.size ≤ 120 := by rw [← bs_size, hbh]; exact hhl
        go_upto_region 25 with fail
        rw [← hhst] at hph hrh HLH HBH hgs hwl ⊢
        obtain ⟨wh, hwh⟩ : ∃ wh, wh = wl.setCell ⟨w.heap.size + 1, 1, none⟩ (.string hst) := ⟨_, rfl⟩
        rw [← hwh] at hph hrh HLH HBH hgs hwl ⊢
        clear hwh hhst l0c q1 f1 hpl hrl HBL HLC HPZ HRZ HBZ HCT HBLZ hg2 hPlt hRlt hhl
        have p1 : wh.cell? ⟨w.heap.size + 1, 1, none⟩ = some (.string hst) := blk_cell hph 1
        have HPH := Lib.hid hph
        have HRH := Lib.hid hrh
        -- an answer given early
        have a0 : wh.cell? ⟨w.heap.size, 0, none⟩ = some (.string ⟨#[]⟩) := blk_cell hrh 0
        have a1 : wh.cell? ⟨w.heap.size, 1, none⟩ = some (.string ⟨#[]⟩) := blk_cell hrh 1
        have a2 : wh.cell? ⟨w.heap.size, 2, none⟩ = some (.slice none 0 0) := blk_cell hrh 2
        have b0 : wh.frozen? ⟨w.heap.size, 0, none⟩ = false := blk_free hrh 0
        have b1 : wh.frozen? ⟨w.heap.size, 1, none⟩ = false := blk_free hrh 1
        have b2 : wh.frozen? ⟨w.heap.size, 2, none⟩ = false := blk_free hrh 2
        have hag := zpat_again hrh
        have r0 := blk_cell hag 0
        have r1 := blk_cell hag 1
        have r2 := blk_cell hag 2
        simp only [zPat] at r0 r1 r2
        have HBE : Hid (Below w.heap.size w (((wh.setCell ⟨w.heap.size, 0, none⟩ (.string ⟨#[]⟩)).setCell ⟨w.heap.size, 1, none⟩ (.string ⟨#[]⟩)).setCell ⟨w.heap.size, 2, none⟩ (.slice none 0 0))) := ((HBH.out.setCell (p := ⟨w.heap.size, 0, none⟩) (Nat.le_refl _) _).setCell (p := ⟨w.heap.size, 1, none⟩) (Nat.le_refl _) _).setCell (p := ⟨w.heap.size, 2, none⟩) (Nat.le_refl _) _
        have HMM : Hid (methodB (methodOf (bs s)) = true) := by show _ = _; rw [← HM.out]; exact HMB.out
        clear hag hph hrh
        have HHS : Hid (∀ W, Calls Tryd.prog 20 #[.string hst, .int .u8 123] W fun e w' => e = .returned (.bool (hasB (bs hst) 123)) ∧ W = w') := fun W => has_any hst 123 W (by omega)
        have hhas : hasB (bs hst) 123 = h0.contains 123 := by
          rw [hbh]
          cases hc : h0.contains 123
          · cases hh : hasB h0 123
            · rfl
            · have := (hasB_iff h0 123).1 hh
              simp at hc
              exact absurd this hc
          · exact (hasB_iff h0 123).2 (by simpa using hc)
        rw [hhas] at HHS
        cases hbr : h0.contains 123
        case true =>
          have HWR : Hid (PPText (bs s) ∧ parseL (bs s) = none) := by
            rcases HKS.out with ⟨h1, h2⟩ | ⟨h1, h2, h3, h4⟩
            · rw [HR.out] at h1
              exact ⟨ppText_of _ HNE.out HOK.out HMM.out (fun h => by rw [h1] at h; cases h), parseL_noSlash _ h1⟩
            · rw [HR.out] at h2
              rw [h2] at hbr
              exact ⟨ppText_of _ HNE.out HOK.out HMM.out (fun _ h => by rw [hbr] at h; cases h), parseL_host _ hbr⟩
          rw [hbr] at HHS
          clear hbr hhas
          go_wp2_with (go_at_call 20; (with_reducible refine (HHS.out _).mono ?_); rintro e wm ⟨rfl, rfl⟩)
          refine bodyPost_ret (v := .tuple #[.agg #[.string ⟨#[]⟩, .string ⟨#[]⟩, .slice none 0 0], .int .i64 2]) (by simp [results, Tryd.results12, go_sem, r0, r1, r2]) rfl ?_
          exact readEnd_wrong HBE.out (.inr HWR.out)
        case false =>
        rw [hbr] at HHS
        cases ks with
        | nil =>
          have HWR : Hid (PPText (bs s) ∧ parseL (bs s) = none) := by
            rcases HKS.out with ⟨h1, h2⟩ | ⟨h1, h2, h3, h4⟩
            · rw [HR.out] at h1
              exact ⟨ppText_of _ HNE.out HOK.out HMM.out (fun h => by rw [h1] at h; cases h), parseL_noSlash _ h1⟩
            · exact absurd rfl h4
          clear hbr hhas
          go_wp2_with (go_at_call 20; (with_reducible refine (HHS.out _).mono ?_); rintro e wm ⟨rfl, rfl⟩)
          refine bodyPost_ret (v := .tuple #[.agg #[.string ⟨#[]⟩, .string ⟨#[]⟩, .slice none 0 0], .int .i64 2]) (by simp [results, Tryd.results12, go_sem, r0, r1, r2]) rfl ?_
          exact readEnd_wrong HBE.out (.inr HWR.out)
        | cons k0 kr =>
          have hKL : (k0 :: kr).length = kr.length + 1 := rfl
          have hcap : ¬ cap = 1 := by simp at hnc; omega
          obtain ⟨hc47, hh0, hkk⟩ : (restOf (bs s)).contains 47 = true ∧ h0 = hostOf (restOf (bs s)) ∧ (k0 :: kr) = els (pathOf (restOf (bs s))).tail := by
            rcases HKS.out with ⟨h1, h2⟩ | ⟨h1, h2, h3, h4⟩
            · cases h2
            · rw [HR.out] at h1 h2 h3
              exact ⟨h1, h2, h3⟩
          have HPL : Hid (parseL (bs s) = (piecesL (k0 :: kr) []).map fun g => (bs m, bs hst, g)) := by
            show _ = _
            rw [parseL_path _ hc47 (by rw [← hh0]; exact hbr), HM.out, hbh, hh0, hkk]
          have HPT : Hid ((∀ (i : Nat) (x : List UInt8), i < (k0 :: kr).length → (k0 :: kr)[i]? = some x → Kept x ∨ (x = [] ∧ i + 1 = (k0 :: kr).length)) → PPText (bs s)) := by
            intro h
            refine ppText_of _ HNE.out HOK.out HMM.out fun _ _ i x hx => ?_
            rw [← hkk] at hx ⊢
            exact h i x (List.getElem?_eq_some_iff.1 hx).1 hx
          clear hhas hbr hc47 hh0 hkk HKS hbh
          obtain ⟨ks, hks⟩ : ∃ ks, ks = k0 :: kr := ⟨_, rfl⟩
          have hkn : ks.length = kr.length + 1 := by rw [hks]; rfl
          rw [← hks] at HPL HPT HNS HXL HLH hkl
          have HHO : Hid (∀ W, Calls Tryd.prog 24 #[.string hst] W fun e w' => e = .returned (.bool (hostB (bs hst))) ∧ W = w') := fun W => host_loop hst W (by omega)
          obtain ⟨hb, hhb⟩ : ∃ hb, hb = hostB (bs hst) := ⟨_, rfl⟩
          rw [← hhb] at HHO
          clear hhb
          have i2 : ¬ ((kr.length : Int) + 1 + 1 < 2) := by omega
          cases hb
          case false =>
            go_wp2_with (first
              | (go_at_call 20; (with_reducible refine (HHS.out _).mono ?_); rintro e wm ⟨rfl, rfl⟩)
              | (go_at_call 24; (with_reducible refine (HHO.out _).mono ?_); rintro e wm ⟨rfl, rfl⟩))
            refine bodyPost_ret (v := .tuple #[.agg #[.string ⟨#[]⟩, .string ⟨#[]⟩, .slice none 0 0], .int .i64 0]) (by simp [results, Tryd.results12, go_sem, r0, r1, r2]) rfl ?_
            exact readEnd_open HBE.out
          case true =>
            clear HBE
            go_upto_region 31 with (first
              | (go_at_call 20; (with_reducible refine (HHS.out _).mono ?_); rintro e wm ⟨rfl, rfl⟩)
              | (go_at_call 24; (with_reducible refine (HHO.out _).mono ?_); rintro e wm ⟨rfl, rfl⟩))
            clear r0 r1 r2 a0 a1 a2 b0 b1 b2 p1 HHS HHO
            have HOWN0 := World.ownsRow_nil wh wh.heap.size 46 3
            go_wp2_with fail
            go_loopw [8, 135] (fun v8 kv wr => ReadR w wh m hst ks v8 kv wr) (fun _ kv _ => ks.length - (intOf kv).toNat)
            case atStart => exact ⟨0, 1, [], .slice none 0 0, Nat.zero_le _, rfl, rfl, rfl, HPH.out, HOWN0, .inl ⟨rfl, readSo_zero ks⟩, (fun i x hi => by omega), Stood.refl _ _, HBH.out⟩
            case round =>
              obtain ⟨k, st, l0, sv, hk, rfl, rfl, hl0, hP, hown, HST, HKP, hSt, hbw⟩ := hrel
              obtain ⟨wo, rfl⟩ : ∃ wo : World, wo = wr := ⟨_, rfl⟩
              have HL0 := Lib.hid hl0
              clear hl0
              have HSt := Lib.hid hSt
              have HPR := Lib.hid hP
              have HOW := Lib.hid hown
              have HBW := Lib.hid hbw
              have hszw := hSt.1
              clear hown hbw HOWN0
              by_cases hlt : k < ks.length
              · obtain ⟨x, hx⟩ : ∃ x, ks[k]? = some x := ⟨_, List.getElem?_eq_getElem hlt⟩
                have HX := Lib.hid hx
                have hxz : x.length ≤ 120 := HXL.out x (List.mem_of_getElem? hx)
                obtain ⟨xb, hxb⟩ : ∃ xb : ByteArray, xb = ⟨x.toArray⟩ := ⟨_, rfl⟩
                have hbx : bs xb = x := by rw [hxb]; simp [bs]
                have hxs : xb.size ≤ 120 := by rw [← bs_size, hbx]; exact hxz
                have xc : wo.cell? ⟨g, 1 + k, none⟩ = some (.string xb) := by
                  rw [hxb, Nat.add_comm]
                  exact (World.cell?_of_block (a := ⟨g, k + 1, none⟩) (hSt.2 g hgs hgP)).trans (HLH.out (k + 1) x (by simpa using hx))
                clear hx hxb hP hSt
                go_upto_block 8 with fail
                obtain ⟨lastb, hlb⟩ : ∃ b : Bool, b = ((k : Int) == (kr.length : Int) + 1 + 1 - 2) := ⟨_, rfl⟩
                rw [← hlb]
                have hlast : lastb = decide (k + 1 = ks.length) := by
                  rw [hlb]
                  by_cases h : k + 1 = ks.length
                  · rw [decide_eq_true h, beq_iff_eq]; omega
                  · rw [decide_eq_false h, beq_eq_false_iff_ne]; omega
                have HLAST := Lib.hid hlast
                clear hlb hlast
                have HNX := Lib.hid (HNS.out x (List.mem_of_getElem? HX.out))
                have HBP : Hid (Below wo.heap.size wo (wo.alloc (.cells #[.string xb, .bool false, .bool false] 46))) := (Below.refl _ _).alloc (Nat.le_refl _) _
                have hpb := new0 wo (.cells #[.string xb, .bool false, .bool false] 46)
                have HHX : Hid (∀ W, Calls Tryd.prog 20 #[.string xb, .int .u8 123] W fun e w' => e = .returned (.bool (hasB (bs xb) 123)) ∧ W = w') := fun W => has_any xb 123 W (by omega)
                have HLX : Hid (∀ W, Calls Tryd.prog 26 #[.string xb] W fun e w' => e = .returned (.bool (literalB (bs xb))) ∧ W = w') := fun W => literal_any xb W (by omega)
                rw [hbx] at HHX HLX
                have hRr : wo.heap[w.heap.size]? = some (.cells #[.string ⟨#[]⟩, .string ⟨#[]⟩, .slice none 0 0] 30 (0, 0)) := (HSt.out.2 _ (by omega) (by omega)).trans HRH.out
                have hRq := blk_alloc hRr (.cells #[.string xb, .bool false, .bool false] 46)
                obtain ⟨wq, hwq⟩ : ∃ wq, wq = wo.alloc (.cells #[.string xb, .bool false, .bool false] 46) := ⟨_, rfl⟩
                rw [← hwq] at hpb HBP hRq ⊢
                have hszq : wo.heap.size < wq.heap.size := by rw [hwq]; simp
                have hszR : w.heap.size < wo.heap.size := by omega
                clear hwq hRr
                have d0 := blk_cell hpb 0
                have d1 := blk_cell hpb 1
                have d2 := blk_cell hpb 2
                have f0 := blk_free hpb 0
                have f1 := blk_free hpb 1
                have f2 := blk_free hpb 2
                have a0 := blk_cell hRq 0
                have a1 := blk_cell hRq 1
                have a2 := blk_cell hRq 2
                have b0 := blk_free hRq 0
                have b1 := blk_free hRq 1
                have b2 := blk_free hRq 2
                simp only [List.getElem?_toArray, List.getElem?_cons_zero, List.getElem?_cons_succ] at d0 d1 d2 a0 a1 a2
                have HPB := Lib.hid hpb
                have hag := zpat_again hRq
                have r0 := blk_cell hag 0
                have r1 := blk_cell hag 1
                have r2 := blk_cell hag 2
                simp only [zPat] at r0 r1 r2
                have HBQ : Hid (Below w.heap.size w wq) := HBW.out.trans (HBP.out.mono (by omega))
                have HBE : Hid (Below w.heap.size w (((wq.setCell ⟨w.heap.size, 0, none⟩ (.string ⟨#[]⟩)).setCell ⟨w.heap.size, 1, none⟩ (.string ⟨#[]⟩)).setCell ⟨w.heap.size, 2, none⟩ (.slice none 0 0))) := ((HBQ.out.setCell (p := ⟨w.heap.size, 0, none⟩) (Nat.le_refl _) _).setCell (p := ⟨w.heap.size, 1, none⟩) (Nat.le_refl _) _).setCell (p := ⟨w.heap.size, 2, none⟩) (Nat.le_refl _) _
                clear hag hRq hpb
                go_cut [13, 136] from 147 to 166 (fun v13 _ wx => ∃ (gs : Seg) (ok : Bool), v13 = .bool ok ∧ wx.heap[wo.heap.size]? = some (.cells #[.string ⟨gs.s.toArray⟩, .bool gs.wild, .bool gs.multi] 46 (0, 0)) ∧
                  Hid (ok = true → pieceL x lastb = some gs) ∧ Hid (ok = false → pieceL x lastb = none) ∧ Hid (Kept x ∨ (x = [] ∧ lastb = true)) ∧ Below wo.heap.size wo wx)
                case first =>
                  by_cases hxe : x = []
                  · have e1 : xb.toList.isEmpty = true := by rw [bs_toList, hbx]; simpa using hxe
                    have hh : hasB x 123 = false := by rw [hxe]; rfl
                    have hl : literalB x = false := by rw [hxe]; rfl
                    rw [hh] at HHX
                    rw [hl] at HLX
                    have HXE := Lib.hid hxe
                    clear hxe hh hl
                    cases lastb
                    case true =>
                      go_wp2_with fail
                      go_meet
                      refine ⟨⟨[], true, true⟩, true, rfl, seg3_again HPB.out, fun _ => ?_, (fun h => by cases h), .inr ⟨HXE.out, trivial⟩, ((HBP.out.setCell (p := ⟨wo.heap.size, 0, none⟩) (Nat.le_refl _) _).setCell (p := ⟨wo.heap.size, 1, none⟩) (Nat.le_refl _) _).setCell (p := ⟨wo.heap.size, 2, none⟩) (Nat.le_refl _) _⟩
                      show pieceL x true = _
                      rw [HXE.out]
                      exact pieceL_last
                    case false =>
                      go_wp2_with (first
                        | (go_at_call 20; (with_reducible refine (HHX.out _).mono ?_); rintro e wm ⟨rfl, rfl⟩)
                        | (go_at_call 26; (with_reducible refine (HLX.out _).mono ?_); rintro e wm ⟨rfl, rfl⟩))
                      refine bodyPost_ret (v := .tuple #[.agg #[.string ⟨#[]⟩, .string ⟨#[]⟩, .slice none 0 0], .int .i64 0]) (by simp [results, Tryd.results12, go_sem, r0, r1, r2]) rfl ?_
                      exact readEnd_open HBE.out
                  · have e1 : xb.toList.isEmpty = false := by rw [bs_toList, hbx]; simpa using hxe
                    have HXE := Lib.hid hxe
                    clear hxe
                    cases hcb : hasB x 123
                    case true =>
                      rw [hcb] at HHX
                      have hmem : (123 : UInt8) ∈ x := (hasB_iff x 123).1 (by simpa using hcb)
                      have HKX : Hid (Kept x) := kept_brace x hmem HNX.out
                      have HWI : Hid (∀ W, Calls Tryd.prog 25 #[.string xb, .bool lastb] W (WildEnd x lastb W)) := by
                        intro W
                        have := wildcard_any xb lastb W (by rw [hbx]; exact HXE.out) (by rw [hbx]; simpa using hmem) (by omega)
                        rwa [hbx] at this
                      unfold WildEnd at HWI
                      clear hcb hmem
                      go_wp2_with (first
                        | (go_at_call 20; (with_reducible refine (HHX.out _).mono ?_); rintro e wm ⟨rfl, rfl⟩)
                        | (go_at_call 25; (with_reducible refine (HWI.out _).mono ?_); rintro e wm ⟨gw, okw, rfl, hg1', hg2', hbw'⟩; have HG1 := Lib.hid hg1'; have HG2 := Lib.hid hg2'; have HBW2 := Lib.hid hbw'; have hpb2 := blk_below HPB.out hbw'; clear hg1' hg2' hbw' d0 d1 d2 f0 f1 f2; have d0 := blk_cell hpb2 0; have d1 := blk_cell hpb2 1; have d2 := blk_cell hpb2 2; have f0 := blk_free hpb2 0; have f1 := blk_free hpb2 1; have f2 := blk_free hpb2 2; simp only [List.getElem?_toArray, List.getElem?_cons_zero, List.getElem?_cons_succ] at d0 d1 d2; have HPB2 := Lib.hid hpb2; clear hpb2))
                      go_meet
                      exact ⟨gw, okw, rfl, seg3_again HPB2.out, HG1.out, HG2.out, .inl HKX.out, (((HBP.out.trans (HBW2.out.mono (by omega))).setCell (p := ⟨wo.heap.size, 0, none⟩) (Nat.le_refl _) _).setCell (p := ⟨wo.heap.size, 1, none⟩) (Nat.le_refl _) _).setCell (p := ⟨wo.heap.size, 2, none⟩) (Nat.le_refl _) _⟩
                    case false =>
                      rw [hcb] at HHX
                      cases hlit : literalB x
                      case false =>
                        rw [hlit] at HLX
                        clear hcb hlit
                        go_wp2_with (first
                          | (go_at_call 20; (with_reducible refine (HHX.out _).mono ?_); rintro e wm ⟨rfl, rfl⟩)
                          | (go_at_call 26; (with_reducible refine (HLX.out _).mono ?_); rintro e wm ⟨rfl, rfl⟩))
                        refine bodyPost_ret (v := .tuple #[.agg #[.string ⟨#[]⟩, .string ⟨#[]⟩, .slice none 0 0], .int .i64 0]) (by simp [results, Tryd.results12, go_sem, r0, r1, r2]) rfl ?_
                        exact readEnd_open HBE.out
                      case true =>
                        have HPL2 : Hid (pieceL x lastb = some ⟨x, false, false⟩) := pieceL_lit x lastb hlit
                        have HKX : Hid (Kept x) := kept_lit x hlit
                        rw [hlit] at HLX
                        clear hcb hlit
                        have hxx : (⟨x.toArray⟩ : ByteArray) = xb := by rw [← hbx]; exact (bs_inj (a := xb) rfl).symm
                        go_wp2_with (first
                          | (go_at_call 20; (with_reducible refine (HHX.out _).mono ?_); rintro e wm ⟨rfl, rfl⟩)
                          | (go_at_call 26; (with_reducible refine (HLX.out _).mono ?_); rintro e wm ⟨rfl, rfl⟩))
                        go_meet
                        exact ⟨⟨x, false, false⟩, true, rfl, by rw [hxx]; exact HPB.out, fun _ => HPL2.out, (fun h => by cases h), .inl HKX.out, HBP.out⟩
                case rest =>
                  obtain ⟨gs, ok, rfl, hpg, HG1, HG2, HKX, hbx2⟩ := hcut
                  obtain ⟨wy, rfl⟩ : ∃ wy : World, wy = wc := ⟨_, rfl⟩
                  have HPG := Lib.hid hpg
                  have HBY := Lib.hid hbx2
                  have hszy := hbx2.size
                  clear hbx2 d0 d1 d2 f0 f1 f2 a0 a1 a2 b0 b1 b2 r0 r1 r2 HBE HBQ HBP HPB HHX HLX
                  have hPy := blk_below HPR.out HBY.out
                  have HPY := Lib.hid hPy
                  have hOy := own_below HOW.out HBY.out
                  have HOY := Lib.hid hOy
                  have p2 : wy.cell? ⟨w.heap.size + 1, 2, none⟩ = some sv := blk_cell hPy 2
                  have HSY := Lib.hid (HSt.out.below HBY.out)
                  have HBWY : Hid (Below w.heap.size w wy) := HBW.out.trans (HBY.out.mono (by omega))
                  have HSG := Lib.hid (SegsAt.of_own hOy)
                  obtain ⟨A2, cap2, hsv, hlc2, hf2⟩ := HSG.out
                  have HF2 := Lib.hid hf2
                  have HSV := Lib.hid hsv
                  subst hsv
                  obtain ⟨gss, gsw, gsm⟩ := gs
                  simp only at hpg
                  have hpby := blk_lt hpg
                  clear hf2 hPy hOy hpg HBW HSt HPR HOW
                  have hlz : l0.length ≤ 120 := by have := HL0.out; omega
                  go_upto_block 9 with fail
                  go_cut [13] from 168 to 193 (fun v13 wx => v13 = .bool (ok && freeB l0 ⟨gss, gsw, gsm⟩) ∧ Below wy.heap.size wy wx)
                  case first =>
                    go_wp2_with fail
                    go_loopw [13, 171] (fun v13 jv wr => ∃ (j : Nat) (cur : Bool), j ≤ l0.length ∧ jv = .int .i64 (j : Int) ∧ v13 = .bool cur ∧ Hid (cur = (ok && (l0.take j).all (fun t => !t.wild || !gsw || !decide (t.s = gss)))) ∧ Below wy.heap.size wy wr) (fun _ jv _ => l0.length - (intOf jv).toNat)
                    case atStart => exact ⟨0, ok, Nat.zero_le _, rfl, rfl, by show _ = _; simp, Below.refl _ _⟩
                    case round =>
                      obtain ⟨j, cur, hj, rfl, rfl, HCU, hbi⟩ := hrel
                      have HBI := Lib.hid hbi
                      by_cases hjl : j < l0.length
                      · obtain ⟨t, ht⟩ : ∃ t, l0[j]? = some t := ⟨_, List.getElem?_eq_getElem hjl⟩
                        obtain ⟨b, o, hA, hbl, t0, t1, t2⟩ := HF2.out j t ht
                        have HFS : Hid ((cur && (!t.wild || !gsw || !decide (t.s = gss))) = (ok && (l0.take (j + 1)).all (fun t => !t.wild || !gsw || !decide (t.s = gss)))) := by
                          show _ = _
                          have := free_step l0 ⟨gss, gsw, gsm⟩ j t ht
                          simp only at this
                          rw [this, HCU.out, Bool.and_assoc]
                        obtain ⟨ts, tw, tm⟩ := t
                        have c0 : wr.cell? ⟨b, o + j * 3, none⟩ = some (.string ⟨ts.toArray⟩) := (hbi.cell (p := ⟨b, o + j * 3, none⟩) hbl).trans t0
                        have c1 : wr.cell? ⟨b, o + j * 3 + 1, none⟩ = some (.bool tw) := (hbi.cell (p := ⟨b, o + j * 3 + 1, none⟩) hbl).trans t1
                        have c2 : wr.cell? ⟨b, o + j * 3 + 2, none⟩ = some (.bool tm) := (hbi.cell (p := ⟨b, o + j * 3 + 2, none⟩) hbl).trans t2
                        have hpi := blk_alloc (blk_below HPG.out hbi) (.cells #[.string ⟨ts.toArray⟩, .bool tw, .bool tm] 46)
                        have e0' : (wr.alloc (.cells #[.string ⟨ts.toArray⟩, .bool tw, .bool tm] 46)).cell? ⟨wo.heap.size, 0, none⟩ = some (.string ⟨gss.toArray⟩) := blk_cell hpi 0
                        have e1' : (wr.alloc (.cells #[.string ⟨ts.toArray⟩, .bool tw, .bool tm] 46)).cell? ⟨wo.heap.size, 1, none⟩ = some (.bool gsw) := blk_cell hpi 1
                        have HBN : Hid (Below wy.heap.size wy (wr.alloc (.cells #[.string ⟨ts.toArray⟩, .bool tw, .bool tm] 46))) := hbi.alloc hbi.size _
                        simp only at HFS
                        subst hA
                        by_cases hse : ts = gss
                        · have es1 : (ts == gss) = true := by simpa using hse
                          have es2 : (ts != gss) = false := by simp [hse]
                          rw [decide_eq_true hse] at HFS
                          clear ht t0 t1 t2 hpi hbi HCU hse
                          cases cur <;> cases tw <;> cases gsw
                          all_goals
                            go_wp2_with fail
                          all_goals
                            go_roundw
                            case rel => exact ⟨j + 1, _, by omega, by go_num, rfl, HFS, HBN.out⟩
                            case measure => simp [intOf]; omega
                        · have es1 : (ts == gss) = false := by simpa using hse
                          have es2 : (ts != gss) = true := by simp [hse]
                          rw [decide_eq_false hse] at HFS
                          clear ht t0 t1 t2 hpi hbi HCU hse
                          cases cur <;> cases tw <;> cases gsw
                          all_goals
                            go_wp2_with fail
                          all_goals
                            go_roundw
                            case rel => exact ⟨j + 1, _, by omega, by go_num, rfl, HFS, HBN.out⟩
                            case measure => simp [intOf]; omega
                      · have HCE : Hid (cur = (ok && freeB l0 ⟨gss, gsw, gsm⟩)) := by
                          show _ = _
                          rw [HCU.out, List.take_of_length_le (by omega)]
                          rfl
                        go_wp2_with fail
                        go_meet
                        exact ⟨by rw [HCE.out], HBI.out⟩
                  case rest =>
                    obtain ⟨rfl, hbx3⟩ := hcut
                    obtain ⟨wx, rfl⟩ : ∃ wx : World, wx = wc := ⟨_, rfl⟩
                    obtain ⟨i0, hi, hz0, hz1, hz2⟩ := info_parts info_specSeg
                    have HBX3 := Lib.hid hbx3
                    have hszx := hbx3.size
                    have hPx := blk_below HPY.out hbx3
                    have HPX := Lib.hid hPx
                    have HOX := Lib.hid (own_below HOY.out hbx3)
                    have HSX := Lib.hid (HSY.out.below hbx3)
                    have HBWX : Hid (Below w.heap.size w wx) := HBWY.out.trans (hbx3.mono (by omega))
                    have hpx := blk_below HPG.out hbx3
                    have x0 : wx.cell? ⟨wo.heap.size, 0, none⟩ = some (.string ⟨gss.toArray⟩) := blk_cell hpx 0
                    have x1 : wx.cell? ⟨wo.heap.size, 1, none⟩ = some (.bool gsw) := blk_cell hpx 1
                    have x2 : wx.cell? ⟨wo.heap.size, 2, none⟩ = some (.bool gsm) := blk_cell hpx 2
                    have p2' : wx.cell? ⟨w.heap.size + 1, 2, none⟩ = some (.slice A2 l0.length cap2) := blk_cell hPx 2
                    have hszwx : wh.heap.size ≤ wx.heap.size := HSX.out.1
                    -- the piece is put behind the others, or the text is wrong
                    obtain ⟨st', hst'⟩ : ∃ st' : Nat, st' = if (ok && freeB l0 ⟨gss, gsw, gsm⟩) then st else 2 := ⟨_, rfl⟩
                    have HST' : Hid ((st' = 1 ∧ ReadSo ks (k + 1) (l0 ++ [⟨gss, gsw, gsm⟩])) ∨ (st' = 2 ∧ piecesL ks [] = none)) := by
                      have hl := HLAST.out
                      rcases HST.out with ⟨h1, h2⟩ | ⟨h1, h2⟩
                      · cases hok : ok
                        · right
                          rw [hst', hok]
                          exact ⟨rfl, readSo_bad ks k l0 x h2 HX.out (by rw [← hl]; exact HG2.out hok)⟩
                        · have hp := HG1.out hok
                          rw [hl] at hp
                          have hs := readSo_step ks k l0 x _ h2 HX.out hp
                          cases hf : freeB l0 ⟨gss, gsw, gsm⟩
                          · right
                            rw [hst', hok, hf]
                            exact ⟨rfl, hs.2 hf⟩
                          · left
                            rw [hst', hok, hf]
                            exact ⟨h1, hs.1 hf⟩
                      · right
                        refine ⟨?_, h2⟩
                        rw [hst', h1]
                        split <;> rfl
                    have HKP' : Hid (∀ (i : Nat) (y : List UInt8), i < k + 1 → ks[i]? = some y → Kept y ∨ (y = [] ∧ i + 1 = ks.length)) := by
                      intro i y hi' hy
                      by_cases h : i = k
                      · subst h
                        rw [HX.out] at hy
                        cases hy
                        rcases HKX.out with h | ⟨h1, h2⟩
                        · exact .inl h
                        · right
                          have hl := HLAST.out
                          rw [h2] at hl
                          exact ⟨h1, by simpa using hl.symm⟩
                      · exact HKP.out i y (by omega) hy
                    obtain ⟨fb, hfb⟩ : ∃ fb, fb = (ok && freeB l0 ⟨gss, gsw, gsm⟩) := ⟨_, rfl⟩
                    rw [← hfb] at hst' ⊢
                    clear hbx3 hPx hpx hfb HST HKP HG1 HG2 HX HLAST HNX HKX p2 HSY HBWY HOY HPY HSG
                    cases fb
                    all_goals
                      simp only [if_true, if_false, Bool.false_eq_true] at hst'
                      subst hst'
                      go_wp2_with (at_builtin; go_loud (refine wpList_append_own _ rfl _ _ 28 rfl wh.heap.size 46 i0 (.agg #[.string ⟨#[]⟩, .bool false, .bool false]) 3 24 Tryd.underlying28 hi hz0 hz1 hz2 rfl (by decide) _ _ _ rfl (HOX.out.alloc _) ⟨wx.heap.size, 0, none⟩ 1 1 [_, _, _] rfl rfl (cells3_new _ _ _ _ _ _ rfl) (by simp [Value.oneCell']) (by have := HL0.out; unfold maxLen; omega) (by have := HL0.out; omega) (by simp; omega) ?_; intro v' w1 hown' hgrow _; obtain ⟨A', cap', rfl, _, _, _⟩ := own_form hown'; have hP1 := blk_grown (blk_alloc HPX.out _) hgrow (fun e => by have := (HOX.out.lt _ e.symm).1; omega); have HP1 := Lib.hid hP1; have m2 : w1.cell? ⟨w.heap.size + 1, 2, none⟩ = some (.slice A2 l0.length cap2) := blk_cell hP1 2; have n2 := blk_free hP1 2; have HG := Lib.hid hgrow; have HO1 := Lib.hid hown'; clear hgrow hown' hP1 x0 x1 x2 p2'))
                      go_roundw
                      case rel =>
                        have hl0 := HL0.out
                        refine ⟨k + 1, _, l0 ++ [⟨gss, gsw, gsm⟩], _, by omega, rfl, by go_num, by simp; omega, (blk_set HP1.out 2 _).trans rfl, ?_, HST', HKP', ⟨?_, fun b hb hbP => ?_⟩, ?_⟩
                        · refine ownsRow_setCell_below ?_ (show w.heap.size + 1 < wh.heap.size by omega) _
                          rw [segCells_snoc]
                          simpa [strV] using HO1.out
                        · have := HG.out.size
                          simp at this ⊢
                          omega
                        · rw [Below.heap_setCell _ _ _ _ hbP, HG.out.block b (by simp; omega) (fun e => by have := (HOX.out.lt _ e.symm).1; omega), Below.heap_alloc _ _ _ (by omega)]
                          exact HSX.out.2 b hb hbP
                        · exact ((HBWX.out.alloc (by omega) _).grown HG.out (by simp; omega) (fun g hg => by have := (HOX.out.lt g hg).1; omega)).setCell (p := ⟨w.heap.size + 1, 2, none⟩) (by simp) _
                      case measure => simp [intOf]; omega
              · have hke : k = ks.length := by omega
                have hRr : wo.heap[w.heap.size]? = some (.cells #[.string ⟨#[]⟩, .string ⟨#[]⟩, .slice none 0 0] 30 (0, 0)) := (hSt.2 _ (by omega) (by omega)).trans HRH.out
                have P0 : wo.cell? ⟨w.heap.size + 1, 0, none⟩ = some (.string m) := blk_cell hP 0
                have P1 : wo.cell? ⟨w.heap.size + 1, 1, none⟩ = some (.string hst) := blk_cell hP 1
                have P2 : wo.cell? ⟨w.heap.size + 1, 2, none⟩ = some sv := blk_cell hP 2
                have a0 : wo.cell? ⟨w.heap.size, 0, none⟩ = some (.string ⟨#[]⟩) := blk_cell hRr 0
                have a1 : wo.cell? ⟨w.heap.size, 1, none⟩ = some (.string ⟨#[]⟩) := blk_cell hRr 1
                have a2 : wo.cell? ⟨w.heap.size, 2, none⟩ = some (.slice none 0 0) := blk_cell hRr 2
                have b0 := blk_free hRr 0
                have b1 := blk_free hRr 1
                have b2 := blk_free hRr 2
                obtain ⟨A2, cap2, hsv, _, _⟩ := SegsAt.of_own HOW.out
                subst hsv
                have hag := pat3_again (a' := .string m) (b' := .string hst) (c' := .slice A2 l0.length cap2) hRr
                have r0 := blk_cell hag 0
                have r1 := blk_cell hag 1
                have r2 := blk_cell hag 2
                clear hag hRr hP hSt
                go_wp2_with fail
                refine bodyPost_ret (v := .tuple #[.agg #[.string m, .string hst, .slice A2 l0.length cap2], .int .i64 (st : Int)]) (by simp [results, Tryd.results12, go_sem, r0, r1, r2]) rfl ?_
                refine ⟨m, hst, A2, l0.length, cap2, st, l0, rfl, fun _ => ?_, ?_, ?_⟩
                · refine ⟨?_, by have := HL0.out; omega⟩
                  exact SegsAt.of_own (ownsRow_setCell_below (ownsRow_setCell_below (ownsRow_setCell_below HOW.out (show w.heap.size < wh.heap.size by omega) _) (show w.heap.size < wh.heap.size by omega) _) (show w.heap.size < wh.heap.size by omega) _)
                · have hpt := HPT.out fun i y hi' hy => HKP.out i y (by omega) hy
                  rcases HST.out with ⟨h1, h2⟩ | ⟨h1, h2⟩
                  · refine .inr (.inl ⟨h1, hpt, ?_⟩)
                    rw [hke] at h2
                    rw [HPL.out, readSo_end ks l0 h2]; rfl
                  · refine .inr (.inr ⟨h1, .inr ⟨hpt, ?_⟩⟩)
                    rw [HPL.out, h2]; rfl
                · exact ((HBW.out.setCell (p := ⟨w.heap.size, 0, none⟩) (Nat.le_refl _) _).setCell (p := ⟨w.heap.size, 1, none⟩) (Nat.le_refl _) _).setCell (p := ⟨w.heap.size, 2, none⟩) (Nat.le_refl _) _
end Go.Proofs.YtodmlommidifjaaDoor
