/-
  The routing tree in memory (definitions), and, in words on memory, that what turns one node alone keeps all others. No conditions but those stated.
  Proved: findChild, and the mapping's find, give the child of a node of the routing tree with a key, or nil. Condition: the node can be read; the key has at most 1000 bytes.
  Proved: the mapping's add puts a child behind the others: in a slice of at most eight, or in a map, into which the slice goes over when it is full. Conditions: the mapping can be read and has no child with the key; the key has at most 1000 bytes.
-/
import Derived.Test.YtgkhfcoieknjeaaDoorBase
import Derived.Maps.OwnOps
import Derived.Maps.OwnSet
import Derived.Maps.Views
import Derived.Deep.DeepCutAuto
import Derived.Deep.CutBlock
import Derived.Maps.AppendAt
import Derived.BigQuiet
namespace Go.Proofs.YtgkhfcoieknjeaaDoor
open Go.RowKit

instance : DecidableEq Kd
  | .lit a, .lit b => if h : a = b then isTrue (by rw [h]) else isFalse (by intro e; cases e; exact h rfl)
  | .one, .one => isTrue rfl
  | .rest, .rest => isTrue rfl
  | .lit _, .one => isFalse (by intro e; cases e)
  | .lit _, .rest => isFalse (by intro e; cases e)
  | .one, .lit _ => isFalse (by intro e; cases e)
  | .one, .rest => isFalse (by intro e; cases e)
  | .rest, .lit _ => isFalse (by intro e; cases e)
  | .rest, .one => isFalse (by intro e; cases e)

/-- A node: its block, and the two values of its children's mapping. -/
structure Nd where
  a : Nat
  sl : Value
  mp : Option Nat

/-- What ends at a node: the pattern's block, the handler's block. -/
structure Lf where
  pb : Nat
  hb : Nat

/-- The tree: which places there are, and what ends at them. -/
structure Tr where
  dir : List Kd → Option Nd
  leaf : List Kd → Option Lf

def ptr (o : Option Nd) : Value := .pointer (o.map fun n => ⟨n.a, 0, none⟩)
def mapV (o : Option Nat) : Value := .map o
def pbV (o : Option Lf) : Value := .pointer (o.map fun f => ⟨f.pb, 0, none⟩)
def hbV (o : Option Lf) : Value := .pointer (o.map fun f => ⟨f.hb, 0, none⟩)

/-- The children as they lie in a slice. -/
def entCells (es : List (List UInt8 × Nat)) : List Value := es.flatMap fun e => [strV e.1, .pointer (some ⟨e.2, 0, none⟩)]
def lookE : List (List UInt8 × Nat) → List UInt8 → Option Nat
  | [], _ => none
  | e :: r, s => if e.1 = s then some e.2 else lookE r s

/-- Children's keys. -/
def OkEs (es : List (List UInt8 × Nat)) : Prop := (∀ e ∈ es, e.1 ≠ [] ∧ e.1.length ≤ 1000) ∧ (es.map (·.1)).Nodup

/-- How a child's pointer reads. -/
def ptrElem : Value → Option (DataW Unit × List MemPlace)
  | .pointer none => some (.lit (.int .i64 (-1)), [])
  | .pointer (some ⟨a, 0, none⟩) => some (.lit (.int .i64 (a : Int)), [])
  | _ => none
def addrLit : Option Nat → DataW Unit
  | none => .lit (.int .i64 (-1))
  | some a => .lit (.int .i64 (a : Int))

/-- The children of a node: in a slice, at most eight, or in a map. -/
def Kids (w : World) (B c : Nat) (n : Nd) (f : List UInt8 → Option Nat) : Prop :=
  (n.mp = none ∧ ∃ es : List (List UInt8 × Nat), es.length ≤ 8 ∧ es.length ≤ c ∧ OkEs es ∧ w.ownsRow B 134 2 n.sl es.length (entCells es) ∧ ∀ s, s ≠ [] → lookE es s = f s) ∨
  (∃ b k D, n.mp = some b ∧ n.sl = .slice none 0 0 ∧ B ≤ b ∧ k ≤ c ∧ w.ownsMap Tryd.prog 9 ptrElem b k D ∧ ∀ s, s ≠ [] → D.atKey (.string s) (addrLit none) = addrLit (f s))

def kidsOf (T : Tr) (k : List Kd) (s : List UInt8) : Option Nat := (T.dir (k ++ [.lit s])).map (·.a)

/-- One node in memory. -/
def NodeAt (w : World) (B c : Nat) (T : Tr) (k : List Kd) (n : Nd) : Prop :=
  B ≤ n.a ∧ w.heap[n.a]? = some (.cells #[pbV (T.leaf k), hbV (T.leaf k), n.sl, mapV n.mp, ptr (T.dir (k ++ [.rest])), ptr (T.dir (k ++ [.one]))] 97 (0, 0)) ∧
    Kids w B c n (kidsOf T k)

/-- The tree in memory. -/
structure TreeAt (w : World) (B c : Nat) (T : Tr) : Prop where
  node : ∀ k n, T.dir k = some n → NodeAt w B c T k n
  root : T.dir [] ≠ none
  up : ∀ k x, T.dir (k ++ [x]) ≠ none → T.dir k ≠ none
  leafUp : ∀ k, T.leaf k ≠ none → T.dir k ≠ none
  apartA : ∀ k k' n n', T.dir k = some n → T.dir k' = some n' → n.a = n'.a → k = k'
  apartR : ∀ k k' n n' b, T.dir k = some n → T.dir k' = some n' → n.sl.ownBlock = some b → n'.sl.ownBlock = some b → k = k'
  apartM : ∀ k k' n n' b, T.dir k = some n → T.dir k' = some n' → n.mp = some b → n'.mp = some b → k = k'

/-- The blocks of a node. -/
def Nd.has (n : Nd) (b : Nat) : Prop := b = n.a ∨ n.sl.ownBlock = some b ∨ n.mp = some b
/-- The blocks of the tree. -/
def Tr.foot (T : Tr) (b : Nat) : Prop := ∃ k n, T.dir k = some n ∧ n.has b
/-- What is not the tree's stands as it stood. -/
def Stays (T : Tr) (w w' : World) : Prop := ∀ b, b < w.heap.size → ¬ T.foot b → w'.heap[b]? = w.heap[b]?

theorem lt_of_heap {w : World} {b : Nat} {o : Obj} (h : w.heap[b]? = some o) : b < w.heap.size := (Array.getElem?_eq_some_iff.1 h).1

theorem ownsRow_of_heap {w w' : World} {B : Nat} {e : TypeId} {z : Nat} {v : Value} {n : Nat} {xs : List Value} (h : w.ownsRow B e z v n xs) (hk : ∀ b, v.ownBlock = some b → w'.heap[b]? = w.heap[b]?) : w'.ownsRow B e z v n xs := by
  obtain ⟨h1, h2⟩ := h
  refine ⟨h1, ?_⟩
  rcases h2 with h2 | ⟨g, cap, cur, rfl, hb, hg, h3⟩
  · exact .inl h2
  · exact .inr ⟨g, cap, cur, rfl, hb, (hk g rfl).trans hg, h3⟩

theorem ownsMap_of_heap {w w' : World} {b n : Nat} {D : DataW Unit} (h : w.ownsMap Tryd.prog 9 ptrElem b n D) (hk : w'.heap[b]? = w.heap[b]?) : w'.ownsMap Tryd.prog 9 ptrElem b n D := by
  obtain ⟨es, clock, hb, h⟩ := h
  exact ⟨es, clock, hk.trans hb, h⟩

theorem Kids.kept {w w' : World} {B c c' : Nat} {n : Nd} {f : List UInt8 → Option Nat} (H : Kids w B c n f) (hc : c ≤ c') (hk : ∀ b, (n.sl.ownBlock = some b ∨ n.mp = some b) → w'.heap[b]? = w.heap[b]?) : Kids w' B c' n f := by
  rcases H with ⟨h1, es, h2, h2', h3, h4, h5⟩ | ⟨b, k, D, h1, h2, h3, h4, h5, h6⟩
  · exact .inl ⟨h1, es, h2, by omega, h3, ownsRow_of_heap h4 fun b hb => hk b (.inl hb), h5⟩
  · exact .inr ⟨b, k, D, h1, h2, h3, by omega, ownsMap_of_heap h5 (hk b (.inr h1)), h6⟩

theorem Kids.lt {w : World} {B c : Nat} {n : Nd} {f : List UInt8 → Option Nat} (H : Kids w B c n f) (b : Nat) (hb : n.sl.ownBlock = some b ∨ n.mp = some b) : B ≤ b ∧ b < w.heap.size := by
  rcases H with ⟨h1, es, _, _, _, h4, _⟩ | ⟨b', k, D, h1, h2, h3, h4, h5, _⟩
  · rcases hb with hb | hb
    · exact h4.lt b hb
    · rw [h1] at hb; cases hb
  · rcases hb with hb | hb
    · rw [h2] at hb; cases hb
    · rw [h1] at hb; cases hb; exact ⟨h3, h5.lt⟩

/-- A block that is a row of children is no node and no map. -/
theorem Kids.row {w : World} {B c : Nat} {n : Nd} {f : List UInt8 → Option Nat} (H : Kids w B c n f) (b : Nat) (hb : n.sl.ownBlock = some b) : ∃ cur, w.heap[b]? = some (.cells cur 134 (0, 0)) := by
  rcases H with ⟨h1, es, _, _, _, h4, _⟩ | ⟨b', k, D, h1, h2, _⟩
  · obtain ⟨_, h | ⟨g, cap, cur, hv, _, hg, _⟩⟩ := h4
    · rw [h.1] at hb; cases hb
    · rw [hv] at hb; cases hb; exact ⟨cur, hg⟩
  · rw [h2] at hb; cases hb
theorem Kids.map {w : World} {B c : Nat} {n : Nd} {f : List UInt8 → Option Nat} (H : Kids w B c n f) (b : Nat) (hb : n.mp = some b) : ∃ es clock, w.heap[b]? = some (.map es clock) := by
  rcases H with ⟨h1, _⟩ | ⟨b', k, D, h1, h2, h3, h4, ⟨es, clock, h5, _⟩, _⟩
  · rw [h1] at hb; cases hb
  · rw [h1] at hb; cases hb; exact ⟨es, clock, h5⟩

/-- A node's own block is none of its children's. -/
theorem NodeAt.other {w : World} {B c : Nat} {T : Tr} {k : List Kd} {n : Nd} (H : NodeAt w B c T k n) {b : Nat} (hb : n.sl.ownBlock = some b ∨ n.mp = some b) : b ≠ n.a := by
  obtain ⟨_, hh, hkids⟩ := H
  rintro rfl
  rcases hb with hb | hb
  · obtain ⟨cur, h⟩ := hkids.row _ hb
    rw [hh] at h; cases h
  · obtain ⟨es, cl, h⟩ := hkids.map _ hb
    rw [hh] at h; cases h

section
variable {w w' : World} {B c c' : Nat} {T T' : Tr}

theorem TreeAt.has_lt (H : TreeAt w B c T) {k : List Kd} {n : Nd} (hn : T.dir k = some n) {b : Nat} (hb : n.has b) : B ≤ b ∧ b < w.heap.size := by
  obtain ⟨h1, h2, h3⟩ := H.node k n hn
  rcases hb with rfl | hb
  · exact ⟨h1, lt_of_heap h2⟩
  · exact h3.lt b hb

theorem TreeAt.foot_lt (H : TreeAt w B c T) {b : Nat} (hb : T.foot b) : B ≤ b ∧ b < w.heap.size := by
  obtain ⟨k, n, hn, hb⟩ := hb
  exact H.has_lt hn hb

/-- Two nodes have no block in common. -/
theorem TreeAt.apart (H : TreeAt w B c T) {k k' : List Kd} {n n' : Nd} (hn : T.dir k = some n) (hn' : T.dir k' = some n') (hk : k' ≠ k) {b : Nat} (hb : n'.has b) : ¬ n.has b := by
  intro hb'
  obtain ⟨_, h2, h3⟩ := H.node k n hn
  obtain ⟨_, g2, g3⟩ := H.node k' n' hn'
  rcases hb with rfl | hb | hb
  · rcases hb' with e | hb' | hb'
    · exact hk (H.apartA _ _ _ _ hn' hn e)
    · obtain ⟨cur, h⟩ := h3.row _ hb'
      rw [g2] at h; cases h
    · obtain ⟨es, cl, h⟩ := h3.map _ hb'
      rw [g2] at h; cases h
  · obtain ⟨cur, h⟩ := g3.row _ hb
    rcases hb' with rfl | hb' | hb'
    · rw [h2] at h; cases h
    · exact hk (H.apartR _ _ _ _ _ hn' hn hb hb')
    · obtain ⟨es, cl, h'⟩ := h3.map _ hb'
      rw [h] at h'; cases h'
  · obtain ⟨es, cl, h⟩ := g3.map _ hb
    rcases hb' with rfl | hb' | hb'
    · rw [h2] at h; cases h
    · obtain ⟨cur, h'⟩ := h3.row _ hb'
      rw [h] at h'; cases h'
    · exact hk (H.apartM _ _ _ _ _ hn' hn hb hb')

/-- The tree stays while what is not the tree's is written and new memory is made. -/
theorem TreeAt.kept (H : TreeAt w B c T) (hc : c ≤ c') (hk : ∀ b, T.foot b → w'.heap[b]? = w.heap[b]?) : TreeAt w' B c' T := by
  refine ⟨fun k n hn => ?_, H.root, H.up, H.leafUp, H.apartA, H.apartR, H.apartM⟩
  obtain ⟨h1, h2, h3⟩ := H.node k n hn
  exact ⟨h1, (hk _ ⟨k, n, hn, .inl rfl⟩).trans h2, h3.kept hc fun b hb => hk b ⟨k, n, hn, .inr hb⟩⟩

theorem TreeAt.below (H : TreeAt w B c T) (hb : Below w.heap.size w w') : TreeAt w' B c T :=
  H.kept (Nat.le_refl _) fun b hf => hb.block b (H.foot_lt hf).2

/-- One node turns (n to n'), and one child may be new (m, at x). -/
theorem TreeAt.step (H : TreeAt w B c T) (hc : c ≤ c') {k : List Kd} {n n' : Nd} (hn : T.dir k = some n) (ha : n'.a = n.a) (x : Kd) (m : Option Nd)
    (hdk : T'.dir k = some n') (hdx : T'.dir (k ++ [x]) = m) (hdo : ∀ q, q ≠ k → q ≠ k ++ [x] → T'.dir q = T.dir q)
    (hlo : ∀ q, q ≠ k → q ≠ k ++ [x] → T'.leaf q = T.leaf q) (hlx : T'.leaf (k ++ [x]) = none ∨ m ≠ none)
    (hm : m = T.dir (k ++ [x]) ∨ (T.dir (k ++ [x]) = none ∧ ∃ m', m = some m'))
    (hframe : ∀ b, b < w.heap.size → ¬ n.has b → w'.heap[b]? = w.heap[b]?)
    (hnode : NodeAt w' B c' T' k n') (hnew : ∀ m', m = some m' → T.dir (k ++ [x]) = none → NodeAt w' B c' T' (k ++ [x]) m')
    (hsame : T.dir (k ++ [x]) = m → T'.leaf (k ++ [x]) = T.leaf (k ++ [x]))
    (hfresh : ∀ b, n'.has b → n.has b ∨ w.heap.size ≤ b) (hfm : ∀ m', m = some m' → T.dir (k ++ [x]) = none → ∀ b, m'.has b → w.heap.size ≤ b ∧ ¬ n'.has b)
    (hx : ∀ y, T.dir (k ++ [x]) = none → T.dir (k ++ [x] ++ [y]) = none) : TreeAt w' B c' T' := by
  have hne : k ++ [x] ≠ k := by intro e; have := congrArg List.length e; simp at this
  -- every node of the new tree: the turned one, the new one, or an old one as it was
  have cases3 : ∀ q d, T'.dir q = some d → (q = k ∧ d = n') ∨ (q = k ++ [x] ∧ m = some d ∧ T.dir (k ++ [x]) = none) ∨ (q ≠ k ∧ T.dir q = some d ∧ (q = k ++ [x] → T'.leaf q = T.leaf q)) := by
    intro q d hd
    by_cases h1 : q = k
    · subst h1
      rw [hdk] at hd
      exact .inl ⟨rfl, (Option.some.inj hd).symm⟩
    · by_cases h2 : q = k ++ [x]
      · subst h2
        rw [hdx] at hd
        rcases hm with hm | ⟨hm, m', hm'⟩
        · exact .inr (.inr ⟨h1, hm.symm.trans hd, fun _ => hsame hm.symm⟩)
        · exact .inr (.inl ⟨rfl, hd, hm⟩)
      · exact .inr (.inr ⟨h1, (hdo q h1 h2).symm.trans hd, fun e => absurd e h2⟩)
  have keptn : ∀ q d, q ≠ k → T.dir q = some d → ∀ b, d.has b → w'.heap[b]? = w.heap[b]? := fun q d hq hd b hb =>
    hframe b (H.has_lt hd hb).2 (H.apart hn hd hq hb)
  have sameA : ∀ q y, q ≠ k → (T'.dir (q ++ [y])).map (·.a) = (T.dir (q ++ [y])).map (·.a) := by
    intro q y hq
    by_cases h1 : q ++ [y] = k
    · rw [h1, hdk, hn]; simp [ha]
    · have h2 : q ++ [y] ≠ k ++ [x] := by
        intro e
        have := List.append_inj' e rfl
        exact hq this.1
      rw [hdo _ h1 h2]
  have samePtr : ∀ q y, q ≠ k → ptr (T'.dir (q ++ [y])) = ptr (T.dir (q ++ [y])) := by
    intro q y hq
    have h := sameA q y hq
    unfold ptr
    cases h1 : T'.dir (q ++ [y]) <;> cases h2 : T.dir (q ++ [y]) <;> rw [h1, h2] at h <;> simp at h ⊢
    exact h
  -- blocks of the new tree's nodes
  have hasOld : ∀ q d, q ≠ k → T.dir q = some d → ∀ b, d.has b → b < w.heap.size ∧ ¬ n.has b := fun q d hq hd b hb => ⟨(H.has_lt hd hb).2, H.apart hn hd hq hb⟩
  have apart' : ∀ q q' d d' b, T'.dir q = some d → T'.dir q' = some d' → d.has b → d'.has b → q = q' ∨ (q ≠ k ∧ q' ≠ k ∧ T.dir q = some d ∧ T.dir q' = some d') := by
    intro q q' d d' b hd hd' hb hb'
    rcases cases3 q d hd with ⟨rfl, rfl⟩ | ⟨rfl, h1, h2⟩ | ⟨h1, h2, _⟩
    · rcases cases3 q' d' hd' with ⟨rfl, rfl⟩ | ⟨rfl, g1, g2⟩ | ⟨g1, g2, _⟩
      · exact .inl rfl
      · exact absurd hb (hfm d' g1 g2 b hb').2
      · have := hasOld q' d' g1 g2 b hb'
        rcases hfresh b hb with h | h
        · exact absurd h this.2
        · omega
    · rcases cases3 q' d' hd' with ⟨rfl, rfl⟩ | ⟨rfl, g1, g2⟩ | ⟨g1, g2, _⟩
      · exact absurd hb' (hfm d h1 h2 b hb).2
      · exact .inl rfl
      · have := hasOld q' d' g1 g2 b hb'
        have := (hfm d h1 h2 b hb).1
        omega
    · rcases cases3 q' d' hd' with ⟨rfl, rfl⟩ | ⟨rfl, g1, g2⟩ | ⟨g1, g2, _⟩
      · have := hasOld q d h1 h2 b hb
        rcases hfresh b hb' with h | h
        · exact absurd h this.2
        · omega
      · have := hasOld q d h1 h2 b hb
        have := (hfm d' g1 g2 b hb').1
        omega
      · exact .inr ⟨h1, g1, h2, g2⟩
  refine ⟨fun q d hd => ?_, ?_, fun q y hq => ?_, fun q hq => ?_, fun q q' d d' hd hd' e => ?_, fun q q' d d' b hd hd' e e' => ?_, fun q q' d d' b hd hd' e e' => ?_⟩
  · rcases cases3 q d hd with ⟨rfl, rfl⟩ | ⟨rfl, h1, h2⟩ | ⟨h1, h2, h3⟩
    · exact hnode
    · exact hnew d h1 h2
    · obtain ⟨g1, g2, g3⟩ := H.node q d h2
      have hleaf : T'.leaf q = T.leaf q := by
        by_cases hqx : q = k ++ [x]
        · exact h3 hqx
        · exact hlo q h1 hqx
      refine ⟨g1, ?_, ?_⟩
      · rw [keptn q d h1 h2 _ (.inl rfl), g2, hleaf, samePtr q _ h1, samePtr q _ h1]
      · have hk : kidsOf T' q = kidsOf T q := by
          funext s
          exact sameA q _ h1
        rw [hk]
        exact g3.kept hc fun b hb => keptn q d h1 h2 b (.inr hb)
  · by_cases h1 : [] = k
    · rw [h1, hdk]; simp
    · rw [hdo [] h1 (by simp)]
      exact H.root
  · by_cases h0 : q = k
    · rw [h0, hdk]; simp
    by_cases h2 : q = k ++ [x]
    · rw [h2, hdx]
      rcases hm with hm | ⟨hm, m', hm'⟩
      · rw [hm]
        refine H.up _ y ?_
        subst h2
        rw [hdo _ (by intro e; have := congrArg List.length e; simp at this) (by intro e; have := congrArg List.length e; simp at this)] at hq
        exact hq
      · rw [hm']; simp
    · rw [hdo q h0 h2]
      by_cases h3 : q ++ [y] = k
      · exact H.up q y (by rw [h3, hn]; simp)
      · have h4 : q ++ [y] ≠ k ++ [x] := fun e => h0 (List.append_inj' e rfl).1
        rw [hdo _ h3 h4] at hq
        exact H.up q y hq
  · by_cases h0 : q = k
    · rw [h0, hdk]; simp
    by_cases h2 : q = k ++ [x]
    · rw [h2, hdx]
      rcases hlx with h | h
      · rw [h2, h] at hq; exact absurd rfl hq
      · exact h
    · rw [hdo q h0 h2]
      rw [hlo q h0 h2] at hq
      exact H.leafUp q hq
  · rcases apart' q q' d d' d.a hd hd' (.inl rfl) (.inl e) with h | ⟨_, _, h2, h3⟩
    · exact h
    · exact H.apartA _ _ _ _ h2 h3 e
  · rcases apart' q q' d d' b hd hd' (.inr (.inl e)) (.inr (.inl e')) with h | ⟨_, _, h2, h3⟩
    · exact h
    · exact H.apartR _ _ _ _ _ h2 h3 e e'
  · rcases apart' q q' d d' b hd hd' (.inr (.inr e)) (.inr (.inr e')) with h | ⟨_, _, h2, h3⟩
    · exact h
    · exact H.apartM _ _ _ _ _ h2 h3 e e'

end
end Go.Proofs.YtgkhfcoieknjeaaDoor

namespace Go.Proofs.YtgkhfcoieknjeaaDoor
open Go.RowKit

theorem ptrElem_inv {v : Value} {o : Option Nat} {ps : List MemPlace} (h : ptrElem v = some (addrLit o, ps)) : v = .pointer (o.map fun a => ⟨a, 0, none⟩) := by
  unfold ptrElem at h
  split at h
  · cases o with
    | none => rfl
    | some a => simp [addrLit] at h
  · cases o with
    | none => simp [addrLit] at h
    | some a =>
      simp only [addrLit, Option.some.injEq, Prod.mk.injEq, DataW.lit.injEq, Lit.int.injEq, true_and] at h
      have h1 := Int.ofNat.inj h.1
      subst h1; rfl
  · cases h

theorem zero_ptr (w : World) : (zeroValue 86).run Tryd.prog w = .ok (.pointer none) w := by kernel_rfl

theorem entCells_length : ∀ l : List (List UInt8 × Nat), (entCells l).length = l.length * 2
  | [] => rfl
  | g :: t => by
    have ih := entCells_length t
    unfold entCells at ih ⊢
    simp only [List.flatMap_cons, List.length_append, ih, List.length_cons, List.length_nil]
    omega

theorem entCells_at : ∀ (l : List (List UInt8 × Nat)) (j : Nat) (g : List UInt8 × Nat), l[j]? = some g → (entCells l)[j * 2]? = some (strV g.1) ∧ (entCells l)[j * 2 + 1]? = some (.pointer (some ⟨g.2, 0, none⟩))
  | [], j, g, h => by simp at h
  | x :: t, 0, g, h => by
    simp at h
    subst h
    simp [entCells]
  | x :: t, j + 1, g, h => by
    have ih := entCells_at t j g (by simpa using h)
    have e : entCells (x :: t) = [strV x.1, .pointer (some ⟨x.2, 0, none⟩)] ++ entCells t := rfl
    have hl : [strV x.1, Value.pointer (some ⟨x.2, 0, none⟩)].length = 2 := rfl
    rw [e]
    refine ⟨?_, ?_⟩
    · rw [List.getElem?_append_right (by simp; omega), show (j + 1) * 2 - [strV x.1, Value.pointer (some ⟨x.2, 0, none⟩)].length = j * 2 by simp; omega]; exact ih.1
    · rw [List.getElem?_append_right (by simp; omega), show (j + 1) * 2 + 1 - [strV x.1, Value.pointer (some ⟨x.2, 0, none⟩)].length = j * 2 + 1 by simp; omega]; exact ih.2

theorem ents_of_own {w : World} {base : Nat} {e : TypeId} {v : Value} {l : List (List UInt8 × Nat)} (h : w.ownsRow base e 2 v l.length (entCells l)) : ∃ A cap, v = .slice A l.length cap ∧ l.length ≤ cap ∧
    ∀ j g, l[j]? = some g → ∃ b, A = some ⟨b, 0, none⟩ ∧ b < w.heap.size ∧ w.cell? ⟨b, j * 2, none⟩ = some (strV g.1) ∧ w.cell? ⟨b, j * 2 + 1, none⟩ = some (.pointer (some ⟨g.2, 0, none⟩)) := by
  obtain ⟨A, cap, hv, hnc, _, _⟩ := own_form h
  refine ⟨A, cap, hv, hnc, fun j g hj => ?_⟩
  have hjl : j < l.length := (List.getElem?_eq_some_iff.1 hj).1
  obtain ⟨b, c, hv2, _, hlt, _, _, hc⟩ := own_pos h (by omega)
  rw [hv] at hv2
  simp only [Value.slice.injEq] at hv2
  obtain ⟨h1, h2⟩ := entCells_at l j g hj
  exact ⟨b, hv2.1, hlt, by simpa using hc _ _ h1, by simpa using hc _ _ h2⟩

theorem lookE_at : ∀ (es : List (List UInt8 × Nat)) (k : Nat) (g : List UInt8 × Nat) (s : List UInt8), es[k]? = some g → lookE (es.drop k) s = if g.1 = s then some g.2 else lookE (es.drop (k + 1)) s := by
  intro es k g s h
  obtain ⟨hl, rfl⟩ := List.getElem?_eq_some_iff.1 h
  rw [List.drop_eq_getElem_cons hl]; rfl

/-- What find answers. -/
def FindEnd (o : Option Nat) (w : World) (e : Ending) (w' : World) : Prop := (∃ b, e = .returned (.tuple #[.pointer (o.map fun a => ⟨a, 0, none⟩), .bool b])) ∧ Below w.heap.size w w'

set_option maxRecDepth 100000 in
set_option maxHeartbeats 1600000 in
theorem find_any (n : Nd) (s : ByteArray) (w : World) (B c : Nat) (f : List UInt8 → Option Nat) (hs : bs s ≠ []) (hz : s.size ≤ 1000) (H : Kids w B c n f) (c2 : w.cell? ⟨n.a, 2, none⟩ = some n.sl) (c3 : w.cell? ⟨n.a, 3, none⟩ = some (mapV n.mp)) :
    Calls Tryd.prog 68 #[.pointer (some ⟨n.a, 2, none⟩), .string s] w (FindEnd (f (bs s)) w) := by
  obtain ⟨a, sl, mp⟩ := n
  simp only at c2 c3
  rcases H with ⟨hm, es, he8, _, _, hown, hlook⟩ | ⟨b, k, D, hm, hsl, hB, hk, hown, hat⟩
  · simp only at hm hown
    subst hm
    have HL := Lib.hid (hlook (bs s) hs)
    obtain ⟨A, cap, rfl, hnc, hrow⟩ := ents_of_own hown
    have HROW := Lib.hid hrow
    simp only [mapV] at c3
    generalize f (bs s) = o at HL ⊢
    clear hrow hown hlook hs
    have qN : ∀ (w : World) (r : Option Nat), (binOp .neq 93 (.map r) (.map none)).run Tryd.prog w = .ok (.bool (!r.isNone)) w := fun w r => run_neq_map_nil w _ _ _ r Tryd.underlying93
    go_enter Tryd.func68, Tryd.ntmps68
    go_wp2_with fail
    go_loopw [4, 32] (fun v4 kv wr => ∃ k : Nat, v4 = .pointer none ∧ k ≤ es.length ∧ kv = .int .i64 k ∧ Hid (o = lookE (es.drop k) (bs s)) ∧ Below w.heap.size w wr) (fun _ kv _ => es.length - (intOf kv).toNat)
    case atStart => exact ⟨0, rfl, Nat.zero_le _, rfl, by show _ = _; rw [← HL.out]; rfl, Below.refl _ _⟩
    case round =>
      obtain ⟨k, rfl, hk, rfl, HK, hb⟩ := hrel
      have HB := Lib.hid hb
      by_cases hlt : k < es.length
      · obtain ⟨g, hg⟩ : ∃ g, es[k]? = some g := ⟨_, List.getElem?_eq_getElem hlt⟩
        obtain ⟨b, rfl, hbl, h1, h2⟩ := HROW.out k g hg
        have HAT := Lib.hid (lookE_at es k g (bs s) hg)
        obtain ⟨gs, ga⟩ := g
        have g1 : wr.cell? ⟨b, k * 2, none⟩ = some (.string ⟨gs.toArray⟩) := (hb.cell (p := ⟨b, k * 2, none⟩) hbl).trans h1
        have g2 : wr.cell? ⟨b, k * 2 + 1, none⟩ = some (.pointer (some ⟨ga, 0, none⟩)) := (hb.cell (p := ⟨b, k * 2 + 1, none⟩) hbl).trans h2
        have HBA : Hid (Below w.heap.size w (wr.alloc (.cells #[.string ⟨gs.toArray⟩, .pointer (some ⟨ga, 0, none⟩)] 134))) := hb.alloc hb.size _
        clear hg h1 h2 hb
        by_cases he : gs = bs s
        · have e0 : (gs == s.toList) = true := by rw [bs_toList]; simpa using he
          have HR : Hid (o = some ga) := HK.out.trans (HAT.out.trans (if_pos he))
          clear he
          go_wp2_with fail
          go_ret2
          exact ⟨⟨true, by rw [HR.out]; rfl⟩, HBA.out⟩
        · have e0 : (gs == s.toList) = false := by rw [bs_toList]; simpa using he
          have HN : Hid (o = lookE (es.drop (k + 1)) (bs s)) := HK.out.trans (HAT.out.trans (if_neg he))
          clear he
          go_wp2_with fail
          go_roundw
          case rel => exact ⟨k + 1, rfl, by omega, by go_num, HN, HBA.out⟩
          case measure => simp [intOf]; omega
      · have HR : Hid (o = none) := HK.out.trans (by rw [List.drop_of_length_le (by omega)]; rfl)
        go_wp2_with fail
        go_ret2
        exact ⟨⟨false, by rw [HR.out]; rfl⟩, HB.out⟩
  · simp only at hm hsl
    subst hm; subst hsl
    have hkey : keyOf Tryd.prog 9 (.string s) = some (.string s.data.toList) := Go.WideMaps.keyOf_string_mk Tryd.underlying9 (by unfold maxLen; omega)
    obtain ⟨v, ps, hrun, hv⟩ := hown.look_ok (Go.Maps.string_keyed Tryd.underlying9) Tryd.underlying93 (zero_ptr w) (zd := addrLit none) (zp := []) rfl hkey
    have hv2 := ptrElem_inv (hv.trans (by rw [show D.atKey (.string s.data.toList) (addrLit none) = addrLit (f (bs s)) from hat (bs s) hs]))
    subst hv2
    simp only [mapV] at c3
    generalize f (bs s) = o at hrun hv ⊢
    generalize Maps.has D (.string s.data.toList) = hb at hrun
    clear hv hat hown hs hkey
    have qN : ∀ (w : World) (r : Option Nat), (binOp .neq 93 (.map r) (.map none)).run Tryd.prog w = .ok (.bool (!r.isNone)) w := fun w r => run_neq_map_nil w _ _ _ r Tryd.underlying93
    go_enter Tryd.func68, Tryd.ntmps68
    go_wp2_with fail
    go_ret2
    exact ⟨⟨hb, rfl⟩, Below.refl _ _⟩

/-- What findChild answers: the node's address. -/
def ChildEnd (o : Option Nat) (w : World) (e : Ending) (w' : World) : Prop := e = .returned (.pointer (o.map fun a => ⟨a, 0, none⟩)) ∧ Below w.heap.size w w'

def addrOf (T : Tr) (k : List Kd) : Option Nat := (T.dir k).map (·.a)

set_option maxRecDepth 100000 in
set_option maxHeartbeats 800000 in
theorem findChild_any (T : Tr) (k : List Kd) (n : Nd) (s : ByteArray) (w : World) (B c : Nat) (hz : s.size ≤ 1000) (H : NodeAt w B c T k n) :
    Calls Tryd.prog 54 #[.pointer (some ⟨n.a, 0, none⟩), .string s] w (ChildEnd (addrOf T (k ++ [hk (bs s)])) w) := by
  obtain ⟨hB, hh, hkids⟩ := H
  have c2 := blk_cell hh 2
  have c3 := blk_cell hh 3
  have c5 := blk_cell hh 5
  by_cases hs : bs s = []
  · have e0 : s.toList.isEmpty = true := by rw [bs_toList]; simpa using hs
    have HR : Hid (addrOf T (k ++ [hk (bs s)]) = (T.dir (k ++ [.one])).map (·.a)) := by show _ = _; unfold addrOf hk; rw [if_pos hs]
    generalize addrOf T (k ++ [hk (bs s)]) = o at HR ⊢
    have c5' : w.cell? ⟨n.a, 5, none⟩ = some (.pointer (o.map fun a => ⟨a, 0, none⟩)) := by rw [c5, HR.out]; simp [ptr, Function.comp_def]
    clear c5 hs hh hkids HR
    go_enter Tryd.func54, Tryd.ntmps54
    go_wp2_with fail
    go_ret
    exact ⟨rfl, Below.refl _ _⟩
  · have e0 : s.toList.isEmpty = false := by rw [bs_toList]; simpa using hs
    have HF := Lib.hid (find_any n s w B c (kidsOf T k) hs hz hkids c2 c3)
    have HR : Hid (addrOf T (k ++ [hk (bs s)]) = kidsOf T k (bs s)) := by show _ = _; unfold addrOf hk kidsOf; rw [if_neg hs]
    rw [← HR.out] at HF
    generalize addrOf T (k ++ [hk (bs s)]) = o at HF ⊢
    unfold FindEnd at HF
    clear hs hh hkids HR c2 c3 c5
    go_enter Tryd.func54, Tryd.ntmps54
    go_wp2_with (go_at_call 68; (with_reducible refine HF.out.mono ?_); rintro e w1 ⟨⟨b, rfl⟩, hb⟩; have HB := Lib.hid hb; clear hb)
    go_ret
    exact ⟨rfl, HB.out⟩
end Go.Proofs.YtgkhfcoieknjeaaDoor

namespace Go.Proofs.YtgkhfcoieknjeaaDoor
open Go.RowKit

theorem info_ent : (Tryd.prog.info? 134).map (fun i => (i.zero, i.size, i.bytes)) = some (some (.agg #[.string ⟨#[]⟩, .pointer none]), 2, 24) := by kernel_rfl

theorem cells2_new (w : World) (a b : Value) (t : TypeId) (n : Nat) (hn : n = w.heap.size) :
    ∀ j u, [a, b][j]? = some u → (w.alloc (.cells #[a, b] t)).cell? ((⟨n, 0, none⟩ : Addr).add j) = some u := by
  subst hn
  intro j u hj
  rw [Addr.add_lit, World.cell?_alloc_new]
  match j, hj with
  | 0, hj => simpa using hj
  | 1, hj => simpa using hj

theorem lookE_snoc : ∀ (es : List (List UInt8 × Nat)) (s : List UInt8) (a : Nat) (t : List UInt8), lookE es s = none → lookE (es ++ [(s, a)]) t = if t = s then some a else lookE es t
  | [], s, a, t, _ => by
    show (if s = t then some a else none) = _
    by_cases h : t = s
    · rw [if_pos h, if_pos h.symm]
    · rw [if_neg h, if_neg fun e => h e.symm]; rfl
  | e :: r, s, a, t, h => by
    have h1 : ¬ e.1 = s := by
      intro he
      rw [lookE, if_pos he] at h; cases h
    rw [lookE, if_neg h1] at h
    show (if e.1 = t then some e.2 else lookE (r ++ [(s, a)]) t) = _
    rw [lookE_snoc r s a t h]
    by_cases h2 : e.1 = t
    · have : ¬ t = s := fun e' => h1 (h2.trans e')
      rw [if_pos h2, if_neg this, lookE, if_pos h2]
    · rw [if_neg h2, lookE, if_neg h2]

theorem lookE_none : ∀ (es : List (List UInt8 × Nat)) (s : List UInt8), s ∉ es.map (·.1) → lookE es s = none
  | [], s, _ => rfl
  | e :: r, s, h => by
    simp only [List.map_cons, List.mem_cons, not_or] at h
    rw [lookE, if_neg fun x => h.1 x.symm]
    exact lookE_none r s h.2

theorem lookE_mem : ∀ (es : List (List UInt8 × Nat)) (s : List UInt8), lookE es s = none → s ∉ es.map (·.1)
  | [], s, _ => by simp
  | e :: r, s, h => by
    rw [lookE] at h
    split at h
    · cases h
    · rename_i hne
      simp only [List.map_cons, List.mem_cons, not_or]
      exact ⟨fun x => hne x.symm, lookE_mem r s h⟩

theorem OkEs.snoc {es : List (List UInt8 × Nat)} {s : List UInt8} {a : Nat} (h : OkEs es) (hs : s ≠ []) (hz : s.length ≤ 1000) (hn : lookE es s = none) : OkEs (es ++ [(s, a)]) := by
  refine ⟨fun e he => ?_, ?_⟩
  · rcases List.mem_append.1 he with he | he
    · exact h.1 e he
    · simp at he; subst he; exact ⟨hs, hz⟩
  · rw [List.map_append, List.nodup_append]
    refine ⟨h.2, by simp, fun a ha b hb => ?_⟩
    simp at hb
    subst hb
    rintro rfl
    exact lookE_mem es _ hn ha

/-- What add leaves. -/
def AddEnd (w : World) (B c : Nat) (n : Nd) (p0 p1 p4 p5 : Value) (f : List UInt8 → Option Nat) (s : List UInt8) (ca : Nat) (e : Ending) (w' : World) : Prop :=
  e = .returned (.tuple #[]) ∧ ∃ n' : Nd, n'.a = n.a ∧ w'.heap[n.a]? = some (.cells #[p0, p1, n'.sl, mapV n'.mp, p4, p5] 97 (0, 0)) ∧
    Kids w' B (c + 1) n' (fun t => if t = s then some ca else f t) ∧
    (∀ b, b < w.heap.size → ¬ n.has b → w'.heap[b]? = w.heap[b]?) ∧ (∀ b, n'.has b → n.has b ∨ w.heap.size ≤ b) ∧ Below B w w'

/-- The keys that stand ahead of the k-th are others. -/
theorem take_fresh {es : List (List UInt8 × Nat)} (h : (es.map (·.1)).Nodup) (k : Nat) (g : List UInt8 × Nat) (hg : es[k]? = some g) : lookE (es.take k) g.1 = none := by
  obtain ⟨hl, rfl⟩ := List.getElem?_eq_some_iff.1 hg
  apply lookE_none
  intro hm
  obtain ⟨x, hx, he⟩ := List.mem_map.1 hm
  obtain ⟨i, hi, rfl⟩ := List.mem_take_iff_getElem.1 hx
  have e : (es.map (·.1))[i]'(by rw [List.length_map]; omega) = (es.map (·.1))[k]'(by rw [List.length_map]; omega) := by simpa using he
  exact absurd ((List.getElem_inj h).1 e) (by omega)

theorem take_succ {α : Type} (l : List α) (k : Nat) (g : α) (h : l[k]? = some g) : l.take (k + 1) = l.take k ++ [g] := by
  rw [List.take_add_one, h]; rfl

set_option maxRecDepth 100000 in
set_option maxHeartbeats 1600000 in
theorem add_slice (a : Nat) (sl : Value) (s : ByteArray) (ca : Nat) (w : World) (B c : Nat) (p0 p1 p4 p5 : Value) (f : List UInt8 → Option Nat) (hs : bs s ≠ []) (hz : s.size ≤ 1000) (hB : B ≤ a)
    (hh : w.heap[a]? = some (.cells #[p0, p1, sl, .map none, p4, p5] 97 (0, 0))) (hf : f (bs s) = none) (es : List (List UInt8 × Nat)) (he8 : es.length < 8) (hec : es.length ≤ c) (hek : OkEs es) (hown : w.ownsRow B 134 2 sl es.length (entCells es)) (hlook : ∀ s, s ≠ [] → lookE es s = f s) :
    Calls Tryd.prog 78 #[.pointer (some ⟨a, 2, none⟩), .string s, .pointer (some ⟨ca, 0, none⟩)] w (AddEnd w B c ⟨a, sl, none⟩ p0 p1 p4 p5 f (bs s) ca) := by
  obtain ⟨i0, hi, hz0, hz1, hz2⟩ := info_parts info_ent
  have hal := blk_lt hh
  have hrow : ∀ b, sl.ownBlock = some b → b ≠ a := by
    rintro b hb rfl
    obtain ⟨_, h | ⟨g, cap, cur, hv, _, hg, _⟩⟩ := hown
    · rw [h.1] at hb; cases hb
    · rw [hv] at hb; cases hb; rw [hh] at hg; cases hg
  obtain ⟨A, cap, hsl, hnc, hcm, _⟩ := own_form hown
  have c2 : w.cell? ⟨a, 2, none⟩ = some (.slice A es.length cap) := (blk_cell hh 2).trans (congrArg some hsl)
  have c3 : w.cell? ⟨a, 3, none⟩ = some (.map none) := blk_cell hh 3
  have i8 : (es.length : Int) < 8 := by omega
  have HS := Lib.hid hs
  have HF := Lib.hid hf
  have HL := Lib.hid hlook
  have HK := Lib.hid hek
  have HR := Lib.hid hrow
  have HSL := Lib.hid hsl
  clear hs hf hlook hek hrow
  rw [hsl] at hown
  clear hsl
  have HOWN := Lib.hid hown
  have qE : ∀ (w : World) (r : Option Nat), (binOp .eql 93 (.map r) (.map none)).run Tryd.prog w = .ok (.bool r.isNone) w := fun w r => run_eql_map_nil w _ _ _ r Tryd.underlying93
  go_enter Tryd.func78, Tryd.ntmps78
  go_wp2_with (at_builtin; go_loud (refine wpList_append_own_at _ rfl _ _ 92 rfl B 134 i0 (.agg #[.string ⟨#[]⟩, .pointer none]) 2 24 Tryd.underlying92 hi hz0 hz1 hz2 rfl (by decide) _ _ _ rfl (HOWN.out.alloc _) ⟨w.heap.size, 0, none⟩ 1 1 [_, _] rfl rfl (cells2_new _ _ _ _ _ rfl) (by simp [Value.oneCell']) (by unfold maxLen; omega) (by omega) (by simp; omega) ?_; intro v' w1 hown' hgrow _ hat; obtain ⟨A', cap', rfl, _, _, _⟩ := own_form hown'; have hA1 := blk_grown (blk_alloc hh _) hgrow (fun e => HR.out a (by rw [HSL.out]; exact e.symm) rfl); have d2 : w1.cell? ⟨a, 2, none⟩ = some sl := blk_cell hA1 2; have f2 := blk_free hA1 2; have HG := Lib.hid hgrow; have HAT := Lib.hid hat; have HO := Lib.hid hown'; have HA1 := Lib.hid hA1; clear hgrow hat hown' hA1))
  go_end0
  obtain ⟨v', hv'⟩ : ∃ v', v' = Value.slice A' (es.length + 1) cap' := ⟨_, rfl⟩
  rw [← hv'] at HO HAT ⊢
  refine ⟨rfl, ⟨a, v', none⟩, rfl, ?_, ?_, ?_, ?_, ?_⟩
  · exact (blk_set HA1.out 2 v').trans rfl
  · refine .inl ⟨rfl, es ++ [(bs s, ca)], by simp; omega, by simp; omega, HK.out.snoc HS.out (by rw [bs_size]; exact hz) ((HL.out _ HS.out).trans HF.out), ?_, fun t ht => ?_⟩
    · have h1 : w1.ownsRow B 134 2 v' (es ++ [(bs s, ca)]).length (entCells (es ++ [(bs s, ca)])) := by
        have := HO.out
        simpa [entCells, strV_bs] using this
      refine ownsRow_of_heap h1 fun b hb => Below.heap_setCell _ _ _ _ ?_
      rintro rfl
      obtain ⟨_, h | ⟨g, cap, cur, hv, _, hg, _⟩⟩ := h1
      · rw [h.1] at hb; cases hb
      · rw [hv] at hb; cases hb; rw [HA1.out] at hg; cases hg
    · show _ = if t = bs s then some ca else f t
      rw [lookE_snoc es _ _ _ ((HL.out _ HS.out).trans HF.out)]
      split
      · rfl
      · exact HL.out t ht
  · intro b hb hn
    have hba : b ≠ a := fun e => hn (.inl e)
    rw [Below.heap_setCell _ _ _ _ hba, HG.out.block b (by simp; omega) (fun e => hn (.inr (.inl (by rw [HSL.out]; exact e.symm)))), Below.heap_alloc _ _ _ hb]
  · intro b hb
    rcases hb with rfl | hb | hb
    · exact .inl (.inl rfl)
    · rcases HAT.out with h | h
      · exact .inl (.inr (.inl (by show sl.ownBlock = some b; rw [HSL.out]; exact h.symm.trans hb)))
      · right
        have h2 := Option.some.inj (h.symm.trans hb)
        simp at h2
        omega
    · cases hb
  · exact (((Below.refl B w).alloc (by omega) _).grown HG.out (by simp; omega) (fun g hg => (HOWN.out.lt g hg).1)).setCell (p := ⟨a, 2, none⟩) hB _

theorem put_at {D : DataW Unit} {s : List UInt8} {ca : Nat} {g : List UInt8 → Option Nat} (hD : Maps.IsMap D) (h : ∀ t, t ≠ [] → D.atKey (.string t) (addrLit none) = addrLit (g t)) :
    ∀ t, t ≠ [] → (D.put (.string s) (addrLit (some ca))).atKey (.string t) (addrLit none) = addrLit (if t = s then some ca else g t) := by
  intro t ht
  by_cases he : t = s
  · subst he
    rw [if_pos rfl, Maps.atKey_put_same hD (show WideAt.IsKeyLit (Lit.string t) from trivial)]
  · rw [if_neg he, Maps.atKey_put_other (show Lit.string t ≠ Lit.string s from fun e => he (Lit.string.inj e))]
    exact h t ht

set_option maxRecDepth 100000 in
set_option maxHeartbeats 1600000 in
theorem add_map (a : Nat) (s : ByteArray) (ca : Nat) (w : World) (B c : Nat) (p0 p1 p4 p5 : Value) (f : List UInt8 → Option Nat) (hz : s.size ≤ 1000) (hB : B ≤ a) (hc : c ≤ 1000000)
    (b k : Nat) (D : DataW Unit) (hh : w.heap[a]? = some (.cells #[p0, p1, .slice none 0 0, .map (some b), p4, p5] 97 (0, 0))) (hBb : B ≤ b) (hk : k ≤ c) (hown : w.ownsMap Tryd.prog 9 ptrElem b k D) (hat : ∀ s, s ≠ [] → D.atKey (.string s) (addrLit none) = addrLit (f s)) :
    Calls Tryd.prog 78 #[.pointer (some ⟨a, 2, none⟩), .string s, .pointer (some ⟨ca, 0, none⟩)] w (AddEnd w B c ⟨a, .slice none 0 0, some b⟩ p0 p1 p4 p5 f (bs s) ca) := by
  have hkey : keyOf Tryd.prog 9 (.string s) = some (.string s.data.toList) := Go.WideMaps.keyOf_string_mk Tryd.underlying9 (by unfold maxLen; omega)
  have hab : a ≠ b := by
    rintro rfl
    obtain ⟨es, cl, h, _⟩ := hown
    rw [hh] at h; cases h
  have c3 : w.cell? ⟨a, 3, none⟩ = some (.map (some b)) := blk_cell hh 3
  have HAT := Lib.hid hat
  have HM := Lib.hid hown.isMap
  have HH := Lib.hid hh
  clear hat hh
  have qE : ∀ (w : World) (r : Option Nat), (binOp .eql 93 (.map r) (.map none)).run Tryd.prog w = .ok (.bool r.isNone) w := fun w r => run_eql_map_nil w _ _ _ r Tryd.underlying93
  go_enter Tryd.func78, Tryd.ntmps78
  go_wp2_with (at_mapUpdate; refine wpList_mapUpdate_own _ rfl _ _ _ 93 rfl 9 86 (Go.Maps.string_keyed Tryd.underlying9) Tryd.underlying93 ptrElem b k D rfl hown (by unfold maxLen; omega) _ _ _ rfl rfl hkey (addrLit (some ca)) [] rfl ?_; intro w1 hown1 hgrow1; have HO := Lib.hid hown1; have HG := Lib.hid hgrow1; clear hown1 hgrow1)
  go_end0
  refine ⟨rfl, ⟨a, .slice none 0 0, some b⟩, rfl, ?_, ?_, ?_, ?_, ?_⟩
  · exact blk_grown HH.out HG.out (fun e => hab (Option.some.inj e))
  · exact .inr ⟨b, k + 1, _, rfl, rfl, hBb, by omega, HO.out, put_at HM.out HAT.out⟩
  · intro g hg hn
    exact HG.out.block g hg (fun e => hn (.inr (.inr e.symm)))
  · exact fun g hg => .inl hg
  · exact (Below.refl B w).grown HG.out (by have := blk_lt HH.out; omega) (fun g hg => by cases hg; exact hBb)

/-- What holds at the head of each round while the slice goes over into the map. -/
def OverR (a : Nat) (sl : Value) (p0 p1 p4 p5 : Value) (w : World) (B mb : Nat) (es : List (List UInt8 × Nat)) (k : Nat) (wr : World) : Prop :=
  ∃ D, wr.heap[a]? = some (.cells #[p0, p1, sl, .map (some mb), p4, p5] 97 (0, 0)) ∧ wr.ownsMap Tryd.prog 9 ptrElem mb k D ∧
    (∀ t, t ≠ [] → D.atKey (.string t) (addrLit none) = addrLit (lookE (es.take k) t)) ∧ (∀ b, b < w.heap.size → b ≠ a → wr.heap[b]? = w.heap[b]?) ∧ w.heap.size ≤ wr.heap.size ∧ Below B w wr

set_option maxRecDepth 100000 in
set_option maxHeartbeats 3200000 in
theorem add_over (a : Nat) (sl : Value) (s : ByteArray) (ca : Nat) (w : World) (B c : Nat) (p0 p1 p4 p5 : Value) (f : List UInt8 → Option Nat) (hs : bs s ≠ []) (hz : s.size ≤ 1000) (hB : B ≤ a) (hc : c ≤ 1000000)
    (hh : w.heap[a]? = some (.cells #[p0, p1, sl, .map none, p4, p5] 97 (0, 0))) (hf : f (bs s) = none) (es : List (List UInt8 × Nat)) (he8 : es.length = 8) (hec : es.length ≤ c) (hek : OkEs es) (hown : w.ownsRow B 134 2 sl es.length (entCells es)) (hlook : ∀ s, s ≠ [] → lookE es s = f s) :
    Calls Tryd.prog 78 #[.pointer (some ⟨a, 2, none⟩), .string s, .pointer (some ⟨ca, 0, none⟩)] w (AddEnd w B c ⟨a, sl, none⟩ p0 p1 p4 p5 f (bs s) ca) := by
  have hkey : keyOf Tryd.prog 9 (.string s) = some (.string s.data.toList) := Go.WideMaps.keyOf_string_mk Tryd.underlying9 (by unfold maxLen; omega)
  have hal := blk_lt hh
  have hrow : ∀ b, sl.ownBlock = some b → b ≠ a := by
    rintro b hb rfl
    obtain ⟨_, h | ⟨g, cap, cur, hv, _, hg, _⟩⟩ := hown
    · rw [h.1] at hb; cases hb
    · rw [hv] at hb; cases hb; rw [hh] at hg; cases hg
  obtain ⟨A, cap, hsl, hnc, hents⟩ := ents_of_own hown
  have HRW : Hid (∀ j g, es[j]? = some g → ∃ b, A = some ⟨b, 0, none⟩ ∧ b < w.heap.size ∧ b ≠ a ∧ w.cell? ⟨b, j * 2, none⟩ = some (strV g.1) ∧ w.cell? ⟨b, j * 2 + 1, none⟩ = some (.pointer (some ⟨g.2, 0, none⟩))) := by
    intro j g hj
    obtain ⟨b, rfl, h1, h2, h3⟩ := hents j g hj
    exact ⟨b, rfl, h1, hrow b (by rw [hsl]; rfl), h2, h3⟩
  have c2 : w.cell? ⟨a, 2, none⟩ = some (.slice A es.length cap) := (blk_cell hh 2).trans (congrArg some hsl)
  have c3 : w.cell? ⟨a, 3, none⟩ = some (.map none) := blk_cell hh 3
  have f3 : (w.alloc (.map #[] 0)).frozen? ⟨a, 3, none⟩ = false := blk_free (blk_alloc hh _) 3
  have k3 : (w.alloc (.map #[] 0)).cell? ⟨a, 3, none⟩ = some (.map none) := blk_cell (blk_alloc hh _) 3
  have i8 : ¬ ((es.length : Int) < 8) := by omega
  have hw0 : ((w.alloc (.map #[] 0)).setCell ⟨a, 3, none⟩ (.map (some w.heap.size))).heap[a]? = some (.cells #[p0, p1, sl, .map (some w.heap.size), p4, p5] 97 (0, 0)) := by
    simpa using blk_set (blk_alloc hh (.map #[] 0)) 3 (.map (some w.heap.size))
  have HH := Lib.hid hh
  have HW0 := Lib.hid hw0
  have k2 : ((w.alloc (.map #[] 0)).setCell ⟨a, 3, none⟩ (.map (some w.heap.size))).cell? ⟨a, 2, none⟩ = some (.slice A es.length cap) := (blk_cell hw0 2).trans (congrArg some hsl)
  have HOV : Hid (OverR a sl p0 p1 p4 p5 w B w.heap.size es 0 ((w.alloc (.map #[] 0)).setCell ⟨a, 3, none⟩ (.map (some w.heap.size)))) := by
    refine ⟨.map [], hw0, (World.ownsMap_made w _ _ _).setCell (by simp; omega) _, fun t _ => rfl, fun b hb hba => ?_, by simp, ((Below.refl B w).alloc (by omega) _).setCell hB _⟩
    rw [Below.heap_setCell _ _ _ _ hba, Below.heap_alloc _ _ _ hb]
  have hmm := @run_makeMap Tryd.prog
  have HS := Lib.hid hs
  have HF := Lib.hid hf
  have HL := Lib.hid hlook
  have HK := Lib.hid hek
  have HSL := Lib.hid hsl
  have HAE := Lib.hid hal
  clear hs hf hlook hek hrow hents hown hh hw0 hal
  have qE : ∀ (w : World) (r : Option Nat), (binOp .eql 93 (.map r) (.map none)).run Tryd.prog w = .ok (.bool r.isNone) w := fun w r => run_eql_map_nil w _ _ _ r Tryd.underlying93
  go_enter Tryd.func78, Tryd.ntmps78
  go_wp2_with fail
  go_loopw [47] (fun kv wr => ∃ k : Nat, k ≤ es.length ∧ kv = .int .i64 k ∧ Hid (OverR a sl p0 p1 p4 p5 w B w.heap.size es k wr)) (fun kv _ => es.length - (intOf kv).toNat)
  case atStart => exact ⟨0, Nat.zero_le _, rfl, HOV.out⟩
  case round =>
    obtain ⟨k, hk, rfl, HR⟩ := hrel
    clear c2 c3 f3 k3 k2
    obtain ⟨D, hra, hmap, hat, hfr, hsz, hbw⟩ := HR.out
    have HRA := Lib.hid hra
    have HMP := Lib.hid hmap
    have HAT := Lib.hid hat
    have HFR := Lib.hid hfr
    have HBW := Lib.hid hbw
    clear hat hfr hbw
    by_cases hlt : k < es.length
    · obtain ⟨g, hg⟩ : ∃ g, es[k]? = some g := ⟨_, List.getElem?_eq_getElem hlt⟩
      obtain ⟨b, rfl, hbl, hba, h1, h2⟩ := HRW.out k g hg
      have hgk := HK.out.1 g (List.mem_of_getElem? hg)
      have HNEW := Lib.hid (take_fresh HK.out.2 k g hg)
      have HTK := Lib.hid (take_succ es k g hg)
      obtain ⟨gs, ga⟩ := g
      simp only at hgk HNEW
      have hsame : wr.heap[b]? = w.heap[b]? := HFR.out b hbl hba
      have g1 : wr.cell? ⟨b, k * 2, none⟩ = some (.string ⟨gs.toArray⟩) := (World.cell?_of_block (a := ⟨b, k * 2, none⟩) hsame).trans h1
      have g2 : wr.cell? ⟨b, k * 2 + 1, none⟩ = some (.pointer (some ⟨ga, 0, none⟩)) := (World.cell?_of_block (a := ⟨b, k * 2 + 1, none⟩) hsame).trans h2
      have hkey2 : keyOf Tryd.prog 9 (.string ⟨gs.toArray⟩) = some (.string gs) := Go.WideMaps.keyOf_string_mk Tryd.underlying9 (by simp [ByteArray.size]; unfold maxLen; omega)
      have m3 : (wr.alloc (.cells #[.string ⟨gs.toArray⟩, .pointer (some ⟨ga, 0, none⟩)] 134)).cell? ⟨a, 3, none⟩ = some (.map (some w.heap.size)) := blk_cell (blk_alloc hra _) 3
      clear hsame h1 h2 hg hra hmap HR
      go_upto_region 7 with fail
      have HMA := Lib.hid ((HMP.out.alloc (.cells #[.string ⟨gs.toArray⟩, .pointer (some ⟨ga, 0, none⟩)] 134)).drew)
      obtain ⟨w1, hrun, hown1, hgrow1⟩ := HMA.out.update (Go.Maps.string_keyed Tryd.underlying9) Tryd.underlying93 (by unfold maxLen; omega) hkey2 (show ptrElem (.pointer (some ⟨ga, 0, none⟩)) = some (addrLit (some ga), []) from rfl)
      go_region
      clear hrun
      have HO1 := Lib.hid hown1
      have HG1 := Lib.hid hgrow1
      clear hown1 hgrow1
      go_wp2_with fail
      go_roundw
      case rel =>
        refine ⟨k + 1, by omega, by go_num, ?_⟩
        show OverR _ _ _ _ _ _ _ _ _ _ _ _
        have hmb : a ≠ w.heap.size := by have := HAE.out; omega
        refine ⟨_, ?_, HO1.out, ?_, fun b' hb' hb'a => ?_, ?_, ?_⟩
        · exact blk_grown (w := (wr.alloc _).drew) (blk_alloc HRA.out _) HG1.out (fun e => hmb (Option.some.inj e))
        · intro t ht
          rw [HTK.out, lookE_snoc _ _ _ _ HNEW.out]
          exact put_at HMP.out.isMap HAT.out t ht
        · rw [HG1.out.block b' (by simp; omega) (fun e => by have := Option.some.inj e; omega)]
          exact (Below.heap_alloc _ _ _ (by omega)).trans (HFR.out b' hb' hb'a)
        · have := HG1.out.size
          simp at this
          omega
        · exact (Below.drew (HBW.out.alloc (by have := HAE.out; omega) _)).grown HG1.out (by have := HAE.out; simp; omega) (fun g hg => by cases hg; have := HAE.out; omega)
      case measure => simp [intOf]; omega
    · have hke : k = 8 := by omega
      subst hke
      have htk : es.take 8 = es := List.take_of_length_le (by omega)
      have m2 : wr.cell? ⟨a, 2, none⟩ = some sl := blk_cell hra 2
      have q2 : wr.frozen? ⟨a, 2, none⟩ = false := blk_free hra 2
      have hw1 : (wr.setCell ⟨a, 2, none⟩ (.slice none 0 0)).heap[a]? = some (.cells #[p0, p1, .slice none 0 0, .map (some w.heap.size), p4, p5] 97 (0, 0)) := by
        simpa using blk_set hra 2 (.slice none 0 0)
      have m3 : (wr.setCell ⟨a, 2, none⟩ (.slice none 0 0)).cell? ⟨a, 3, none⟩ = some (.map (some w.heap.size)) := blk_cell hw1 3
      have HW1 := Lib.hid hw1
      have hmap1 : (wr.setCell ⟨a, 2, none⟩ (.slice none 0 0)).ownsMap Tryd.prog 9 ptrElem w.heap.size 8 D := hmap.setCell (by have := HAE.out; simp; omega) _
      clear hra hmap hw1 HR
      go_wp2_with (at_mapUpdate; refine wpList_mapUpdate_own _ rfl _ _ _ 93 rfl 9 86 (Go.Maps.string_keyed Tryd.underlying9) Tryd.underlying93 ptrElem w.heap.size 8 D rfl hmap1 (by unfold maxLen; omega) _ _ _ rfl rfl hkey (addrLit (some ca)) [] rfl ?_; intro w1 hown1 hgrow1; have HO := Lib.hid hown1; have HG := Lib.hid hgrow1; clear hown1 hgrow1)
      go_end0
      refine ⟨rfl, ⟨a, .slice none 0 0, some w.heap.size⟩, rfl, ?_, ?_, ?_, ?_, ?_⟩
      · exact blk_grown HW1.out HG.out (fun e => absurd (show a = w.heap.size from Option.some.inj e) (by have := HAE.out; omega))
      · refine .inr ⟨w.heap.size, 9, _, rfl, rfl, by have := HAE.out; omega, by omega, HO.out, ?_⟩
        refine put_at HMP.out.isMap fun t ht => ?_
        rw [HAT.out t ht, htk, HL.out t ht]
      · intro b' hb' hn
        have hba : b' ≠ a := fun e => hn (.inl e)
        rw [HG.out.block b' (by simp; omega) (fun e => by have := Option.some.inj e; omega), Below.heap_setCell _ _ _ _ hba]
        exact HFR.out b' hb' hba
      · intro b' hb'
        rcases hb' with rfl | hb' | hb'
        · exact .inl (.inl rfl)
        · cases hb'
        · have := Option.some.inj (show some w.heap.size = some b' from hb')
          exact .inr (by omega)
      · exact (HBW.out.setCell (p := ⟨a, 2, none⟩) hB _).grown HG.out (by have := HAE.out; simp; omega) (fun g hg => by cases hg; have := HAE.out; omega)

theorem add_any (n : Nd) (s : ByteArray) (ca : Nat) (w : World) (B c : Nat) (p0 p1 p4 p5 : Value) (f : List UInt8 → Option Nat) (hs : bs s ≠ []) (hz : s.size ≤ 1000) (hB : B ≤ n.a) (hc : c ≤ 1000000)
    (hh : w.heap[n.a]? = some (.cells #[p0, p1, n.sl, mapV n.mp, p4, p5] 97 (0, 0))) (hf : f (bs s) = none) (hk : Kids w B c n f) :
    Calls Tryd.prog 78 #[.pointer (some ⟨n.a, 2, none⟩), .string s, .pointer (some ⟨ca, 0, none⟩)] w (AddEnd w B c n p0 p1 p4 p5 f (bs s) ca) := by
  obtain ⟨a, sl, mp⟩ := n
  rcases hk with ⟨hm, es, he8, hec, hek, hown, hlook⟩ | ⟨b, k, D, hm, hsl, hBb, hk, hown, hat⟩
  · simp only at hm hown hh hB
    subst hm
    by_cases h8 : es.length < 8
    · exact add_slice a sl s ca w B c p0 p1 p4 p5 f hs hz hB hh hf es h8 hec hek hown hlook
    · exact add_over a sl s ca w B c p0 p1 p4 p5 f hs hz hB hc hh hf es (by omega) hec hek hown hlook
  · simp only at hm hsl hh hB
    subst hm; subst hsl
    exact add_map a s ca w B c p0 p1 p4 p5 f hz hB hc b k D hh hBb hk hown hat
end Go.Proofs.YtgkhfcoieknjeaaDoor
