/-
  Proved: laws for 'm[k] = append(m[k], x)' on a map that the call owns, whose elements are read as they are ('rawElem'): what mapEntry finds, what entryStore leaves. Conditions: as each states.
-/
import Derived.Maps.Own
import Derived.WideKeyEntry
import Derived.Deep.AppendLies
namespace Go.Proofs.YtgkhfcoieknjeaaDoor
open Go Go.MapKept
open Go.ChangeMaps (setBlock heap_setBlock_same heap_setBlock_other)
open Go.WideMaps (KeyLaw)
open Go.Maps (Keyed)

/-- An element read as it is. -/
def rawElem (v : Value) : Option (DataW Value × List MemPlace) := some (.held v, [])

theorem raw_val {v : Value} {d : DataW Value} {ps : List MemPlace} (h : rawElem v = some (d, ps)) : d = .held v := by
  unfold rawElem at h
  cases h; rfl

section
variable {P : Program} {t k e : TypeId} {w : World} {b n : Nat} {D : DataW Value}

theorem grown_setBlock {w : World} {b : Nat} {o : Obj} (hb : ∃ es c, w.heap[b]? = some (.map es c)) : w.grownBy (setBlock w b o) (some b) := by
  obtain ⟨es, c, hb⟩ := hb
  exact ⟨rfl, rfl, rfl, by simp [setBlock], fun i _ hi => heap_setBlock_other hb _ (fun e => hi (by rw [e]))⟩

theorem ownsMap_at {H : Type} {R : Value → Option (DataW H × List MemPlace)} {D : DataW H} {w w' : World} (h : w.ownsMap P k R b n D) (hk : w'.heap[b]? = w.heap[b]?) : w'.ownsMap P k R b n D := by
  obtain ⟨es, c, h1, h2⟩ := h
  exact ⟨es, c, hk.trans h1, h2⟩

/-- What mapEntry finds, and what entryStore leaves. -/
theorem entry_own (L : KeyLaw P k) (ht : P.underlying t = some (.map k e)) {z : Value} (hz : ∀ u : World, (zeroValue e).run P u = .ok z u) (hn : n < maxLen)
    (h : w.ownsMap P k rawElem b n D) {key : Value} {kl : Lit} (hkey : keyOf P k key = some kl) {v : Value} (hv : D.atKey kl (.held z) = .held v) :
    ∃ (st : Nat) (w1 : World), (Instr.mapEntry t (.map (some b)) key).run P w = .ok (.tuple #[v, .int .i64 st]) w1 ∧ w.grownBy w1 (some b) ∧ w1.heap.size = w.heap.size ∧ w1.tape = w.tape ∧
      ∀ (w2 : World) (val : Value), w2.heap[b]? = w1.heap[b]? → ∃ w3, (Instr.entryStore t (.map (some b)) (.int .i64 st) val).run P w2 = .ok () w3 ∧ w3.ownsMap P k rawElem b (n + 1) (D.put kl (.held val)) ∧ w2.grownBy w3 (some b) ∧ w3.heap.size = w2.heap.size := by
  have K := Keyed.of_law L
  have h0 := h
  obtain ⟨es, clock, hb, F, hs, rfl⟩ := h
  obtain ⟨v0, st, es1, clock1, hrun, hv0, hst⟩ := WideElems.entry_then_store L ht hz hb F hkey
  have hvv : v0 = v := by
    rcases Maps.fit_look false K ht (hz w) hb F hkey with ⟨_, hno, hat⟩ | ⟨e0, y, hm, hk, _, hR, hat, _⟩
    · rcases hv0 with ⟨e1, h1, h2, _⟩ | ⟨_, h2⟩
      · exact absurd h2 (hno e1 h1)
      · rw [hat] at hv
        rw [h2]
        simpa using hv
    · have hy : y.1 = .held e0.val := raw_val (ps := y.2) hR
      rw [hat, hy] at hv
      have hve : e0.val = v := by simpa using hv
      rcases hv0 with ⟨e1, h1, h2, h3⟩ | ⟨h1, _⟩
      · obtain ⟨_, _, s3⟩ := F.stamped
        obtain ⟨i, hi⟩ := List.mem_iff_getElem?.1 h1
        obtain ⟨j, hj⟩ := List.mem_iff_getElem?.1 hm
        have hi' : (es.toList.map (·.key))[i]? = some key := by rw [List.getElem?_map, hi]; simp [h2]
        have hj' : (es.toList.map (·.key))[j]? = some key := by rw [List.getElem?_map, hj]; simp [hk]
        have hij : i = j := by
          obtain ⟨li, gi⟩ := List.getElem?_eq_some_iff.1 hi'
          obtain ⟨lj, gj⟩ := List.getElem?_eq_some_iff.1 hj'
          have hp := List.pairwise_iff_getElem.1 (List.nodup_iff_pairwise_ne.1 s3)
          rcases Nat.lt_trichotomy i j with h | h | h
          · exact absurd (gi.trans gj.symm) (hp i j li lj h)
          · exact h
          · exact absurd (gj.trans gi.symm) (hp j i lj li h)
        subst hij
        rw [hi] at hj
        cases hj
        rw [h3, hve]
      · exact absurd hk (h1 e0 hm)
  subst hvv
  have g1 := grown_setBlock (o := .map es1 clock1) ⟨es, clock, hb⟩
  refine ⟨st, _, hrun, g1, by simp [setBlock], rfl, fun w2 val hw2 => ?_⟩
  have hw2' : w2.heap[b]? = some (.map es1 clock1) := hw2.trans (heap_setBlock_same hb _)
  obtain ⟨es', clock', hr2, hu⟩ := hst w2 val hw2'
  obtain ⟨w', hu', ho, _⟩ := World.ownsMap.update (w := w) (R := rawElem) h0 K ht hn (val := val) hkey rfl
  rw [hu] at hu'
  cases hu'
  refine ⟨_, hr2, ownsMap_at ho ?_, grown_setBlock ⟨_, _, hw2'⟩, by simp [setBlock]⟩
  rw [heap_setBlock_same hw2', heap_setBlock_same hb]

/-- The look-up. -/
theorem lookup_raw (L : KeyLaw P k) (ht : P.underlying t = some (.map k e)) {z : Value} (hz : ∀ u : World, (zeroValue e).run P u = .ok z u)
    (h : w.ownsMap P k rawElem b n D) {key : Value} {kl : Lit} (hkey : keyOf P k key = some kl) {v : Value} (hv : D.atKey kl (.held z) = .held v) :
    (Instr.lookup t (.map (some b)) key false).run P w = .ok v w := by
  obtain ⟨u, ps, hrun, hu⟩ := World.ownsMap.lookup h (Keyed.of_law L) ht (hz w) (zd := .held z) (zp := []) rfl hkey
  rw [hv] at hu
  have := raw_val hu
  simp only [DataW.held.injEq] at this
  rw [hrun, this]
end
end Go.Proofs.YtgkhfcoieknjeaaDoor
