import Derived.Test.Qxb6618960aModsTok
import Derived.WideKeyEntry
/-! 'a, b = m[k], ..' on such a map: the entry is made first and stored later. No program is named. -/
namespace Go.Proofs.Qxb6618960aMods.T
open Go.WideShapes Go.RowKit Go.WideMaps
open Go.ChangeMaps (setBlock heap_setBlock_same heap_setBlock_other)

theorem MapIs.entry {P : Program} {k e t : TypeId} {w : World} {b n : Nat} {f : ByteArray → Option Value} (h : MapIs P k w b n f) (hk : P.underlying k = some .string) (ht : P.underlying t = some (.map k e)) {z : Value} (hz : ∀ u : World, (zeroValue e).run P u = .ok z u) (hn : n < maxLen) {s : ByteArray} (hs : s.size ≤ maxLen) :
    ∃ (v0 : Value) (st : Nat) (w1 : World), (Instr.mapEntry t (.map (some b)) (.string s)).run P w = .ok (.tuple #[v0, .int .i64 (st : Int)]) w1 ∧ w.grownBy w1 (some b) ∧ w1.heap.size = w.heap.size ∧
      ∀ val, ∃ w2, (Instr.entryStore t (.map (some b)) (.int .i64 (st : Int)) val).run P w1 = .ok () w2 ∧ MapIs P k w2 b (n + 1) (upd f s val) ∧ w.grownBy w2 (some b) := by
  have hstore := fun v => h.store hk ht hn hs v
  obtain ⟨D, ⟨es, clock, hb, F, hle, hD⟩, hR⟩ := h
  obtain ⟨v0, st, es1, clock1, h1, _, h2⟩ := Go.WideElems.entry_then_store (Go.WideMaps.string_law hk) ht hz hb F (key := .string s) (kl := key s) (keyOf_string_mk hk hs)
  have hb1 : (setBlock w b (.map es1 clock1)).heap[b]? = some (.map es1 clock1) := heap_setBlock_same hb _
  refine ⟨v0, st, _, h1, ⟨rfl, rfl, rfl, by simp [setBlock], fun i _ hi => heap_setBlock_other hb _ (fun e1 => hi (by rw [e1]))⟩, by simp [setBlock], fun val => ?_⟩
  obtain ⟨es', clock', h3, h4⟩ := h2 _ val hb1
  obtain ⟨w', h5, h6, h7⟩ := hstore val
  rw [h4] at h5
  have hw' : w' = setBlock w b (.map es' clock') := by cases h5; rfl
  refine ⟨_, h3, ?_, ⟨rfl, rfl, rfl, by simp [setBlock], fun i _ hi => ?_⟩⟩
  · subst hw'
    refine h6.kept ?_
    rw [heap_setBlock_same hb1, heap_setBlock_same hb]
  · rw [heap_setBlock_other hb1 _ (fun e1 => hi (by rw [e1])), heap_setBlock_other hb _ (fun e1 => hi (by rw [e1]))]
end Go.Proofs.Qxb6618960aMods.T
