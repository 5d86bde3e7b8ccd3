import Derived.Test.Qxb6606007aModsW1
import Derived.Deep.SlicePairs
namespace Go.Proofs.Qxb6606007aMods.W
open Go.ChangeShapes Go.WideShapes Go.ChangeAt Go.RowKit Go.Deep

theorem open_p {H : Type} {enc : TypeId × Value → H} {w : World} {spare : Nat → Bool} {held : Bool} {fuel : Nat} {ao : Option Addr} {len cap : Nat} {x : DataW H × List MemPlace}
    (h : DataW.trod enc Trym.prog w 0 spare held fuel 22 [.slice ao len cap] = some x) :
    ∃ A S, PRow w ao len A S := by
  rcases open_slice Trym.underlying22 h with ⟨hcs, _⟩ | ⟨a, len', cap', m, n, D, Pl, hcs, _, hl, hm, hmm, _, hx⟩
  · simp at hcs
    obtain ⟨rfl, rfl, rfl⟩ := hcs
    exact ⟨fun _ => ⟨#[]⟩, fun _ => ⟨#[]⟩, by omega, fun i hi => by omega⟩
  simp at hcs
  obtain ⟨rfl, rfl, rfl⟩ := hcs
  have hlm : len ≤ m := by rw [hmm]; split <;> omega
  have ce : Trym.prog.cellsOf 34 = 2 := by kernel_rfl
  have c9 : Trym.prog.cellsOf 9 = 1 := by kernel_rfl
  have each : ∀ i, i < len → ∃ q : ByteArray × ByteArray, w.cell? (a.add (i * 2)) = some (.string q.1) ∧ w.cell? (a.add (i * 2 + 1)) = some (.string q.2) ∧ q.1.size ≤ maxLen ∧ q.2.size ≤ maxLen := by
    intro i hi
    obtain ⟨cs', h1, h2⟩ := hx i (by omega)
    rw [ce] at h1
    obtain ⟨_, hlen, hcell⟩ := World.cells?_some h1
    obtain ⟨xs, k, hk, hxy, _, hxl, hf⟩ := DataW.trod_struct Trym.underlying34 h2
    match xs, hxl, cs', hlen with
    | [y0, y1], _, [v0, v1], _ =>
      have g0 := hf 0 _ rfl
      have g1 := hf 1 _ rfl
      simp [c9] at g0 g1
      obtain ⟨s0, e0, _, hs0⟩ := DataW.trod_string Trym.underlying9 g0
      obtain ⟨s1, e1, _, hs1⟩ := DataW.trod_string Trym.underlying9 g1
      simp at e0 e1
      subst e0 e1
      have f0 := hcell 0 (by omega)
      have f1 := hcell 1 (by omega)
      rw [add_add] at f0 f1
      exact ⟨(s0, s1), by simpa using f0, by simpa using f1, hs0, hs1⟩
  have inh : Inhabited (ByteArray × ByteArray) := ⟨(⟨#[]⟩, ⟨#[]⟩)⟩
  obtain ⟨q, hq⟩ := choose_lt each
  refine ⟨fun i => (q i).1, fun i => (q i).2, by unfold maxLen at hm; omega, fun i hi => ?_⟩
  obtain ⟨a0, a1, a5, a6⟩ := hq i hi
  have hsp : a.spot = none := by simpa [Addr.add] using World.cell?_spot (hq 0 (by omega)).1
  obtain ⟨b, off, sp⟩ := a
  simp at hsp
  subst hsp
  rw [add_plain] at a0 a1
  unfold maxLen at a5 a6
  exact ⟨b, off, rfl, a0, by simpa [Nat.add_assoc] using a1, World.block_lt_of_cell? _ _ a0, by simpa using a5, by simpa using a6⟩
end Go.Proofs.Qxb6606007aMods.W
