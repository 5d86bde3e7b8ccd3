import Derived.Test.Qxb6618960aModsW1
import Derived.Deep.Matrix
namespace Go.Proofs.Qxb6618960aMods.W
open Go.ChangeShapes Go.WideShapes Go.ChangeAt Go.RowKit Go.Deep

/-- A slice value and its row of integers. -/
def IsRow (w : World) (v : Value) (q : Option Addr × Nat × Nat × (Nat → Int)) : Prop := v = .slice q.1 q.2.1 q.2.2.1 ∧ IRow w q.1 q.2.1 q.2.2.2

theorem open_row {H : Type} {enc : TypeId × Value → H} {w : World} {spare : Nat → Bool} {held : Bool} {fuel : Nat} {v : Value} {x : DataW H × List MemPlace}
    (h : DataW.trod enc Trym.prog w 0 spare held fuel 30 [v] = some x) : ∃ q, IsRow w v q := by
  rcases open_ints Trym.underlying30 Trym.underlying2 (by kernel_rfl) h with ⟨hcs, _⟩ | ⟨a, len, cap, zs, hcs, _, hl, hm, hz, _, hcell, _⟩
  · simp at hcs
    exact ⟨(none, 0, 0, fun _ => 0), hcs, by simp, fun i hi => absurd hi (Nat.not_lt_zero _)⟩
  · simp at hcs
    subst hcs
    refine ⟨(some a, len, cap, fun i => zs.getD i 0), rfl, by unfold maxLen at hm; show len ≤ _; omega, fun i hi => ?_⟩
    have hi' : i < len := hi
    have hlz : len ≤ zs.length := by rw [hz]; split <;> omega
    have hsp : a.spot = none := by simpa [Addr.add] using World.cell?_spot (hcell 0 (by omega))
    obtain ⟨b, off, sp⟩ := a
    simp at hsp
    subst hsp
    have a0 := hcell i (by omega)
    rw [add_plain] at a0
    exact ⟨b, off, rfl, a0, World.block_lt_of_cell? _ _ a0⟩

theorem open_irow {H : Type} {enc : TypeId × Value → H} {w : World} {spare : Nat → Bool} {held : Bool} {fuel : Nat} {ao : Option Addr} {len cap : Nat} {x : DataW H × List MemPlace}
    (h : DataW.trod enc Trym.prog w 0 spare held fuel 30 [.slice ao len cap] = some x) : ∃ X, IRow w ao len X := by
  obtain ⟨⟨a, l, c, z⟩, hv, hr⟩ := open_row h
  simp at hv
  obtain ⟨rfl, rfl, rfl⟩ := hv
  exact ⟨z, hr⟩

theorem open_srow {H : Type} {enc : TypeId × Value → H} {w : World} {spare : Nat → Bool} {held : Bool} {fuel : Nat} {ao : Option Addr} {len cap : Nat} {x : DataW H × List MemPlace}
    (h : DataW.trod enc Trym.prog w 0 spare held fuel 29 [.slice ao len cap] = some x) : ∃ A L C Z, SRow w ao len A L C Z := by
  rcases open_slice1 Trym.underlying29 (by kernel_rfl) h with ⟨hcs, _⟩ | ⟨a, len', cap', m, n, V, D, Pl, hcs, _, hl, hm, hmm, _, hx⟩
  · simp at hcs
    obtain ⟨rfl, rfl, rfl⟩ := hcs
    exact ⟨fun _ => none, fun _ => 0, fun _ => 0, fun _ _ => 0, by omega, fun i hi => by omega, fun i hi => by omega⟩
  simp at hcs
  obtain ⟨rfl, rfl, rfl⟩ := hcs
  have hlm : len ≤ m := by rw [hmm]; split <;> omega
  have each : ∀ i, i < len → ∃ q : Option Addr × Nat × Nat × (Nat → Int), IsRow w (V i) q := fun i hi => open_row (hx i (by omega)).2
  have inh : Inhabited (Option Addr × Nat × Nat × (Nat → Int)) := ⟨(none, 0, 0, fun _ => 0)⟩
  obtain ⟨q, hq⟩ := choose_lt each
  refine ⟨fun i => (q i).1, fun i => (q i).2.1, fun i => (q i).2.2.1, fun i => (q i).2.2.2, by unfold maxLen at hm; omega, fun i hi => ?_, fun i hi => (hq i hi).2⟩
  have hc := (hx i (by omega)).1
  have hsp : a.spot = none := by simpa [Addr.add] using World.cell?_spot (hx 0 (by omega)).1
  obtain ⟨b, off, sp⟩ := a
  simp at hsp
  subst hsp
  rw [add_plain, (hq i hi).1] at hc
  exact ⟨b, off, rfl, hc, World.block_lt_of_cell? _ _ hc⟩
end Go.Proofs.Qxb6618960aMods.W
