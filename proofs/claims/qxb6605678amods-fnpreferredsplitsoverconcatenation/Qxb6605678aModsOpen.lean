import Derived.Test.Qxb6605678aModsW1
import Derived.ChangeSame
namespace Go.Proofs.Qxb6605678aMods.W
open Go.ChangeShapes Go.WideShapes Go.ChangeAt Go.RowKit Go.Deep

theorem open_v {H : Type} {enc : TypeId × Value → H} {w : World} {spare : Nat → Bool} {held : Bool} {fuel : Nat} {ao : Option Addr} {len cap : Nat} {x : DataW H × List MemPlace}
    (h : DataW.trod enc Trym.prog w 0 spare held fuel 22 [.slice ao len cap] = some x) :
    ∃ N R F S Z, VRow w ao len N R F S Z := by
  rcases open_slice Trym.underlying22 h with ⟨hcs, _⟩ | ⟨a, len', cap', m, n, D, Pl, hcs, _, hl, hm, hmm, _, hx⟩
  · simp at hcs
    obtain ⟨rfl, rfl, rfl⟩ := hcs
    exact ⟨fun _ => ⟨#[]⟩, fun _ => ⟨#[]⟩, fun _ => false, fun _ => false, fun _ => 0, by omega, fun i hi => by omega⟩
  simp at hcs
  obtain ⟨rfl, rfl, rfl⟩ := hcs
  have hlm : len ≤ m := by rw [hmm]; split <;> omega
  have ce : Trym.prog.cellsOf 29 = 5 := by kernel_rfl
  have c9 : Trym.prog.cellsOf 9 = 1 := by kernel_rfl
  have c4 : Trym.prog.cellsOf 4 = 1 := by kernel_rfl
  have c3 : Trym.prog.cellsOf 3 = 1 := by kernel_rfl
  have each : ∀ i, i < len → ∃ q : ByteArray × ByteArray × Bool × Bool × Int, w.cell? (a.add (i * 5)) = some (.string q.1) ∧ w.cell? (a.add (i * 5 + 1)) = some (.bool q.2.2.1) ∧ w.cell? (a.add (i * 5 + 2)) = some (.string q.2.1) ∧
      w.cell? (a.add (i * 5 + 3)) = some (.bool q.2.2.2.1) ∧ w.cell? (a.add (i * 5 + 4)) = some (.int .i64 q.2.2.2.2) ∧ q.1.size ≤ maxLen ∧ q.2.1.size ≤ maxLen := by
    intro i hi
    obtain ⟨cs', h1, h2⟩ := hx i (by omega)
    rw [ce] at h1
    obtain ⟨_, hlen, hcell⟩ := World.cells?_some h1
    obtain ⟨xs, k, hk, hxy, _, hxl, hf⟩ := DataW.trod_struct Trym.underlying29 h2
    match xs, hxl, cs', hlen with
    | [y0, y1, y2, y3, y4], _, [v0, v1, v2, v3, v4], _ =>
      have g0 := hf 0 _ rfl
      have g1 := hf 1 _ rfl
      have g2 := hf 2 _ rfl
      have g3 := hf 3 _ rfl
      have g4 := hf 4 _ rfl
      simp [c9, c4, c3] at g0 g1 g2 g3 g4
      obtain ⟨s0, e0, _, hs0⟩ := DataW.trod_string Trym.underlying9 g0
      obtain ⟨s1, e1, _⟩ := DataW.trod_bool Trym.underlying4 g1
      obtain ⟨s2, e2, _, hs2⟩ := DataW.trod_string Trym.underlying9 g2
      obtain ⟨s3, e3, _⟩ := DataW.trod_bool Trym.underlying4 g3
      obtain ⟨s4, e4, _⟩ := DataW.trod_int Trym.underlying3 g4
      simp at e0 e1 e2 e3 e4
      subst e0 e1 e2 e3 e4
      have f0 := hcell 0 (by omega)
      have f1 := hcell 1 (by omega)
      have f2 := hcell 2 (by omega)
      have f3 := hcell 3 (by omega)
      have f4 := hcell 4 (by omega)
      rw [add_add] at f0 f1 f2 f3 f4
      exact ⟨(s0, s2, s1, s3, s4), by simpa using f0, by simpa using f1, by simpa using f2, by simpa using f3, by simpa using f4, hs0, hs2⟩
  have inh : Inhabited (ByteArray × ByteArray × Bool × Bool × Int) := ⟨(⟨#[]⟩, ⟨#[]⟩, false, false, 0)⟩
  obtain ⟨q, hq⟩ := choose_lt each
  refine ⟨fun i => (q i).1, fun i => (q i).2.1, fun i => (q i).2.2.1, fun i => (q i).2.2.2.1, fun i => (q i).2.2.2.2, by unfold maxLen at hm; omega, fun i hi => ?_⟩
  obtain ⟨a0, a1, a2, a3, a4, a5, a6⟩ := hq i hi
  have hsp : a.spot = none := by simpa [Addr.add] using World.cell?_spot (hq 0 (by omega)).1
  obtain ⟨b, off, sp⟩ := a
  simp at hsp
  subst hsp
  rw [add_plain] at a0 a1 a2 a3 a4
  unfold maxLen at a5 a6
  exact ⟨b, off, rfl, a0, by simpa [Nat.add_assoc] using a1, by simpa [Nat.add_assoc] using a2, by simpa [Nat.add_assoc] using a3, by simpa [Nat.add_assoc] using a4, World.block_lt_of_cell? _ _ a0, by simpa using a5, by simpa using a6⟩
end Go.Proofs.Qxb6605678aMods.W
