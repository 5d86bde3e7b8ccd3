import Derived.Test.Qxb6618960aModsW11
namespace Go.Proofs.Qxb6618960aMods.W
open Go.ChangeShapes Go.WideShapes Go.ChangeAt Go.RowKit

set_option maxRecDepth 100000 in
set_option maxHeartbeats 2000000 in
theorem zzy_any {w : World} {B bp bw n : Nat} {L : Nat → Nat} {X : Nat → Int} {Z : Nat → Nat → Int} {l : Nat → Nat} {e c : Nat → Nat → Nat} {mine short : Int} (h : Ok w B bp bw n L X Z l e c) (hp : Pm n L X Z) (hs0 : -9223372036854775808 ≤ short) (hs1 : short ≤ 9223372036854775807) :
    Calls Trym.prog 16 #[ptr B, .int .i64 mine, .int .i64 short] w fun r w' => YEnd n L X Z c mine short r w' ∧ Below w.heap.size w w' := by
  go_enter Trym.func16, Trym.ntmps16
  go_wp2_with fail
  refine (yielding_any h hp hs0 hs1).mono ?_
  rintro r w1 ⟨hend, hb⟩
  rcases hend with ⟨rfl, h1⟩ | ⟨ao, m, cap, pk, rfl, h1⟩
  · have HE := hid h1
    clear h1
    go_wp2
    go_ret2
    exact ⟨Or.inl ⟨rfl, HE.out⟩, hb⟩
  · have HE := hid h1
    clear h1
    go_wp2
    go_ret2
    exact ⟨Or.inr ⟨ao, m, cap, pk, rfl, HE.out⟩, hb⟩

/-- What is picked is at most what can be given. -/
theorem tk_le {n : Nat} {L : Nat → Nat} {X : Nat → Int} {Z : Nat → Nat → Int} {mine short : Int} {pk : Nat → Nat} {m : Nat} (hp : Pm n L X Z) (hv : P.Valid mine short X Z n L pk m) : P.tk L Z pk m ≤ P.G mine X Z L n := by
  have h1 := P.total m hv
  have h2 := (P.G_bound (mine := mine) (x := X) hp.fines (τ := P.tauAt L pk m) (fun p _ => P.tauAt_le m p) n (Nat.le_refl _)).1
  omega

theorem G_range {n : Nat} {L : Nat → Nat} {X : Nat → Int} {Z : Nat → Nat → Int} {mine : Int} (hp : Pm n L X Z) : 0 ≤ P.G mine X Z L n ∧ P.G mine X Z L n ≤ 144115188075855872 := by
  have h2 := P.G_bound (mine := mine) (x := X) hp.fines (τ := L) (fun p _ => Nat.le_refl _) n (Nat.le_refl _)
  have := hp.su
  omega

theorem siz_fine {n : Nat} {L : Nat → Nat} {X : Nat → Int} {Z : Nat → Nat → Int} {mine short : Int} {pk : Nat → Nat} {m : Nat} (hp : Pm n L X Z) (hv : P.Valid mine short X Z n L pk m) : P.Fine (siz L Z pk) m := fun i hi => by
  obtain ⟨⟨b1, b2, _⟩, _⟩ := hv i hi
  have := P.tauAt_le (L := L) (pk := pk) i (pk i)
  have := b2.1
  exact hp.fines _ b1 _ (by omega)

theorem St.held {w0 w : World} {n : Nat} {L : Nat → Nat} {X : Nat → Int} {Z : Nat → Nat → Int} {l rw : Nat → Nat} {e c : Nat → Nat → Nat} (h : St w0 w n n L X Z l rw e c) (hn : n ≤ 1024) : IRow w (some ⟨w0.heap.size + 4, 0, none⟩) n (hold L X Z) :=
  ⟨by omega, fun i hi => ⟨_, 0, rfl, by rw [Nat.zero_add]; exact h.gh.cell hi, h.gh.lt⟩⟩
end Go.Proofs.Qxb6618960aMods.W
