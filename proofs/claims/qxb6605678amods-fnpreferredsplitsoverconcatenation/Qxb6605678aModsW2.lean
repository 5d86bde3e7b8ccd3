import Derived.Test.Qxb6605678aModsW1
import Derived.BigRegion
import Derived.WalkSpells
import Derived.WalkLawsBesides
namespace Go.Proofs.Qxb6605678aMods.W
open Go.ChangeShapes Go.WideShapes Go.ChangeAt Go.RowKit

theorem Trym.info31 : (Trym.prog.info? 31).map (fun i => (i.zero, i.size, i.bytes)) = some (some (.agg #[.string ⟨#[]⟩, .bool false, .string ⟨#[]⟩, .bool false, .int .i64 0]), 5, 56) := by kernel_rfl

/-- Five cells laid from p on. -/
abbrev put5 (w : World) (g p : Nat) (v0 v1 v2 v3 v4 : Value) : World :=
  ((((w.setCell ⟨g, p, none⟩ v0).setCell ⟨g, p + 1, none⟩ v1).setCell ⟨g, p + 2, none⟩ v2).setCell ⟨g, p + 3, none⟩ v3).setCell ⟨g, p + 4, none⟩ v4

theorem oth {w : World} {g p q : Nat} {v : Value} (h : p ≠ q) : (w.setCell ⟨g, p, none⟩ v).cell? ⟨g, q, none⟩ = w.cell? ⟨g, q, none⟩ :=
  World.cell?_setCell_other _ _ _ _ (by simp)
theorem sam {w : World} {g p : Nat} {u v : Value} (h : w.cell? ⟨g, p, none⟩ = some u) : (w.setCell ⟨g, p, none⟩ v).cell? ⟨g, p, none⟩ = some v :=
  World.cell?_setCell_same _ _ _ h

theorem put5_far (w : World) (g p o : Nat) (v0 v1 v2 v3 v4 : Value) (h : o < p ∨ p + 5 ≤ o) : (put5 w g p v0 v1 v2 v3 v4).cell? ⟨g, o, none⟩ = w.cell? ⟨g, o, none⟩ := by
  rw [oth (by omega), oth (by omega), oth (by omega), oth (by omega), oth (by omega)]

theorem put5_near (w : World) (g p : Nat) (v0 v1 v2 v3 v4 y0 y1 y2 y3 y4 : Value) (d0 : w.cell? ⟨g, p, none⟩ = some y0) (d1 : w.cell? ⟨g, p + 1, none⟩ = some y1)
    (d2 : w.cell? ⟨g, p + 2, none⟩ = some y2) (d3 : w.cell? ⟨g, p + 3, none⟩ = some y3) (d4 : w.cell? ⟨g, p + 4, none⟩ = some y4) :
    (put5 w g p v0 v1 v2 v3 v4).cell? ⟨g, p, none⟩ = some v0 ∧ (put5 w g p v0 v1 v2 v3 v4).cell? ⟨g, p + 1, none⟩ = some v1 ∧ (put5 w g p v0 v1 v2 v3 v4).cell? ⟨g, p + 2, none⟩ = some v2 ∧
    (put5 w g p v0 v1 v2 v3 v4).cell? ⟨g, p + 3, none⟩ = some v3 ∧ (put5 w g p v0 v1 v2 v3 v4).cell? ⟨g, p + 4, none⟩ = some v4 := by
  refine ⟨?_, ?_, ?_, ?_, ?_⟩
  · rw [oth (by omega), oth (by omega), oth (by omega), oth (by omega)]
    exact sam d0
  · rw [oth (by omega), oth (by omega), oth (by omega)]
    refine sam (u := y1) ?_
    rw [oth (by omega)]; exact d1
  · rw [oth (by omega), oth (by omega)]
    refine sam (u := y2) ?_
    rw [oth (by omega), oth (by omega)]; exact d2
  · rw [oth (by omega)]
    refine sam (u := y3) ?_
    rw [oth (by omega), oth (by omega), oth (by omega)]; exact d3
  · refine sam (u := y4) ?_
    rw [oth (by omega), oth (by omega), oth (by omega), oth (by omega)]; exact d4

theorem put5_size (w : World) (g p : Nat) (v0 v1 v2 v3 v4 : Value) : (put5 w g p v0 v1 v2 v3 v4).drew.heap.size = w.heap.size := by
  simp

theorem vrow_step {w : World} {g k : Nat} {N R : Nat → ByteArray} {F S : Nat → Bool} {Z : Nat → Int} {y0 y1 y2 y3 y4 : Value}
    (hv : VRow w (some ⟨g, 0, none⟩) k N R F S Z) (hle : k < 9223372036854775807) (h1 : (N k).size ≤ 9223372036854775807) (h2 : (R k).size ≤ 9223372036854775807) (hg : g < w.heap.size)
    (d0 : w.cell? ⟨g, k * 5, none⟩ = some y0) (d1 : w.cell? ⟨g, k * 5 + 1, none⟩ = some y1) (d2 : w.cell? ⟨g, k * 5 + 2, none⟩ = some y2) (d3 : w.cell? ⟨g, k * 5 + 3, none⟩ = some y3)
    (d4 : w.cell? ⟨g, k * 5 + 4, none⟩ = some y4) :
    VRow (put5 w g (k * 5) (.string (N k)) (.bool (F k)) (.string (R k)) (.bool (S k)) (.int .i64 (Z k))).drew (some ⟨g, 0, none⟩) (k + 1) N R F S Z := by
  refine ⟨by omega, fun i hi => ⟨g, 0, rfl, ?_⟩⟩
  simp only [Nat.zero_add, World.cell?_drew]
  by_cases h : i = k
  · subst h
    obtain ⟨e0, e1, e2, e3, e4⟩ := put5_near w g (i * 5) (.string (N i)) (.bool (F i)) (.string (R i)) (.bool (S i)) (.int .i64 (Z i)) y0 y1 y2 y3 y4 d0 d1 d2 d3 d4
    exact ⟨e0, e1, e2, e3, e4, by rw [put5_size]; exact hg, h1, h2⟩
  · obtain ⟨b, off, hx, c0, c1, c2, c3, c4, hb, h1', h2'⟩ := hv.ok i (by omega)
    simp at hx
    obtain ⟨rfl, rfl⟩ := hx
    simp only [Nat.zero_add] at c0 c1 c2 c3 c4
    refine ⟨?_, ?_, ?_, ?_, ?_, by rw [put5_size]; exact hg, h1', h2'⟩
    all_goals rw [put5_far _ _ _ _ _ _ _ _ _ (by omega)]; assumption

theorem below_put5 {B : Nat} {a w : World} (h : Below B a w) {g : Nat} (hg : B ≤ g) (p : Nat) (v0 v1 v2 v3 v4 : Value) : Below B a (put5 w g p v0 v1 v2 v3 v4).drew :=
  (((((h.setCell hg _).setCell hg _).setCell hg _).setCell hg _).setCell hg _).drew

theorem own_put5 {w : World} {B e g n cap : Nat} {xs : List Value} (h : w.ownsRow B e 5 (.slice (some ⟨g, 0, none⟩) n cap) n xs) (p : Nat) (v0 v1 v2 v3 v4 : Value) :
    ∃ ys, ys.length = xs.length ∧ (put5 w g p v0 v1 v2 v3 v4).drew.ownsRow B e 5 (.slice (some ⟨g, 0, none⟩) n cap) n ys :=
  ⟨_, by simp, (((((h.stored _ v0).1.stored _ v1).1.stored _ v2).1.stored _ v3).1.stored _ v4).1.drew⟩

set_option maxHeartbeats 1000000 in
theorem toV_any {w : World} {x : Addr} {len cap : Nat} {N R : Nat → ByteArray} {F S : Nat → Bool} {Z : Nat → Int} (hv : VRow w (some x) len N R F S Z) (hl : len ≤ 65536) :
    Calls Trym.prog 7 #[.slice (some x) len cap] w fun e w' => e = .returned (.slice (some ⟨w.heap.size, 0, none⟩) len len) ∧ VRow w' (some ⟨w.heap.size, 0, none⟩) len N R F S Z ∧ Below w.heap.size w w' := by
  obtain ⟨i0, hi, hz0, hz1, hz2⟩ := info_parts Trym.info31
  have qn : ∀ (w : World) (a : Option Addr) (n c n' c' : Nat), (binOp .eql 22 (.slice a n c) (.slice none n' c')).run Trym.prog w = .ok (.bool a.isNone) w := fun w a n c n' c' => Lib.run_eql_slice_nil w _ _ a n c n' c' Trym.underlying22
  go_enter Trym.func7, Trym.ntmps7
  go_wp2_with (at_make; go_loud (refine wpList_make_full _ rfl (.tmp 8) (.tmp 8) 25 rfl w.heap.size 31 i0 _ 5 Trym.underlying25 hi hz0 hz1 .i64 .i64 _ _ len rfl rfl (by omega) (by omega) (by rw [hz2]; omega) (by unfold maxLen; omega) (Nat.le_refl _) ?_); intro w1 hown hgrow)
  clear hi hz0 hz1 hz2
  have hb1 : Below w.heap.size w w1 := (Below.refl _ _).grown hgrow (Nat.le_refl _) (by intro k hk; cases hk)
  go_loopw [4] (fun i wr => ∃ (k : Nat) (xs : List Value), k ≤ len ∧ i = .int .i64 k ∧ xs.length = len * 5 ∧ wr.ownsRow w.heap.size 31 5 (.slice (some ⟨w.heap.size, 0, none⟩) len len) len xs ∧ VRow wr (some ⟨w.heap.size, 0, none⟩) k N R F S Z ∧ Below w.heap.size w wr) (fun i _ => len - (intOf i).toNat)
  case atStart => exact ⟨0, _, Nat.zero_le _, rfl, by simp [madeCells], hown, ⟨by omega, fun i hi => by omega⟩, hb1⟩
  case round =>
    obtain ⟨k, xs, hk, rfl, hxl, hown', hv', hbr⟩ := hrel
    by_cases hlt : k < len
    · obtain ⟨b, off, hx, c0, c1, c2, c3, c4, hb, h1, h2⟩ := (hv.below hbr).ok k hlt
      obtain rfl : x = ⟨b, off, none⟩ := by simpa using hx
      have b0 : (0 : Int) ≤ k := by omega
      have b1 : (k : Int) < len := by omega
      clear hown
      have d0 : wr.cell? ⟨w.heap.size, k * 5, none⟩ = some (xs[k*5]'(by omega)) := by rw [hown'.cellAt _ (by omega)]; simp
      have d1 : wr.cell? ⟨w.heap.size, k * 5 + 1, none⟩ = some (xs[k*5+1]'(by omega)) := by rw [hown'.cellAt _ (by omega)]; simp
      have d2 : wr.cell? ⟨w.heap.size, k * 5 + 2, none⟩ = some (xs[k*5+2]'(by omega)) := by rw [hown'.cellAt _ (by omega)]; simp
      have d3 : wr.cell? ⟨w.heap.size, k * 5 + 3, none⟩ = some (xs[k*5+3]'(by omega)) := by rw [hown'.cellAt _ (by omega)]; simp
      have d4 : wr.cell? ⟨w.heap.size, k * 5 + 4, none⟩ = some (xs[k*5+4]'(by omega)) := by rw [hown'.cellAt _ (by omega)]; simp
      have e0 := hown'.frozenAt (k * 5)
      have e1 := hown'.frozenAt (k * 5 + 1)
      have e2 := hown'.frozenAt (k * 5 + 2)
      have e3 := hown'.frozenAt (k * 5 + 3)
      have e4 := hown'.frozenAt (k * 5 + 4)
      generalize xs[k*5]'(by omega) = y0 at d0
      generalize xs[k*5+1]'(by omega) = y1 at d1
      generalize xs[k*5+2]'(by omega) = y2 at d2
      generalize xs[k*5+3]'(by omega) = y3 at d3
      generalize xs[k*5+4]'(by omega) = y4 at d4
      go_wp2
      go_region
      all_goals go_wp2
      go_roundw
      case rel =>
        obtain ⟨ys, hyl, hys⟩ := own_put5 hown' (k * 5) (.string (N k)) (.bool (F k)) (.string (R k)) (.bool (S k)) (.int .i64 (Z k))
        exact ⟨k + 1, ys, by omega, by go_num, by omega, hys, vrow_step hv' (by omega) h1 h2 (World.block_lt_of_cell? _ _ d0) d0 d1 d2 d3 d4, below_put5 hbr (Nat.le_refl _) _ _ _ _ _ _⟩
      case measure => simp [intOf]; omega
    · have : k = len := by omega
      subst this
      go_wp2
      go_ret
      exact ⟨rfl, hv', hbr⟩

theorem toV_nil {w : World} {len cap : Nat} :
    Calls Trym.prog 7 #[.slice none len cap] w fun e w' => e = .returned (.slice none 0 0) ∧ w' = w := by
  have qn : ∀ (w : World) (a : Option Addr) (n c n' c' : Nat), (binOp .eql 22 (.slice a n c) (.slice none n' c')).run Trym.prog w = .ok (.bool a.isNone) w := fun w a n c n' c' => Lib.run_eql_slice_nil w _ _ a n c n' c' Trym.underlying22
  go_enter Trym.func7, Trym.ntmps7
  go_wp2
  go_ret
  exact ⟨rfl, rfl⟩
end Go.Proofs.Qxb6605678aMods.W
