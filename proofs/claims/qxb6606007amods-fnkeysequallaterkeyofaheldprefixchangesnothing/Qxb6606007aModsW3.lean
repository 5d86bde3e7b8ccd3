import Derived.Test.Qxb6606007aModsW2
namespace Go.Proofs.Qxb6606007aMods.W
open Go.ChangeShapes Go.WideShapes Go.ChangeAt Go.RowKit

theorem Trym.info34 : (Trym.prog.info? 34).map (fun i => (i.zero, i.size, i.bytes)) = some (some (.agg #[.string ⟨#[]⟩, .string ⟨#[]⟩]), 2, 32) := by kernel_rfl

theorem oth {w : World} {g p q : Nat} {v : Value} (h : p ≠ q) : (w.setCell ⟨g, p, none⟩ v).cell? ⟨g, q, none⟩ = w.cell? ⟨g, q, none⟩ :=
  World.cell?_setCell_other _ _ _ _ (by simp)
theorem sam {w : World} {g p : Nat} {u v : Value} (h : w.cell? ⟨g, p, none⟩ = some u) : (w.setCell ⟨g, p, none⟩ v).cell? ⟨g, p, none⟩ = some v :=
  World.cell?_setCell_same _ _ _ h

/-- Two cells laid from p on. -/
abbrev put2 (w : World) (g p : Nat) (v0 v1 : Value) : World := (w.setCell ⟨g, p, none⟩ v0).setCell ⟨g, p + 1, none⟩ v1

theorem prow_step {w : World} {g k : Nat} {A S : Nat → ByteArray} {y0 y1 : Value}
    (hv : PRow w (some ⟨g, 0, none⟩) k A S) (hle : k < 9223372036854775807) (h1 : (A k).size ≤ 9223372036854775807) (h2 : (S k).size ≤ 9223372036854775807) (hg : g < w.heap.size)
    (d0 : w.cell? ⟨g, k * 2, none⟩ = some y0) (d1 : w.cell? ⟨g, k * 2 + 1, none⟩ = some y1) :
    PRow (put2 w g (k * 2) (.string (A k)) (.string (S k))) (some ⟨g, 0, none⟩) (k + 1) A S := by
  refine ⟨by omega, fun i hi => ⟨g, 0, rfl, ?_⟩⟩
  simp only [Nat.zero_add]
  have hz : g < (put2 w g (k * 2) (.string (A k)) (.string (S k))).heap.size := by simpa using hg
  by_cases h : i = k
  · subst h
    refine ⟨?_, ?_, hz, h1, h2⟩
    · rw [oth (by omega)]; exact sam d0
    · refine sam (u := y1) ?_
      rw [oth (by omega)]; exact d1
  · obtain ⟨b, off, hx, c0, c1, hb, h1', h2'⟩ := hv.ok i (by omega)
    simp at hx
    obtain ⟨rfl, rfl⟩ := hx
    simp only [Nat.zero_add] at c0 c1
    refine ⟨?_, ?_, hz, h1', h2'⟩
    · rw [oth (by omega), oth (by omega)]; exact c0
    · rw [oth (by omega), oth (by omega)]; exact c1

theorem cells2 {w : World} {B e g n cap k : Nat} {xs : List Value} (h : w.ownsRow B e 2 (.slice (some ⟨g, 0, none⟩) n cap) n xs) (hl : xs.length = n * 2) (hk : k < n) :
    (∃ y, w.cell? ⟨g, k * 2, none⟩ = some y) ∧ (∃ y, w.cell? ⟨g, k * 2 + 1, none⟩ = some y) := by
  refine ⟨⟨xs[k * 2], ?_⟩, ⟨xs[k * 2 + 1], ?_⟩⟩
  all_goals rw [h.cellAt _ (by omega)]; simp

set_option maxHeartbeats 1000000 in
theorem clone_some {w : World} {x : Addr} {len cap : Nat} {A S : Nat → ByteArray} (hv : PRow w (some x) len A S) (hl : len ≤ 4096) :
    Calls Trym.prog 9 #[.slice (some x) len cap] w fun e w' => e = .returned (.slice (some ⟨w.heap.size, 0, none⟩) len len) ∧ PRow w' (some ⟨w.heap.size, 0, none⟩) len A S ∧ Below w.heap.size w w' := by
  obtain ⟨i0, hi, hz0, hz1, hz2⟩ := info_parts Trym.info34
  have qn : ∀ (w : World) (a : Option Addr) (n c n' c' : Nat), (binOp .eql 22 (.slice a n c) (.slice none n' c')).run Trym.prog w = .ok (.bool a.isNone) w := fun w a n c n' c' => Lib.run_eql_slice_nil w _ _ a n c n' c' Trym.underlying22
  go_enter Trym.func9, Trym.ntmps9
  go_wp2_with (at_make; refine wpList_make_full _ rfl (.tmp 8) (.tmp 8) 22 rfl w.heap.size 34 i0 _ 2 Trym.underlying22 hi hz0 hz1 .i64 .i64 _ _ len rfl rfl (by omega) (by omega) (by rw [hz2]; omega) (by unfold maxLen; omega) (Nat.le_refl _) ?_; intro w1 hown hgrow)
  clear hi hz0 hz1 hz2
  have hb1 : Below w.heap.size w w1 := (Below.refl _ _).grown hgrow (Nat.le_refl _) (by intro k hk; cases hk)
  go_loopw [4] (fun i wr => ∃ (k : Nat) (xs : List Value), k ≤ len ∧ i = .int .i64 k ∧ xs.length = len * 2 ∧ wr.ownsRow w.heap.size 34 2 (.slice (some ⟨w.heap.size, 0, none⟩) len len) len xs ∧ PRow wr (some ⟨w.heap.size, 0, none⟩) k A S ∧ Below w.heap.size w wr) (fun i _ => len - (intOf i).toNat)
  case atStart => exact ⟨0, _, Nat.zero_le _, rfl, by simp [madeCells], hown, ⟨by omega, fun i hi => by omega⟩, hb1⟩
  case round =>
    clear hown hb1 hgrow
    obtain ⟨k, xs, hk, rfl, hxl, hown, hv', hbr⟩ := hrel
    by_cases hlt : k < len
    · obtain ⟨b, off, hx, c0, c1, hb, h1, h2⟩ := (hv.below hbr).ok k hlt
      obtain rfl : x = ⟨b, off, none⟩ := by simpa using hx
      obtain ⟨⟨y0, d0⟩, ⟨y1, d1⟩⟩ := cells2 hown hxl hlt
      have e0 := hown.frozenAt (k * 2)
      have e1 := hown.frozenAt (k * 2 + 1)
      go_wp2
      go_roundw
      case rel => exact ⟨k + 1, _, by omega, by go_num, by simp [hxl], ((hown.stored (k * 2) (.string (A k))).1.stored (k * 2 + 1) (.string (S k))).1, prow_step hv' (by omega) h1 h2 (World.block_lt_of_cell? _ _ d0) d0 d1, (hbr.setCell (Nat.le_refl _) _).setCell (Nat.le_refl _) _⟩
      case measure => simp [intOf]; omega
    · obtain rfl : len = k := by omega
      go_wp2
      go_ret
      exact ⟨rfl, hv', hbr⟩

theorem clone_nil {w : World} {len cap : Nat} :
    Calls Trym.prog 9 #[.slice none len cap] w fun e w' => e = .returned (.slice none 0 0) ∧ w' = w := by
  have qn : ∀ (w : World) (a : Option Addr) (n c n' c' : Nat), (binOp .eql 22 (.slice a n c) (.slice none n' c')).run Trym.prog w = .ok (.bool a.isNone) w := fun w a n c n' c' => Lib.run_eql_slice_nil w _ _ a n c n' c' Trym.underlying22
  go_enter Trym.func9, Trym.ntmps9
  go_wp2
  go_ret
  exact ⟨rfl, rfl⟩

theorem clone_any {w : World} {ao : Option Addr} {len cap : Nat} {A S : Nat → ByteArray} (hv : PRow w ao len A S) (hl : len ≤ 4096) :
    Calls Trym.prog 9 #[.slice ao len cap] w fun e w' => ∃ ao' cap', e = .returned (.slice ao' len cap') ∧ PRow w' ao' len A S ∧ Below w.heap.size w w' := by
  cases ao with
  | none =>
    have h0 : len = 0 := by
      by_cases h : 0 < len
      · obtain ⟨b, off, hx, _⟩ := hv.ok 0 h
        cases hx
      · omega
    subst h0
    refine clone_nil.mono ?_
    rintro e w' ⟨rfl, rfl⟩
    exact ⟨none, 0, rfl, ⟨by omega, fun i hi => by omega⟩, Below.refl _ _⟩
  | some x =>
    refine (clone_some hv hl).mono ?_
    rintro e w' ⟨rfl, h1, h2⟩
    exact ⟨_, _, rfl, h1, h2⟩
end Go.Proofs.Qxb6606007aMods.W
