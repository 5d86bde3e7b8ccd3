import Derived.Test.Qxb6618960aModsW4
import Derived.Test.Qxb6618960aModsPlain
import Derived.Laws.IdiomStrings
namespace Go.Proofs.Qxb6618960aMods.W
open Go.ChangeShapes Go.WideShapes Go.ChangeAt Go.RowKit

/-- The tail t of the row of bytes in block A. -/
structure Tail (w : World) (A : Nat) (t : List UInt8) : Prop where
  here : ∃ cs : Array Value, w.heap[A]? = some (Obj.cells cs 88 (0, 0)) ∧ cs.size = 24 ∧ ∀ j (hj : j < t.length), cs[24 - t.length + j]? = some (.int .u8 (t[j].toNat : Int))
  le : t.length ≤ 24

theorem Tail.cons {w : World} {A : Nat} {t : List UInt8} (h : Tail w A t) (ht : t.length < 24) (b : UInt8) : Tail (w.setCell ⟨A, 24 - t.length - 1, none⟩ (.int .u8 (b.toNat : Int))) A (b :: t) := by
  obtain ⟨⟨cs, h1, h2, h3⟩, _⟩ := h
  refine ⟨⟨_, set_here h1 _, by simp [h2], fun j hj => ?_⟩, by simp; omega⟩
  cases j with
  | zero =>
    have : 24 - (b :: t).length + 0 = 24 - t.length - 1 := by simp; omega
    rw [this]
    have hlt : 24 - t.length - 1 < cs.size := by omega
    simp [hlt]
  | succ j =>
    have hj' : j < t.length := by simpa using hj
    have : 24 - (b :: t).length + (j + 1) = 24 - t.length + j := by simp; omega
    rw [this]
    have := h3 j hj'
    simp [Array.getElem?_setIfInBounds]
    rw [if_neg (by omega)]
    exact this

theorem tail_new (w : World) (cs : Array Value) (h : cs.size = 24) : Tail (w.alloc (.cells cs 88)) w.heap.size [] :=
  ⟨⟨cs, (MapKept.heap_alloc w _).1, h, fun j hj => absurd hj (by simp)⟩, by simp⟩

theorem Tail.conv {w : World} {A : Nat} {t : List UInt8} (h : Tail w A t) :
    (convert 22 9 (.slice (some ⟨A, 24 - t.length, none⟩) t.length t.length)).run Trym.prog w = .ok (.string ⟨t.toArray⟩) w := by
  obtain ⟨⟨cs, h1, h2, h3⟩, _⟩ := h
  refine run_convert_bytes_back w 22 9 5 ⟨A, 24 - t.length, none⟩ t.length t Trym.underlying22 Trym.underlying5 Trym.underlying9 fun j hj => ?_
  have := h3 j hj
  rw [show (⟨A, 24 - t.length, none⟩ : Addr).add j = ⟨A, 24 - t.length + j, none⟩ from by unfold Addr.add; split <;> simp_all, cell_of h1]
  exact this

/-- Where the loop of the digits stands: k of them written. -/
structure Wr (p k q : Nat) (t : List UInt8) : Prop where
  len : t.length = k
  fits : q < 10 ^ (4 - k)
  dig : P.dig (5 - k) q ++ t = P.dig 5 p

set_option maxHeartbeats 1000000 in
set_option maxRecDepth 100000 in
theorem name_any {w : World} {p : Nat} (hp : p < 1024) :
    Calls Trym.prog 24 #[.int .i64 (p : Int)] w fun e w' => e = .returned (.string (P.nm p)) ∧ Below w.heap.size w w' := by
  go_enter Trym.func24, Trym.ntmps24
  go_wp2
  go_loopw [0, 4] (fun v i wr => ∃ (k q : Nat) (t : List UInt8), k ≤ 3 ∧ v = .int .i64 (q : Int) ∧ i = .int .i64 ((24 - k : Nat) : Int) ∧ Wr p k q t ∧ Tail wr w.heap.size t ∧ Below w.heap.size w wr) (fun v _ _ => (intOf v).toNat)
  case atStart => exact ⟨0, p, [], by omega, rfl, rfl, ⟨rfl, by omega, by simp⟩, tail_new w _ (by simp), (Below.refl _ _).alloc (Nat.le_refl _) _⟩
  case round =>
    obtain ⟨k, q, t, hk, rfl, rfl, hwr, htl, hb⟩ := hrel
    have HT : Hid (Tail wr w.heap.size t) := htl
    have hlen := hwr.len
    have T1 := htl.cons (by omega) (UInt8.ofNat (48 + q % 10))
    rw [P.byte_val (Nat.mod_lt q (by omega)), hlen] at T1
    have T2 := T1.cons (by simp; omega) 112
    have hl1 : (UInt8.ofNat (48 + q % 10) :: t).length = k + 1 := by simp [hlen]
    rw [hl1] at T2
    have hcv := T2.conv
    have hl2 : (112 :: UInt8.ofNat (48 + q % 10) :: t).length = k + 2 := by simp [hlen]
    rw [hl2] at hcv
    obtain ⟨⟨cs, h1, h2, h3⟩, _⟩ := htl
    have hq := hwr.fits
    obtain ⟨old, c0⟩ : ∃ old, wr.cell? ⟨w.heap.size, 24 - k - 1, none⟩ = some old := ⟨_, (cell_of h1).trans (Array.getElem?_eq_getElem (show 24 - k - 1 < cs.size by omega))⟩
    have f0 : wr.frozen? ⟨w.heap.size, 24 - k - 1, none⟩ = false := free_of h1
    obtain ⟨old', c1⟩ : ∃ old, wr.cell? ⟨w.heap.size, 24 - (k + 1) - 1, none⟩ = some old := ⟨_, (cell_of h1).trans (Array.getElem?_eq_getElem (show 24 - (k + 1) - 1 < cs.size by omega))⟩
    have f1 : wr.frozen? ⟨w.heap.size, 24 - (k + 1) - 1, none⟩ = false := free_of h1
    have hb1 : Below w.heap.size w (wr.setCell ⟨w.heap.size, 24 - k - 1, none⟩ (.int .u8 ((48 + q % 10 : Nat) : Int))) := hb.setCell (by simp) _
    have hb2 : Below w.heap.size w ((wr.setCell ⟨w.heap.size, 24 - k - 1, none⟩ (.int .u8 ((48 + q % 10 : Nat) : Int))).setCell ⟨w.heap.size, 24 - (k + 1) - 1, none⟩ (.int .u8 112)) := hb1.setCell (by simp) _
    have e1 : ((48 + q % 10 : Nat) : Int) = 48 + (q : Int) % 10 := by omega
    have e2 : ((112 : UInt8).toNat : Int) = 112 := by decide
    rw [e1] at T1 hcv hb1 hb2
    rw [e2] at hcv
    have HT1 : Hid _ := T1
    have HB1 : Hid _ := hb1
    have HB2 : Hid _ := hb2
    clear h1 h2 h3 T1 T2 hl1 hl2 hb1 hb2 e1 e2 hlen
    by_cases h10 : q < 10
    · have hd : P.nm p = ⟨(112 :: UInt8.ofNat (48 + q % 10) :: t).toArray⟩ := by
        have := hwr.dig
        have h5 : 5 - k = (4 - k) + 1 := by omega
        rw [h5, P.dig, if_pos h10] at this
        unfold P.nm
        rw [← this]
        rfl
      rw [← hd] at hcv
      have hz : ((q : Int) / 10 == 0) = true := by simp; omega
      clear hwr hd
      have hk' : k = 0 ∨ k = 1 ∨ k = 2 ∨ k = 3 := by omega
      rcases hk' with rfl | rfl | rfl | rfl
      all_goals
        simp only [Nat.reduceSub, Nat.reduceAdd] at c0 f0 c1 f1 hcv
        go_wp2
        go_ret
        exact ⟨rfl, HB2.out⟩
    · have hk2 : k + 1 ≤ 3 := by
        rcases Nat.lt_or_ge k 3 with h | h
        · omega
        · have : k = 3 := by omega
          subst this
          simp at hq
          omega
      have hw2 : Wr p (k + 1) (q / 10) (UInt8.ofNat (48 + q % 10) :: t) := by
        refine ⟨by simp [hwr.len], ?_, ?_⟩
        · have h4 : 4 - k = (4 - (k + 1)) + 1 := by omega
          rw [h4, Nat.pow_succ] at hq
          generalize 10 ^ (4 - (k + 1)) = y at *
          omega
        · have := hwr.dig
          have h5 : 5 - k = (5 - (k + 1)) + 1 := by omega
          rw [h5, P.dig, if_neg h10] at this
          rw [← this]
          simp
      have HW2 : Hid _ := hw2
      have hz : ((q : Int) / 10 == 0) = false := by simp; omega
      clear hwr hw2 hcv
      have hk' : k = 0 ∨ k = 1 ∨ k = 2 := by omega
      rcases hk' with rfl | rfl | rfl
      all_goals
        simp only [Nat.reduceSub] at c0 f0
        go_wp2
        go_roundw
        case rel => exact ⟨_, q / 10, _, hk2, by go_num, rfl, HW2.out, HT1.out, HB1.out⟩
        case measure => simp [intOf]; omega
end Go.Proofs.Qxb6618960aMods.W
