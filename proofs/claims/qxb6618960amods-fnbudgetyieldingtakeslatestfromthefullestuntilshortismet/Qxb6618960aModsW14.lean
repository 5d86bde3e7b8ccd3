import Derived.Test.Qxb6618960aModsLens
namespace Go.Proofs.Qxb6618960aMods.W
open Go.ChangeShapes Go.WideShapes Go.ChangeAt Go.RowKit

theorem info3 : (Trym.prog.info? 3).map (fun i => (i.zero, i.size, i.bytes)) = some (some (.int .i64 0), 1, 8) := by kernel_rfl
theorem info94 : (Trym.prog.info? 94).map (fun i => i.size) = some 12 := by kernel_rfl

theorem eq42_same (w : World) (a : Addr) : (binOp .eql 42 (.pointer (some a)) (.pointer (some a))).run Trym.prog w = .ok (.bool true) w := by
  cases hj : Trym.prog.info? 94 with
  | none => have := info94; rw [hj] at this; cases this
  | some j => exact run_eql_ptr_same w a Trym.underlying42 hj

theorem eq42_other {w : World} {a b : Nat} {ca cb : Array Value} {ta tb : TypeId} (hne : a ≠ b) (ha : w.heap[a]? = some (.cells ca ta (0, 0))) (hb : w.heap[b]? = some (.cells cb tb (0, 0))) :
    (binOp .eql 42 (ptr a) (ptr b)).run Trym.prog w = .ok (.bool false) w := by
  cases hj : Trym.prog.info? 94 with
  | none => have := info94; rw [hj] at this; cases this
  | some j =>
    have hsz : j.size ≠ 0 := by have := info94; rw [hj] at this; simp at this; omega
    exact run_eql_ptr_other w Trym.underlying42 hj hsz (by intro e; cases e; exact hne rfl) ha hb

theorem Row.put {w : World} {b n : Nat} {t : TypeId} {v v' : Nat → Value} (h : Row w b n n t v) {p : Nat} (hp : p < n) {x : Value} (hx : v' p = x) (ho : ∀ q, q < n → q ≠ p → v' q = v q) : Row (w.setCell ⟨b, p, none⟩ x) b n n t v' := by
  obtain ⟨cs, h1, h2, h3⟩ := h
  refine ⟨_, set_here h1 x, by simp [h2], fun q hq => ?_⟩
  rw [Array.getElem?_setIfInBounds]
  by_cases e : p = q
  · subst e; simp [h2, hp, hx]
  · simp [e]; rw [ho q hq (fun e' => e e'.symm)]; exact h3 q hq

/-- The rows cur and top, where tau frames are left. -/
structure K (w2 wr : World) (n : Nat) (X : Nat → Int) (Z : Nat → Nat → Int) (τ : Nat → Nat) : Prop where
  below : Below w2.heap.size w2 wr
  cu : Row wr w2.heap.size n n 2 (fun p => .int .i64 (P.cur X Z τ p))
  tp : Row wr (w2.heap.size + 1) n n 3 (fun p => .int .i64 ((τ p : Int) - 1))

theorem K.drewN {w2 wr : World} {n : Nat} {X : Nat → Int} {Z : Nat → Nat → Int} {τ : Nat → Nat} (h : K w2 wr n X Z τ) (m : Nat) : K w2 (wr.drewN m) n X Z τ :=
  ⟨below_drewN h.below m, h.cu.keep rfl, h.tp.keep rfl⟩

theorem K.step {w2 wr : World} {n : Nat} {X : Nat → Int} {Z : Nat → Nat → Int} {τ : Nat → Nat} (h : K w2 wr n X Z τ) {p t : Nat} (hp : p < n) (ht : τ p = t + 1) :
    K w2 ((wr.setCell ⟨w2.heap.size, p, none⟩ (.int .i64 (P.cur X Z τ p - Z p t))).setCell ⟨w2.heap.size + 1, p, none⟩ (.int .i64 ((t : Int) - 1))) n X Z (P.updN τ p (τ p - 1)) := by
  obtain ⟨h1, h2, h3⟩ := h
  refine ⟨(h1.setCell (Nat.le_refl _) _).setCell (by simp) _, ?_, ?_⟩
  · refine Row.keep (w := wr.setCell ⟨w2.heap.size, p, none⟩ (.int .i64 (P.cur X Z τ p - Z p t))) (h2.put hp ?_ (fun q hq hne => ?_)) (set_far (by omega))
    · simp only [P.cur, P.updN_same, ht, Nat.add_sub_cancel, P.S]
      congr 1
      omega
    · simp only [P.cur]
      rw [P.updN_other _ _ hne]
  · refine Row.put (v := fun p => .int .i64 ((τ p : Int) - 1)) (h3.keep (set_far (by omega))) hp ?_ (fun q hq hne => ?_)
    · simp only [P.updN_same, ht, Nat.add_sub_cancel]
    · rw [P.updN_other _ _ hne]

/-- Laying the rows. -/
structure K0 (w2 wr : World) (n k : Nat) (L : Nat → Nat) (X : Nat → Int) (Z : Nat → Nat → Int) : Prop where
  below : Below w2.heap.size w2 wr
  cu : Row wr w2.heap.size n k 2 (fun p => .int .i64 (hold L X Z p))
  tp : Row wr (w2.heap.size + 1) n k 3 (fun p => .int .i64 ((L p : Int) - 1))

theorem k0_zero (w2 : World) (n : Nat) (L : Nat → Nat) (X : Nat → Int) (Z : Nat → Nat → Int) : K0 w2 ((w2.alloc (.cells (madeCells #[.int .i64 0] n) 2)).alloc (.cells (madeCells #[.int .i64 0] n) 3)) n 0 L X Z := by
  have s1 : (w2.alloc (.cells (madeCells #[.int .i64 0] n) 2)).heap.size = w2.heap.size + 1 := by simp
  have r1 := row_made w2 n 2 (.int .i64 0) (fun p => Value.int .i64 (hold L X Z p))
  have r2 := row_made (w2.alloc (.cells (madeCells #[.int .i64 0] n) 2)) n 3 (.int .i64 0) (fun p => Value.int .i64 ((L p : Int) - 1))
  rw [s1] at r2
  exact ⟨((Below.refl _ _).alloc (Nat.le_refl _) _).alloc (by omega) _, r1.keep (Below.heap_alloc _ _ _ (by omega)), r2⟩

theorem K0.step {w2 wr : World} {n k : Nat} {L : Nat → Nat} {X : Nat → Int} {Z : Nat → Nat → Int} (h : K0 w2 wr n k L X Z) (hk : k < n) :
    K0 w2 ((wr.setCell ⟨w2.heap.size, k, none⟩ (.int .i64 (hold L X Z k))).setCell ⟨w2.heap.size + 1, k, none⟩ (.int .i64 ((L k : Int) - 1))) n (k + 1) L X Z := by
  obtain ⟨h1, h2, h3⟩ := h
  exact ⟨(h1.setCell (Nat.le_refl _) _).setCell (by simp) _, Row.keep (w := wr.setCell ⟨w2.heap.size, k, none⟩ (.int .i64 (hold L X Z k))) (h2.set hk rfl) (set_far (by omega)), Row.set (v := fun p => .int .i64 ((L p : Int) - 1)) (h3.keep (set_far (by omega))) hk rfl⟩

theorem K0.done {w2 wr : World} {n : Nat} {L : Nat → Nat} {X : Nat → Int} {Z : Nat → Nat → Int} {pk : Nat → Nat} (h : K0 w2 wr n n L X Z) : K w2 wr n X Z (P.tauAt L pk 0) := ⟨h.below, h.cu, h.tp⟩

/-- What the picked peer held at the pick ahead. -/
def lastAt (L : Nat → Nat) (X : Nat → Int) (Z : Nat → Nat → Int) (pk : Nat → Nat) : Nat → Int
  | 0 => 0
  | i + 1 => P.cur X Z (P.tauAt L pk i) (pk i)

/-- Claims of two peers are apart. -/
theorem St.apart {w0 w : World} {n : Nat} {L : Nat → Nat} {X : Nat → Int} {Z : Nat → Nat → Int} {l rw : Nat → Nat} {e c : Nat → Nat → Nat} (h : St w0 w n n L X Z l rw e c) {p q i j : Nat} (hp : p < n) (hq : q < n) (hne : p ≠ q) (hi : i < L p) (hj : j < L q) : c p i ≠ c q j := by
  rcases Nat.lt_or_gt_of_ne hne with hlt | hlt
  · have a := h.sep p q hlt hq i hi
    have b := (h.lists q hq).clo j hj
    omega
  · have a := h.sep q p hlt hp j hj
    have b := (h.lists p hp).clo i hi
    omega
end Go.Proofs.Qxb6618960aMods.W
