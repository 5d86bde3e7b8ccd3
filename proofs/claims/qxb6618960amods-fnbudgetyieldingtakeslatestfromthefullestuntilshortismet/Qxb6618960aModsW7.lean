import Derived.Test.Qxb6618960aModsW6
namespace Go.Proofs.Qxb6618960aMods.W
open Go.ChangeShapes Go.WideShapes Go.ChangeAt Go.RowKit
open Go.Proofs.Qxb6618960aMods.T (MapIs upd upd_same upd_other mapIs_made wpList_look wpList_look_ok wpList_store wpList_next_tok tok key Rd)

theorem info38 : (Trym.prog.info? 38).map (fun i => (i.zero, i.size, i.bytes)) = some (some (.slice none 0 0), 1, 24) := by kernel_rfl
theorem info2 : (Trym.prog.info? 2).map (fun i => (i.zero, i.size, i.bytes)) = some (some (.int .i64 0), 1, 8) := by kernel_rfl
theorem info42 : (Trym.prog.info? 42).map (fun i => (i.zero, i.size, i.bytes)) = some (some (.pointer none), 1, 8) := by kernel_rfl

theorem LInv.setOther {w : World} {l m : Nat} {e c : Nat → Nat} {z : Nat → Int} {r i : Nat} {cs : Array Value} {t : TypeId} {fr : Nat × Nat} (h : LInv w l m e c z) (hr : w.heap[r]? = some (Obj.cells cs t fr)) (h1 : t ≠ 94) (h2 : t ≠ 99) (h3 : t ≠ 107) (v : Value) : LInv (w.setCell ⟨r, i, none⟩ v) l m e c z := by
  obtain ⟨g1, g2, g3, h4, h5, h6, h7⟩ := h
  refine ⟨?_, fun j hj => ?_, fun j hj => ?_, h4, h5, h6, h7⟩
  · obtain ⟨rn, a, b⟩ := g1
    refine ⟨rn, (set_far ?_).trans a, b⟩
    rintro rfl
    rw [hr] at a
    cases a
    exact h3 rfl
  · obtain ⟨nx, a, b⟩ := g2 j hj
    refine ⟨nx, (set_far ?_).trans a, b⟩
    intro e0
    rw [e0, hr] at a
    cases a
    exact h2 rfl
  · obtain ⟨cs', a, b⟩ := g3 j hj
    refine ⟨cs', (set_far ?_).trans a, b⟩
    intro e0
    rw [e0, hr] at a
    cases a
    exact h1 rfl

/-- A row of n cells of the type t, of which the first k are as v says. -/
def Row (w : World) (b n k : Nat) (t : TypeId) (v : Nat → Value) : Prop := ∃ cs : Array Value, w.heap[b]? = some (Obj.cells cs t (0, 0)) ∧ cs.size = n ∧ ∀ p, p < k → cs[p]? = some (v p)

theorem Row.lt {w : World} {b n k : Nat} {t : TypeId} {v : Nat → Value} (h : Row w b n k t v) : b < w.heap.size := by
  obtain ⟨cs, h1, _⟩ := h; exact lt_of_block h1
theorem Row.keep {w w' : World} {b n k : Nat} {t : TypeId} {v : Nat → Value} (h : Row w b n k t v) (he : w'.heap[b]? = w.heap[b]?) : Row w' b n k t v := by
  obtain ⟨cs, h1, r⟩ := h; exact ⟨cs, he.trans h1, r⟩
theorem Row.congr {w : World} {b n k : Nat} {t : TypeId} {v v' : Nat → Value} (h : Row w b n k t v) (he : ∀ p, p < k → v p = v' p) : Row w b n k t v' := by
  obtain ⟨cs, h1, h2, h3⟩ := h; exact ⟨cs, h1, h2, fun p hp => by rw [← he p hp]; exact h3 p hp⟩
theorem Row.old {w : World} {b n k : Nat} {t : TypeId} {v : Nat → Value} (h : Row w b n k t v) {i : Nat} (hi : i < n) : ∃ o, w.cell? ⟨b, i, none⟩ = some o := by
  obtain ⟨cs, h1, h2, h3⟩ := h; exact ⟨_, (cell_of h1).trans (Array.getElem?_eq_getElem (by omega))⟩
theorem Row.cell {w : World} {b n k : Nat} {t : TypeId} {v : Nat → Value} (h : Row w b n k t v) {i : Nat} (hi : i < k) : w.cell? ⟨b, i, none⟩ = some (v i) := by
  obtain ⟨cs, h1, h2, h3⟩ := h; exact (cell_of h1).trans (h3 i hi)
theorem Row.free {w : World} {b n k : Nat} {t : TypeId} {v : Nat → Value} (h : Row w b n k t v) {i : Nat} : w.frozen? ⟨b, i, none⟩ = false := by
  obtain ⟨cs, h1, h2, h3⟩ := h; exact free_of h1
theorem Row.set {w : World} {b n k : Nat} {t : TypeId} {v : Nat → Value} (h : Row w b n k t v) (hk : k < n) {x : Value} (hx : v k = x) : Row (w.setCell ⟨b, k, none⟩ x) b n (k + 1) t v := by
  obtain ⟨cs, h1, h2, h3⟩ := h
  refine ⟨_, set_here h1 x, by simp [h2], fun p hp => ?_⟩
  rw [Array.getElem?_setIfInBounds]
  by_cases e : k = p
  · subst e; simp [h2, hk, hx]
  · simp [e]; exact h3 p (by omega)
theorem row_made (w : World) (n : Nat) (t : TypeId) (z : Value) (v : Nat → Value) : Row (w.alloc (.cells (madeCells #[z] n) t)) w.heap.size n 0 t v :=
  ⟨_, (MapKept.heap_alloc w _).1, by simp [madeCells], fun p hp => by omega⟩

/-- What peer p holds. -/
def hold (L : Nat → Nat) (X : Nat → Int) (Z : Nat → Nat → Int) (p : Nat) : Int := X p + P.S (Z p) (L p)

/-- The budget with its first k peers laid. -/
structure St (w0 w : World) (n k : Nat) (L : Nat → Nat) (X : Nat → Int) (Z : Nat → Nat → Int) (l rw : Nat → Nat) (e c : Nat → Nat → Nat) : Prop where
  below : Below w0.heap.size w0 w
  bud : w.heap[w0.heap.size + 2]? = some (budObj w0.heap.size (w0.heap.size + 1))
  mp : MapIs Trym.prog 9 w w0.heap.size k (P.fmap (fun p => Value.int .i64 (hold L X Z p)) k)
  mw : MapIs Trym.prog 9 w (w0.heap.size + 1) k (P.fmap (fun p => ptr (l p)) k)
  gc : Row w (w0.heap.size + 3) n k 38 (fun p => .slice (some ⟨rw p, 0, none⟩) (L p) (L p))
  gh : Row w (w0.heap.size + 4) n k 2 (fun p => .int .i64 (hold L X Z p))
  lists : ∀ p, p < k → LInv w (l p) (L p) (e p) (c p) (Z p)
  rows : ∀ p, p < k → Row w (rw p) (L p) (L p) 42 (fun j => ptr (c p j))
  lo : ∀ p, p < k → w0.heap.size + 5 ≤ l p ∧ w0.heap.size + 5 ≤ rw p
  sep : ∀ p q, p < q → q < k → ∀ j, j < L p → c p j < l q
  room : w0.heap.size + 5 ≤ w.heap.size

/-- The blocks that a round turns. -/
def roundX (s b : Nat) : Prop := b = s ∨ b = s + 1 ∨ b = s + 3 ∨ b = s + 4

theorem St.step {w0 wr w' : World} {n k : Nat} {L : Nat → Nat} {X : Nat → Int} {Z : Nat → Nat → Int} {l rw : Nat → Nat} {e c : Nat → Nat → Nat} (h : St w0 wr n k L X Z l rw e c) (hc : Chg wr w' (roundX w0.heap.size)) {lk rk : Nat} {ek ck : Nat → Nat}
    (mp : MapIs Trym.prog 9 w' w0.heap.size (k + 1) (upd (P.fmap (fun p => Value.int .i64 (hold L X Z p)) k) (P.nm k) (.int .i64 (hold L X Z k))))
    (mw : MapIs Trym.prog 9 w' (w0.heap.size + 1) (k + 1) (upd (P.fmap (fun p => ptr (l p)) k) (P.nm k) (ptr lk)))
    (gc : Row w' (w0.heap.size + 3) n (k + 1) 38 (fun p => .slice (some ⟨updN rw k rk p, 0, none⟩) (L p) (L p)))
    (gh : Row w' (w0.heap.size + 4) n (k + 1) 2 (fun p => .int .i64 (hold L X Z p)))
    (hl : LInv w' lk (L k) ek ck (Z k)) (hr : Row w' rk (L k) (L k) 42 (fun j => ptr (ck j))) (h1 : wr.heap.size ≤ lk) (h2 : wr.heap.size ≤ rk) :
    St w0 w' n (k + 1) L X Z (updN l k lk) (updN rw k rk) (updN e k ek) (updN c k ck) := by
  have hroom := h.room
  refine ⟨h.below.trans (hc.below (by omega) (fun b hb => by rcases hb with rfl | rfl | rfl | rfl <;> omega)), ?_, ?_, ?_, gc, gh, fun p hp => ?_, fun p hp => ?_, fun p hp => ?_, fun p q hpq hq j hj => ?_, Nat.le_trans hroom hc.size⟩
  · rw [hc.block _ (by omega) (fun hb => by rcases hb with hb | hb | hb | hb <;> omega)]
    exact h.bud
  · exact mp.congr (fun s => P.fmap_new rfl s)
  · refine mw.congr (fun s => ?_)
    rw [← P.fmap_new (v := fun p => ptr (updN l k lk p)) (n := k) (x := ptr lk) (by simp [updN_same]) s]
    unfold upd
    split
    · rfl
    · exact P.fmap_congr (fun i hi => by simp [updN_other l lk (show i ≠ k by omega)]) s
  · by_cases hk : p = k
    · subst hk; simp only [updN_same]; exact hl
    · simp only [updN_other _ _ hk]
      refine (h.lists p (by omega)).keep (fun b hb hbs => hc.block b hbs (fun hx => ?_))
      have := (h.lo p (by omega)).1
      rcases hx with hx | hx | hx | hx <;> omega
  · by_cases hk : p = k
    · subst hk; simp only [updN_same]; exact hr
    · simp only [updN_other _ _ hk]
      have hrow := h.rows p (by omega)
      refine hrow.keep (hc.block _ hrow.lt (fun hx => ?_))
      have := (h.lo p (by omega)).2
      rcases hx with hx | hx | hx | hx <;> omega
  · by_cases hk : p = k
    · subst hk; simp only [updN_same]; omega
    · simp only [updN_other _ _ hk]; exact h.lo p (by omega)
  · have hp : p ≠ k := by omega
    rw [updN_other c _ hp]
    by_cases hk : q = k
    · subst hk; rw [updN_same]
      have := (h.lists p (by omega)).clt hj
      omega
    · rw [updN_other l _ hk]; exact h.sep p q hpq (by omega) j hj

theorem st_zero (w : World) (n : Nat) (L : Nat → Nat) (X : Nat → Int) (Z : Nat → Nat → Int) :
    St w (((((w.alloc (.map #[] 0)).alloc (.map #[] 0)).alloc (budObj w.heap.size (w.heap.size + 1))).alloc (.cells (madeCells #[.slice none 0 0] n) 38)).alloc (.cells (madeCells #[.int .i64 0] n) 2)) n 0 L X Z (fun _ => 0) (fun _ => 0) (fun _ _ => 0) (fun _ _ => 0) := by
  have s1 : (w.alloc (.map #[] 0)).heap.size = w.heap.size + 1 := by simp
  have s2 : ((w.alloc (.map #[] 0)).alloc (.map #[] 0)).heap.size = w.heap.size + 2 := by simp
  have s3 : (((w.alloc (.map #[] 0)).alloc (.map #[] 0)).alloc (budObj w.heap.size (w.heap.size + 1))).heap.size = w.heap.size + 3 := by simp
  have s4 : ((((w.alloc (.map #[] 0)).alloc (.map #[] 0)).alloc (budObj w.heap.size (w.heap.size + 1))).alloc (.cells (madeCells #[.slice none 0 0] n) 38)).heap.size = w.heap.size + 4 := by simp
  have m1 := mapIs_made w Trym.prog 9
  have m2 := mapIs_made (w.alloc (.map #[] 0)) Trym.prog 9
  have b1 := (MapKept.heap_alloc ((w.alloc (.map #[] 0)).alloc (.map #[] 0)) (budObj w.heap.size (w.heap.size + 1))).1
  have r1 := row_made (((w.alloc (.map #[] 0)).alloc (.map #[] 0)).alloc (budObj w.heap.size (w.heap.size + 1))) n 38 (.slice none 0 0) (fun p => Value.slice (some ⟨0, 0, none⟩) (L p) (L p))
  have r2 := row_made ((((w.alloc (.map #[] 0)).alloc (.map #[] 0)).alloc (budObj w.heap.size (w.heap.size + 1))).alloc (.cells (madeCells #[.slice none 0 0] n) 38)) n 2 (.int .i64 0) (fun p => Value.int .i64 (hold L X Z p))
  rw [s1] at m2
  rw [s2] at b1
  rw [s3] at r1
  rw [s4] at r2
  refine ⟨((((((Below.refl _ w).alloc (Nat.le_refl _) _).alloc (by omega) _).alloc (by omega) _).alloc (by omega) _).alloc (by omega) _), ?_, (((((m1.alloc _).alloc _).alloc _).alloc _).congr fun s => rfl), ((((m2.alloc _).alloc _).alloc _).congr fun s => rfl), r1.keep (Below.heap_alloc _ _ _ (by rw [s4]; omega)), r2, fun p hp => by omega, fun p hp => by omega, fun p hp => by omega, fun p q _ hq => by omega, by simp⟩
  rw [Below.heap_alloc _ _ _ (by rw [s4]; omega), Below.heap_alloc _ _ _ (by rw [s3]; omega)]
  exact b1

/-- Inside a peer's round: j claims of hers are laid. -/
structure In (w1 w : World) (l r m j : Nat) (e c : Nat → Nat) (z : Nat → Int) : Prop where
  chg : Chg w1 w (fun b => b = l ∨ b = r)
  list : LInv w l j e c z
  row : Row w r m j 42 (fun i => ptr (c i))
  eb : ∀ i, i < j → w1.heap.size ≤ e i

theorem In.step {w1 w w2 : World} {l r m j : Nat} {e c : Nat → Nat} {z : Nat → Int} (h : In w1 w l r m j e c z) (hj : j < m) (hlr : l < r) (hr : r < w1.heap.size) (hl : LInv w2 l (j + 1) (updN e j (w.heap.size + 1)) (updN c j w.heap.size) z) (hc : Chg w w2 (lastX l j e)) :
    Row w2 r m j 42 (fun i => ptr (c i)) ∧ In w1 (w2.setCell ⟨r, j, none⟩ (ptr w.heap.size)) l r m (j + 1) (updN e j (w.heap.size + 1)) (updN c j w.heap.size) z := by
  have hs := h.chg.size
  have hrow : Row w2 r m j 42 (fun i => ptr (c i)) := h.row.keep (hc.block r (by omega) (fun hx => by
    rcases hx with hx | ⟨i, hi, hx⟩
    · omega
    · have := h.eb i (by omega); omega))
  refine ⟨hrow, ?_⟩
  have hrow' : Row w2 r m j 42 (fun i => ptr (updN c j w.heap.size i)) := hrow.congr fun p hp => by simp [updN_other c _ (show p ≠ j by omega)]
  refine ⟨?_, ?_, hrow'.set hj (by simp [updN_same]), fun i hi => ?_⟩
  · have h2 : Chg w1 w2 (fun b => b = l ∨ b = r) := h.chg.trans hc (fun k _ hx => hx) (fun k hk hx => by
      rcases hx with hx | ⟨i, hi, hx⟩
      · exact Or.inl hx
      · have := h.eb i (by omega); omega)
    exact ⟨(set_os _ _ _).trans h2.os, (set_tape _ _ _).trans h2.tape, (set_output _ _ _).trans h2.output, by rw [set_size]; exact h2.size, fun k hk hx => (set_far (fun e0 => hx (Or.inr e0))).trans (h2.block k hk hx)⟩
  · obtain ⟨cs, hb, _⟩ := hrow
    exact hl.setOther hb (by decide) (by decide) (by decide) _
  · by_cases e0 : i = j
    · subst e0; rw [updN_same]; omega
    · rw [updN_other e _ e0]; exact h.eb i (by omega)
end Go.Proofs.Qxb6618960aMods.W
