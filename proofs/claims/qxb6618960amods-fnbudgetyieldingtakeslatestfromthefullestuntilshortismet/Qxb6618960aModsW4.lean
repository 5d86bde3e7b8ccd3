import Derived.Test.Qxb6618960aModsW3
import Derived.LaidEqlPtr
namespace Go.Proofs.Qxb6618960aMods.W
open Go.ChangeShapes Go.WideShapes Go.ChangeAt Go.RowKit

theorem info99 : (Trym.prog.info? 99).map (fun i => i.size) = some 4 := by kernel_rfl

theorem neq_same (w : World) (a : Addr) : (binOp .neq 92 (.pointer (some a)) (.pointer (some a))).run Trym.prog w = .ok (.bool false) w := by
  cases hj : Trym.prog.info? 99 with
  | none => have := info99; rw [hj] at this; cases this
  | some j =>
    have h : ∀ d : Nat, (Op.equalIn (d + 1) 92 (.pointer (some a)) (.pointer (some a))).run Trym.prog w = .ok true w := fun d => by
      simp [Op.equalIn, run_underlying Trym.underlying92, sizeOf, typeInfo, hj, run_sameAddr_same]
    simp only [binOp]
    simp [Op.equal, Op.maxDepth, h 9999]

theorem neq_other {w : World} {a b : Addr} {ca cb : Array Value} {ta tb : TypeId} (hne : a ≠ b) (ha : w.heap[a.block]? = some (.cells ca ta (0, 0))) (hb : w.heap[b.block]? = some (.cells cb tb (0, 0))) :
    (binOp .neq 92 (.pointer (some a)) (.pointer (some b))).run Trym.prog w = .ok (.bool true) w := by
  cases hj : Trym.prog.info? 99 with
  | none => have := info99; rw [hj] at this; cases this
  | some j =>
    have hsz : j.size ≠ 0 := by have := info99; rw [hj] at this; simp at this; omega
    have h : ∀ d : Nat, (Op.equalIn (d + 1) 92 (.pointer (some a)) (.pointer (some b))).run Trym.prog w = .ok false w := fun d => by
      simp [Op.equalIn, run_underlying Trym.underlying92, sizeOf, typeInfo, hj, hsz, run_sameAddr_other w hne ha hb]
    simp only [binOp]
    simp [Op.equal, Op.maxDepth, h 9999]

/-- The element at the place t counted from the front, from one on; none at zero. -/
def elp (e : Nat → Nat) (t : Nat) : Value := if t = 0 then .pointer none else ptr (e (t - 1))
theorem elp_zero (e : Nat → Nat) : elp e 0 = .pointer none := rfl
theorem elp_succ (e : Nat → Nat) (t : Nat) : elp e (t + 1) = ptr (e t) := rfl

set_option maxHeartbeats 1000000 in
theorem back_any {w : World} {l m : Nat} {e c : Nat → Nat} {z : Nat → Int} (h : LInv w l (m + 1) e c z) (hm : m ≤ 200000) :
    Calls Trym.prog 36 #[ptr l] w fun r w' => r = .returned (ptr (e m)) ∧ w' = w := by
  obtain ⟨rn, hr, _⟩ := h.root
  have hl4 : w.cell? ⟨l, 4, none⟩ = some (.int .i64 ((m : Int) + 1)) := cell_of hr
  have hl1 : w.cell? ⟨l, 1, none⟩ = some (ptr (e m)) := by simpa [lastOf] using (cell_of (i := 1) hr)
  have hz : ((m : Int) + 1 == 0) = false := by simp; omega
  clear hr
  go_enter Trym.func36, Trym.ntmps36
  go_wp2
  go_ret
  exact ⟨rfl, rfl⟩

set_option maxHeartbeats 1000000 in
theorem prev_first {w : World} {l m : Nat} {e c : Nat → Nat} {z : Nat → Int} (h : LInv w l m e c z) (hm : 0 < m) :
    Calls Trym.prog 37 #[ptr (e 0)] w fun r w' => r = .returned (.pointer none) ∧ w' = w := by
  obtain ⟨nx, he, _⟩ := h.elem 0 hm
  have h1 : w.cell? ⟨e 0, 1, none⟩ = some (ptr l) := cell_of he
  have h2 : w.cell? ⟨e 0, 2, none⟩ = some (ptr l) := cell_of he
  have hq := neq_same
  clear he
  go_enter Trym.func37, Trym.ntmps37
  go_wp2
  go_ret
  exact ⟨rfl, rfl⟩

set_option maxHeartbeats 1000000 in
theorem prev_next {w : World} {l m : Nat} {e c : Nat → Nat} {z : Nat → Int} (h : LInv w l m e c z) {j : Nat} (hj : j + 1 < m) :
    Calls Trym.prog 37 #[ptr (e (j + 1))] w fun r w' => r = .returned (ptr (e j)) ∧ w' = w := by
  obtain ⟨nx, he, _⟩ := h.elem (j + 1) hj
  obtain ⟨nx', he', _⟩ := h.elem j (by omega)
  obtain ⟨rn, hr, _⟩ := h.root
  have hlt := h.elo j (by omega)
  have h1 : w.cell? ⟨e (j + 1), 1, none⟩ = some (ptr (e j)) := by simpa [lastOf] using (cell_of (i := 1) he)
  have h2 : w.cell? ⟨e (j + 1), 2, none⟩ = some (ptr l) := cell_of he
  have hq := @neq_other w ⟨e j, 0, none⟩ ⟨l, 0, none⟩ _ _ _ _ (by intro hh; cases hh; omega) he' hr
  clear he he' hr
  go_enter Trym.func37, Trym.ntmps37
  go_wp2
  go_ret
  exact ⟨rfl, rfl⟩

theorem prev_any {w : World} {l m : Nat} {e c : Nat → Nat} {z : Nat → Int} (h : LInv w l m e c z) {j : Nat} (hj : j < m) :
    Calls Trym.prog 37 #[ptr (e j)] w fun r w' => r = .returned (elp e j) ∧ w' = w := by
  cases j with
  | zero => exact prev_first h hj
  | succ j => exact prev_next h hj

/-- The list behind a push. -/
theorem LInv.pushed {w w' : World} {l m : Nat} {e c : Nat → Nat} {z : Nat → Int} {cl : Nat} (h : LInv w l m e c z) (hp : Pushed w w' l m e cl) (hcl : l < cl) (hcc : ∀ j, j < m → c j < cl) (hce : ∀ j, j + 1 = m → cl ≠ e j)
    {cs : Array Value} (hc : w.heap[cl]? = some (Obj.cells cs 94 (0, 0))) (hz : cs[2]? = some (.int .i64 (z m))) :
    LInv w' l (m + 1) (updN e m w.heap.size) (updN c m cl) z := by
  have hlt := h.lt
  have hclt := lt_of_block hc
  have hff : ∀ k, k < w.heap.size → k ≠ l → (∀ j, j + 1 = m → k ≠ e j) → w'.heap[k]? = w.heap[k]? := hp.far
  have hl : ∀ j, j ≤ m → lastOf l j (updN e m w.heap.size) = lastOf l j e := fun j hj => by
    unfold lastOf
    by_cases h0 : j = 0
    · simp [h0]
    · simp [h0, updN_other e w.heap.size (show j - 1 ≠ m by omega)]
  refine ⟨?_, fun j hj => ?_, fun j hj => ?_, fun j hj => ?_, fun j hj => ?_, fun i j hi hj => ?_, fun i j hi hj => ?_⟩
  · obtain ⟨rn, hr⟩ := hp.root
    refine ⟨rn, ?_, fun h0 => by omega⟩
    rw [hr]
    simp [lastOf, updN]
  · by_cases hjm : j = m
    · subst hjm
      refine ⟨_, ?_, fun _ => rfl⟩
      rw [updN_same, updN_same, hl j (Nat.le_refl _)]
      exact hp.new
    · obtain ⟨nx, he, hx⟩ := h.elem j (by omega)
      have helt := lt_of_block he
      rw [updN_other e _ hjm, updN_other c _ hjm, hl j (by omega)]
      by_cases hlast : j + 1 = m
      · obtain rfl := hx hlast
        obtain ⟨nx', he'⟩ := hp.last j _ _ hlast he
        exact ⟨nx', he', fun h0 => by omega⟩
      · refine ⟨nx, ?_, fun h0 => by omega⟩
        rw [hff (e j) helt (Nat.ne_of_gt (h.elo j (by omega))) (fun i hi => Nat.ne_of_lt (h.einc j i (by omega) (by omega)))]
        exact he
  · by_cases hjm : j = m
    · subst hjm
      rw [updN_same]
      exact ⟨cs, (hff cl hclt (Nat.ne_of_gt hcl) hce).trans hc, hz⟩
    · obtain ⟨cs', h1, h2⟩ := h.size j (by omega)
      rw [updN_other c _ hjm]
      refine ⟨cs', ?_, h2⟩
      refine (hff (c j) (lt_of_block h1) (Nat.ne_of_gt (h.clo j (by omega))) (fun i hi e0 => ?_)).trans h1
      obtain ⟨nx, he, _⟩ := h.elem i (by omega)
      rw [e0, he] at h1
      cases h1
  · by_cases hjm : j = m
    · subst hjm; rw [updN_same]; exact hlt
    · rw [updN_other e _ hjm]; exact h.elo j (by omega)
  · by_cases hjm : j = m
    · subst hjm; rw [updN_same]; exact hcl
    · rw [updN_other c _ hjm]; exact h.clo j (by omega)
  · rw [updN_other e _ (show i ≠ m by omega)]
    by_cases hjm : j = m
    · subst hjm; rw [updN_same]; exact h.elt hi
    · rw [updN_other e _ hjm]; exact h.einc i j hi (by omega)
  · rw [updN_other c _ (show i ≠ m by omega)]
    by_cases hjm : j = m
    · subst hjm; rw [updN_same]; exact hcc i hi
    · rw [updN_other c _ hjm]; exact h.cinc i j hi (by omega)

theorem size_any {w : World} {cl : Nat} {cs : Array Value} {z : Int} (hc : w.heap[cl]? = some (Obj.cells cs 94 (0, 0))) (hz : cs[2]? = some (.int .i64 z)) :
    Calls Trym.prog 29 #[ptr cl] w fun r w' => r = .returned (.int .i64 z) ∧ w' = w := by
  have h2 : w.cell? ⟨cl, 2, none⟩ = some (.int .i64 z) := (cell_of hc).trans hz
  clear hc hz
  go_enter Trym.func29, Trym.ntmps29
  go_wp2
  go_ret
  exact ⟨rfl, rfl⟩
end Go.Proofs.Qxb6618960aMods.W
