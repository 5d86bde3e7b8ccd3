import Derived.Test.Qxb6618960aModsW1
namespace Go.Proofs.Qxb6618960aMods.W
open Go.ChangeShapes Go.WideShapes Go.ChangeAt Go.RowKit

/-- A pointer to the head of block b. -/
abbrev ptr (b : Nat) : Value := .pointer (some ⟨b, 0, none⟩)

theorem init_any {w : World} {l : Nat} {c0 c1 c4 : Value} (h0 : w.cell? ⟨l, 0, none⟩ = some c0) (h1 : w.cell? ⟨l, 1, none⟩ = some c1) (h4 : w.cell? ⟨l, 4, none⟩ = some c4)
    (f0 : w.frozen? ⟨l, 0, none⟩ = false) (f1 : w.frozen? ⟨l, 1, none⟩ = false) (f4 : w.frozen? ⟨l, 4, none⟩ = false) :
    Calls Trym.prog 41 #[ptr l] w fun e w' => e = .returned (ptr l) ∧ w' = ((w.setCell ⟨l, 0, none⟩ (ptr l)).setCell ⟨l, 1, none⟩ (ptr l)).setCell ⟨l, 4, none⟩ (.int .i64 0) := by
  go_enter Trym.func41, Trym.ntmps41
  go_wp2
  go_ret
  exact ⟨rfl, rfl⟩

theorem new_any {w : World} :
    Calls Trym.prog 34 #[] w fun e w' => e = .returned (ptr w.heap.size) ∧ w' = w.alloc (.cells #[ptr w.heap.size, ptr w.heap.size, .pointer none, .nilIface, .int .i64 0] 107) := by
  go_enter Trym.func34, Trym.ntmps34
  go_wp2
  go_ret
  exact ⟨rfl, rfl⟩

theorem lazy_any {w : World} {l b : Nat} (h0 : w.cell? ⟨l, 0, none⟩ = some (ptr b)) :
    Calls Trym.prog 42 #[ptr l] w fun e w' => e = .returned (.tuple #[]) ∧ w' = w := by
  go_enter Trym.func42, Trym.ntmps42
  go_wp2
  go_end0
  exact ⟨rfl, rfl⟩

set_option maxHeartbeats 1000000 in
/-- insert behind the root of an empty list. -/
theorem insert_root {w : World} {l e : Nat} {p1 n0 p0 l0 : Value} (hle : l < e)
    (hl0 : w.cell? ⟨l, 0, none⟩ = some (ptr l)) (hl1 : w.cell? ⟨l, 1, none⟩ = some p1) (hl4 : w.cell? ⟨l, 4, none⟩ = some (.int .i64 0))
    (he0 : w.cell? ⟨e, 0, none⟩ = some n0) (he1 : w.cell? ⟨e, 1, none⟩ = some p0) (he2 : w.cell? ⟨e, 2, none⟩ = some l0)
    (fl : ∀ i, w.frozen? ⟨l, i, none⟩ = false) (fe : ∀ i, w.frozen? ⟨e, i, none⟩ = false) :
    Calls Trym.prog 45 #[ptr l, ptr e, ptr l] w fun r w' => r = .returned (ptr e) ∧
      w' = (((((w.setCell ⟨e, 1, none⟩ (ptr l)).setCell ⟨e, 0, none⟩ (ptr l)).setCell ⟨l, 0, none⟩ (ptr e)).setCell ⟨l, 1, none⟩ (ptr e)).setCell ⟨e, 2, none⟩ (ptr l)).setCell ⟨l, 4, none⟩ (.int .i64 1) := by
  go_enter Trym.func45, Trym.ntmps45
  go_wp2
  go_ret
  exact ⟨rfl, rfl⟩

set_option maxHeartbeats 1000000 in
/-- insert behind the last element a. -/
theorem insert_last {w : World} {l a e : Nat} {m : Int} {p1 n0 p0 l0 : Value} (hla : l < a) (hae : a < e) (m0 : 0 ≤ m) (m1 : m ≤ 1000000)
    (ha0 : w.cell? ⟨a, 0, none⟩ = some (ptr l)) (hl1 : w.cell? ⟨l, 1, none⟩ = some p1) (hl4 : w.cell? ⟨l, 4, none⟩ = some (.int .i64 m))
    (he0 : w.cell? ⟨e, 0, none⟩ = some n0) (he1 : w.cell? ⟨e, 1, none⟩ = some p0) (he2 : w.cell? ⟨e, 2, none⟩ = some l0)
    (fl : ∀ i, w.frozen? ⟨l, i, none⟩ = false) (fa : ∀ i, w.frozen? ⟨a, i, none⟩ = false) (fe : ∀ i, w.frozen? ⟨e, i, none⟩ = false) :
    Calls Trym.prog 45 #[ptr l, ptr e, ptr a] w fun r w' => r = .returned (ptr e) ∧
      w' = (((((w.setCell ⟨e, 1, none⟩ (ptr a)).setCell ⟨e, 0, none⟩ (ptr l)).setCell ⟨a, 0, none⟩ (ptr e)).setCell ⟨l, 1, none⟩ (ptr e)).setCell ⟨e, 2, none⟩ (ptr l)).setCell ⟨l, 4, none⟩ (.int .i64 (m + 1)) := by
  go_enter Trym.func45, Trym.ntmps45
  go_wp2
  go_ret
  exact ⟨rfl, rfl⟩

/-! ### blocks behind stores -/
theorem set_here {w : World} {b i : Nat} {cs : Array Value} {t : TypeId} {fr : Nat × Nat} (h : w.heap[b]? = some (Obj.cells cs t fr)) (v : Value) :
    (w.setCell ⟨b, i, none⟩ v).heap[b]? = some (Obj.cells (cs.setIfInBounds i v) t fr) := by
  have hlt := lt_of_block h
  have h' : w.heap[b] = Obj.cells cs t fr := by simpa [Array.getElem?_eq_getElem hlt] using h
  show (w.heap.modify b _)[b]? = _
  rw [Array.getElem?_eq_getElem (by simpa using hlt), Array.getElem_modify_self, h']
  simp
theorem set_far {w : World} {b k i : Nat} {v : Value} (h : k ≠ b) : (w.setCell ⟨b, i, none⟩ v).heap[k]? = w.heap[k]? := Below.heap_setCell _ _ _ _ (by simpa using h)
theorem set_size {w : World} {a : Addr} {v : Value} : (w.setCell a v).heap.size = w.heap.size := by simp

theorem cell_of {w : World} {b i : Nat} {cs : Array Value} {t : TypeId} {fr : Nat × Nat} (h : w.heap[b]? = some (Obj.cells cs t fr)) : w.cell? ⟨b, i, none⟩ = cs[i]? := by simp [World.cell?, h]
theorem free_of {w : World} {b i : Nat} {cs : Array Value} {t : TypeId} (h : w.heap[b]? = some (Obj.cells cs t (0, 0))) : w.frozen? ⟨b, i, none⟩ = false := by simp [World.frozen?, h]
end Go.Proofs.Qxb6618960aMods.W
