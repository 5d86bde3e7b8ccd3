import Derived.Test.Qxb6618960aModsW2
namespace Go.Proofs.Qxb6618960aMods.W
open Go.ChangeShapes Go.WideShapes Go.ChangeAt Go.RowKit

/-- f with v laid at k. -/
def updN {α : Type} (f : Nat → α) (k : Nat) (v : α) (i : Nat) : α := if i = k then v else f i
theorem updN_same {α : Type} (f : Nat → α) (k : Nat) (v : α) : updN f k v k = v := by simp [updN]
theorem updN_other {α : Type} (f : Nat → α) {k i : Nat} (v : α) (h : i ≠ k) : updN f k v i = f i := by simp [updN, h]

/-- The element behind which the next goes: the last, or the root. -/
def lastOf (l m : Nat) (e : Nat → Nat) : Nat := if m = 0 then l else e (m - 1)

/-- Block l is a list of m elements e, whose values are the claims c, of the sizes z. -/
structure LInv (w : World) (l m : Nat) (e c : Nat → Nat) (z : Nat → Int) : Prop where
  root : ∃ rn, w.heap[l]? = some (Obj.cells #[ptr rn, ptr (lastOf l m e), .pointer none, .nilIface, .int .i64 (m : Int)] 107 (0, 0)) ∧ (m = 0 → rn = l)
  elem : ∀ j, j < m → ∃ nx, w.heap[e j]? = some (Obj.cells #[nx, ptr (lastOf l j e), ptr l, .iface 42 (ptr (c j))] 99 (0, 0)) ∧ (j + 1 = m → nx = ptr l)
  size : ∀ j, j < m → ∃ cs, w.heap[c j]? = some (Obj.cells cs 94 (0, 0)) ∧ cs[2]? = some (.int .i64 (z j))
  elo : ∀ j, j < m → l < e j
  clo : ∀ j, j < m → l < c j
  einc : ∀ i j, i < j → j < m → e i < e j
  cinc : ∀ i j, i < j → j < m → c i < c j

theorem LInv.keep {w w' : World} {l m : Nat} {e c : Nat → Nat} {z : Nat → Int} (h : LInv w l m e c z) (hk : ∀ k, l ≤ k → k < w.heap.size → w'.heap[k]? = w.heap[k]?) : LInv w' l m e c z := by
  obtain ⟨h1, h2, h3, h4, h5, h6, h7⟩ := h
  refine ⟨?_, fun j hj => ?_, fun j hj => ?_, h4, h5, h6, h7⟩
  · obtain ⟨rn, a, b⟩ := h1
    exact ⟨rn, (hk l (Nat.le_refl _) (lt_of_block a)).trans a, b⟩
  · obtain ⟨nx, a, b⟩ := h2 j hj
    exact ⟨nx, (hk _ (Nat.le_of_lt (h4 j hj)) (lt_of_block a)).trans a, b⟩
  · obtain ⟨cs, a, b⟩ := h3 j hj
    exact ⟨cs, (hk _ (Nat.le_of_lt (h5 j hj)) (lt_of_block a)).trans a, b⟩

theorem LInv.below {w w' : World} {l m : Nat} {e c : Nat → Nat} {z : Nat → Int} (h : LInv w l m e c z) (hb : Below w.heap.size w w') : LInv w' l m e c z :=
  h.keep fun k _ hk => hb.block k hk

theorem LInv.lt {w : World} {l m : Nat} {e c : Nat → Nat} {z : Nat → Int} (h : LInv w l m e c z) : l < w.heap.size := by
  obtain ⟨rn, a, _⟩ := h.root; exact lt_of_block a
theorem LInv.elt {w : World} {l m : Nat} {e c : Nat → Nat} {z : Nat → Int} (h : LInv w l m e c z) {j : Nat} (hj : j < m) : e j < w.heap.size := by
  obtain ⟨rn, a, _⟩ := h.elem j hj; exact lt_of_block a
theorem LInv.clt {w : World} {l m : Nat} {e c : Nat → Nat} {z : Nat → Int} (h : LInv w l m e c z) {j : Nat} (hj : j < m) : c j < w.heap.size := by
  obtain ⟨rn, a, _⟩ := h.size j hj; exact lt_of_block a

/-- What PushBack of the claim in block cl makes of the world. -/
structure Pushed (w w' : World) (l m : Nat) (e : Nat → Nat) (cl : Nat) : Prop where
  os : w'.os = w.os
  tape : w'.tape = w.tape
  output : w'.output = w.output
  size : w'.heap.size = w.heap.size + 1
  root : ∃ rn, w'.heap[l]? = some (Obj.cells #[ptr rn, ptr w.heap.size, .pointer none, .nilIface, .int .i64 ((m : Int) + 1)] 107 (0, 0))
  new : w'.heap[w.heap.size]? = some (Obj.cells #[ptr l, ptr (lastOf l m e), ptr l, .iface 42 (ptr cl)] 99 (0, 0))
  last : ∀ j cj pj, j + 1 = m → w.heap[e j]? = some (Obj.cells #[ptr l, pj, ptr l, cj] 99 (0, 0)) → ∃ nx, w'.heap[e j]? = some (Obj.cells #[nx, pj, ptr l, cj] 99 (0, 0))
  far : ∀ k, k < w.heap.size → k ≠ l → (∀ j, j + 1 = m → k ≠ e j) → w'.heap[k]? = w.heap[k]?

/-- The six stores of insert. -/
abbrev six (w : World) (l a E : Nat) (m : Int) : World :=
  (((((w.setCell ⟨E, 1, none⟩ (ptr a)).setCell ⟨E, 0, none⟩ (ptr l)).setCell ⟨a, 0, none⟩ (ptr E)).setCell ⟨l, 1, none⟩ (ptr E)).setCell ⟨E, 2, none⟩ (ptr l)).setCell ⟨l, 4, none⟩ (.int .i64 m)

theorem six_far {w : World} {l a E k : Nat} {m : Int} (hl : k ≠ l) (ha : k ≠ a) (hE : k ≠ E) : (six w l a E m).heap[k]? = w.heap[k]? := by
  rw [set_far hl, set_far hE, set_far hl, set_far ha, set_far hE, set_far hE]

theorem six_new {w : World} {l a E : Nat} {m : Int} {v : Value} (hl : E ≠ l) (ha : E ≠ a) (h : w.heap[E]? = some (Obj.cells #[.pointer none, .pointer none, .pointer none, v] 99 (0, 0))) :
    (six w l a E m).heap[E]? = some (Obj.cells #[ptr l, ptr a, ptr l, v] 99 (0, 0)) := by
  rw [set_far hl]
  have h1 := set_here (i := 1) h (ptr a)
  have h2 := set_here (i := 0) h1 (ptr l)
  have h3 := (set_far (i := 0) (v := ptr E) ha).trans h2
  have h4 := (set_far (i := 1) (v := ptr E) hl).trans h3
  exact set_here (i := 2) h4 (ptr l)

theorem six_root {w : World} {l E : Nat} {m : Int} {r0 r1 r2 r3 r4 : Value} (hl : l ≠ E) (h : w.heap[l]? = some (Obj.cells #[r0, r1, r2, r3, r4] 107 (0, 0))) :
    (six w l l E m).heap[l]? = some (Obj.cells #[ptr E, ptr E, r2, r3, .int .i64 m] 107 (0, 0)) := by
  have h1 := (set_far (i := 1) (v := ptr l) hl).trans h
  have h2 := (set_far (i := 0) (v := ptr l) hl).trans h1
  have h3 := set_here (i := 0) h2 (ptr E)
  have h4 := set_here (i := 1) h3 (ptr E)
  have h5 := (set_far (i := 2) (v := ptr l) hl).trans h4
  exact set_here (i := 4) h5 (.int .i64 m)

theorem six_root' {w : World} {l a E : Nat} {m : Int} {r0 r1 r2 r3 r4 : Value} (hl : l ≠ E) (hla : l ≠ a) (h : w.heap[l]? = some (Obj.cells #[r0, r1, r2, r3, r4] 107 (0, 0))) :
    (six w l a E m).heap[l]? = some (Obj.cells #[r0, ptr E, r2, r3, .int .i64 m] 107 (0, 0)) := by
  have h1 := (set_far (i := 1) (v := ptr a) hl).trans h
  have h2 := (set_far (i := 0) (v := ptr l) hl).trans h1
  have h3 := (set_far (i := 0) (v := ptr E) hla).trans h2
  have h4 := set_here (i := 1) h3 (ptr E)
  have h5 := (set_far (i := 2) (v := ptr l) hl).trans h4
  exact set_here (i := 4) h5 (.int .i64 m)

theorem six_last {w : World} {l a E : Nat} {m : Int} {r0 r1 r2 r3 : Value} (hl : a ≠ E) (hla : a ≠ l) (h : w.heap[a]? = some (Obj.cells #[r0, r1, r2, r3] 99 (0, 0))) :
    (six w l a E m).heap[a]? = some (Obj.cells #[ptr E, r1, r2, r3] 99 (0, 0)) := by
  rw [set_far hla, set_far hl, set_far hla]
  have h1 := (set_far (i := 1) (v := ptr a) hl).trans h
  have h2 := (set_far (i := 0) (v := ptr l) hl).trans h1
  exact set_here (i := 0) h2 (ptr E)

theorem set_os (w : World) (a : Addr) (v : Value) : (w.setCell a v).os = w.os := rfl
theorem set_tape (w : World) (a : Addr) (v : Value) : (w.setCell a v).tape = w.tape := rfl
theorem set_output (w : World) (a : Addr) (v : Value) : (w.setCell a v).output = w.output := rfl
theorem alloc_os (w : World) (o : Obj) : (w.alloc o).os = w.os := rfl
theorem alloc_tape (w : World) (o : Obj) : (w.alloc o).tape = w.tape := rfl
theorem alloc_output (w : World) (o : Obj) : (w.alloc o).output = w.output := rfl
theorem six_os {w : World} {l a E : Nat} {m : Int} : (six w l a E m).os = w.os := by rw [set_os, set_os, set_os, set_os, set_os, set_os]
theorem six_tape {w : World} {l a E : Nat} {m : Int} : (six w l a E m).tape = w.tape := by rw [set_tape, set_tape, set_tape, set_tape, set_tape, set_tape]
theorem six_output {w : World} {l a E : Nat} {m : Int} : (six w l a E m).output = w.output := by rw [set_output, set_output, set_output, set_output, set_output, set_output]
theorem six_size {w : World} {l a E : Nat} {m : Int} : (six w l a E m).heap.size = w.heap.size := by simp

/-- The element's block as insertValue lays it. -/
abbrev fresh (cl : Nat) : Obj := .cells #[.pointer none, .pointer none, .pointer none, .iface 42 (ptr cl)] 99

theorem pushed_root {w w' : World} {l : Nat} {e : Nat → Nat} {cl : Nat} {r0 r1 r4 : Value} (hr : w.heap[l]? = some (Obj.cells #[r0, r1, .pointer none, .nilIface, r4] 107 (0, 0)))
    (hw : w' = six (w.alloc (fresh cl)) l l w.heap.size 1) : Pushed w w' l 0 e cl := by
  subst hw
  have hlt := lt_of_block hr
  have hne : l ≠ w.heap.size := Nat.ne_of_lt hlt
  have hr' := (Below.heap_alloc w (fresh cl) l hlt).trans hr
  have hn' := (MapKept.heap_alloc w (fresh cl)).1
  refine ⟨six_os.trans (alloc_os _ _), six_tape.trans (alloc_tape _ _), six_output.trans (alloc_output _ _), ?_, ⟨_, six_root hne hr'⟩, six_new (Ne.symm hne) (Ne.symm hne) hn', fun j _ _ hj => by omega, fun k hk h1 _ => ?_⟩
  · rw [six_size]; simp
  · rw [six_far h1 h1 (Nat.ne_of_lt hk)]
    exact Below.heap_alloc w _ k hk

theorem pushed_last {w w' : World} {l m : Nat} {e : Nat → Nat} {cl : Nat} {r0 : Nat} {r1 r4 pm cm : Value} (hr : w.heap[l]? = some (Obj.cells #[ptr r0, r1, .pointer none, .nilIface, r4] 107 (0, 0)))
    (he : w.heap[e m]? = some (Obj.cells #[ptr l, pm, ptr l, cm] 99 (0, 0))) (hle : l < e m)
    (hw : w' = six (w.alloc (fresh cl)) l (e m) w.heap.size (((m + 1 : Nat) : Int) + 1)) : Pushed w w' l (m + 1) e cl := by
  subst hw
  have hlt := lt_of_block hr
  have helt := lt_of_block he
  have hne : l ≠ w.heap.size := Nat.ne_of_lt hlt
  have hne' : e m ≠ w.heap.size := Nat.ne_of_lt helt
  have hne2 : l ≠ e m := Nat.ne_of_lt hle
  have hr' := (Below.heap_alloc w (fresh cl) l hlt).trans hr
  have he' := (Below.heap_alloc w (fresh cl) (e m) helt).trans he
  have hn' := (MapKept.heap_alloc w (fresh cl)).1
  refine ⟨six_os.trans (alloc_os _ _), six_tape.trans (alloc_tape _ _), six_output.trans (alloc_output _ _), ?_, ⟨_, six_root' hne hne2 hr'⟩, ?_, fun j cj pj hj hc => ?_, fun k hk h1 h2 => ?_⟩
  · rw [six_size]; simp
  · have := six_new (m := ((m + 1 : Nat) : Int) + 1) (Ne.symm hne) (Ne.symm hne') hn'
    simpa [lastOf] using this
  · obtain rfl : j = m := by omega
    rw [hc] at he
    simp at he
    have := six_last (l := l) (m := ((j + 1 : Nat) : Int) + 1) hne' (Ne.symm hne2) he'
    exact ⟨_, by rw [he.1, he.2]; exact this⟩
  · rw [six_far h1 (h2 m rfl) (Nat.ne_of_lt hk)]
    exact Below.heap_alloc w _ k hk

set_option maxHeartbeats 1000000 in
theorem value_root {w : World} {l : Nat} {e c : Nat → Nat} {z : Nat → Int} {cl : Nat} (h : LInv w l 0 e c z) :
    Calls Trym.prog 43 #[ptr l, .iface 42 (ptr cl), ptr l] w fun r w' => r = .returned (ptr w.heap.size) ∧ Pushed w w' l 0 e cl := by
  obtain ⟨rn, hr, hr0⟩ := h.root
  obtain rfl := hr0 rfl
  have hlt := lt_of_block hr
  have hr' := (Below.heap_alloc w (fresh cl) rn hlt).trans hr
  have hn' := (MapKept.heap_alloc w (fresh cl)).1
  have HR0 : Hid _ := hr
  have HR : Hid _ := hr'
  have HN : Hid _ := hn'
  clear hr' hn' hr
  go_enter Trym.func43, Trym.ntmps43
  go_wp2_with (go_at_call 45; refine (insert_root hlt (cell_of HR.out) (cell_of HR.out) (cell_of HR.out) (cell_of HN.out) (cell_of HN.out) (cell_of HN.out) (fun _ => free_of HR.out) (fun _ => free_of HN.out)).mono ?_; rintro r w' ⟨rfl, hw⟩; have hp := pushed_root (e := e) HR0.out hw; clear hw)
  go_ret
  exact ⟨rfl, hp⟩

set_option maxHeartbeats 1000000 in
theorem value_last {w : World} {l m : Nat} {e c : Nat → Nat} {z : Nat → Int} {cl : Nat} (h : LInv w l (m + 1) e c z) (hm : m ≤ 200000) :
    Calls Trym.prog 43 #[ptr l, .iface 42 (ptr cl), ptr (e m)] w fun r w' => r = .returned (ptr w.heap.size) ∧ Pushed w w' l (m + 1) e cl := by
  obtain ⟨rn, hr, _⟩ := h.root
  obtain ⟨nx, he, hx⟩ := h.elem m (by omega)
  obtain rfl := hx rfl
  have hlt := lt_of_block hr
  have helt := lt_of_block he
  have hle := h.elo m (by omega)
  have hr' := (Below.heap_alloc w (fresh cl) l hlt).trans hr
  have he' := (Below.heap_alloc w (fresh cl) (e m) helt).trans he
  have hn' := (MapKept.heap_alloc w (fresh cl)).1
  have HR0 : Hid _ := hr
  have HR : Hid _ := hr'
  have HE : Hid _ := he'
  have HE0 : Hid _ := he
  have HN : Hid _ := hn'
  clear hr' hn' hr he' he
  go_enter Trym.func43, Trym.ntmps43
  go_wp2_with (go_at_call 45; refine (insert_last (m := ((m + 1 : Nat) : Int)) hle helt (by omega) (by omega) (cell_of HE.out) (cell_of HR.out) (cell_of HR.out) (cell_of HN.out) (cell_of HN.out) (cell_of HN.out) (fun _ => free_of HR.out) (fun _ => free_of HE.out) (fun _ => free_of HN.out)).mono ?_; rintro r w' ⟨rfl, hw⟩; have hp := pushed_last HR0.out HE0.out hle hw; clear hw)
  go_ret
  exact ⟨rfl, hp⟩

set_option maxHeartbeats 1000000 in
theorem push_any {w : World} {l m : Nat} {e c : Nat → Nat} {z : Nat → Int} {cl : Nat} (h : LInv w l m e c z) (hm : m ≤ 200000) :
    Calls Trym.prog 35 #[ptr l, .iface 42 (ptr cl)] w fun r w' => r = .returned (ptr w.heap.size) ∧ Pushed w w' l m e cl := by
  obtain ⟨rn, hr, _⟩ := h.root
  have hl0 : w.cell? ⟨l, 0, none⟩ = some (ptr rn) := cell_of hr
  have hl1 : w.cell? ⟨l, 1, none⟩ = some (ptr (lastOf l m e)) := cell_of hr
  cases m with
  | zero =>
    have hl1 : w.cell? ⟨l, 1, none⟩ = some (ptr l) := hl1
    clear hr
    go_enter Trym.func35, Trym.ntmps35
    go_wp2_with (first
      | (go_at_call 42; refine (lazy_any hl0).mono ?_; rintro r w' ⟨rfl, hw⟩; subst w')
      | (go_at_call 43; refine (value_root h).mono ?_; rintro r w' ⟨rfl, hp⟩))
    go_ret
    exact ⟨rfl, hp⟩
  | succ m =>
    have hl1 : w.cell? ⟨l, 1, none⟩ = some (ptr (e m)) := by simpa [lastOf] using hl1
    clear hr
    go_enter Trym.func35, Trym.ntmps35
    go_wp2_with (first
      | (go_at_call 42; refine (lazy_any hl0).mono ?_; rintro r w' ⟨rfl, hw⟩; subst w')
      | (go_at_call 43; refine (value_last h (by omega)).mono ?_; rintro r w' ⟨rfl, hp⟩))
    go_ret
    exact ⟨rfl, hp⟩
end Go.Proofs.Qxb6618960aMods.W
