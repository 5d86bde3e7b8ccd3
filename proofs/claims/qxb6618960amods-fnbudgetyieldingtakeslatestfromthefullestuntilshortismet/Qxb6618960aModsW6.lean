import Derived.Test.Qxb6618960aModsW5
import Derived.Laws.EntriesVeiled
namespace Go.Proofs.Qxb6618960aMods.W
open Go.ChangeShapes Go.WideShapes Go.ChangeAt Go.RowKit
open Go.Proofs.Qxb6618960aMods.T (MapIs upd upd_same upd_other mapIs_made wpList_look wpList_look_ok wpList_store wpList_next_tok tok key Rd)

theorem zero2 (w : World) : (zeroValue 2).run Trym.prog w = .ok (.int .i64 0) w := by kernel_rfl
theorem zero89 (w : World) : (zeroValue 89).run Trym.prog w = .ok (.pointer none) w := by kernel_rfl
theorem zero92 (w : World) : (zeroValue 92).run Trym.prog w = .ok (.pointer none) w := by kernel_rfl

/-- The budget's block as NewBudget lays it. -/
abbrev budObj (bp bw : Nat) : Obj := .cells #[.int .i64 1099511627776, .int .i64 1099511627776, .int .i32 0, .int .u32 0, .int .i64 0, .map (some bp), .int .i64 0, .map (some bw)] 87

theorem budget_any {w : World} : Calls Trym.prog 23 #[.int .i64 1099511627776, .int .i64 1099511627776] w fun e w' =>
    e = .returned (ptr (w.heap.size + 2)) ∧ w' = ((w.alloc (.map #[] 0)).alloc (.map #[] 0)).alloc (budObj w.heap.size (w.heap.size + 1)) := by
  have hmm := @run_makeMap Trym.prog
  go_enter Trym.func23, Trym.ntmps23
  go_wp2
  go_ret
  exact ⟨rfl, rfl⟩

theorem set_any {w : World} {B bp n : Nat} {f : ByteArray → Option Value} {s : ByteArray} {h : Int} (c5 : w.cell? ⟨B, 5, none⟩ = some (.map (some bp))) (hm : MapIs Trym.prog 9 w bp n f) (hn : n < maxLen) (hs : s.size ≤ maxLen) :
    Calls Trym.prog 27 #[ptr B, .string s, .int .i64 h] w fun e w' => e = .returned (.tuple #[]) ∧ MapIs Trym.prog 9 w' bp (n + 1) (upd f s (.int .i64 h)) ∧ w.grownBy w' (some bp) := by
  go_enter Trym.func27, Trym.ntmps27
  go_wp2_with (at_mapUpdate; refine wpList_store _ rfl (.tmp 9) (.tmp 10) (.tmp 11) 78 rfl 9 2 Trym.underlying9 Trym.underlying78 bp n f rfl hm hn s rfl hs _ rfl ?_; intro w1 hm1 hg1)
  go_end0
  exact ⟨rfl, hm1, hg1⟩

/-- The list's root as list.New lays it. -/
abbrev rootObj (l : Nat) : Obj := .cells #[ptr l, ptr l, .pointer none, .nilIface, .int .i64 0] 107

theorem linv_new {w : World} {l : Nat} {e c : Nat → Nat} {z : Nat → Int} (h : w.heap[l]? = some (rootObj l)) : LInv w l 0 e c z :=
  ⟨⟨l, h, fun _ => rfl⟩, fun j hj => by omega, fun j hj => by omega, fun j hj => by omega, fun j hj => by omega, fun i j _ hj => by omega, fun i j _ hj => by omega⟩

set_option maxRecDepth 100000 in
set_option maxHeartbeats 2000000 in
theorem wait_any {w : World} {B bw n : Nat} {f : ByteArray → Option Value} {s : ByteArray} (hB : B < w.heap.size) (c7 : w.cell? ⟨B, 7, none⟩ = some (.map (some bw))) (hm : MapIs Trym.prog 9 w bw n f) (hn : n < maxLen) (hs : s.size ≤ maxLen) :
    Calls Trym.prog 25 #[ptr B, .string s] w fun e w' => e = .returned (.tuple #[]) ∧ MapIs Trym.prog 9 w' bw (n + 1) (upd f s (ptr w.heap.size)) ∧ (w.alloc (rootObj w.heap.size)).grownBy w' (some bw) := by
  obtain ⟨w1, hrun, hm1, hg1⟩ := ((hm.alloc (rootObj w.heap.size)).drew).store (t := 79) Trym.underlying9 Trym.underlying79 hn hs (ptr w.heap.size)
  have c7' : (w.alloc (rootObj w.heap.size)).cell? ⟨B, 7, none⟩ = some (.map (some bw)) := (((Below.refl _ w).alloc (Nat.le_refl _) (rootObj w.heap.size)).cell hB).trans c7
  go_enter Trym.func25, Trym.ntmps25
  go_wp2
  go_region_with (go_at_call 34; refine new_any.mono ?_; rintro e w' ⟨rfl, hw⟩; subst w')
  all_goals
    go_end0
    exact ⟨rfl, hm1, ⟨hg1.os, hg1.tape, hg1.output, hg1.size, hg1.block⟩⟩

/-- Only blocks of X have changed; new ones may have come. -/
structure Chg (w w' : World) (X : Nat → Prop) : Prop where
  os : w'.os = w.os
  tape : w'.tape = w.tape
  output : w'.output = w.output
  size : w.heap.size ≤ w'.heap.size
  block : ∀ k, k < w.heap.size → ¬ X k → w'.heap[k]? = w.heap[k]?

theorem Chg.below {w w' : World} {X : Nat → Prop} {B : Nat} (h : Chg w w' X) (hB : B ≤ w.heap.size) (hX : ∀ k, X k → B ≤ k) : Below B w w' :=
  ⟨h.os, h.tape, h.output, h.size, fun k hk => h.block k (by omega) (fun hx => by have := hX k hx; omega)⟩
theorem Chg.trans {w w' w'' : World} {X Y Z : Nat → Prop} (h : Chg w w' X) (h' : Chg w' w'' Y) (hX : ∀ k, k < w.heap.size → X k → Z k) (hY : ∀ k, k < w.heap.size → Y k → Z k) : Chg w w'' Z :=
  ⟨h'.os.trans h.os, h'.tape.trans h.tape, h'.output.trans h.output, Nat.le_trans h.size h'.size, fun k hk hz => (h'.block k (Nat.lt_of_lt_of_le hk h.size) (fun hy => hz (hY k hk hy))).trans (h.block k hk (fun hx => hz (hX k hk hx)))⟩

theorem LInv.setClaim {w : World} {l m : Nat} {e c : Nat → Nat} {z : Nat → Int} {cl : Nat} {cs : Array Value} (h : LInv w l m e c z) (hc : w.heap[cl]? = some (Obj.cells cs 94 (0, 0))) (v : Value) : LInv (w.setCell ⟨cl, 7, none⟩ v) l m e c z := by
  obtain ⟨h1, h2, h3, h4, h5, h6, h7⟩ := h
  refine ⟨?_, fun j hj => ?_, fun j hj => ?_, h4, h5, h6, h7⟩
  · obtain ⟨rn, a, b⟩ := h1
    refine ⟨rn, (set_far ?_).trans a, b⟩
    rintro rfl
    rw [hc] at a
    cases a
  · obtain ⟨nx, a, b⟩ := h2 j hj
    refine ⟨nx, (set_far ?_).trans a, b⟩
    intro e0
    rw [e0, hc] at a
    cases a
  · obtain ⟨cs', a, b⟩ := h3 j hj
    by_cases e0 : c j = cl
    · rw [e0] at a ⊢
      refine ⟨_, set_here a v, ?_⟩
      rw [Array.getElem?_setIfInBounds]
      simp
      exact b
    · exact ⟨cs', (set_far e0).trans a, b⟩

/-- A claim's block as it is laid. -/
abbrev claimObj (B : Nat) (s : ByteArray) (size : Int) : Obj := .cells #[ptr B, .string s, .int .i64 size, .int .i64 0, .pointer none, .bool true, .bool false, .pointer none, .nilFunc, .bool false, .bool false, .int .i64 0] 94

/-- What PushWaiting touches. -/
def lastX (l m : Nat) (e : Nat → Nat) (k : Nat) : Prop := k = l ∨ ∃ j, j + 1 = m ∧ k = e j

set_option maxRecDepth 100000 in
set_option maxHeartbeats 2000000 in
theorem pushw_any {w : World} {B bw n : Nat} {f : ByteArray → Option Value} {s : ByteArray} {l m : Nat} {e c : Nat → Nat} {z : Nat → Int} (hB : B < w.heap.size) (c7 : w.cell? ⟨B, 7, none⟩ = some (.map (some bw))) (hm : MapIs Trym.prog 9 w bw n f) (hs : s.size ≤ maxLen)
    (hf : f s = some (ptr l)) (h : LInv w l m e c z) (hm2 : m ≤ 200000) :
    Calls Trym.prog 26 #[ptr B, .string s, .int .i64 (z m)] w fun r w' => r = .returned (ptr w.heap.size) ∧ LInv w' l (m + 1) (updN e m (w.heap.size + 1)) (updN c m w.heap.size) z ∧ Chg w w' (lastX l m e) ∧ w'.heap.size = w.heap.size + 2 := by
  have hlt := h.lt
  have helt : ∀ j, j < m → e j < w.heap.size := fun j hj => h.elt hj
  have hclt : ∀ j, j < m → c j < w.heap.size := fun j hj => h.clt hj
  have hb1 : Below w.heap.size w (w.alloc (claimObj B s (z m))) := (Below.refl _ w).alloc (Nat.le_refl _) _
  have c7' := (hb1.cell (p := ⟨B, 7, none⟩) hB).trans c7
  have hm1 := hm.alloc (claimObj B s (z m))
  have h1 := h.below hb1
  have hn1 := (MapKept.heap_alloc w (claimObj B s (z m))).1
  have hfz : (f s).getD (.pointer none) = ptr l := by rw [hf]; rfl
  have HN : Hid _ := hn1
  have HC : Hid (∀ j, j < m → c j < w.heap.size) := hclt
  have HE : Hid (∀ j, j < m → e j < w.heap.size) := helt
  clear hn1 hclt helt hf
  go_enter Trym.func26, Trym.ntmps26
  go_wp2_with (first
    | (at_lookup; refine wpList_look _ rfl (.tmp 17) (.tmp 18) 79 rfl 9 89 Trym.underlying9 Trym.underlying79 (zero89 _) bw n f rfl hm1 s rfl hs _ hfz ?_)
    | fail)
  refine (push_any h1 hm2).mono ?_
  rintro r w2 ⟨rfl, hp⟩
  have hsz1 : (w.alloc (claimObj B s (z m))).heap.size = w.heap.size + 1 := by simp
  have hc2 : w2.heap[w.heap.size]? = some (claimObj B s (z m)) := by
    rw [hp.far w.heap.size (by rw [hsz1]; omega) (by omega) (fun j hj => Nat.ne_of_gt (HE.out j (by omega)))]
    exact HN.out
  have hl2 := h1.pushed hp hlt HC.out (fun j hj => Nat.ne_of_gt (HE.out j (by omega))) HN.out rfl
  have hl3 := hl2.setClaim hc2 (ptr (w.alloc (claimObj B s (z m))).heap.size)
  have hch : Chg w (w2.setCell ⟨w.heap.size, 7, none⟩ (ptr (w.alloc (claimObj B s (z m))).heap.size)) (lastX l m e) := by
    refine ⟨(set_os _ _ _).trans hp.os, (set_tape _ _ _).trans hp.tape, (set_output _ _ _).trans hp.output, ?_, fun k hk hx => ?_⟩
    · rw [set_size, hp.size, hsz1]; omega
    · rw [set_far (Nat.ne_of_lt hk), hp.far k (by rw [hsz1]; omega) (fun e0 => hx (Or.inl e0)) (fun j hj e0 => hx (Or.inr ⟨j, hj, e0⟩))]
      exact Below.heap_alloc _ _ _ hk
  have hsz : (w2.setCell ⟨w.heap.size, 7, none⟩ (ptr (w.alloc (claimObj B s (z m))).heap.size)).heap.size = w.heap.size + 2 := by rw [set_size, hp.size, hsz1]
  have d7 : w2.cell? ⟨w.heap.size, 7, none⟩ = some (.pointer none) := cell_of hc2
  have g7 : w2.frozen? ⟨w.heap.size, 7, none⟩ = false := free_of hc2
  rw [hsz1] at hl3 hch hsz
  have HL : Hid _ := hl3
  have HH : Hid _ := hch
  have HZ : Hid _ := hsz
  clear hc2 hl2 hl3 hch hsz hp hsz1
  go_wp2
  go_ret
  exact ⟨rfl, HL.out, HH.out, HZ.out⟩
end Go.Proofs.Qxb6618960aMods.W
