import Derived.Test.Qxb6618960aModsW7
namespace Go.Proofs.Qxb6618960aMods.W
open Go.ChangeShapes Go.WideShapes Go.ChangeAt Go.RowKit

/-- Where givable stands inside a peer. -/
structure Giv (mine : Int) (x : Int) (z : Nat → Int) (m t : Nat) : Prop where
  le : t ≤ m
  same : P.down mine x z t = P.down mine x z m

set_option maxRecDepth 100000 in
set_option maxHeartbeats 4000000 in
theorem givable_any {w : World} {ao ho : Option Addr} {n cap dap : Nat} {A : Nat → Option Addr} {L C : Nat → Nat} {Z : Nat → Nat → Int} {X : Nat → Int} {mine : Int} (hv : SRow w ao n A L C Z) (hh : IRow w ho n (hold L X Z)) (hpr : Prem n L X Z) (hn : n ≤ 1024) (hL : P.sumL L n ≤ 131072) :
    Calls Trym.prog 15 #[.slice ao n cap, .slice ho n dap, .int .i64 mine] w fun r w' => r = .returned (.int .i64 (P.G mine X Z L n)) ∧ w' = w := by
  have hle := hv.le
  have hfin : P.Fines Z L n := fun p hp => (hpr p hp).2.2.2
  have HFIN : Hid (P.Fines Z L n) := hfin
  have HPR : Hid (Prem n L X Z) := hpr
  clear hpr hfin
  go_enter Trym.func15, Trym.ntmps15
  go_wp2
  go_loop [7, 8] (fun g i => ∃ (k : Nat), k ≤ n ∧ i = .int .i64 k ∧ g = .int .i64 (P.G mine X Z L k)) (fun _ i => n - (intOf i).toNat)
  case atStart => exact ⟨0, Nat.zero_le _, rfl, rfl⟩
  case round =>
    obtain ⟨k, hk, rfl, rfl⟩ := hrel
    by_cases hlt : k < n
    · have hlk := (hv.row k hlt).le
      have hLk : L k ≤ 131072 := Nat.le_trans (P.sumL_one hlt) hL
      obtain ⟨b, off, hao, c0, hb⟩ := hv.ok k hlt
      obtain ⟨b', off', hbo, d0, hb'⟩ := hh.ok k hlt
      have hrow := hv.row k hlt
      subst hao hbo
      obtain ⟨_, hx0, hx1, hz⟩ := HPR.out k hlt
      have HF : Hid (P.Fine (Z k) (L k)) := hz
      have HROW : Hid _ := hrow
      have hgb := P.G_bound (mine := mine) (x := X) HFIN.out (fun p _ => Nat.le_refl _) k hk
      have hsum := P.sumL_mono (L := L) (show k + 1 ≤ n from hlt)
      simp only [P.sumL] at hsum
      have hsl := P.S_bound HF.out (L k) (Nat.le_refl _)
      clear hz hrow hv hh
      unfold hold at d0
      go_wp2
      go_loop [7, 9, 10] (fun g v i => ∃ (t : Nat), Giv mine (X k) (Z k) (L k) t ∧ i = .int .i64 ((t : Int) - 1) ∧ v = .int .i64 (X k + P.S (Z k) t) ∧ g = .int .i64 (P.G mine X Z L k + (P.S (Z k) (L k) - P.S (Z k) t))) (fun _ _ i => (intOf i + 1).toNat)
      case atStart => exact ⟨L k, ⟨Nat.le_refl _, rfl⟩, rfl, rfl, by simp⟩
      case round =>
        obtain ⟨t, ht, rfl, rfl, rfl⟩ := hrel
        have htl := ht.le
        have hst := P.S_bound HF.out t htl
        have hsm := P.S_mono HF.out htl (Nat.le_refl _)
        have HT : Hid _ := ht
        clear ht
        cases t with
        | zero =>
          have hz : decide ((((0 : Nat) : Int) - 1) ≥ 0) = false := by decide
          have he : P.G mine X Z L k + (P.S (Z k) (L k) - P.S (Z k) 0) = P.G mine X Z L (k + 1) := by
            simp only [P.G, P.give]
            rw [← HT.out.same]
            rfl
          go_wp2
          go_round
          case rel => exact ⟨k + 1, by omega, by go_num, by rw [he]⟩
          case measure => simp [intOf]; omega
        | succ t =>
          have hz := HF.out t (by omega)
          obtain ⟨b2, off2, ha, g0, hb2⟩ := HROW.out.ok t (by omega)
          by_cases hc : X k + P.S (Z k) (t + 1) ≤ mine
          · have he : P.G mine X Z L k + (P.S (Z k) (L k) - P.S (Z k) (t + 1)) = P.G mine X Z L (k + 1) := by
              simp only [P.G, P.give]
              rw [← HT.out.same, P.down_stop (Or.inr hc)]
            clear ha
            go_wp2
            go_round
            case rel => exact ⟨k + 1, by omega, by go_num, by rw [he]⟩
            case measure => simp [intOf]; omega
          · rw [ha] at c0
            have hS : P.S (Z k) (t + 1) = P.S (Z k) t + Z k t := rfl
            have hg : Giv mine (X k) (Z k) (L k) t := ⟨by omega, by rw [← HT.out.same, P.down_more (by omega)]⟩
            have HG : Hid _ := hg
            have hst' := P.S_bound HF.out t (by omega)
            clear ha hg
            go_wp2
            go_round
            case rel => exact ⟨t, HG.out, rfl, by congr 1; omega, by congr 1; omega⟩
            case measure => simp [intOf]
    · obtain rfl : n = k := by omega
      go_wp2
      go_ret
      exact ⟨rfl, rfl⟩

/-- A row of claims, whose sizes are v. -/
structure CRow (w : World) (ao : Option Addr) (m : Nat) (cl : Nat → Nat) (v : Nat → Int) : Prop where
  ok : ∀ i, i < m → ∃ b off, ao = some ⟨b, off, none⟩ ∧ w.cell? ⟨b, off + i, none⟩ = some (ptr (cl i)) ∧ b < w.heap.size
  size : ∀ i, i < m → ∃ cs, w.heap[cl i]? = some (Obj.cells cs 94 (0, 0)) ∧ cs[2]? = some (.int .i64 (v i))

theorem CRow.below {w w' : World} {ao : Option Addr} {m : Nat} {cl : Nat → Nat} {v : Nat → Int} (h : CRow w ao m cl v) (hb : Below w.heap.size w w') : CRow w' ao m cl v := by
  refine ⟨fun i hi => ?_, fun i hi => ?_⟩
  · obtain ⟨b, off, rfl, c0, hlt⟩ := h.ok i hi
    exact ⟨b, off, rfl, (hb.cell hlt).trans c0, Nat.lt_of_lt_of_le hlt hb.size⟩
  · obtain ⟨cs, h1, h2⟩ := h.size i hi
    exact ⟨cs, (hb.block _ (lt_of_block h1)).trans h1, h2⟩

set_option maxRecDepth 100000 in
set_option maxHeartbeats 2000000 in
theorem sum_any {w : World} {ao : Option Addr} {m cap : Nat} {cl : Nat → Nat} {v : Nat → Int} (hv : CRow w ao m cl v) (hm : m ≤ 131072) (hf : P.Fine v m) :
    Calls Trym.prog 18 #[.slice ao m cap] w fun r w' => r = .returned (.int .i64 (P.S v m)) ∧ w' = w := by
  have HF : Hid (P.Fine v m) := hf
  clear hf
  go_enter Trym.func18, Trym.ntmps18
  go_wp2
  go_loop [3, 4] (fun s i => ∃ (k : Nat), k ≤ m ∧ i = .int .i64 k ∧ s = .int .i64 (P.S v k)) (fun _ i => m - (intOf i).toNat)
  case atStart => exact ⟨0, Nat.zero_le _, rfl, rfl⟩
  case round =>
    obtain ⟨k, hk, rfl, rfl⟩ := hrel
    by_cases hlt : k < m
    · obtain ⟨b, off, rfl, c0, hb⟩ := hv.ok k hlt
      obtain ⟨cs, h1, h2⟩ := hv.size k hlt
      have hS := P.S_bound HF.out k hk
      have hz := HF.out k hlt
      have H1 : Hid _ := h1
      have H2 : Hid _ := h2
      clear h1 h2
      go_wp2_with fail
      refine (size_any H1.out H2.out).mono ?_
      rintro r w' ⟨rfl, hw⟩
      subst w'
      go_wp2
      go_round
      case rel => exact ⟨k + 1, by omega, by go_num, rfl⟩
      case measure => simp [intOf]; omega
    · obtain rfl : m = k := by omega
      go_wp2
      go_ret
      exact ⟨rfl, rfl⟩
end Go.Proofs.Qxb6618960aMods.W
