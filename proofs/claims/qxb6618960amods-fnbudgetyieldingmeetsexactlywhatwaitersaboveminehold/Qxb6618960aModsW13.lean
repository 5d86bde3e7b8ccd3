import Derived.Test.Qxb6618960aModsLens
namespace Go.Proofs.Qxb6618960aMods.W
open Go.ChangeShapes Go.WideShapes Go.ChangeAt Go.RowKit

theorem neq_nil38 (w : World) : (binOp .neq 38 (.slice none 0 0) (.slice none 0 0)).run Trym.prog w = .ok (.bool false) w := by
  have h : ∀ d : Nat, (Op.equalIn (d + 1) 38 (.slice none 0 0) (.slice none 0 0)).run Trym.prog w = .ok true w := fun d => by
    simp [Op.equalIn, run_underlying Trym.underlying38]
  simp only [binOp]
  simp [Op.equal, Op.maxDepth, h 9999]

set_option maxRecDepth 100000 in
set_option maxHeartbeats 8000000 in
theorem law2 {w : World} {ao bo : Option Addr} {n cap m dap : Nat} {A : Nat → Option Addr} {L C : Nat → Nat} {Z : Nat → Nat → Int} {X : Nat → Int} {mine : Int} (hv : SRow w ao n A L C Z) (hu : IRow w bo m X) :
    Calls Trym.prog 5 #[.slice ao n cap, .slice bo m dap, .int .i64 mine] w fun e w' => e = .returned (.bool true) ∧ Below w.heap.size w w' := by
  have hle := hv.le
  have hle' := hu.le
  go_enter Trym.func5, Trym.ntmps5
  go_wp2_with fail
  refine (bytes2_len hv hu).mono ?_
  rintro r w' ⟨⟨q, rfl, hsh⟩, hw⟩
  subst w'
  cases q with
  | false =>
    clear hsh
    go_wp2
    go_ret
    exact ⟨rfl, Below.refl _ _⟩
  | true =>
    have HSH := hid (hsh rfl)
    clear hsh
    by_cases g1 : 131072 < m
    · go_wp2
      go_ret
      exact ⟨rfl, Below.refl _ _⟩
    by_cases g2 : 131072 < n
    · go_wp2
      go_ret
      exact ⟨rfl, Below.refl _ _⟩
    by_cases g3 : 131072 < m + 3 * n
    · go_wp2
      go_ret
      exact ⟨rfl, Below.refl _ _⟩
    go_wp2
    go_loop [7, 8] (fun s i => ∃ (k : Nat), k ≤ n ∧ i = .int .i64 k ∧ s = .int .i64 ((m : Int) + 3 * n + (P.sumL L k : Nat)) ∧ m + 3 * n + P.sumL L k ≤ 131072) (fun _ i => n - (intOf i).toNat)
    case atStart => exact ⟨0, Nat.zero_le _, rfl, by simp [P.sumL], by simp only [P.sumL]; omega⟩
    case round =>
      obtain ⟨k, hk, rfl, rfl, hsum⟩ := hrel
      by_cases hlt : k < n
      · obtain ⟨b, off, rfl, c0, hb⟩ := hv.ok k hlt
        have hlk := HSH.out k hlt
        by_cases g4 : (131072 : Int) < (m : Int) + 3 * n + (P.sumL L k : Nat) + (L k : Nat)
        · go_wp2
          go_ret
          exact ⟨rfl, Below.refl _ _⟩
        · have hS : P.sumL L (k + 1) = P.sumL L k + L k := rfl
          have HS := hid hS
          clear hS
          go_wp2
          go_round
          case rel => exact ⟨k + 1, by omega, by go_num, by rw [HS.out]; congr 1; omega, by rw [HS.out]; omega⟩
          case measure => simp [intOf]; omega
      · obtain rfl : n = k := by omega
        by_cases g5 : 1024 < n
        · go_wp2
          go_ret
          exact ⟨rfl, Below.refl _ _⟩
        go_wp2_with fail
        refine (prem_any hv hu).mono ?_
        rintro r w' ⟨⟨q, rfl, hpq⟩, hw⟩
        subst w'
        cases q with
        | false =>
          clear hpq
          go_wp2
          go_ret
          exact ⟨rfl, Below.refl _ _⟩
        | true =>
          obtain ⟨rfl, hpr⟩ := hpq rfl
          have hpm : Pm m L X Z := ⟨by omega, hpr, by omega⟩
          have HPM := hid hpm
          clear hpq hpr hpm
          go_wp2_with fail
          refine (build_any hv hu HPM.out.pr (by omega) HPM.out.su).mono ?_
          rintro r w1 ⟨l, rw, e, c, rfl, hst⟩
          have HST := hid hst
          have hb1 := hst.below
          have hgr := G_range (mine := mine) HPM.out
          clear hst
          have hv1 := hv.below hb1
          go_wp2_with fail
          refine (givable_any (X := X) (mine := mine) hv1 (HST.out.held (by omega)) HPM.out.pr (by omega) HPM.out.su).mono ?_
          rintro r w' ⟨rfl, hw⟩
          subst w'
          go_wp2_with fail
          refine (zzy_any HST.out.ok HPM.out (by omega) (by omega)).mono ?_
          rintro r w2 ⟨he2, hb2⟩
          obtain ⟨ao2, m2, cap2, pk2, rfl, hva2, htk2, hm2, hcr2⟩ : ∃ ao m2 cap pk, r = .returned (.tuple #[.slice ao m2 cap, .bool true]) ∧ P.Valid mine (P.G mine X Z L m) X Z m L pk m2 ∧ P.G mine X Z L m ≤ P.tk L Z pk m2 ∧ m2 ≤ 131072 ∧ CRow w2 ao m2 (clm L c pk) (siz L Z pk) := by
            rcases he2 with ⟨_, _, h⟩ | h
            · omega
            · exact h
          have hs2 : P.S (siz L Z pk2) m2 = P.G mine X Z L m := by rw [siz_sum]; have := tk_le HPM.out hva2; omega
          have hf2 := hid (siz_fine HPM.out hva2)
          have hok2 := hid (HST.out.ok.below hb2)
          have HS2 := hid hs2
          clear he2 hva2 htk2 hs2
          go_wp2_with fail
          refine (zzy_any hok2.out HPM.out (by omega) (by omega)).mono ?_
          rintro r w3 ⟨he3, hb3⟩
          obtain rfl : r = .returned (.tuple #[.slice none 0 0, .bool false]) := by
            rcases he3 with ⟨h, _⟩ | ⟨_, _, _, _, _, h1, h2, _⟩
            · exact h
            · have := tk_le HPM.out h1; omega
          have hok3 := hid (hok2.out.below hb3)
          clear he3
          go_wp2_with fail
          refine (zzy_any hok3.out HPM.out (by omega) (by omega)).mono ?_
          rintro r w4 ⟨he4, hb4⟩
          obtain ⟨ao4, m4, cap4, pk4, rfl, hva4, htk4, hm4, hcr4⟩ : ∃ ao m2 cap pk, r = .returned (.tuple #[.slice ao m2 cap, .bool true]) ∧ P.Valid mine (P.G mine X Z L m) X Z m L pk m2 ∧ P.G mine X Z L m ≤ P.tk L Z pk m2 ∧ m2 ≤ 131072 ∧ CRow w4 ao m2 (clm L c pk) (siz L Z pk) := by
            rcases he4 with ⟨_, _, h⟩ | h
            · omega
            · exact h
          have hs4 : P.S (siz L Z pk4) m4 = P.G mine X Z L m := by rw [siz_sum]; have := tk_le HPM.out hva4; omega
          have hf4 := hid (siz_fine HPM.out hva4)
          have HS4 := hid hs4
          have hcr2' := (hcr2.below hb3).below hb4
          have hb12 : Below w.heap.size w w2 := hb1.trans (hb2.mono hb1.size)
          have hb13 : Below w.heap.size w w3 := hb12.trans (hb3.mono hb12.size)
          have hb14 : Below w.heap.size w w4 := hb13.trans (hb4.mono hb13.size)
          have hnn := neq_nil38
          clear he4 hva4 htk4 hs4 hcr2 hb12 hb13 hb1 hb2 hb3 hb4
          go_wp2_with fail
          refine (sum_any hcr2' hm2 hf2.out).mono ?_
          rintro r w' ⟨rfl, hw⟩
          subst w'
          rw [HS2.out]
          go_wp2_with fail
          refine (sum_any hcr4 hm4 hf4.out).mono ?_
          rintro r w' ⟨rfl, hw⟩
          subst w'
          rw [HS4.out]
          go_wp2
          go_ret
          exact ⟨by simp, hb14⟩
end Go.Proofs.Qxb6618960aMods.W
