import Derived.Test.Qxb6618960aModsW14
namespace Go.Proofs.Qxb6618960aMods.W
open Go.ChangeShapes Go.WideShapes Go.ChangeAt Go.RowKit

theorem last_le {n : Nat} {L : Nat → Nat} {X : Nat → Int} {Z : Nat → Nat → Int} {mine short : Int} {pk : Nat → Nat} {m2 : Nat} (hp : Pm n L X Z) (hv : P.Valid mine short X Z n L pk m2) {j q : Nat} (hj : 0 < j) (hjm : j ≤ m2) (hq : q < n) (he : P.Elig mine X Z (P.tauAt L pk j) q) :
    P.cur X Z (P.tauAt L pk j) q ≤ lastAt L X Z pk j := by
  obtain ⟨i, rfl⟩ : ∃ i, j = i + 1 := ⟨j - 1, by omega⟩
  exact P.later hp.fines hv (by omega) hq he

theorem eq_nil38 (w : World) : (binOp .eql 38 (.slice none 0 0) (.slice none 0 0)).run Trym.prog w = .ok (.bool true) w := by
  have h : ∀ d : Nat, (Op.equalIn (d + 1) 38 (.slice none 0 0) (.slice none 0 0)).run Trym.prog w = .ok true w := fun d => by
    simp [Op.equalIn, run_underlying Trym.underlying38]
  simp only [binOp]
  simp [Op.equal, Op.maxDepth, h 9999]

set_option maxRecDepth 100000 in
set_option maxHeartbeats 8000000 in
theorem law1 {w : World} {ao bo : Option Addr} {n cap m dap : Nat} {A : Nat → Option Addr} {L C : Nat → Nat} {Z : Nat → Nat → Int} {X : Nat → Int} {mine short : Int} (hv : SRow w ao n A L C Z) (hu : IRow w bo m X) (hs0 : -9223372036854775808 ≤ short) (hs1 : short ≤ 9223372036854775807) :
    Calls Trym.prog 4 #[.slice ao n cap, .slice bo m dap, .int .i64 mine, .int .i64 short] w fun e w' => e = .returned (.bool true) ∧ Below w.heap.size w w' := by
  have hle := hv.le
  have hle' := hu.le
  go_enter Trym.func4, Trym.ntmps4
  go_wp2_with fail
  refine (bytes1_len hv hu).mono ?_
  rintro r w' ⟨⟨q, rfl, hsh⟩, hw⟩
  subst w'
  cases q with
  | false =>
    clear hsh
    go_wp2
    go_ret
    exact ⟨rfl, Below.refl _ _⟩
  | true =>
    have HSH := hid (hsh rfl)
    clear hsh
    by_cases g1 : 131072 < m
    · go_wp2
      go_ret
      exact ⟨rfl, Below.refl _ _⟩
    by_cases g2 : 131072 < n
    · go_wp2
      go_ret
      exact ⟨rfl, Below.refl _ _⟩
    by_cases g3 : 131072 < m + 3 * n
    · go_wp2
      go_ret
      exact ⟨rfl, Below.refl _ _⟩
    go_wp2
    go_loop [9, 10] (fun s i => ∃ (k : Nat), k ≤ n ∧ i = .int .i64 k ∧ s = .int .i64 ((m : Int) + 3 * n + (P.sumL L k : Nat)) ∧ m + 3 * n + P.sumL L k ≤ 131072) (fun _ i => n - (intOf i).toNat)
    case atStart => exact ⟨0, Nat.zero_le _, rfl, by simp [P.sumL], by simp only [P.sumL]; omega⟩
    case round =>
      obtain ⟨k, hk, rfl, rfl, hsum⟩ := hrel
      by_cases hlt : k < n
      · obtain ⟨b, off, rfl, c0, hb⟩ := hv.ok k hlt
        have hlk := HSH.out k hlt
        by_cases g4 : (131072 : Int) < (m : Int) + 3 * n + (P.sumL L k : Nat) + (L k : Nat)
        · go_wp2
          go_ret
          exact ⟨rfl, Below.refl _ _⟩
        · have hS : P.sumL L (k + 1) = P.sumL L k + L k := rfl
          have HS := hid hS
          clear hS
          go_wp2
          go_round
          case rel => exact ⟨k + 1, by omega, by go_num, by rw [HS.out]; congr 1; omega, by rw [HS.out]; omega⟩
          case measure => simp [intOf]; omega
      · obtain rfl : n = k := by omega
        by_cases g5 : 1024 < n
        · go_wp2
          go_ret
          exact ⟨rfl, Below.refl _ _⟩
        go_wp2_with fail
        refine (prem_any hv hu).mono ?_
        rintro r w' ⟨⟨q, rfl, hpq⟩, hw⟩
        subst w'
        cases q with
        | false =>
          clear hpq
          go_wp2
          go_ret
          exact ⟨rfl, Below.refl _ _⟩
        | true =>
          obtain ⟨rfl, hpr⟩ := hpq rfl
          have hpm : Pm m L X Z := ⟨by omega, hpr, by omega⟩
          have HPM := hid hpm
          clear hpq hpr hpm
          go_wp2_with fail
          refine (build_any hv hu HPM.out.pr (by omega) HPM.out.su).mono ?_
          rintro r w1 ⟨l, rw, e, c, rfl, hst⟩
          have HST := hid hst
          have hb1 := hst.below
          have hgr := G_range (mine := mine) HPM.out
          clear hst
          have hv1 := hv.below hb1
          go_wp2_with fail
          refine (givable_any (X := X) (mine := mine) hv1 (HST.out.held (by omega)) HPM.out.pr (by omega) HPM.out.su).mono ?_
          rintro r w' ⟨rfl, hw⟩
          subst w'
          go_wp2_with fail
          refine (zzy_any (short := short) HST.out.ok HPM.out hs0 hs1).mono ?_
          rintro r w2 ⟨he2, hb2⟩
          have hb12 : Below w.heap.size w w2 := hb1.trans (hb2.mono hb1.size)
          by_cases hsh : short ≤ 0
          · obtain ⟨ao2, cap2, rfl⟩ : ∃ ao cap, r = .returned (.tuple #[.slice ao 0 cap, .bool true]) := by
              rcases he2 with ⟨_, h, _⟩ | ⟨ao, m2, cap, pk, h, hv, _⟩
              · omega
              · have : m2 = 0 := by
                  rcases Nat.eq_zero_or_pos m2 with h0 | h0
                  · exact h0
                  · have := (hv 0 h0).2
                    simp only [P.tk] at this
                    omega
                subst this
                exact ⟨ao, cap, h⟩
            clear he2
            go_wp2
            go_ret
            exact ⟨rfl, hb12⟩
          rcases he2 with ⟨rfl, _, hgs⟩ | ⟨ao2, m2, cap2, pk, rfl, hva, htk, hm2, hcr⟩
          · have hnn := eq_nil38
            go_wp2
            go_ret
            exact ⟨rfl, hb12⟩
          have hmp : 0 < m2 := by
            rcases Nat.eq_zero_or_pos m2 with h0 | h0
            · subst h0
              simp only [P.tk] at htk
              omega
            · exact h0
          have hgs : short ≤ P.G mine X Z L m := Int.le_trans htk (tk_le HPM.out hva)
          have hmk1 := run_make_row' (P := Trym.prog) 30 2 (.int .i64 0) 8 Trym.underlying30 info2 rfl .i64 .i64 m (by omega) (by omega)
          have hmk2 := run_make_row' (P := Trym.prog) 41 3 (.int .i64 0) 8 Trym.underlying41 info3 rfl .i64 .i64 m (by omega) (by omega)
          have HVA := hid hva
          have HCR := hid hcr
          have HV := hid hv
          have hm0 : ((m2 : Int) == 0) = false := by simp; omega
          clear hva hcr hv1
          go_wp2
          go_loopw [19] (fun i wr => ∃ (k : Nat), k ≤ m ∧ i = .int .i64 k ∧ K0 w2 wr m k L X Z) (fun i _ => m - (intOf i).toNat)
          case atStart => exact ⟨0, Nat.zero_le _, rfl, k0_zero w2 m L X Z⟩
          case round =>
            obtain ⟨k, hk, rfl, hk0⟩ := hrel
            clear hmk1 hmk2
            have hroom := HST.out.room
            have hz2 := hb2.size
            have hbu : Below w1.heap.size w1 wr := hb2.trans (hk0.below.mono hz2)
            by_cases hlt2 : k < m
            · obtain ⟨b, off, rfl, c0, hb⟩ := HV.out.ok k hlt2
              have hlk := HSH.out k hlt2
              have c1 := ((hb1.trans (hbu.mono hb1.size)).cell (p := ⟨b, off + k, none⟩) hb).trans c0
              have d1 := (hbu.cell (p := ⟨w.heap.size + 4, k, none⟩) HST.out.gh.lt).trans (HST.out.gh.cell hlt2)
              obtain ⟨o1, q1⟩ := hk0.cu.old hlt2
              obtain ⟨o2, q2⟩ := hk0.tp.old hlt2
              have f1 := hk0.cu.free (i := k)
              have f2 := hk0.tp.free (i := k)
              have hbl : b < w2.heap.size := by have := hb1.size; omega
              have HK := hid (hk0.step hlt2)
              clear hk0
              go_wp2
              go_roundw
              case rel => exact ⟨k + 1, by omega, by go_num, HK.out⟩
              case measure => simp [intOf]; omega
            · obtain rfl : m = k := by omega
              have HK := hid (hk0.done (pk := pk))
              rename World => wk
              clear hk0 hbu
              go_wp2
              go_loopw [20, 21, 22] (fun s la i wr => ∃ (j : Nat), j ≤ m2 ∧ i = .int .i64 j ∧ s = .int .i64 (P.tk L Z pk j) ∧ la = .int .i64 (lastAt L X Z pk j) ∧ K w2 wr m X Z (P.tauAt L pk j)) (fun _ _ i _ => m2 - (intOf i).toNat)
              case atStart => exact ⟨0, Nat.zero_le _, rfl, rfl, rfl, HK.out⟩
              case round =>
                obtain ⟨j, hj, rfl, rfl, rfl, hkk⟩ := hrel
                clear HK
                by_cases hlj : j < m2
                · obtain ⟨⟨hpn, hel, hmax⟩, htks⟩ := HVA.out j hlj
                  have hvj : P.Valid mine short X Z m L pk j := fun i hi => HVA.out i (by omega)
                  have htk0 := tk_nonneg HPM.out.fines j hvj
                  have htk1 := tk_le HPM.out hvj
                  obtain ⟨t, ht⟩ : ∃ t, P.tauAt L pk j (pk j) = t + 1 := ⟨P.tauAt L pk j (pk j) - 1, by have := hel.1; omega⟩
                  have htl : t < L (pk j) := by have := P.tauAt_le (L := L) (pk := pk) j (pk j); omega
                  have hclm : clm L c pk j = c (pk j) t := by unfold clm; rw [ht]; rfl
                  have HKK := hid hkk
                  have HT := hid ht
                  have HCLM := hid hclm
                  have HMAX := hid hmax
                  have HEL := hid hel
                  clear hkk ht hclm hmax hel hvj
                  go_wp2
                  go_loopw [23, 24] (fun v i wq => ∃ (q : Nat), q ≤ pk j ∧ v = .int .i64 (-1) ∧ i = .int .i64 q ∧ K w2 wq m X Z (P.tauAt L pk j)) (fun _ i _ => m - (intOf i).toNat)
                  case atStart => exact ⟨0, Nat.zero_le _, rfl, rfl, HKK.out⟩
                  case round =>
                    obtain ⟨q, hq, rfl, rfl, hK⟩ := hrel
                    clear HKK
                    rename World => wq
                    have hqm : q < m := by omega
                    have hbq : Below w1.heap.size w1 wq := hb2.trans (hK.below.mono hz2)
                    have hcq := HCR.out.below hK.below
                    obtain ⟨b, off, rfl, r0, hbr⟩ := hcq.ok j hlj
                    rw [HCLM.out] at r0
                    have tq := hK.tp.cell hqm
                    have hgc := (hbq.cell (p := ⟨w.heap.size + 3, q, none⟩) HST.out.gc.lt).trans (HST.out.gc.cell hqm)
                    by_cases hqp : q = pk j
                    · subst hqp
                      have ht := HT.out
                      simp only [ht] at tq
                      have e1 : ((t + 1 : Nat) : Int) - 1 = (t : Int) := by omega
                      rw [e1] at tq
                      have hlq := HSH.out (pk j) hqm
                      have hrc := (hbq.cell (p := ⟨rw (pk j), t, none⟩) (HST.out.rows (pk j) hqm).lt).trans ((HST.out.rows (pk j) hqm).cell htl)
                      have hes := eq42_same
                      have hd : decide ((t : Int) ≥ 0) = true := by simp
                      have HK := hid hK
                      clear hK ht e1
                      go_wp2
                      go_quiet (fail)
                      have hKn := HK.out.drewN nq
                      have hbn : Below w1.heap.size w1 (wq.drewN nq) := below_drewN hbq nq
                      generalize wq.drewN nq = wn at *
                      have HKN := hid hKn
                      have cuc := hKn.cu.cell hpn
                      have cuf := hKn.cu.free (i := pk j)
                      have tpc := hKn.tp.cell hpn
                      have tpf := hKn.tp.free (i := pk j)
                      simp only [HT.out] at tpc
                      have e1 : ((t + 1 : Nat) : Int) - 1 = (t : Int) := by omega
                      rw [e1] at tpc
                      obtain ⟨bs, offs, hao, s0, hbs⟩ := HV.out.ok (pk j) hpn
                      subst hao
                      obtain ⟨b3, off3, ha, g0, hb3⟩ := (HV.out.row (pk j) hpn).ok t htl
                      rw [ha] at s0
                      have hbw : Below w.heap.size w wn := hb1.trans (hbn.mono hb1.size)
                      have s1 := (hbw.cell (p := ⟨bs, offs + pk j, none⟩) hbs).trans s0
                      have g1' := (hbw.cell (p := ⟨b3, off3 + t, none⟩) hb3).trans g0
                      have hbs' : bs < w2.heap.size := by have := hb1.size; omega
                      have hb3' : b3 < w2.heap.size := by have := hb1.size; omega
                      have hcb := cur_bound HPM.out (pk := pk) (m := j) hpn
                      have hzb := HPM.out.fines (pk j) hpn t htl
                      have helm := HEL.out.2
                      have hcmp : 0 < j → P.cur X Z (P.tauAt L pk j) (pk j) ≤ lastAt L X Z pk j := fun h0 => last_le HPM.out HVA.out h0 (by omega) hpn HEL.out
                      have htkj : P.tk L Z pk (j + 1) = P.tk L Z pk j + Z (pk j) t := by simp only [P.tk]; rw [HT.out]; rfl
                      have HTKJ := hid htkj
                      clear ha e1 tq hrc hgc r0 hcq hes hbq hKn htkj
                      rcases Nat.eq_zero_or_pos j with hj0 | hj0
                      · subst hj0
                        clear hcmp
                        go_wp2
                        go_quiet (fail)
                        go_wp2
                        go_roundw
                        case rel => exact ⟨0 + 1, by omega, by go_num, by rw [HTKJ.out], rfl, (HKN.out.drewN _).step hpn HT.out⟩
                        case measure => simp [intOf]; omega
                      · have hle2 := hcmp hj0
                        clear hcmp
                        go_wp2
                        go_quiet (fail)
                        go_wp2
                        go_roundw
                        case rel => exact ⟨j + 1, by omega, by go_num, by rw [HTKJ.out], rfl, (HKN.out.drewN _).step hpn HT.out⟩
                        case measure => simp [intOf]; omega
                    · cases htq : P.tauAt L pk j q with
                      | zero =>
                        simp only [htq] at tq
                        have e1 : ((0 : Nat) : Int) - 1 = -1 := rfl
                        rw [e1] at tq
                        have HK := hid hK
                        clear hK htq e1
                        go_wp2
                        go_quiet (fail)
                        go_wp2
                        go_roundw
                        case rel => exact ⟨q + 1, by omega, rfl, by go_num, HK.out.drewN _⟩
                        case measure => simp [intOf]; omega
                      | succ t' =>
                        simp only [htq] at tq
                        have e1 : ((t' + 1 : Nat) : Int) - 1 = (t' : Int) := by omega
                        rw [e1] at tq
                        have htl' : t' < L q := by have := P.tauAt_le (L := L) (pk := pk) j q; omega
                        have hlq := HSH.out q hqm
                        have hrc := (hbq.cell (p := ⟨rw q, t', none⟩) (HST.out.rows q hqm).lt).trans ((HST.out.rows q hqm).cell htl')
                        obtain ⟨cs1, hc1, _⟩ := ((HST.out.lists (pk j) hpn).below hbq).size t htl
                        obtain ⟨cs2, hc2, _⟩ := ((HST.out.lists q hqm).below hbq).size t' htl'
                        have heq : ∀ n : Nat, (binOp .eql 42 (ptr (c (pk j) t)) (ptr (c q t'))).run Trym.prog (wq.drewN n) = .ok (.bool false) (wq.drewN n) := fun n => eq42_other (w := wq.drewN n) (HST.out.apart hpn hqm (fun e => hqp e.symm) htl htl') hc1 hc2
                        have hd : decide ((t' : Int) ≥ 0) = true := by simp
                        have HK := hid hK
                        clear hK htq e1 hc1 hc2
                        go_wp2
                        go_quiet (fail)
                        go_wp2
                        go_roundw
                        case rel => exact ⟨q + 1, by omega, rfl, by go_num, HK.out.drewN _⟩
                        case measure => simp [intOf]; omega
                · obtain rfl : j = m2 := by omega
                  have HKK := hid hkk
                  have hbw : Below w.heap.size w wr := hb12.trans (hkk.below.mono hb12.size)
                  clear hkk
                  go_wp2
                  go_loop [27] (fun i => ∃ (q : Nat), q ≤ m ∧ i = .int .i64 q) (fun i => m - (intOf i).toNat)
                  case atStart => exact ⟨0, Nat.zero_le _, rfl⟩
                  case round =>
                    obtain ⟨q, hq, rfl⟩ := hrel
                    by_cases hqm : q < m
                    · have tq := HKK.out.tp.cell hqm
                      have cq := HKK.out.cu.cell hqm
                      cases htq : P.tauAt L pk j q with
                      | zero =>
                        simp only [htq] at tq
                        have e1 : ((0 : Nat) : Int) - 1 = -1 := rfl
                        rw [e1] at tq
                        clear htq e1
                        go_wp2
                        go_round
                        case rel => exact ⟨q + 1, by omega, by go_num⟩
                        case measure => simp [intOf]; omega
                      | succ t' =>
                        simp only [htq] at tq
                        have e1 : ((t' + 1 : Nat) : Int) - 1 = (t' : Int) := by omega
                        rw [e1] at tq
                        by_cases hc : mine < P.cur X Z (P.tauAt L pk j) q
                        · have hle3 := last_le HPM.out HVA.out hmp (Nat.le_refl _) hqm ⟨by omega, hc⟩
                          clear htq e1
                          go_wp2
                          go_round
                          case rel => exact ⟨q + 1, by omega, by go_num⟩
                          case measure => simp [intOf]; omega
                        · clear htq e1
                          go_wp2
                          go_round
                          case rel => exact ⟨q + 1, by omega, by go_num⟩
                          case measure => simp [intOf]; omega
                    · obtain rfl : m = q := by omega
                      go_wp2
                      go_ret
                      exact ⟨rfl, hbw⟩
end Go.Proofs.Qxb6618960aMods.W
