import Derived.Test.Qxb6606007aModsW7
namespace Go.Proofs.Qxb6606007aMods.W
open Go.ChangeShapes Go.WideShapes Go.ChangeAt Go.RowKit

theorem ret_bool {a b : Bool} (h : a = b) : Ending.returned (.bool a) = .returned (.bool b) := by rw [h]

theorem equal_nn {w : World} : Calls Trym.prog 12 #[.pointer none, .pointer none] w fun e w' => e = .returned (.bool true) ∧ w' = w := by
  go_enter Trym.func12, Trym.ntmps12
  go_wp2
  go_ret
  exact ⟨rfl, rfl⟩
theorem equalIn_nil_ptr (w : World) (d : Nat) (a : Addr) : (Op.equalIn (d + 1) 26 (.pointer none) (.pointer (some a))).run Trym.prog w = .ok false w := by
  simp [Op.equalIn, run_underlying Trym.underlying26]

theorem eql_nil_ptr (w : World) (a : Addr) : (binOp .eql 26 (.pointer none) (.pointer (some a))).run Trym.prog w = .ok (.bool false) w := by
  have h2 : (Op.equal 26 (.pointer none) (.pointer (some a))).run Trym.prog w = .ok false w := equalIn_nil_ptr w 9999 a
  simp only [binOp]
  simp [h2]

theorem equal_nk {w : World} {p : Nat} : Calls Trym.prog 12 #[.pointer none, .pointer (some ⟨p, 0, none⟩)] w fun e w' => e = .returned (.bool false) ∧ w' = w := by
  have he := eql_nil_ptr
  go_enter Trym.func12, Trym.ntmps12
  go_wp2
  go_ret
  exact ⟨rfl, rfl⟩
theorem equal_kn {w : World} {p : Nat} : Calls Trym.prog 12 #[.pointer (some ⟨p, 0, none⟩), .pointer none] w fun e w' => e = .returned (.bool false) ∧ w' = w := by
  go_enter Trym.func12, Trym.ntmps12
  go_wp2
  go_ret
  exact ⟨rfl, rfl⟩

theorem fm_same_iff {A S A' S' : Nat → ByteArray} {n m : Nat} : (P.agree A S n A' S' m n = true ∧ P.agree A' S' m A S n m = true) ↔ ∀ s, fm A S n s = fm A' S' m s := by
  rw [P.agree_iff, P.agree_iff]
  constructor
  · rintro ⟨h1, h2⟩ s
    cases hf : P.first A s n with
    | some i =>
      obtain ⟨hi, rfl⟩ := P.first_some hf
      obtain ⟨a, b⟩ := h1 i hi
      obtain ⟨j, hj⟩ := Option.isSome_iff_exists.1 a
      simp only [P.sec, hf, hj] at b
      simp [fm, hf, hj, b]
    | none =>
      cases hf' : P.first A' s m with
      | none => simp [fm, hf, hf']
      | some j =>
        obtain ⟨hj, rfl⟩ := P.first_some hf'
        obtain ⟨a, _⟩ := h2 j hj
        rw [hf] at a
        cases a
  · intro h
    refine ⟨fun i hi => ?_, fun i hi => ?_⟩
    · obtain ⟨j, hj⟩ := P.first_self A hi
      have := h (A i)
      cases hf' : P.first A' (A i) m with
      | none => simp [fm, hj, hf'] at this
      | some j' =>
        simp [fm, hj, hf'] at this
        simp [P.sec, hj, hf', this]
    · obtain ⟨j, hj⟩ := P.first_self A' hi
      have := h (A' i)
      cases hf' : P.first A (A' i) n with
      | none => simp [fm, hj, hf'] at this
      | some j' =>
        simp [fm, hj, hf'] at this
        simp [P.sec, hj, hf', this]

set_option maxRecDepth 100000 in
set_option maxHeartbeats 4000000 in
theorem law1 {w : World} {q q' : Bool} {s s' : ByteArray} {ao bo : Option Addr} {n cap m dap : Nat} {A S A' S' : Nat → ByteArray} (hv : PRow w ao n A S) (hu : PRow w bo m A' S') (hs : s.size ≤ 9223372036854775807) (hs' : s'.size ≤ 9223372036854775807) :
    Calls Trym.prog 3 #[.bool q, .string s, .slice ao n cap, .bool q', .string s', .slice bo m dap] w fun e w' => e = .returned (.bool true) ∧ Below w.heap.size w w' := by
  go_enter Trym.func3, Trym.ntmps3
  go_wp2_with fail
  refine (bytes1_any hv hu hs hs').mono ?_
  rintro e w' ⟨⟨q1, rfl⟩, hw⟩
  subst w'
  cases q1 with
  | false =>
    go_wp2
    go_ret
    exact ⟨rfl, Below.refl _ _⟩
  | true =>
    go_wp2_with fail
    refine (fit_any hv hu hs hs').mono ?_
    rintro e w1 ⟨⟨q2, rfl, hfit⟩, hb1⟩
    cases q2 with
    | false =>
      clear hfit
      go_wp2
      go_ret
      exact ⟨rfl, hb1⟩
    | true =>
      obtain ⟨hn, hm⟩ := hfit rfl
      clear hfit
      have hv1 := hv.below hb1
      have hu1 := hu.below hb1
      have hA : ∀ i, i < n → (A i).size ≤ maxLen := fun i hi => by obtain ⟨_, _, _, _, _, _, h, _⟩ := hv.ok i hi; unfold maxLen; exact h
      have hA' : ∀ i, i < m → (A' i).size ≤ maxLen := fun i hi => by obtain ⟨_, _, _, _, _, _, h, _⟩ := hu.ok i hi; unfold maxLen; exact h
      have HA : Hid (∀ i, i < n → (A i).size ≤ maxLen) := hA
      have HA' : Hid (∀ i, i < m → (A' i).size ≤ maxLen) := hA'
      clear hA hA' hv hu
      go_wp2_with fail
      refine (clone_any hv1 hn).mono ?_
      rintro e w2 ⟨ac, cc, rfl, hvc, hb2⟩
      have hu2 := hu1.below hb2
      have hb12 := hb1.trans (hb2.mono hb1.size)
      go_wp2_with fail
      refine (clone_any hu2 hm).mono ?_
      rintro e w3 ⟨bc, dc, rfl, huc, hb3⟩
      have hvc := hvc.below hb3
      have hb13 := hb12.trans (hb3.mono hb12.size)
      clear hb1 hb2 hb3 hb12 hv1 hu1 hu2
      cases q with
      | true =>
        go_wp2_with fail
        refine build_nil.mono ?_
        rintro e w' ⟨rfl, hw⟩
        subst w'
        cases q' with
        | true =>
          go_wp2_with fail
          refine build_nil.mono ?_
          rintro e w' ⟨rfl, hw⟩
          subst w'
          go_wp2_with (go_at_call 12; refine equal_nn.mono ?_; rintro e w' ⟨rfl, hw⟩; subst w')
          go_ret
          exact ⟨rfl, hb13⟩
        | false =>
          go_wp2_with fail
          refine (build_any huc hm).mono ?_
          rintro e w4 ⟨rfl, hk, hb4⟩
          go_wp2_with (go_at_call 12; refine equal_nk.mono ?_; rintro e w' ⟨rfl, hw⟩; subst w')
          go_ret
          exact ⟨rfl, hb13.trans (hb4.mono hb13.size)⟩
      | false =>
        go_wp2_with fail
        refine (build_any hvc hn).mono ?_
        rintro e w4 ⟨rfl, hk, hb4⟩
        have huc4 := huc.below hb4
        have hvc4 := hvc.below hb4
        have hb14 := hb13.trans (hb4.mono hb13.size)
        cases q' with
        | true =>
          go_wp2_with fail
          refine build_nil.mono ?_
          rintro e w' ⟨rfl, hw⟩
          subst w'
          go_wp2_with (go_at_call 12; refine equal_kn.mono ?_; rintro e w' ⟨rfl, hw⟩; subst w')
          go_ret
          exact ⟨rfl, hb14⟩
        | false =>
          go_wp2_with fail
          refine (build_any huc4 hm).mono ?_
          rintro e w5 ⟨rfl, hk', hb5⟩
          have hk5 := hk.below hb5
          have huc5 := huc4.below hb5
          have hvc5 := hvc4.below hb5
          have hb15 := hb14.trans (hb5.mono hb14.size)
          clear hk hb4 hb5 huc4 hvc4 hb13 hb14 huc hvc
          have hiff := @fm_same_iff A S A' S' n m
          by_cases he : s = s'
          · subst he
            cases ha : P.agree A S n A' S' m n with
            | false =>
              have HX : Hid (¬ ∀ t, fm A S n t = fm A' S' m t) := fun h => by
                have := hiff.2 h
                rw [ha] at this
                cases this.1
              clear hiff
              go_wp2_with fail
              refine (agree_any hvc5 huc5).mono ?_
              rintro e w' ⟨rfl, hw⟩
              subst w'
              rw [ha]
              clear ha
              go_wp2_with fail
              refine (equal_any hk5 hk' (by omega) (by omega) HA.out HA'.out).mono ?_
              rintro e w6 ⟨⟨r, rfl, hr⟩, hb6⟩
              have hr' : r = false := by
                cases r with
                | false => rfl
                | true => exact absurd (hr.1 rfl).2 HX.out
              subst hr'
              clear hr
              go_wp2
              go_ret
              exact ⟨rfl, hb15.trans (hb6.mono hb15.size)⟩
            | true =>
              go_wp2_with fail
              refine (agree_any hvc5 huc5).mono ?_
              rintro e w' ⟨rfl, hw⟩
              subst w'
              rw [ha]
              go_wp2_with fail
              refine (agree_any huc5 hvc5).mono ?_
              rintro e w' ⟨rfl, hw⟩
              subst w'
              have HX : Hid ((∀ t, fm A S n t = fm A' S' m t) ↔ P.agree A' S' m A S n m = true) := ⟨fun h => (hiff.2 h).2, fun h => hiff.1 ⟨ha, h⟩⟩
              clear hiff ha
              generalize P.agree A' S' m A S n m = x at *
              go_wp2_with fail
              refine (equal_any hk5 hk' (by omega) (by omega) HA.out HA'.out).mono ?_
              rintro e w6 ⟨⟨r, rfl, hr⟩, hb6⟩
              have hr' : r = x := by
                have h1 := HX.out
                cases r with
                | true => exact (h1.1 (hr.1 rfl).2).symm
                | false =>
                  cases x with
                  | false => rfl
                  | true => exact absurd (hr.2 ⟨rfl, h1.2 rfl⟩) (by simp)
              subst hr'
              clear hr HX
              go_wp2
              go_ret
              exact ⟨ret_bool (by simp), hb15.trans (hb6.mono hb15.size)⟩
          · have HX : Hid (¬ (s = s' ∧ ∀ t, fm A S n t = fm A' S' m t)) := fun h => he h.1
            have e1 := ne_str he
            clear hiff he
            go_wp2_with fail
            refine (equal_any hk5 hk' (by omega) (by omega) HA.out HA'.out).mono ?_
            rintro e w6 ⟨⟨r, rfl, hr⟩, hb6⟩
            have hr' : r = false := by
              cases r with
              | false => rfl
              | true => exact absurd (hr.1 rfl) HX.out
            subst hr'
            clear hr
            go_wp2
            go_ret
            exact ⟨rfl, hb15.trans (hb6.mono hb15.size)⟩
end Go.Proofs.Qxb6606007aMods.W
