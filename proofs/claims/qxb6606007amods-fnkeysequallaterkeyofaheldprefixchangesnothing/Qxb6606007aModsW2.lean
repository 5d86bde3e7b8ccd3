import Derived.Test.Qxb6606007aModsW1
import Derived.Test.Qxb6606007aModsPlain
namespace Go.Proofs.Qxb6606007aMods.W
open Go.ChangeShapes Go.WideShapes Go.ChangeAt Go.RowKit

theorem str_eq {a b : ByteArray} (h : (a.toList == b.toList) = true) : a = b := by
  rw [ByteArray.toList_eq, ByteArray.toList_eq] at h
  exact bytes_inj (by simpa using h)
theorem str_ne {a b : ByteArray} (h : (a.toList == b.toList) = false) : a ≠ b := by
  intro e; subst e; simp at h
theorem eq_str {a b : ByteArray} (h : a = b) : (a.toList == b.toList) = true := by subst h; simp
theorem ne_str {a b : ByteArray} (h : a ≠ b) : (a.toList == b.toList) = false := by
  cases hh : (a.toList == b.toList) with
  | false => rfl
  | true => exact absurd (str_eq hh) h

set_option maxHeartbeats 1000000 in
theorem first_any {w : World} {ao : Option Addr} {len cap : Nat} {A S : Nat → ByteArray} {p : ByteArray} (hv : PRow w ao len A S) :
    Calls Trym.prog 15 #[.slice ao len cap, .string p] w fun e w' => e = .returned (.tuple #[.string (P.sec A S p len), .bool (P.first A p len).isSome]) ∧ w' = w := by
  have hle := hv.le
  go_enter Trym.func15, Trym.ntmps15
  go_wp2
  go_loop [6] (fun i => ∃ (k : Nat), k ≤ len ∧ i = .int .i64 k ∧ P.first A p k = none) (fun i => len - (intOf i).toNat)
  case atStart => exact ⟨0, Nat.zero_le _, rfl, rfl⟩
  case round =>
    obtain ⟨k, hk, rfl, hn⟩ := hrel
    have HN : Hid (P.first A p k = none) := hn
    clear hn
    by_cases hlt : k < len
    · obtain ⟨b, off, rfl, c0, c1, hb, h1, h2⟩ := hv.ok k hlt
      by_cases he : A k = p
      · have HF : Hid (P.first A p len = some k) := P.first_mono (P.first_new HN.out he) (by omega)
        have e1 := eq_str he
        clear he
        go_wp2
        go_ret2
        refine ⟨?_, rfl⟩
        have : P.sec A S p len = S k := by simp [P.sec, HF.out]
        rw [this, HF.out]
        rfl
      · have HF : Hid (P.first A p (k + 1) = none) := P.first_none HN.out he
        have e1 := ne_str he
        clear he
        go_wp2
        go_round
        case rel => exact ⟨k + 1, by omega, by go_num, HF.out⟩
        case measure => simp [intOf]; omega
    · obtain rfl : len = k := by omega
      go_wp2
      go_ret2
      refine ⟨?_, rfl⟩
      have : P.sec A S p len = ⟨#[]⟩ := by simp [P.sec, HN.out]
      rw [this, HN.out]
      rfl

set_option maxHeartbeats 1000000 in
theorem agree_any {w : World} {ao bo : Option Addr} {n cap m dap : Nat} {A S A' S' : Nat → ByteArray} (hv : PRow w ao n A S) (hu : PRow w bo m A' S') :
    Calls Trym.prog 11 #[.slice ao n cap, .slice bo m dap] w fun e w' => e = .returned (.bool (P.agree A S n A' S' m n)) ∧ w' = w := by
  have hle := hv.le
  go_enter Trym.func11, Trym.ntmps11
  go_wp2
  go_loop [5] (fun i => ∃ (k : Nat), k ≤ n ∧ i = .int .i64 k ∧ P.agree A S n A' S' m k = true) (fun i => n - (intOf i).toNat)
  case atStart => exact ⟨0, Nat.zero_le _, rfl, rfl⟩
  case round =>
    obtain ⟨k, hk, rfl, hn⟩ := hrel
    have HN : Hid (P.agree A S n A' S' m k = true) := hn
    clear hn
    by_cases hlt : k < n
    · obtain ⟨b, off, rfl, c0, c1, hb, h1, h2⟩ := hv.ok k hlt
      go_wp2_with fail
      refine (first_any hv).mono ?_
      rintro e w' ⟨rfl, hw⟩
      subst w'
      go_wp2_with fail
      refine (first_any hu).mono ?_
      rintro e w' ⟨rfl, hw⟩
      subst w'
      by_cases hs : (P.first A' (A k) m).isSome = true
      · by_cases he : P.sec A S (A k) n = P.sec A' S' (A k) m
        · have HA : Hid (P.agree A S n A' S' m (k + 1) = true) := by
            show _ = _
            simp [P.agree, HN.out, hs, he]
          have e1 := eq_str he
          clear he
          generalize (P.first A' (A k) m).isSome = x at *
          generalize P.sec A S (A k) n = y at *
          generalize P.sec A' S' (A k) m = y' at *
          subst hs
          go_wp2
          go_round
          case rel => exact ⟨k + 1, by omega, by go_num, HA.out⟩
          case measure => simp [intOf]; omega
        · have HA : Hid (P.agree A S n A' S' m n = false) := P.agree_false hlt (fun h => he h.2)
          have e1 := ne_str he
          clear he
          generalize (P.first A' (A k) m).isSome = x at *
          generalize P.sec A S (A k) n = y at *
          generalize P.sec A' S' (A k) m = y' at *
          subst hs
          go_wp2
          go_ret
          exact ⟨by rw [HA.out]; rfl, rfl⟩
      · have HA : Hid (P.agree A S n A' S' m n = false) := P.agree_false hlt (fun h => hs h.1)
        have hs' : (P.first A' (A k) m).isSome = false := by simpa using hs
        generalize (P.first A' (A k) m).isSome = x at *
        generalize P.sec A S (A k) n = y at *
        generalize P.sec A' S' (A k) m = y' at *
        subst hs'
        clear hs
        go_wp2
        go_ret
        exact ⟨by rw [HA.out]; rfl, rfl⟩
    · obtain rfl : n = k := by omega
      go_wp2
      go_ret
      exact ⟨by rw [HN.out]; rfl, rfl⟩
end Go.Proofs.Qxb6606007aMods.W
