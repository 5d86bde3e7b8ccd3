import Derived.Test.Qxb6605678aModsW2
import Derived.Test.Qxb6605678aModsPlain
namespace Go.Proofs.Qxb6605678aMods.W
open Go.ChangeShapes Go.WideShapes Go.ChangeAt Go.RowKit

set_option maxHeartbeats 2000000 in
theorem pref_any {w : World} {ao : Option Addr} {len cap : Nat} {N R : Nat → ByteArray} {F S : Nat → Bool} {Z : Nat → Int} (hv : VRow w ao len N R F S Z) (hl : len ≤ 131072) :
    Calls Trym.prog 11 #[.slice ao len cap] w fun e w' => e = .returned (.int .i64 (P.pref F Z len)) ∧ Below w.heap.size w w' := by
  go_enter Trym.func11, Trym.ntmps11
  go_wp2
  go_loopw [3, 8] (fun n i wr => ∃ (k : Nat), k ≤ len ∧ i = .int .i64 k ∧ n = .int .i64 (P.pref F Z k) ∧ Below w.heap.size w wr) (fun _ i _ => len - (intOf i).toNat)
  case atStart => exact ⟨0, Nat.zero_le _, rfl, rfl, Below.refl _ _⟩
  case round =>
    obtain ⟨k, hk, rfl, rfl, hbr⟩ := hrel
    have hv' := hv.below hbr
    have hp := P.pick F Z k
    by_cases hlt : k < len
    · obtain ⟨b, off, rfl, c0, c1, c2, c3, c4, hb, h1, h2⟩ := hv'.ok k hlt
      have b0 : (0 : Int) ≤ k := by omega
      have b1 : (k : Int) < len := by omega
      have lo := hp.lo
      cases hF : F k with
      | false =>
        have HP : Hid (P.pref F Z (k + 1) = P.pref F Z k) := P.pref_no (fun h => by rw [hF] at h; cases h)
        generalize P.pref F Z k = p at *
        go_wp2
        go_quiet (fail)
        go_wp2
        go_roundw
        case rel => exact ⟨k + 1, by omega, by go_num, by rw [HP.out], below_drewN (hbr.alloc hbr.size _) _⟩
        case measure => simp [intOf]; omega
      | true =>
        by_cases hn : P.pref F Z k < 0
        · have HP : Hid (P.pref F Z (k + 1) = k) := P.pref_yes hF (Or.inl hn)
          have hd : decide (P.pref F Z k < 0) = true := by simpa using hn
          generalize P.pref F Z k = p at *
          go_wp2
          go_quiet (fail)
          go_wp2
          go_roundw
          case rel => exact ⟨k + 1, by omega, by go_num, by rw [HP.out], below_drewN (hbr.alloc hbr.size _) _⟩
          case measure => simp [intOf]; omega
        · have hq := hp.lt (by omega)
          have HQ : Hid (P.pref F Z (k + 1) = if Z (P.pref F Z k).toNat < Z k then (k : Int) else P.pref F Z k) := by
            show _ = _
            by_cases hc : Z (P.pref F Z k).toNat < Z k
            · rw [if_pos hc]; exact P.pref_yes hF (Or.inr hc)
            · rw [if_neg hc]; exact P.pref_no fun _ h => h.elim hn hc
          obtain ⟨q, hq'⟩ := Int.eq_ofNat_of_zero_le (show 0 ≤ P.pref F Z k by omega)
          rw [hq'] at HQ
          generalize P.pref F Z k = p at *
          subst hq'
          simp only [Int.toNat_natCast] at HQ hq
          obtain ⟨b', off', hx, _, _, _, _, d4, _⟩ := hv'.ok q (by omega)
          simp at hx
          obtain ⟨rfl, rfl⟩ := hx
          have q0 : (0 : Int) ≤ q := by omega
          have q1 : (q : Int) < len := by omega
          have hd : decide ((q : Int) < 0) = false := by simp
          clear hn
          by_cases hc : Z q < Z k
          · go_wp2
            go_quiet (fail)
            go_wp2
            go_roundw
            case rel => exact ⟨k + 1, by omega, by go_num, by rw [HQ.out, if_pos hc], below_drewN (hbr.alloc hbr.size _) _⟩
            case measure => simp [intOf]; omega
          · go_wp2
            go_quiet (fail)
            go_wp2
            go_roundw
            case rel => exact ⟨k + 1, by omega, by go_num, by rw [HQ.out, if_neg (by omega)], below_drewN (hbr.alloc hbr.size _) _⟩
            case measure => simp [intOf]; omega
    · have : k = len := by omega
      subst this
      go_wp2
      go_ret
      exact ⟨rfl, hbr⟩

theorem zpref_any {w : World} {ao : Option Addr} {len cap : Nat} {N R : Nat → ByteArray} {F S : Nat → Bool} {Z : Nat → Int} (hv : VRow w ao len N R F S Z) (hl : len ≤ 131072) :
    Calls Trym.prog 8 #[.slice ao len cap] w fun e w' => e = .returned (.int .i64 (P.pref F Z len)) ∧ Below w.heap.size w w' := by
  go_enter Trym.func8, Trym.ntmps8
  go_wp2_with (go_at_call 11; refine (pref_any hv hl).mono ?_; rintro e w' ⟨rfl, hb⟩)
  go_ret
  exact ⟨rfl, hb⟩

theorem toV_all {w : World} {ao : Option Addr} {len cap : Nat} {N R : Nat → ByteArray} {F S : Nat → Bool} {Z : Nat → Int} (hv : VRow w ao len N R F S Z) (hl : len ≤ 65536) :
    Calls Trym.prog 7 #[.slice ao len cap] w fun e w' => ∃ ao' cap', e = .returned (.slice ao' len cap') ∧ VRow w' ao' len N R F S Z ∧ Below w.heap.size w w' := by
  cases ao with
  | none =>
    have h0 : len = 0 := by
      by_cases h : 0 < len
      · obtain ⟨b, off, hx, _⟩ := hv.ok 0 h
        cases hx
      · omega
    subst h0
    refine toV_nil.mono ?_
    rintro e w' ⟨rfl, rfl⟩
    exact ⟨none, 0, rfl, ⟨by omega, fun i hi => by omega⟩, Below.refl _ _⟩
  | some x =>
    refine (toV_any hv hl).mono ?_
    rintro e w' ⟨rfl, h1, h2⟩
    exact ⟨_, _, rfl, h1, h2⟩
end Go.Proofs.Qxb6605678aMods.W
