import Derived.Test.Qxb6605678aModsW3
namespace Go.Proofs.Qxb6605678aMods.W
open Go.ChangeShapes Go.WideShapes Go.ChangeAt Go.RowKit

/-- Is one of the first k fit? -/
def anyF (F : Nat → Bool) : Nat → Bool
  | 0 => false
  | k + 1 => if F k then true else anyF F k

theorem anyF_false {F : Nat → Bool} {n : Nat} (h : ∀ j, j < n → F j = false) : anyF F n = false := by
  induction n with
  | zero => rfl
  | succ n ih => simp [anyF, h n (by omega)]; exact ih fun j hj => h j (by omega)

set_option maxHeartbeats 2000000 in
theorem law1 {w : World} {ao : Option Addr} {len cap : Nat} {N R : Nat → ByteArray} {F S : Nat → Bool} {Z : Nat → Int} (hv : VRow w ao len N R F S Z) :
    Calls Trym.prog 3 #[.slice ao len cap] w fun e w' => e = .returned (.bool true) ∧ Below w.heap.size w w' := by
  have hle := hv.le
  go_enter Trym.func3, Trym.ntmps3
  go_wp2_with fail
  refine (bytes1_any hv).mono ?_
  rintro e w' ⟨⟨q1, rfl⟩, hw⟩
  subst w'
  cases q1 with
  | false =>
    go_wp2
    go_ret
    exact ⟨rfl, Below.refl _ _⟩
  | true =>
    by_cases hl : 65536 < len
    · go_wp2
      go_ret
      exact ⟨rfl, Below.refl _ _⟩
    go_wp2_with fail
    refine (vbytes_any hv).mono ?_
    rintro e w1 ⟨⟨z, rfl⟩, hb1⟩
    by_cases hz : 1048576 < z
    · go_wp2
      go_ret
      exact ⟨rfl, hb1⟩
    have hv1 := hv.below hb1
    go_wp2_with fail
    refine (toV_all hv1 (by omega)).mono ?_
    rintro e w2 ⟨ao', cap', rfl, hv2, hb2⟩
    go_wp2_with fail
    refine (zpref_any hv2 (by omega)).mono ?_
    rintro e w3 ⟨rfl, hb3⟩
    have hb : Below w.heap.size w w3 := hb1.trans ((hb2.mono hb1.size).trans (hb3.mono (Nat.le_trans hb1.size hb2.size)))
    have hv3 := hv.below hb
    clear hv1 hv2 hb1 hb2 hb3
    have hp := P.pick F Z len
    generalize P.pref F Z len = r at *
    go_wp2
    go_loop [5, 6] (fun a i => ∃ (k : Nat), k ≤ len ∧ i = .int .i64 k ∧ a = .bool (anyF F k)) (fun _ i => len - (intOf i).toNat)
    case atStart => exact ⟨0, Nat.zero_le _, rfl, rfl⟩
    case round =>
      obtain ⟨k, hk, rfl, rfl⟩ := hrel
      by_cases hlt : k < len
      · obtain ⟨b, off, rfl, c0, c1, c2, c3, c4, hb', h1, h2⟩ := hv3.ok k hlt
        cases hF : F k with
        | true =>
          go_wp2
          go_round
          case rel => exact ⟨k + 1, by omega, by go_num, by simp [anyF, hF]⟩
          case measure => simp [intOf]; omega
        | false =>
          go_wp2
          go_round
          case rel => exact ⟨k + 1, by omega, by go_num, by simp [anyF, hF]⟩
          case measure => simp [intOf]; omega
      · have : k = len := by omega
        subst this
        have lo := hp.lo
        by_cases hr : r = -1
        · have ha : anyF F k = false := anyF_false (hp.none hr)
          subst hr
          go_wp2
          go_ret
          exact ⟨rfl, hb⟩
        · obtain ⟨q, rfl⟩ := Int.eq_ofNat_of_zero_le (show 0 ≤ r by omega)
          have hq := hp.lt hr
          have hfit := hp.fit hr
          have hbf := hp.before hr
          have hbh := hp.behind hr
          simp only [Int.toNat_natCast] at hq hfit hbf hbh
          obtain ⟨b, off, rfl, c0, c1, c2, c3, c4, hb', h1, h2⟩ := hv3.ok q hq
          clear hp lo
          have hne : ((q : Int) == -1) = false := by simp
          rw [hfit] at c1
          have q0 : (0 : Int) ≤ q := by omega
          have q1 : (q : Int) < k := by omega
          go_wp2
          go_loopw [7] (fun i wr => ∃ (m : Nat), m ≤ k ∧ i = .int .i64 m ∧ Below w.heap.size w wr) (fun i _ => k - (intOf i).toNat)
          case atStart => exact ⟨0, Nat.zero_le _, rfl, hb⟩
          case round =>
            obtain ⟨m, hm, rfl, hbr⟩ := hrel
            have hv4 := hv.below hbr
            clear c0 c1 c2 c3 c4
            by_cases hlt2 : m < k
            · obtain ⟨b'', off'', hx, _, d1, _, _, d4, hb'', _, _⟩ := hv4.ok m hlt2
              obtain ⟨b3, off3, hx3, _, f1, _, _, f4, hb3, _, _⟩ := hv4.ok q hq
              simp at hx hx3
              obtain ⟨rfl, rfl⟩ := hx
              obtain ⟨rfl, rfl⟩ := hx3
              have m0 : (0 : Int) ≤ m := by omega
              have m1 : (m : Int) < k := by omega
              cases hF : F m with
              | false =>
                go_wp2
                go_roundw
                case rel => exact ⟨m + 1, by omega, by go_num, hbr⟩
                case measure => simp [intOf]; omega
              | true =>
                rcases Nat.lt_trichotomy m q with h | h | h
                · have hz1 := hbf m hlt2 hF h
                  have ht : decide ((m : Int) < (q : Int)) = true := by simp; omega
                  have h' : (m : Int) < (q : Int) := by omega
                  go_wp2
                  go_quiet (fail)
                  go_wp2
                  have ht3 : decide ((q : Int) < (m : Int)) = false := by simp; omega
                  have ht4 : decide (q < m) = false := by simp; omega
                  go_quiet (fail)
                  go_wp2
                  go_roundw
                  case rel => exact ⟨m + 1, by omega, by go_num, by first | exact below_drewN hbr _ | exact below_drewN (below_drewN hbr _) _⟩
                  case measure => simp [intOf]; omega
                · subst h
                  have ht : decide ((m : Int) < (m : Int)) = false := by simp
                  go_wp2
                  go_quiet (fail)
                  go_wp2
                  go_quiet (fail)
                  go_wp2
                  go_roundw
                  case rel => exact ⟨m + 1, by omega, by go_num, by first | exact below_drewN hbr _ | exact below_drewN (below_drewN hbr _) _⟩
                  case measure => simp [intOf]; omega
                · have hz1 := hbh m hlt2 hF h
                  have ht : decide ((m : Int) < (q : Int)) = false := by simp; omega
                  have ht4 : decide (m < q) = false := by simp; omega
                  have ht2 : decide ((q : Int) < (m : Int)) = true := by simp; omega
                  have h' : (q : Int) < (m : Int) := by omega
                  go_wp2
                  go_quiet (fail)
                  go_wp2
                  go_quiet (fail)
                  go_wp2
                  go_roundw
                  case rel => exact ⟨m + 1, by omega, by go_num, by first | exact below_drewN hbr _ | exact below_drewN (below_drewN hbr _) _⟩
                  case measure => simp [intOf]; omega
            · go_wp2
              go_ret
              exact ⟨rfl, hbr⟩
end Go.Proofs.Qxb6605678aMods.W
