import Derived.Test.Qxb6605678aModsW3
namespace Go.Proofs.Qxb6605678aMods.W
open Go.ChangeShapes Go.WideShapes Go.ChangeAt Go.RowKit

set_option maxHeartbeats 2000000 in
theorem bytes2_any {w : World} {ao bo : Option Addr} {n cap m dap : Nat} {N R : Nat → ByteArray} {F S : Nat → Bool} {Z : Nat → Int} {N' R' : Nat → ByteArray} {F' S' : Nat → Bool} {Z' : Nat → Int}
    (hv : VRow w ao n N R F S Z) (hv' : VRow w bo m N' R' F' S' Z') :
    Calls Trym.prog 9 #[.slice ao n cap, .slice bo m dap] w fun e w' => AnyBool e ∧ w' = w := by
  have hle := hv.le
  have hle' := hv'.le
  by_cases hl : 1048576 < n
  · go_enter Trym.func9, Trym.ntmps9
    go_wp2
    go_ret
    exact ⟨⟨_, rfl⟩, rfl⟩
  go_enter Trym.func9, Trym.ntmps9
  go_wp2
  go_loop [5, 6] (fun x i => ∃ (k : Nat) (z : Int), k ≤ n ∧ i = .int .i64 k ∧ x = .int .i64 z) (fun _ i => n - (intOf i).toNat)
  case atStart => exact ⟨0, _, Nat.zero_le _, rfl, rfl⟩
  case round =>
    obtain ⟨k, z, hk, rfl, rfl⟩ := hrel
    by_cases hlt : k < n
    · obtain ⟨b, off, rfl, c0, c1, c2, c3, c4, hb, h1, h2⟩ := hv.ok k hlt
      go_wp2
      all_goals first
        | (go_ret; exact ⟨⟨_, rfl⟩, rfl⟩)
        | (go_round
           case rel => exact ⟨k + 1, _, by omega, by go_num, rfl⟩
           case measure => simp [intOf]; omega)
    · by_cases hl' : 1048576 < m
      · go_wp2
        go_ret
        exact ⟨⟨_, rfl⟩, rfl⟩
      by_cases hz : 1048576 < wrap64 (z + m)
      · go_wp2
        go_ret
        exact ⟨⟨_, rfl⟩, rfl⟩
      go_wp2
      go_loop [5, 7] (fun x i => ∃ (k : Nat) (z : Int), k ≤ m ∧ i = .int .i64 k ∧ x = .int .i64 z) (fun _ i => m - (intOf i).toNat)
      case atStart => exact ⟨0, _, Nat.zero_le _, rfl, rfl⟩
      case round =>
        obtain ⟨k', z', hk', rfl, rfl⟩ := hrel
        by_cases hlt' : k' < m
        · obtain ⟨b, off, rfl, c0, c1, c2, c3, c4, hb, h1, h2⟩ := hv'.ok k' hlt'
          go_wp2
          all_goals first
            | (go_ret; exact ⟨⟨_, rfl⟩, rfl⟩)
            | (go_round
               case rel => exact ⟨k' + 1, _, by omega, by go_num, rfl⟩
               case measure => simp [intOf]; omega)
        · go_wp2
          go_ret
          exact ⟨⟨_, rfl⟩, rfl⟩

set_option maxHeartbeats 2000000 in
theorem valid_any {w : World} {ao : Option Addr} {len cap : Nat} {N R : Nat → ByteArray} {F S : Nat → Bool} {Z : Nat → Int} (hv : VRow w ao len N R F S Z) :
    Calls Trym.prog 10 #[.int .i64 (P.pref F Z len), .slice ao len cap] w fun e w' => e = .returned (.bool true) ∧ w' = w := by
  have hle := hv.le
  have hp := P.pick F Z len
  generalize P.pref F Z len = r at *
  have lo := hp.lo
  by_cases hr : r = -1
  · have hnone := hp.none hr
    subst hr
    go_enter Trym.func10, Trym.ntmps10
    go_wp2
    go_loop [5] (fun i => ∃ (k : Nat), k ≤ len ∧ i = .int .i64 k) (fun i => len - (intOf i).toNat)
    case atStart => exact ⟨0, Nat.zero_le _, rfl⟩
    case round =>
      obtain ⟨k, hk, rfl⟩ := hrel
      by_cases hlt : k < len
      · obtain ⟨b, off, rfl, c0, c1, c2, c3, c4, hb, h1, h2⟩ := hv.ok k hlt
        rw [hnone k hlt] at c1
        clear hnone
        go_wp2
        go_round
        case rel => exact ⟨k + 1, by omega, by go_num⟩
        case measure => simp [intOf]; omega
      · clear hnone
        go_wp2
        go_ret
        exact ⟨rfl, rfl⟩
  · obtain ⟨q, rfl⟩ := Int.eq_ofNat_of_zero_le (show 0 ≤ r by omega)
    have hq := hp.lt hr
    have hfit := hp.fit hr
    simp only [Int.toNat_natCast] at hq hfit
    obtain ⟨b, off, rfl, c0, c1, c2, c3, c4, hb', h1, h2⟩ := hv.ok q hq
    have hne : ((q : Int) == -1) = false := by simp
    rw [hfit] at c1
    clear hp lo
    go_enter Trym.func10, Trym.ntmps10
    go_wp2
    go_ret
    exact ⟨rfl, rfl⟩

theorem vrow_put {w : World} {g k : Nat} {N R : Nat → ByteArray} {F S : Nat → Bool} {Z : Nat → Int} {y0 y1 y2 y3 y4 : Value} {s r : ByteArray} {f t : Bool} {z : Int}
    (eN : N k = s) (eF : F k = f) (eR : R k = r) (eS : S k = t) (eZ : Z k = z)
    (hv : VRow w (some ⟨g, 0, none⟩) k N R F S Z) (hle : k < 9223372036854775807) (h1 : s.size ≤ 9223372036854775807) (h2 : r.size ≤ 9223372036854775807) (hg : g < w.heap.size)
    (d0 : w.cell? ⟨g, k * 5, none⟩ = some y0) (d1 : w.cell? ⟨g, k * 5 + 1, none⟩ = some y1) (d2 : w.cell? ⟨g, k * 5 + 2, none⟩ = some y2) (d3 : w.cell? ⟨g, k * 5 + 3, none⟩ = some y3)
    (d4 : w.cell? ⟨g, k * 5 + 4, none⟩ = some y4) :
    VRow (put5 w g (k * 5) (.string s) (.bool f) (.string r) (.bool t) (.int .i64 z)).drew (some ⟨g, 0, none⟩) (k + 1) N R F S Z := by
  subst eN eF eR eS eZ
  exact vrow_step hv hle h1 h2 hg d0 d1 d2 d3 d4

theorem cells5 {w : World} {B e g n cap k : Nat} {xs : List Value} (h : w.ownsRow B e 5 (.slice (some ⟨g, 0, none⟩) n cap) n xs) (hl : xs.length = n * 5) (hk : k < n) :
    (∃ y, w.cell? ⟨g, k * 5, none⟩ = some y) ∧ (∃ y, w.cell? ⟨g, k * 5 + 1, none⟩ = some y) ∧ (∃ y, w.cell? ⟨g, k * 5 + 2, none⟩ = some y) ∧ (∃ y, w.cell? ⟨g, k * 5 + 3, none⟩ = some y) ∧ (∃ y, w.cell? ⟨g, k * 5 + 4, none⟩ = some y) := by
  refine ⟨⟨xs[k * 5], ?_⟩, ⟨xs[k * 5 + 1], ?_⟩, ⟨xs[k * 5 + 2], ?_⟩, ⟨xs[k * 5 + 3], ?_⟩, ⟨xs[k * 5 + 4], ?_⟩⟩
  all_goals rw [h.cellAt _ (by omega)]; simp
end Go.Proofs.Qxb6605678aMods.W
