import Derived.Test.Qxb6605678aModsW5
namespace Go.Proofs.Qxb6605678aMods.W
open Go.ChangeShapes Go.WideShapes Go.ChangeAt Go.RowKit

theorem ret_bool {a b : Bool} (h : a = b) : Ending.returned (.bool a) = .returned (.bool b) := by rw [h]

set_option maxRecDepth 100000 in
set_option maxHeartbeats 4000000 in
theorem law2 {w : World} {ao bo : Option Addr} {n cap m dap : Nat} {N R : Nat → ByteArray} {F S : Nat → Bool} {Z : Nat → Int} {N' R' : Nat → ByteArray} {F' S' : Nat → Bool} {Z' : Nat → Int}
    (hv : VRow w ao n N R F S Z) (hu : VRow w bo m N' R' F' S' Z') :
    Calls Trym.prog 4 #[.slice ao n cap, .slice bo m dap] w fun e w' => e = .returned (.bool true) ∧ Below w.heap.size w w' := by
  have hle := hv.le
  have hle' := hu.le
  obtain ⟨i0, hi, hz0, hz1, hz2⟩ := info_parts Trym.info31
  go_enter Trym.func4, Trym.ntmps4
  go_wp2_with fail
  refine (bytes2_any hv hu).mono ?_
  rintro e w' ⟨⟨q1, rfl⟩, hw⟩
  subst w'
  cases q1 with
  | false =>
    go_wp2
    go_ret
    exact ⟨rfl, Below.refl _ _⟩
  | true =>
    by_cases hl : 65536 < n
    · go_wp2
      go_ret
      exact ⟨rfl, Below.refl _ _⟩
    by_cases hl' : 65536 < m
    · go_wp2
      go_ret
      exact ⟨rfl, Below.refl _ _⟩
    go_wp2_with fail
    refine (vbytes_any hv).mono ?_
    rintro e w1 ⟨⟨z, rfl⟩, hb1⟩
    have hv1 := hv.below hb1
    have hu1 := hu.below hb1
    go_wp2_with fail
    refine (vbytes_any hu1).mono ?_
    rintro e w2 ⟨⟨z', rfl⟩, hb2⟩
    have hb12 : Below w.heap.size w w2 := hb1.trans (hb2.mono hb1.size)
    by_cases hz : 1048576 < wrap64 (z + z')
    · go_wp2
      go_ret
      exact ⟨rfl, hb12⟩
    have hv2 := hv.below hb12
    have hu2 := hu.below hb12
    clear hv1 hu1 hb1 hb2
    go_wp2_with fail
    refine (toV_all hv2 (by omega)).mono ?_
    rintro e w3 ⟨ac, cc, rfl, hva, hb3⟩
    have hu3 := hu2.below hb3
    go_wp2_with fail
    refine (toV_all hu3 (by omega)).mono ?_
    rintro e w4 ⟨bc, dc, rfl, hvb, hb4⟩
    have hva4 := hva.below hb4
    have hb : Below w.heap.size w w4 := hb12.trans ((hb3.mono hb12.size).trans (hb4.mono (Nat.le_trans hb12.size hb3.size)))
    have hv4 := hv.below hb
    have hu4 := hu.below hb
    clear hv2 hu2 hu3 hva hb3 hb4 hb12 hv hu
    go_wp2_with (at_make; refine wpList_make_full _ rfl (.tmp 40) (.tmp 40) 25 rfl w4.heap.size 31 i0 _ 5 Trym.underlying25 hi hz0 hz1 .i64 .i64 _ _ (n + m) rfl rfl (by omega) (by omega) (by rw [hz2]; omega) (by unfold maxLen; omega) (Nat.le_refl _) ?_; intro w5 hown hgrow)
    clear hi hz0 hz1 hz2
    have hb5 : Below w4.heap.size w4 w5 := (Below.refl _ _).grown hgrow (Nat.le_refl _) (by intro k hk; cases hk)
    clear hgrow
    go_loopw [8] (fun i wr => ∃ (k : Nat) (xs : List Value), k ≤ n ∧ i = .int .i64 k ∧ xs.length = (n + m) * 5 ∧ wr.ownsRow w4.heap.size 31 5 (.slice (some ⟨w4.heap.size, 0, none⟩) (n + m) (n + m)) (n + m) xs ∧ VRow wr (some ⟨w4.heap.size, 0, none⟩) k (P.cat n N N') (P.cat n R R') (P.cat n F F') (P.cat n S S') (P.cat n Z Z') ∧ Below w4.heap.size w4 wr) (fun i _ => n - (intOf i).toNat)
    case atStart => exact ⟨0, _, Nat.zero_le _, rfl, by simp [madeCells], hown, ⟨by omega, fun i hi => by omega⟩, hb5⟩
    case round =>
      clear hown hb5
      obtain ⟨k, xs, hk, rfl, hxl, hown, hvc, hbr⟩ := hrel
      by_cases hlt : k < n
      · obtain ⟨b, off, rfl, c0, c1, c2, c3, c4, hbl, h1, h2⟩ := (hv4.below hbr).ok k hlt
        have b0 : (0 : Int) ≤ k := by omega
        have b1 : (k : Int) < n := by omega
        have b2 : (k : Int) < n + m := by omega
        obtain ⟨⟨y0, d0⟩, ⟨y1, d1⟩, ⟨y2, d2⟩, ⟨y3, d3⟩, ⟨y4, d4⟩⟩ := cells5 hown hxl (show k < n + m by omega)
        have e0 := hown.frozenAt (k * 5)
        have e1 := hown.frozenAt (k * 5 + 1)
        have e2 := hown.frozenAt (k * 5 + 2)
        have e3 := hown.frozenAt (k * 5 + 3)
        have e4 := hown.frozenAt (k * 5 + 4)
        go_wp2
        go_region
        go_wp2
        go_roundw
        case rel =>
          obtain ⟨ys, hyl, hys⟩ := own_put5 hown (k * 5) (.string (N k)) (.bool (F k)) (.string (R k)) (.bool (S k)) (.int .i64 (Z k))
          exact ⟨k + 1, ys, by omega, by go_num, by omega, hys, vrow_put (P.cat_lt hlt) (P.cat_lt hlt) (P.cat_lt hlt) (P.cat_lt hlt) (P.cat_lt hlt) hvc (by omega) h1 h2 (World.block_lt_of_cell? _ _ d0) d0 d1 d2 d3 d4, below_put5 hbr (Nat.le_refl _) _ _ _ _ _ _⟩
        case measure => simp [intOf]; omega
      · obtain rfl : n = k := by omega
        go_wp2
        go_loopw [9] (fun i wr => ∃ (k : Nat) (xs : List Value), k ≤ m ∧ i = .int .i64 k ∧ xs.length = (n + m) * 5 ∧ wr.ownsRow w4.heap.size 31 5 (.slice (some ⟨w4.heap.size, 0, none⟩) (n + m) (n + m)) (n + m) xs ∧ VRow wr (some ⟨w4.heap.size, 0, none⟩) (n + k) (P.cat n N N') (P.cat n R R') (P.cat n F F') (P.cat n S S') (P.cat n Z Z') ∧ Below w4.heap.size w4 wr) (fun i _ => m - (intOf i).toNat)
        case atStart => exact ⟨0, _, Nat.zero_le _, rfl, hxl, hown, hvc, hbr⟩
        case round =>
          clear hown hbr hvc hxl
          obtain ⟨k, xs, hk, rfl, hxl, hown, hvc, hbr⟩ := hrel
          by_cases hlt : k < m
          · obtain ⟨b, off, rfl, c0, c1, c2, c3, c4, hbl, h1, h2⟩ := (hu4.below hbr).ok k hlt
            have b0 : (0 : Int) ≤ k := by omega
            have b1 : (k : Int) < m := by omega
            have b2 : (n : Int) + k < n + m := by omega
            obtain ⟨⟨y0, d0⟩, ⟨y1, d1⟩, ⟨y2, d2⟩, ⟨y3, d3⟩, ⟨y4, d4⟩⟩ := cells5 hown hxl (show n + k < n + m by omega)
            have e0 := hown.frozenAt ((n + k) * 5)
            have e1 := hown.frozenAt ((n + k) * 5 + 1)
            have e2 := hown.frozenAt ((n + k) * 5 + 2)
            have e3 := hown.frozenAt ((n + k) * 5 + 3)
            have e4 := hown.frozenAt ((n + k) * 5 + 4)
            go_wp2
            go_region
            go_wp2
            go_roundw
            case rel =>
              obtain ⟨ys, hyl, hys⟩ := own_put5 hown ((n + k) * 5) (.string (N' k)) (.bool (F' k)) (.string (R' k)) (.bool (S' k)) (.int .i64 (Z' k))
              exact ⟨k + 1, ys, by omega, by go_num, by omega, hys, vrow_put P.cat_add P.cat_add P.cat_add P.cat_add P.cat_add hvc (by omega) h1 h2 (World.block_lt_of_cell? _ _ d0) d0 d1 d2 d3 d4, below_put5 hbr (Nat.le_refl _) _ _ _ _ _ _⟩
            case measure => simp [intOf]; omega
          · obtain rfl : m = k := by omega
            have hva := hva4.below hbr
            have hvb := hvb.below hbr
            have hv5 := hv4.below hbr
            have hu5 := hu4.below hbr
            have hb5 := hb.trans (hbr.mono hb.size)
            clear hva4 hbr hown hb hv4 hu4
            go_wp2_with fail
            refine (zpref_any hva (by omega)).mono ?_
            rintro e w6 ⟨rfl, hb6⟩
            have hvb := hvb.below hb6
            have hvc := hvc.below hb6
            have hv5 := hv5.below hb6
            have hu5 := hu5.below hb6
            have hb5 := hb5.trans (hb6.mono hb5.size)
            clear hb6 hva
            go_wp2_with fail
            refine (zpref_any hvb (by omega)).mono ?_
            rintro e w7 ⟨rfl, hb6⟩
            have hvc := hvc.below hb6
            have hv5 := hv5.below hb6
            have hu5 := hu5.below hb6
            have hb5 := hb5.trans (hb6.mono hb5.size)
            clear hb6
            go_wp2_with fail
            refine (zpref_any hvc (by omega)).mono ?_
            rintro e w8 ⟨rfl, hb6⟩
            have hv5 := hv5.below hb6
            have hu5 := hu5.below hb6
            have hb5 := hb5.trans (hb6.mono hb5.size)
            clear hb6 hvc
            go_wp2_with fail
            refine (valid_any hv5).mono ?_
            rintro e w' ⟨rfl, hw⟩
            subst w'
            go_wp2_with fail
            refine (valid_any hu5).mono ?_
            rintro e w' ⟨rfl, hw⟩
            subst w'
            have HW : P.pref (P.cat n F F') (P.cat n Z Z') (n + m) = if P.pref F Z n < 0 then (if 0 ≤ P.pref F' Z' m then (n : Int) + P.pref F' Z' m else -1) else if P.pref F' Z' m < 0 then P.pref F Z n else if Z (P.pref F Z n).toNat < Z' (P.pref F' Z' m).toNat then (n : Int) + P.pref F' Z' m else P.pref F Z n := P.splits F F' Z Z' n m
            have hpa := P.pick F Z n
            have hpb := P.pick F' Z' m
            generalize P.pref (P.cat n F F') (P.cat n Z Z') (n + m) = rc at *
            generalize P.pref F Z n = ra at *
            generalize P.pref F' Z' m = rb at *
            have la := hpa.lo
            have lb := hpb.lo
            have lta := hpa.lt
            have ltb := hpb.lt
            clear hpa hpb
            by_cases h1 : ra < 0
            · rw [if_pos h1] at HW
              by_cases h2 : 0 ≤ rb
              · rw [if_pos h2] at HW
                have hb' := ltb (by omega)
                clear lta ltb
                have H : Hid (rc = (n : Int) + rb) := HW
                clear HW
                go_wp2
                go_ret
                exact ⟨ret_bool (by rw [H.out]; simp), hb5⟩
              · rw [if_neg h2] at HW
                clear lta ltb
                have H : Hid (rc = -1) := HW
                clear HW
                go_wp2
                go_ret
                exact ⟨ret_bool (by rw [H.out]; simp), hb5⟩
            · rw [if_neg h1] at HW
              have ha' := lta (by omega)
              by_cases h2 : rb < 0
              · rw [if_pos h2] at HW
                clear lta ltb
                have H : Hid (rc = ra) := HW
                clear HW
                go_wp2
                go_ret
                exact ⟨ret_bool (by rw [H.out]; simp), hb5⟩
              · rw [if_neg h2] at HW
                have hb' := ltb (by omega)
                clear lta ltb
                obtain ⟨qa, rfl⟩ := Int.eq_ofNat_of_zero_le (show 0 ≤ ra by omega)
                obtain ⟨qb, rfl⟩ := Int.eq_ofNat_of_zero_le (show 0 ≤ rb by omega)
                simp only [Int.toNat_natCast] at HW ha' hb'
                obtain ⟨b, off, rfl, _, _, _, _, c4, _⟩ := hv5.ok qa ha'
                obtain ⟨b', off', rfl, _, _, _, _, d4, _⟩ := hu5.ok qb hb'
                have p0 : (0 : Int) ≤ qa := by omega
                have p1 : (qa : Int) < n := by omega
                have p2 : (0 : Int) ≤ qb := by omega
                have p3 : (qb : Int) < m := by omega
                by_cases h3 : Z qa < Z' qb
                · rw [if_pos h3] at HW
                  have H : Hid (rc = (n : Int) + qb) := HW
                  clear HW
                  go_wp2
                  go_quiet (fail)
                  go_wp2
                  go_ret
                  exact ⟨ret_bool (by rw [H.out]; simp), below_drewN hb5 _⟩
                · rw [if_neg h3] at HW
                  have H : Hid (rc = (qa : Int)) := HW
                  clear HW
                  go_wp2
                  go_quiet (fail)
                  go_wp2
                  go_ret
                  exact ⟨ret_bool (by rw [H.out]; simp), below_drewN hb5 _⟩
end Go.Proofs.Qxb6605678aMods.W
