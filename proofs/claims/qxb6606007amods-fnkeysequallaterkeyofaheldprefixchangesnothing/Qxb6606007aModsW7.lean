import Derived.Test.Qxb6606007aModsW6
namespace Go.Proofs.Qxb6606007aMods.W
open Go.ChangeShapes Go.WideShapes Go.ChangeAt Go.RowKit
open Go.Proofs.Qxb6606007aMods.T (MapIs upd upd_same upd_other mapIs_made wpList_look_ok wpList_store wpList_next_tok tok key Rd)

/-- It ends with a bool that is true just if c. -/
def EqBool (c : Prop) (e : Ending) : Prop := ∃ r, e = .returned (.bool r) ∧ (r = true ↔ c)

theorem fm_str (A S : Nat → ByteArray) (n : Nat) : ∀ s v, fm A S n s = some v → ∃ c, v = Value.string c := by
  intro s v h
  unfold fm at h
  cases hf : P.first A s n with
  | none => rw [hf] at h; cases h
  | some i => rw [hf] at h; exact ⟨S i, by simpa using h.symm⟩

theorem Keys.cell {w : World} {p : Nat} {sealed : ByteArray} {n : Nat} {A S : Nat → ByteArray} (h : Keys w p sealed n A S) : w.cell? ⟨p, 1, none⟩ = some (.string sealed) := by
  obtain ⟨v, xs, h⟩ := h
  simp [World.cell?, h.here]

theorem byPrefix_ex {w : World} {p : Nat} {sealed : ByteArray} {n : Nat} {A S : Nat → ByteArray} (hk : Keys w p sealed n A S) (hn : n ≤ 10000) (hA : ∀ i, i < n → (A i).size ≤ maxLen) :
    Calls Trym.prog 26 #[.pointer (some ⟨p, 0, none⟩)] w fun e w' => ∃ b, e = .returned (.map (some b)) ∧ w.heap.size ≤ b ∧ MapIs Trym.prog 9 w' b n (fm A S n) ∧ Below w.heap.size w w' := by
  refine (byPrefix_any hk hn hA).mono ?_
  rintro e w' ⟨rfl, h1, h2⟩
  exact ⟨_, rfl, Nat.le_refl _, h1, h2⟩

theorem Keys.drewN {w : World} {p : Nat} {sealed : ByteArray} {n : Nat} {A S : Nat → ByteArray} (h : Keys w p sealed n A S) (m : Nat) : Keys (w.drewN m) p sealed n A S := h.below (below_drewN (Below.refl _ _) m)

set_option maxHeartbeats 2000000 in
theorem equal_any {w : World} {p p' : Nat} {sd sd' : ByteArray} {n m : Nat} {A S A' S' : Nat → ByteArray} (hk : Keys w p sd n A S) (hk' : Keys w p' sd' m A' S') (hn : n ≤ 10000) (hm : m ≤ 10000)
    (hA : ∀ i, i < n → (A i).size ≤ maxLen) (hA' : ∀ i, i < m → (A' i).size ≤ maxLen) :
    Calls Trym.prog 12 #[.pointer (some ⟨p, 0, none⟩), .pointer (some ⟨p', 0, none⟩)] w fun e w' => EqBool (sd = sd' ∧ ∀ s, fm A S n s = fm A' S' m s) e ∧ Below w.heap.size w w' := by
  have c0 := hk.cell
  have c1 := hk'.cell
  by_cases hs : sd = sd'
  · subst hs
    go_enter Trym.func12, Trym.ntmps12
    go_wp2
    go_quiet (fail)
    go_wp2_with fail
    refine (byPrefix_ex (hk.drewN nq) hn hA).mono ?_
    rintro e w1 ⟨b1, rfl, hb1, hm1, hw1⟩
    have hw1' : Below w.heap.size w w1 := (below_drewN (Below.refl _ _) nq).trans hw1
    have hkk := (hk'.drewN nq).below hw1
    go_wp2_with fail
    refine (byPrefix_ex hkk hm hA').mono ?_
    rintro e w2 ⟨b2, rfl, hb2, hm2, hw2⟩
    have hlt1 := hm1.lt
    have hw : Below w.heap.size w w2 := hw1'.trans (hw2.mono hw1'.size)
    have hm1' := hm1.below hw2
    have hne : b1 ≠ b2 := by omega
    have hb1' : w.heap.size ≤ b1 := hb1
    have hb2' : w.heap.size ≤ b2 := Nat.le_trans hw1'.size hb2
    clear hm1 hkk hw1 hw1' hw2 c0 c1 hk hk' hb1 hb2
    obtain ⟨D1, ho1, r1⟩ := hm1'
    obtain ⟨D2, ho2, r2⟩ := hm2
    have z1 := ho1.size_le
    have z2 := ho2.size_le
    by_cases hsz : Maps.size D1 = Maps.size D2
    · have hbq : ((Maps.size D1 : Int) != (Maps.size D2 : Int)) = false := by simp [hsz]
      have HSZ : Hid (Maps.size D1 = Maps.size D2) := hsz
      clear hsz
      go_wp2_with (first
        | (at_len; refine wpList_len_own _ rfl (.tmp 33) 55 rfl 9 9 Trym.underlying55 tok b1 n D1 rfl ho1 ?_)
        | (at_len; refine wpList_len_own _ rfl (.tmp 35) 55 rfl 9 9 Trym.underlying55 tok b2 m D2 rfl ho2 ?_)
        | (at_range; refine wpList_range_own _ rfl (.tmp 38) 55 rfl 9 9 (Maps.string_keyed Trym.underlying9) Trym.underlying55 tok b1 n D1 rfl ho1 ?_; intro w3 hrg0 hg0 hs0))
      go_frame
      go_loopw [7] (fun _ wr => ∃ (left : Lit → Bool) (cnt : Nat), wr.ranges Trym.prog 9 tok b1 w2.heap.size n D1 left cnt ∧ wr.ownsMap Trym.prog 9 tok b2 m D2 ∧ (∀ s v, fm A S n s = some v → left (key s) = false → fm A' S' m s = some v) ∧ Below w.heap.size w wr)
        (fun _ wr => wr.rangeLeft b1 w2.heap.size)
      case atStart =>
        refine ⟨_, _, hrg0, ho2.kept hg0 (by simp), fun s v hv hh => ?_, hw.grown hg0 hw.size (fun k hk => by cases hk)⟩
        rw [r1.has, hv] at hh
        cases hh
      case round =>
        obtain ⟨left, cnt, hrg, hor, hok, hbr⟩ := hrel
        have HOK : Hid (∀ s v, fm A S n s = some v → left (key s) = false → fm A' S' m s = some v) := hok
        clear hok
        go_wp2_with (at_next; refine wpList_next_tok _ rfl (.tmp 39) rfl 9 Trym.underlying9 b1 w2.heap.size n D1 (fm A S n) left cnt rfl hrg r1 Value.string (fm_str A S n) ?_ ?_)
        · intro hl
          have HL : Hid (∀ s, left (key s) = false) := hl
          clear hl
          go_wp2
          go_ret
          refine ⟨⟨true, rfl, fun _ => ⟨by trivial, T.same_of_sub ho1 ho2 Trym.underlying9 r1 r2 HSZ.out fun s v hv => HOK.out s v hv (HL.out s)⟩, fun _ => rfl⟩, hbr⟩
        · intro s c w4 cnt4 hss hls hfs hrg4 hlt4 hg4 hs4 hen4
          have hne2 : b2 ≠ w2.heap.size := Nat.ne_of_lt ho2.lt
          have ho4 := hor.kept hg4 (by simp; exact hne2)
          have hb4 : Below w.heap.size w w4 := hbr.grown hg4 hbr.size (fun k hk => by cases hk; exact hw.size)
          have HF : Hid (fm A S n s = some (.string c)) := hfs
          clear hfs hls
          have hm4 : MapIs Trym.prog 9 w4 b2 m (fm A' S' m) := ⟨D2, ho4, r2⟩
          cases hf2 : fm A' S' m s with
          | none =>
            have e1 : (fm A' S' m s).getD (.string ⟨#[]⟩) = .string ⟨#[]⟩ := by rw [hf2]; rfl
            have e2 : (fm A' S' m s).isSome = false := by rw [hf2]; rfl
            have HF2 : Hid (fm A' S' m s = none) := hf2
            clear hf2
            go_wp2_with (at_lookup; refine wpList_look_ok _ rfl (.tmp 46) (.tmp 47) 55 rfl 9 9 Trym.underlying9 Trym.underlying55 (zero9 _) b2 m (fm A' S' m) rfl hm4 s rfl hss _ _ e1 e2 ?_)
            go_ret
            refine ⟨⟨false, rfl, fun h => (by cases h), fun h => ?_⟩, hb4⟩
            have := h.2 s
            rw [HF.out, HF2.out] at this
            cases this
          | some u =>
            obtain ⟨c', rfl⟩ := fm_str A' S' m s u hf2
            have e1 : (fm A' S' m s).getD (.string ⟨#[]⟩) = .string c' := by rw [hf2]; rfl
            have e2 : (fm A' S' m s).isSome = true := by rw [hf2]; rfl
            have HF2 : Hid (fm A' S' m s = some (.string c')) := hf2
            clear hf2
            by_cases hc : c' = c
            · subst hc
              go_wp2_with (at_lookup; refine wpList_look_ok _ rfl (.tmp 46) (.tmp 47) 55 rfl 9 9 Trym.underlying9 Trym.underlying55 (zero9 _) b2 m (fm A' S' m) rfl hm4 s rfl hss _ _ e1 e2 ?_)
              go_roundw
              case rel =>
                refine ⟨_, cnt4, hrg4, ho4, fun t v hv hlt => ?_, hb4⟩
                by_cases e : t = s
                · subst e
                  rw [HF.out] at hv
                  cases hv
                  exact HF2.out
                · refine HOK.out t v hv ?_
                  rw [T.same_key] at hlt
                  simpa [e] using hlt
              case measure => rw [hrg4.left_eq, hrg.left_eq]; exact hlt4
            · have e3 := ne_str hc
              go_wp2_with (at_lookup; refine wpList_look_ok _ rfl (.tmp 46) (.tmp 47) 55 rfl 9 9 Trym.underlying9 Trym.underlying55 (zero9 _) b2 m (fm A' S' m) rfl hm4 s rfl hss _ _ e1 e2 ?_)
              go_ret
              refine ⟨⟨false, rfl, fun h => (by cases h), fun h => ?_⟩, hb4⟩
              have := h.2 s
              rw [HF.out, HF2.out] at this
              simp at this
              exact absurd this.symm hc
    · have hbq : ((Maps.size D1 : Int) != (Maps.size D2 : Int)) = true := by simp; omega
      have HSZ : Hid (¬ Maps.size D1 = Maps.size D2) := hsz
      clear hsz
      go_wp2_with (first
        | (at_len; refine wpList_len_own _ rfl (.tmp 33) 55 rfl 9 9 Trym.underlying55 tok b1 n D1 rfl ho1 ?_)
        | (at_len; refine wpList_len_own _ rfl (.tmp 35) 55 rfl 9 9 Trym.underlying55 tok b2 m D2 rfl ho2 ?_))
      go_ret
      exact ⟨⟨false, rfl, fun h => (by cases h), fun h => absurd (T.size_of_same ho1 ho2 Trym.underlying9 Trym.underlying9 r1 r2 h.2) HSZ.out⟩, hw⟩
  · have e1 := ne_str hs
    go_enter Trym.func12, Trym.ntmps12
    go_wp2
    go_quiet (fail)
    go_wp2
    go_ret
    exact ⟨⟨false, rfl, fun h => (by cases h), fun h => absurd h.1 hs⟩, below_drewN (Below.refl _ _) nq⟩
end Go.Proofs.Qxb6606007aMods.W
