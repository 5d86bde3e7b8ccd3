/-! The plain law: no Go in sight. -/
namespace Go.Proofs.Qxb6605678aMods.P

/-- The pick among the first k verdicts: the first fit one with the highest score, or -1. -/
def pref (F : Nat → Bool) (Z : Nat → Int) : Nat → Int
  | 0 => -1
  | k + 1 => if F k = true ∧ (pref F Z k < 0 ∨ Z (pref F Z k).toNat < Z k) then (k : Int) else pref F Z k

theorem pref_yes {F : Nat → Bool} {Z : Nat → Int} {k : Nat} (h : F k = true) (h' : pref F Z k < 0 ∨ Z (pref F Z k).toNat < Z k) : pref F Z (k + 1) = k := by
  show (if _ then _ else _) = _
  rw [if_pos ⟨h, h'⟩]
theorem pref_no {F : Nat → Bool} {Z : Nat → Int} {k : Nat} (h : F k = true → ¬ (pref F Z k < 0 ∨ Z (pref F Z k).toNat < Z k)) : pref F Z (k + 1) = pref F Z k := by
  show (if _ then _ else _) = _
  rw [if_neg fun hh => h hh.1 hh.2]

/-- What the pick is. -/
structure Pick (F : Nat → Bool) (Z : Nat → Int) (n : Nat) (r : Int) : Prop where
  lo : -1 ≤ r
  none : r = -1 → ∀ j, j < n → F j = false
  lt : r ≠ -1 → r.toNat < n
  fit : r ≠ -1 → F r.toNat = true
  before : r ≠ -1 → ∀ j, j < n → F j = true → j < r.toNat → Z j < Z r.toNat
  behind : r ≠ -1 → ∀ j, j < n → F j = true → r.toNat < j → Z j ≤ Z r.toNat

theorem pick (F : Nat → Bool) (Z : Nat → Int) (n : Nat) : Pick F Z n (pref F Z n) := by
  induction n with
  | zero => exact ⟨by simp [pref], fun _ j hj => by omega, fun h => absurd rfl h, fun h => absurd rfl h, fun h => absurd rfl h, fun h => absurd rfl h⟩
  | succ n ih =>
    by_cases hy : F n = true ∧ (pref F Z n < 0 ∨ Z (pref F Z n).toNat < Z n)
    · rw [pref_yes hy.1 hy.2]
      refine ⟨by omega, fun h => by omega, fun _ => by simp, fun _ => by simpa using hy.1, fun _ j hj hf hlt => ?_, fun _ j hj hf hlt => ?_⟩
      · simp at hlt ⊢
        by_cases hm : pref F Z n = -1
        · have := ih.none hm j hlt
          rw [this] at hf; simp at hf
        · have h1 : Z (pref F Z n).toNat < Z n := by
            rcases hy.2 with h | h
            · have := ih.lo; omega
            · exact h
          rcases Nat.lt_trichotomy j (pref F Z n).toNat with h | h | h
          · have := ih.before hm j hlt hf h; omega
          · subst h; exact h1
          · have := ih.behind hm j hlt hf h; omega
      · simp at hlt; omega
    · rw [pref_no fun h h' => hy ⟨h, h'⟩]
      refine ⟨ih.lo, fun h j hj => ?_, fun h => by have := ih.lt h; omega, ih.fit, fun h j hj hf hlt => ?_, fun h j hj hf hlt => ?_⟩
      · by_cases hjn : j < n
        · exact ih.none h j hjn
        · have : j = n := by omega
          subst this
          cases hf : F j with
          | false => rfl
          | true => exact absurd ⟨hf, Or.inl (by omega)⟩ hy
      · have := ih.lt h
        exact ih.before h j (by omega) hf hlt
      · by_cases hjn : j < n
        · exact ih.behind h j hjn hf hlt
        · have : j = n := by omega
          subst this
          have := ih.lo
          rcases Int.lt_or_le (Z (pref F Z j).toNat) (Z j) with h' | h'
          · exact absurd ⟨hf, Or.inr h'⟩ hy
          · exact h'

/-- Two picks over the same verdicts are one. -/
theorem pick_unique {F : Nat → Bool} {Z : Nat → Int} {n : Nat} {r s : Int} (hr : Pick F Z n r) (hs : Pick F Z n s) : r = s := by
  have h1 := hr.lo
  have h2 := hs.lo
  by_cases er : r = -1
  · by_cases es : s = -1
    · omega
    · have := hr.none er _ (hs.lt es)
      rw [hs.fit es] at this; simp at this
  · by_cases es : s = -1
    · have := hs.none es _ (hr.lt er)
      rw [hr.fit er] at this; simp at this
    · rcases Nat.lt_trichotomy r.toNat s.toNat with h | h | h
      · have a := hr.behind er _ (hs.lt es) (hs.fit es) h
        have b := hs.before es _ (hr.lt er) (hr.fit er) h
        omega
      · omega
      · have a := hs.behind es _ (hr.lt er) (hr.fit er) h
        have b := hr.before er _ (hs.lt es) (hs.fit es) h
        omega

/-- The verdicts of a followed by those of b. -/
def cat {α : Type} (n : Nat) (f g : Nat → α) (i : Nat) : α := if i < n then f i else g (i - n)

/-- What the law wants of the pick over both. -/
def want (Fa Fb : Nat → Bool) (Za Zb : Nat → Int) (n m : Nat) : Int :=
  if pref Fa Za n < 0 then (if 0 ≤ pref Fb Zb m then (n : Int) + pref Fb Zb m else -1)
  else if pref Fb Zb m < 0 then pref Fa Za n
  else if Za (pref Fa Za n).toNat < Zb (pref Fb Zb m).toNat then (n : Int) + pref Fb Zb m else pref Fa Za n

theorem cat_lt {α : Type} {n i : Nat} {f g : Nat → α} (h : i < n) : cat n f g i = f i := by simp [cat, h]
theorem cat_ge {α : Type} {n i : Nat} {f g : Nat → α} (h : n ≤ i) : cat n f g i = g (i - n) := by
  unfold cat; rw [if_neg (by omega)]
theorem cat_add {α : Type} {n i : Nat} {f g : Nat → α} : cat n f g (n + i) = g i := by
  rw [cat_ge (by omega)]; congr 1; omega

theorem splits (Fa Fb : Nat → Bool) (Za Zb : Nat → Int) (n m : Nat) : pref (cat n Fa Fb) (cat n Za Zb) (n + m) = want Fa Fb Za Zb n m := by
  refine pick_unique (pick _ _ _) ?_
  have ha := pick Fa Za n
  have hb := pick Fb Zb m
  unfold want
  generalize pref Fa Za n = ra at *
  generalize pref Fb Zb m = rb at *
  have la := ha.lo
  have lb := hb.lo
  have nonea : ra = -1 → ∀ j, j < n → cat n Fa Fb j = false := fun h j hj => by rw [cat_lt hj]; exact ha.none h j hj
  have noneb : rb = -1 → ∀ j, n ≤ j → j < n + m → cat n Fa Fb j = false := fun h j h1 h2 => by rw [cat_ge h1]; exact hb.none h _ (by omega)
  -- the pick is b's
  have pb : rb ≠ -1 → (ra = -1 ∨ Za ra.toNat < Zb rb.toNat) → Pick (cat n Fa Fb) (cat n Za Zb) (n + m) ((n : Int) + rb) := by
    intro hb1 hab
    have e : ((n : Int) + rb).toNat = n + rb.toNat := by omega
    have l := hb.lt hb1
    refine ⟨by omega, fun h => by omega, fun _ => by omega, fun _ => by rw [e, cat_add]; exact hb.fit hb1, fun _ j hj hf hlt => ?_, fun _ j hj hf hlt => ?_⟩
    · rw [e] at hlt ⊢
      rw [cat_add]
      by_cases hjn : j < n
      · rw [cat_lt hjn] at hf ⊢
        rcases hab with h | h
        · have := ha.none h j hjn
          rw [this] at hf; simp at hf
        · have a1 : ra ≠ -1 := by intro h'; have := ha.none h' j hjn; rw [this] at hf; simp at hf
          rcases Nat.lt_trichotomy j ra.toNat with h' | h' | h'
          · have := ha.before a1 j hjn hf h'; omega
          · subst h'; exact h
          · have := ha.behind a1 j hjn hf h'; omega
      · rw [cat_ge (by omega)] at hf ⊢
        exact hb.before hb1 _ (by omega) hf (by omega)
    · rw [e] at hlt ⊢
      rw [cat_add]
      rw [cat_ge (by omega)] at hf ⊢
      exact hb.behind hb1 _ (by omega) hf (by omega)
  -- the pick is a's
  have pa : ra ≠ -1 → (rb = -1 ∨ Zb rb.toNat ≤ Za ra.toNat) → Pick (cat n Fa Fb) (cat n Za Zb) (n + m) ra := by
    intro ha1 hab
    have l := ha.lt ha1
    refine ⟨la, fun h => absurd h ha1, fun _ => by omega, fun _ => by rw [cat_lt l]; exact ha.fit ha1, fun _ j hj hf hlt => ?_, fun _ j hj hf hlt => ?_⟩
    · rw [cat_lt l]
      rw [cat_lt (by omega)] at hf ⊢
      exact ha.before ha1 j (by omega) hf hlt
    · rw [cat_lt l]
      by_cases hjn : j < n
      · rw [cat_lt hjn] at hf ⊢
        exact ha.behind ha1 j hjn hf hlt
      · have hjm : j - n < m := by omega
        rw [cat_ge (by omega)] at hf ⊢
        have b1 : rb ≠ -1 := by intro h'; have := hb.none h' _ hjm; rw [this] at hf; simp at hf
        rcases hab with h | h
        · exact absurd h b1
        · rcases Nat.lt_trichotomy (j - n) rb.toNat with h' | h' | h'
          · have := hb.before b1 _ hjm hf h'; omega
          · rw [h']; exact h
          · have := hb.behind b1 _ hjm hf h'; omega
  by_cases h1 : ra < 0
  · rw [if_pos h1]
    have ra1 : ra = -1 := by omega
    by_cases h2 : 0 ≤ rb
    · rw [if_pos h2]; exact pb (by omega) (Or.inl ra1)
    · rw [if_neg h2]
      have rb1 : rb = -1 := by omega
      refine ⟨by omega, fun _ j hj => ?_, fun h => absurd rfl h, fun h => absurd rfl h, fun h => absurd rfl h, fun h => absurd rfl h⟩
      by_cases hjn : j < n
      · exact nonea ra1 j hjn
      · exact noneb rb1 j (by omega) hj
  · rw [if_neg h1]
    by_cases h2 : rb < 0
    · rw [if_pos h2]; exact pa (by omega) (Or.inl (by omega))
    · rw [if_neg h2]
      by_cases h3 : Za ra.toNat < Zb rb.toNat
      · rw [if_pos h3]; exact pb (by omega) (Or.inr h3)
      · rw [if_neg h3]; exact pa (by omega) (Or.inr (by omega))
end Go.Proofs.Qxb6605678aMods.P
