/-! The plain law: no Go in sight. -/
namespace Go.Proofs.Qxb6606007aMods.P

/-- The first index below n at which A holds p. -/
def first (A : Nat → ByteArray) (p : ByteArray) : Nat → Option Nat
  | 0 => none
  | k + 1 => match first A p k with
    | some i => some i
    | none => if A k = p then some k else none

theorem first_old {A : Nat → ByteArray} {p : ByteArray} {k i : Nat} (h : first A p k = some i) : first A p (k + 1) = some i := by
  simp [first, h]
theorem first_new {A : Nat → ByteArray} {p : ByteArray} {k : Nat} (h : first A p k = none) (e : A k = p) : first A p (k + 1) = some k := by
  simp [first, h, e]
theorem first_none {A : Nat → ByteArray} {p : ByteArray} {k : Nat} (h : first A p k = none) (e : A k ≠ p) : first A p (k + 1) = none := by
  simp [first, h, e]

theorem first_some {A : Nat → ByteArray} {p : ByteArray} {n i : Nat} (h : first A p n = some i) : i < n ∧ A i = p := by
  induction n with
  | zero => simp [first] at h
  | succ n ih =>
    cases hf : first A p n with
    | some j =>
      rw [first_old hf] at h
      obtain rfl : j = i := by simpa using h
      have := ih hf
      exact ⟨by omega, this.2⟩
    | none =>
      by_cases e : A n = p
      · rw [first_new hf e] at h
        obtain rfl : n = i := by simpa using h
        exact ⟨by omega, e⟩
      · rw [first_none hf e] at h; cases h

theorem first_mono {A : Nat → ByteArray} {p : ByteArray} {n m i : Nat} (h : first A p n = some i) (hm : n ≤ m) : first A p m = some i := by
  induction m with
  | zero =>
    have : n = 0 := by omega
    subst this; exact h
  | succ m ih =>
    by_cases e : n = m + 1
    · subst e; exact h
    · exact first_old (ih (by omega))

theorem first_of_mem {A : Nat → ByteArray} {p : ByteArray} {n j : Nat} (hj : j < n) (e : A j = p) : (first A p n).isSome = true := by
  cases hf : first A p j with
  | some i => rw [first_mono hf (by omega)]; rfl
  | none => rw [first_mono (first_new hf e) (by omega)]; rfl

theorem first_self (A : Nat → ByteArray) {n i : Nat} (hi : i < n) : ∃ j, first A (A i) n = some j :=
  Option.isSome_iff_exists.1 (first_of_mem hi rfl)

/-- What firstSecret gives. -/
def sec (A S : Nat → ByteArray) (p : ByteArray) (n : Nat) : ByteArray :=
  match first A p n with
  | some i => S i
  | none => ⟨#[]⟩

/-- Every prefix of the first is read by the second with the same first secret. -/
def agree (A S : Nat → ByteArray) (n : Nat) (A' S' : Nat → ByteArray) (m : Nat) : Nat → Bool
  | 0 => true
  | k + 1 => agree A S n A' S' m k && ((first A' (A k) m).isSome && decide (sec A S (A k) n = sec A' S' (A k) m))

theorem agree_iff {A S : Nat → ByteArray} {n : Nat} {A' S' : Nat → ByteArray} {m : Nat} (k : Nat) :
    agree A S n A' S' m k = true ↔ ∀ i, i < k → (first A' (A i) m).isSome = true ∧ sec A S (A i) n = sec A' S' (A i) m := by
  induction k with
  | zero => simp [agree]
  | succ k ih =>
    simp only [agree, Bool.and_eq_true, decide_eq_true_eq, ih]
    constructor
    · rintro ⟨h1, h2⟩ i hi
      by_cases e : i = k
      · subst e; exact h2
      · exact h1 i (by omega)
    · intro h
      exact ⟨fun i hi => h i (by omega), h k (by omega)⟩

theorem agree_false {A S : Nat → ByteArray} {n : Nat} {A' S' : Nat → ByteArray} {m k N : Nat} (hk : k < N) (h : ¬ ((first A' (A k) m).isSome = true ∧ sec A S (A k) n = sec A' S' (A k) m)) : agree A S n A' S' m N = false := by
  cases hh : agree A S n A' S' m N with
  | false => rfl
  | true => exact absurd ((agree_iff N).1 hh k hk) h
end Go.Proofs.Qxb6606007aMods.P
