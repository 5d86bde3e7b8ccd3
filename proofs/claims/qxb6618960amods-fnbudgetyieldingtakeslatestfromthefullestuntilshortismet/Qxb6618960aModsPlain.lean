import Derived.Test.Qxb6618960aModsTok
/-! The plain law: no Go in sight but the values of a map. -/
namespace Go.Proofs.Qxb6618960aMods.P
open Go.Proofs.Qxb6618960aMods.T (upd upd_same upd_other)

/-- f with v laid at k. -/
def updN {α : Type} (f : Nat → α) (k : Nat) (v : α) (i : Nat) : α := if i = k then v else f i
theorem updN_same {α : Type} (f : Nat → α) (k : Nat) (v : α) : updN f k v k = v := by simp [updN]
theorem updN_other {α : Type} (f : Nat → α) {k i : Nat} (v : α) (h : i ≠ k) : updN f k v i = f i := by simp [updN, h]

/-! ### peers' names -/
def dig : Nat → Nat → List UInt8
  | 0, _ => []
  | f + 1, q => if q < 10 then [UInt8.ofNat (48 + q % 10)] else dig f (q / 10) ++ [UInt8.ofNat (48 + q % 10)]

def nm (p : Nat) : ByteArray := ⟨(112 :: dig 5 p).toArray⟩

def val (l : List UInt8) : Nat := l.foldl (fun a b => a * 10 + (b.toNat - 48)) 0

theorem byte_val {r : Nat} (h : r < 10) : (UInt8.ofNat (48 + r)).toNat = 48 + r := by
  rw [UInt8.toNat_ofNat']
  omega

theorem val_dig : ∀ f q, q < 10 ^ f → val (dig f q) = q
  | 0, q, h => by simp [dig, val] at h ⊢; omega
  | f + 1, q, h => by
    unfold dig
    split
    · rename_i h10
      unfold val
      simp only [List.foldl_cons, List.foldl_nil]
      rw [byte_val (Nat.mod_lt _ (by omega))]
      omega
    · have hq : q / 10 < 10 ^ f := by
        rw [Nat.pow_succ] at h
        generalize 10 ^ f = t at *
        omega
      have ih := val_dig f (q / 10) hq
      unfold val at ih ⊢
      rw [List.foldl_append, ih]
      simp only [List.foldl_cons, List.foldl_nil]
      rw [byte_val (Nat.mod_lt _ (by omega))]
      omega

theorem nm_inj {i j : Nat} (hi : i < 1024) (hj : j < 1024) (h : nm i = nm j) : i = j := by
  have h1 : dig 5 i = dig 5 j := by
    unfold nm at h
    have := congrArg (fun b : ByteArray => b.data.toList) h
    simpa using this
  have a := val_dig 5 i (by omega)
  have b := val_dig 5 j (by omega)
  rw [h1] at a
  omega

theorem dig_len : ∀ f q, (dig f q).length ≤ f
  | 0, _ => by simp [dig]
  | f + 1, q => by
    unfold dig
    split
    · simp
    · have := dig_len f (q / 10)
      simp; omega

theorem nm_size (p : Nat) : (nm p).size ≤ 6 := by
  have := dig_len 5 p
  show (112 :: dig 5 p).toArray.size ≤ 6
  simp; omega

/-! ### a map over the peers -/
/-- The peer of the name s among the first n. -/
def who (s : ByteArray) : Nat → Option Nat
  | 0 => none
  | k + 1 => if nm k = s then some k else who s k

theorem who_some {s : ByteArray} {n k : Nat} (h : who s n = some k) : k < n ∧ nm k = s := by
  induction n with
  | zero => cases h
  | succ n ih =>
    unfold who at h
    split at h
    · cases h; exact ⟨by omega, by assumption⟩
    · have := ih h; exact ⟨by omega, this.2⟩

theorem who_at {n k : Nat} (hn : n ≤ 1024) (hk : k < n) : who (nm k) n = some k := by
  induction n with
  | zero => omega
  | succ n ih =>
    unfold who
    by_cases h : k = n
    · subst h; simp
    · have : nm n ≠ nm k := fun e => h (nm_inj (by omega) (by omega) e).symm
      simp [this]
      exact ih (by omega) (by omega)

def fmap {α : Type} (v : Nat → α) (n : Nat) (s : ByteArray) : Option α := (who s n).map v

theorem fmap_at {α : Type} {v : Nat → α} {n k : Nat} (hn : n ≤ 1024) (hk : k < n) : fmap v n (nm k) = some (v k) := by
  simp [fmap, who_at hn hk]

theorem fmap_some {α : Type} {v : Nat → α} {n : Nat} {s : ByteArray} {u : α} (h : fmap v n s = some u) : ∃ k, k < n ∧ s = nm k ∧ u = v k := by
  unfold fmap at h
  cases hw : who s n with
  | none => rw [hw] at h; cases h
  | some k =>
    rw [hw] at h
    obtain ⟨a, b⟩ := who_some hw
    exact ⟨k, a, b.symm, by simpa using h.symm⟩

theorem fmap_zero {α : Type} {v : Nat → α} (s : ByteArray) : fmap v 0 s = none := rfl

theorem fmap_congr {α : Type} {v v' : Nat → α} {n : Nat} (h : ∀ k, k < n → v k = v' k) (s : ByteArray) : fmap v n s = fmap v' n s := by
  unfold fmap
  cases hw : who s n with
  | none => rfl
  | some k => simp [h k (who_some hw).1]

theorem fmap_new {v : Nat → Value} {n : Nat} {x : Value} (hx : v n = x) (s : ByteArray) : upd (fmap v n) (nm n) x s = fmap v (n + 1) s := by
  by_cases h : s = nm n
  · subst h; rw [upd_same]; simp [fmap, who, hx]
  · rw [upd_other _ _ h]
    have : nm n ≠ s := fun e => h e.symm
    simp [fmap, who, this]

theorem fmap_upd {v : Nat → Value} {n k : Nat} {x : Value} (hn : n ≤ 1024) (hk : k < n) (s : ByteArray) : upd (fmap v n) (nm k) x s = fmap (updN v k x) n s := by
  by_cases h : s = nm k
  · subst h; rw [upd_same, fmap_at hn hk, updN_same]
  · rw [upd_other _ _ h]
    unfold fmap
    cases hw : who s n with
    | none => rfl
    | some i =>
      have : i ≠ k := fun e => h (by rw [← e]; exact (who_some hw).2.symm)
      simp [updN_other _ _ this]

/-! ### sums -/
def S (z : Nat → Int) : Nat → Int
  | 0 => 0
  | t + 1 => S z t + z t

def sumL (L : Nat → Nat) : Nat → Nat
  | 0 => 0
  | k + 1 => sumL L k + L k

theorem sumL_mono {L : Nat → Nat} {i j : Nat} (h : i ≤ j) : sumL L i ≤ sumL L j := by
  induction j with
  | zero => have : i = 0 := by omega
            subst this; exact Nat.le_refl _
  | succ j ih =>
    by_cases e : i = j + 1
    · subst e; exact Nat.le_refl _
    · have := ih (by omega); simp only [sumL]; omega

theorem sumL_one {L : Nat → Nat} {i n : Nat} (h : i < n) : L i ≤ sumL L n := by
  have := sumL_mono (L := L) (show i + 1 ≤ n from h)
  simp only [sumL] at this
  omega

/-- What is asked of peer's frames. -/
def Fine (z : Nat → Int) (n : Nat) : Prop := ∀ j, j < n → 0 ≤ z j ∧ z j ≤ 1099511627776

theorem S_bound {z : Nat → Int} {n : Nat} (h : Fine z n) : ∀ t, t ≤ n → 0 ≤ S z t ∧ S z t ≤ 1099511627776 * t
  | 0, _ => by simp [S]
  | t + 1, ht => by
    have a := S_bound h t (by omega)
    have b := h t (by omega)
    simp only [S]
    omega

theorem S_mono {z : Nat → Int} {n : Nat} (h : Fine z n) {i t : Nat} (hi : i ≤ t) (ht : t ≤ n) : S z i ≤ S z t := by
  induction t with
  | zero => have : i = 0 := by omega
            subst this; exact Int.le_refl _
  | succ t ih =>
    by_cases e : i = t + 1
    · subst e; exact Int.le_refl _
    · have := ih (by omega) (by omega)
      have b := h t (by omega)
      simp only [S]; omega

def cur (x : Nat → Int) (z : Nat → Nat → Int) (τ : Nat → Nat) (p : Nat) : Int := x p + S (z p) (τ p)

/-- Where a peer stops to give. -/
def down (mine x : Int) (z : Nat → Int) : Nat → Nat
  | 0 => 0
  | t + 1 => if x + S z (t + 1) ≤ mine then t + 1 else down mine x z t

theorem down_le (mine x : Int) (z : Nat → Int) : ∀ t, down mine x z t ≤ t
  | 0 => Nat.le_refl _
  | t + 1 => by
    unfold down
    split
    · exact Nat.le_refl _
    · have := down_le mine x z t; omega

theorem down_more {mine x : Int} {z : Nat → Int} {t : Nat} (h : mine < x + S z (t + 1)) : down mine x z (t + 1) = down mine x z t := by
  rw [down]
  split
  · omega
  · rfl

theorem down_stop {mine x : Int} {z : Nat → Int} {t : Nat} (h : t = 0 ∨ x + S z t ≤ mine) : down mine x z t = t := by
  cases t with
  | zero => rfl
  | succ t =>
    unfold down
    rcases h with h | h
    · omega
    · simp [h]

def give (mine x : Int) (z : Nat → Int) (t : Nat) : Int := S z t - S z (down mine x z t)

theorem give_bound {mine x : Int} {z : Nat → Int} {n t : Nat} (h : Fine z n) (ht : t ≤ n) : 0 ≤ give mine x z t ∧ give mine x z t ≤ 1099511627776 * t := by
  have a := down_le mine x z t
  have b := S_mono h a ht
  have c := S_bound h t ht
  have d := S_bound h (down mine x z t) (by omega)
  unfold give
  omega

/-- What the first k peers can give. -/
def G (mine : Int) (x : Nat → Int) (z : Nat → Nat → Int) (τ : Nat → Nat) : Nat → Int
  | 0 => 0
  | k + 1 => G mine x z τ k + give mine (x k) (z k) (τ k)

def Fines (z : Nat → Nat → Int) (L : Nat → Nat) (n : Nat) : Prop := ∀ p, p < n → Fine (z p) (L p)

theorem G_bound {mine : Int} {x : Nat → Int} {z : Nat → Nat → Int} {L τ : Nat → Nat} {n : Nat} (h : Fines z L n) (ht : ∀ p, p < n → τ p ≤ L p) : ∀ k, k ≤ n → 0 ≤ G mine x z τ k ∧ G mine x z τ k ≤ 1099511627776 * (sumL L k : Int)
  | 0, _ => by simp [G, sumL]
  | k + 1, hk => by
    have a := G_bound (mine := mine) (x := x) h ht k (by omega)
    have b := give_bound (mine := mine) (x := x k) (h k (by omega)) (ht k (by omega))
    have c := ht k (by omega)
    simp only [G, sumL]
    omega

theorem G_congr {mine : Int} {x : Nat → Int} {z : Nat → Nat → Int} {τ τ' : Nat → Nat} : ∀ k, (∀ p, p < k → τ p = τ' p) → G mine x z τ k = G mine x z τ' k
  | 0, _ => rfl
  | k + 1, h => by
    simp only [G]
    rw [G_congr k (fun p hp => h p (by omega)), h k (by omega)]

def Elig (mine : Int) (x : Nat → Int) (z : Nat → Nat → Int) (τ : Nat → Nat) (p : Nat) : Prop := 0 < τ p ∧ mine < cur x z τ p

theorem give_step {mine : Int} {x : Nat → Int} {z : Nat → Nat → Int} {τ : Nat → Nat} {p : Nat} (h : Elig mine x z τ p) : give mine (x p) (z p) (τ p - 1) = give mine (x p) (z p) (τ p) - z p (τ p - 1) := by
  obtain ⟨h1, h2⟩ := h
  unfold cur at h2
  obtain ⟨t, ht⟩ : ∃ t, τ p = t + 1 := ⟨τ p - 1, by omega⟩
  rw [ht] at h2 ⊢
  have : t + 1 - 1 = t := by omega
  rw [this]
  unfold give
  rw [down_more h2]
  simp only [S]
  omega

theorem G_step {mine : Int} {x : Nat → Int} {z : Nat → Nat → Int} {τ : Nat → Nat} {p : Nat} (h : Elig mine x z τ p) : ∀ k, p < k → G mine x z (updN τ p (τ p - 1)) k = G mine x z τ k - z p (τ p - 1)
  | 0, hp => by omega
  | k + 1, hp => by
    simp only [G]
    by_cases e : p = k
    · subst e
      rw [G_congr (τ' := τ) p (fun q hq => updN_other τ _ (by omega)), updN_same, give_step h]
      omega
    · rw [G_step h k (by omega), updN_other τ _ (show k ≠ p by omega)]
      omega

theorem G_none {mine : Int} {x : Nat → Int} {z : Nat → Nat → Int} {τ : Nat → Nat} : ∀ k, (∀ p, p < k → ¬ Elig mine x z τ p) → G mine x z τ k = 0
  | 0, _ => rfl
  | k + 1, h => by
    simp only [G]
    rw [G_none k (fun p hp => h p (by omega))]
    have hk := h k (by omega)
    have : down mine (x k) (z k) (τ k) = τ k := down_stop (by
      unfold Elig cur at hk
      by_cases e : τ k = 0
      · exact Or.inl e
      · exact Or.inr (by have : ¬ mine < x k + S (z k) (τ k) := fun h' => hk ⟨by omega, h'⟩
                         omega))
    unfold give
    rw [this]
    omega

/-! ### the picks -/
def tauAt (L : Nat → Nat) (pk : Nat → Nat) : Nat → Nat → Nat
  | 0 => L
  | i + 1 => updN (tauAt L pk i) (pk i) (tauAt L pk i (pk i) - 1)

def tk (L : Nat → Nat) (z : Nat → Nat → Int) (pk : Nat → Nat) : Nat → Int
  | 0 => 0
  | i + 1 => tk L z pk i + z (pk i) (tauAt L pk i (pk i) - 1)

theorem tauAt_congr {L pk pk' : Nat → Nat} : ∀ n, (∀ i, i < n → pk i = pk' i) → tauAt L pk n = tauAt L pk' n
  | 0, _ => rfl
  | n + 1, h => by
    have ih := tauAt_congr (L := L) n (fun i hi => h i (by omega))
    simp only [tauAt]
    rw [ih, h n (by omega)]

theorem tk_congr {L pk pk' : Nat → Nat} {z : Nat → Nat → Int} : ∀ n, (∀ i, i < n → pk i = pk' i) → tk L z pk n = tk L z pk' n
  | 0, _ => rfl
  | n + 1, h => by
    have ih := tk_congr (L := L) (z := z) n (fun i hi => h i (by omega))
    simp only [tk]
    rw [ih, tauAt_congr (L := L) n (fun i hi => h i (by omega)), h n (by omega)]

theorem tauAt_le {L pk : Nat → Nat} : ∀ n p, tauAt L pk n p ≤ L p
  | 0, _ => Nat.le_refl _
  | n + 1, p => by
    simp only [tauAt]
    by_cases e : p = pk n
    · rw [e, updN_same]; have := tauAt_le (L := L) (pk := pk) n (pk n); omega
    · rw [updN_other _ _ e]; exact tauAt_le n p

theorem tauAt_dec {L pk : Nat → Nat} {n p : Nat} : tauAt L pk (n + 1) p ≤ tauAt L pk n p := by
  simp only [tauAt]
  by_cases e : p = pk n
  · rw [e, updN_same]; omega
  · rw [updN_other _ _ e]; exact Nat.le_refl _

def Best (mine : Int) (x : Nat → Int) (z : Nat → Nat → Int) (P : Nat) (τ : Nat → Nat) (p : Nat) : Prop :=
  p < P ∧ Elig mine x z τ p ∧ ∀ q, q < P → Elig mine x z τ q → cur x z τ q ≤ cur x z τ p

def Valid (mine short : Int) (x : Nat → Int) (z : Nat → Nat → Int) (P : Nat) (L pk : Nat → Nat) (n : Nat) : Prop :=
  ∀ i, i < n → Best mine x z P (tauAt L pk i) (pk i) ∧ tk L z pk i < short

theorem valid_zero {mine short : Int} {x : Nat → Int} {z : Nat → Nat → Int} {P : Nat} {L pk : Nat → Nat} : Valid mine short x z P L pk 0 := fun i hi => by omega

theorem valid_push {mine short : Int} {x : Nat → Int} {z : Nat → Nat → Int} {P : Nat} {L pk : Nat → Nat} {n p : Nat} (h : Valid mine short x z P L pk n) (hb : Best mine x z P (tauAt L pk n) p) (hs : tk L z pk n < short) :
    Valid mine short x z P L (updN pk n p) (n + 1) := by
  intro i hi
  have e : ∀ k, k < i → updN pk n p k = pk k := fun k hk => updN_other _ _ (by omega)
  rw [tauAt_congr i e, tk_congr i e]
  by_cases h1 : i = n
  · subst h1; rw [updN_same]; exact ⟨hb, hs⟩
  · rw [updN_other _ _ h1]; exact h i (by omega)

theorem push_tau {L pk : Nat → Nat} {n p : Nat} : tauAt L (updN pk n p) (n + 1) = updN (tauAt L pk n) p (tauAt L pk n p - 1) := by
  have e : ∀ k, k < n → updN pk n p k = pk k := fun k hk => updN_other _ _ (by omega)
  simp only [tauAt]
  rw [tauAt_congr n e, updN_same]

theorem push_tk {L pk : Nat → Nat} {z : Nat → Nat → Int} {n p : Nat} : tk L z (updN pk n p) (n + 1) = tk L z pk n + z p (tauAt L pk n p - 1) := by
  have e : ∀ k, k < n → updN pk n p k = pk k := fun k hk => updN_other _ _ (by omega)
  simp only [tk]
  rw [tk_congr n e, tauAt_congr n e, updN_same]

theorem total {mine short : Int} {x : Nat → Int} {z : Nat → Nat → Int} {P : Nat} {L pk : Nat → Nat} : ∀ n, Valid mine short x z P L pk n → G mine x z (tauAt L pk n) P + tk L z pk n = G mine x z L P
  | 0, _ => by simp [tauAt, tk]
  | n + 1, h => by
    have ih := total n (fun i hi => h i (by omega))
    obtain ⟨⟨b1, b2, _⟩, _⟩ := h n (by omega)
    simp only [tauAt, tk]
    rw [G_step b2 P b1]
    omega

theorem sumL_congr {τ τ' : Nat → Nat} : ∀ k, (∀ p, p < k → τ p = τ' p) → sumL τ k = sumL τ' k
  | 0, _ => rfl
  | k + 1, h => by
    simp only [sumL]
    rw [sumL_congr k (fun p hp => h p (by omega)), h k (by omega)]

theorem sumL_step {τ : Nat → Nat} {p : Nat} (h : 0 < τ p) : ∀ k, p < k → sumL (updN τ p (τ p - 1)) k + 1 = sumL τ k
  | 0, hp => by omega
  | k + 1, hp => by
    simp only [sumL]
    by_cases e : p = k
    · subst e
      rw [sumL_congr (τ' := τ) p (fun q hq => updN_other τ _ (by omega)), updN_same]
      omega
    · have := sumL_step h k (by omega)
      rw [updN_other τ _ (show k ≠ p by omega)]
      omega

theorem count {mine short : Int} {x : Nat → Int} {z : Nat → Nat → Int} {P : Nat} {L pk : Nat → Nat} : ∀ n, Valid mine short x z P L pk n → sumL (tauAt L pk n) P + n = sumL L P
  | 0, _ => by simp [tauAt]
  | n + 1, h => by
    have ih := count n (fun i hi => h i (by omega))
    obtain ⟨⟨b1, b2, _⟩, _⟩ := h n (by omega)
    simp only [tauAt]
    have := sumL_step b2.1 P b1
    omega

theorem cur_dec {x : Nat → Int} {z : Nat → Nat → Int} {P : Nat} {L pk : Nat → Nat} (h : Fines z L P) {n p : Nat} (hp : p < P) : cur x z (tauAt L pk (n + 1)) p ≤ cur x z (tauAt L pk n) p := by
  have := S_mono (h p hp) (tauAt_dec (L := L) (pk := pk) (n := n) (p := p)) (tauAt_le n p)
  unfold cur
  omega

/-- Whoever could give after a pick holds no more than the picked one held. -/
theorem later {mine short : Int} {x : Nat → Int} {z : Nat → Nat → Int} {P : Nat} {L pk : Nat → Nat} (h : Fines z L P) {n m : Nat} (hv : Valid mine short x z P L pk m) (hn : n < m) {q : Nat} (hq : q < P) (he : Elig mine x z (tauAt L pk (n + 1)) q) :
    cur x z (tauAt L pk (n + 1)) q ≤ cur x z (tauAt L pk n) (pk n) := by
  obtain ⟨⟨_, _, b3⟩, _⟩ := hv n hn
  have d := cur_dec (x := x) (pk := pk) h (n := n) hq
  refine Int.le_trans d (b3 q hq ⟨?_, ?_⟩)
  · exact Nat.lt_of_lt_of_le he.1 tauAt_dec
  · exact Int.lt_of_lt_of_le he.2 d
end Go.Proofs.Qxb6618960aMods.P
