import Derived.Test.Qxb6618960aModsW8
import Derived.Test.Qxb6618960aModsW9
import Derived.Test.Qxb6618960aModsTok2
import Derived.Deep.AppendLies
namespace Go.Proofs.Qxb6618960aMods.W
open Go.ChangeShapes Go.WideShapes Go.ChangeAt Go.RowKit
open Go.Proofs.Qxb6618960aMods.T (MapIs upd upd_same upd_other mapIs_made wpList_look wpList_look_ok wpList_store wpList_next_tok tok key Rd)

/-- The budget in block B, as yielding reads it. -/
structure Ok (w : World) (B bp bw n : Nat) (L : Nat → Nat) (X : Nat → Int) (Z : Nat → Nat → Int) (l : Nat → Nat) (e c : Nat → Nat → Nat) : Prop where
  bud : w.heap[B]? = some (budObj bp bw)
  mp : MapIs Trym.prog 9 w bp n (P.fmap (fun p => Value.int .i64 (hold L X Z p)) n)
  mw : MapIs Trym.prog 9 w bw n (P.fmap (fun p => ptr (l p)) n)
  lists : ∀ p, p < n → LInv w (l p) (L p) (e p) (c p) (Z p)

theorem Ok.below {w w' : World} {B bp bw n : Nat} {L : Nat → Nat} {X : Nat → Int} {Z : Nat → Nat → Int} {l : Nat → Nat} {e c : Nat → Nat → Nat} (h : Ok w B bp bw n L X Z l e c) (hb : Below w.heap.size w w') : Ok w' B bp bw n L X Z l e c :=
  ⟨(hb.block _ (lt_of_block h.bud)).trans h.bud, h.mp.below hb, h.mw.below hb, fun p hp => (h.lists p hp).below hb⟩

theorem St.ok {w0 w : World} {n : Nat} {L : Nat → Nat} {X : Nat → Int} {Z : Nat → Nat → Int} {l rw : Nat → Nat} {e c : Nat → Nat → Nat} (h : St w0 w n n L X Z l rw e c) : Ok w (w0.heap.size + 2) w0.heap.size (w0.heap.size + 1) n L X Z l e c :=
  ⟨h.bud, h.mp, h.mw, h.lists⟩

/-- What the law's premise says, and the bounds. -/
structure Pm (n : Nat) (L : Nat → Nat) (X : Nat → Int) (Z : Nat → Nat → Int) : Prop where
  n1 : n ≤ 1024
  pr : Prem n L X Z
  su : P.sumL L n ≤ 131072

theorem Pm.fines {n : Nat} {L : Nat → Nat} {X : Nat → Int} {Z : Nat → Nat → Int} (h : Pm n L X Z) : P.Fines Z L n := fun p hp => (h.pr p hp).2.2.2
theorem Pm.len {n : Nat} {L : Nat → Nat} {X : Nat → Int} {Z : Nat → Nat → Int} (h : Pm n L X Z) {p : Nat} (hp : p < n) : L p ≤ 131072 := Nat.le_trans (P.sumL_one hp) h.su

/-- A map over the peers that are not left. -/
def fh (left : Lit → Bool) (v : Nat → Value) (n : Nat) (s : ByteArray) : Option Value := if left (key s) = true then none else P.fmap v n s

theorem fh_done {left : Lit → Bool} {v : Nat → Value} {n : Nat} (h : ∀ s, left (key s) = false) (s : ByteArray) : fh left v n s = P.fmap v n s := by
  simp [fh, h]

theorem fh_step {left : Lit → Bool} {v : Nat → Value} {n p : Nat} (hn : n ≤ 1024) (hp : p < n) {x : Value} (hx : v p = x) (s : ByteArray) : upd (fh left v n) (P.nm p) x s = fh (fun z => left z && !z.sameKey (key (P.nm p))) v n s := by
  unfold fh
  by_cases h : s = P.nm p
  · subst h; rw [upd_same, P.fmap_at hn hp, hx]; simp [T.same_key]
  · rw [upd_other _ _ h]; simp [T.same_key, h]

theorem fmap_ptr (l : Nat → Nat) (n : Nat) : ∀ s v, P.fmap (fun p => ptr (l p)) n s = some v → ∃ c, v = ptr c := by
  intro s v h
  obtain ⟨k, _, _, hv⟩ := P.fmap_some h
  exact ⟨l k, hv⟩

/-- The first loop of yielding: what is laid so far. -/
structure One (w wr : World) (bw n : Nat) (D : DataW Value) (L : Nat → Nat) (X : Nat → Int) (Z : Nat → Nat → Int) (e : Nat → Nat → Nat) (left : Lit → Bool) (cnt k : Nat) : Prop where
  rg : wr.ranges Trym.prog 9 tok bw (w.heap.size + 2) n D left cnt
  mh : MapIs Trym.prog 9 wr w.heap.size k (fh left (fun p => .int .i64 (hold L X Z p)) n)
  mn : MapIs Trym.prog 9 wr (w.heap.size + 1) k (fh left (fun p => elp (e p) (L p)) n)
  le : k + cnt ≤ n
  below : Below w.heap.size w wr

/-- The claim that is picked at step i. -/
def clm (L : Nat → Nat) (c : Nat → Nat → Nat) (pk : Nat → Nat) (i : Nat) : Nat := c (pk i) (P.tauAt L pk i (pk i) - 1)
/-- Its size. -/
def siz (L : Nat → Nat) (Z : Nat → Nat → Int) (pk : Nat → Nat) (i : Nat) : Int := Z (pk i) (P.tauAt L pk i (pk i) - 1)

theorem siz_sum (L : Nat → Nat) (Z : Nat → Nat → Int) (pk : Nat → Nat) : ∀ m, P.S (siz L Z pk) m = P.tk L Z pk m
  | 0 => rfl
  | m + 1 => by simp only [P.S, P.tk]; rw [siz_sum L Z pk m]; rfl

/-- How long a slice is. -/
def lenV : Value → Nat
  | .slice _ n _ => n
  | _ => 0

/-- The second loop of yielding: behind m picks. -/
structure Y (w wr : World) (n : Nat) (L : Nat → Nat) (X : Nat → Int) (Z : Nat → Nat → Int) (e c : Nat → Nat → Nat) (mine short : Int) (m : Nat) (pk : Nat → Nat) (v : Value) (xs : List Value) : Prop where
  below : Below w.heap.size w wr
  room : w.heap.size + 2 ≤ wr.heap.size
  mh : MapIs Trym.prog 9 wr w.heap.size (n + m) (P.fmap (fun p => .int .i64 (P.cur X Z (P.tauAt L pk m) p)) n)
  mn : MapIs Trym.prog 9 wr (w.heap.size + 1) (n + m) (P.fmap (fun p => elp (e p) (P.tauAt L pk m p)) n)
  valid : P.Valid mine short X Z n L pk m
  own : wr.ownsRow (w.heap.size + 2) 42 1 v m xs
  row : ∀ i, i < m → xs[i]? = some (ptr (clm L c pk i))

theorem Y.len {w wr : World} {n : Nat} {L : Nat → Nat} {X : Nat → Int} {Z : Nat → Nat → Int} {e c : Nat → Nat → Nat} {mine short : Int} {m : Nat} {pk : Nat → Nat} {v : Value} {xs : List Value} (h : Y w wr n L X Z e c mine short m pk v xs) : lenV v = m := by
  obtain ⟨_, h1 | h1⟩ := h.own
  · rw [h1.1, h1.2]; rfl
  · obtain ⟨g, cap, cur, rfl, _⟩ := h1; rfl

theorem Y.step {w wr w7 : World} {n : Nat} {L : Nat → Nat} {X : Nat → Int} {Z : Nat → Nat → Int} {e c : Nat → Nat → Nat} {mine short : Int} {m : Nat} {pk : Nat → Nat} {v v' : Value} {xs : List Value} (h : Y w wr n L X Z e c mine short m pk v xs) (hn : n ≤ 1024) {p t : Nat} (ht : P.tauAt L pk m p = t + 1)
    (hb : P.Best mine X Z n (P.tauAt L pk m) p) (hs : P.tk L Z pk m < short) (b7 : Below w.heap.size w w7)
    (mh : MapIs Trym.prog 9 w7 w.heap.size (n + m + 1) (upd (P.fmap (fun p => .int .i64 (P.cur X Z (P.tauAt L pk m) p)) n) (P.nm p) (.int .i64 (P.cur X Z (P.tauAt L pk m) p - Z p t))))
    (mn : MapIs Trym.prog 9 w7 (w.heap.size + 1) (n + m + 1) (upd (P.fmap (fun p => elp (e p) (P.tauAt L pk m p)) n) (P.nm p) (elp (e p) t)))
    (own : w7.ownsRow (w.heap.size + 2) 42 1 v' (m + 1) (xs ++ [ptr (c p t)])) :
    Y w w7 n L X Z e c mine short (m + 1) (P.updN pk m p) v' (xs ++ [ptr (c p t)]) := by
  have hpn := hb.1
  have hlen : xs.length = m := by have := h.own.1; omega
  have hroom := mn.lt
  have htau : P.tauAt L (P.updN pk m p) (m + 1) = P.updN (P.tauAt L pk m) p t := by rw [P.push_tau, ht]; rfl
  refine ⟨b7, by omega, ?_, ?_, P.valid_push h.valid hb hs, own, fun i hi => ?_⟩
  · refine mh.congr (fun s => ?_)
    rw [P.fmap_upd hn hpn]
    refine P.fmap_congr (fun q hq => ?_) s
    rw [htau]
    by_cases e0 : q = p
    · subst e0
      rw [P.updN_same]
      unfold P.cur
      rw [P.updN_same, ht]
      simp only [P.S]
      congr 1
      omega
    · rw [P.updN_other _ _ e0]
      unfold P.cur
      rw [P.updN_other _ _ e0]
  · refine mn.congr (fun s => ?_)
    rw [P.fmap_upd hn hpn]
    refine P.fmap_congr (fun q hq => ?_) s
    rw [htau]
    by_cases e0 : q = p
    · subst e0
      rw [P.updN_same, P.updN_same]
    · rw [P.updN_other _ _ e0, P.updN_other _ _ e0]
  · unfold clm
    have hc : ∀ k, k < i → P.updN pk m p k = pk k := fun k hk => P.updN_other _ _ (by omega)
    rw [P.tauAt_congr i hc]
    by_cases e0 : i = m
    · subst e0
      rw [P.updN_same, ht, List.getElem?_append_right (by omega), hlen]
      simp
    · rw [P.updN_other _ _ e0, List.getElem?_append_left (by omega)]
      exact h.row i (by omega)

/-- How yielding ends. -/
def YEnd (n : Nat) (L : Nat → Nat) (X : Nat → Int) (Z : Nat → Nat → Int) (c : Nat → Nat → Nat) (mine short : Int) (r : Ending) (w' : World) : Prop :=
  (r = .returned (.tuple #[.slice none 0 0, .bool false]) ∧ 0 < short ∧ P.G mine X Z L n < short) ∨
  (∃ ao m cap pk, r = .returned (.tuple #[.slice ao m cap, .bool true]) ∧ P.Valid mine short X Z n L pk m ∧ short ≤ P.tk L Z pk m ∧ m ≤ 131072 ∧ CRow w' ao m (clm L c pk) (siz L Z pk))

theorem tk_nonneg {n : Nat} {L : Nat → Nat} {Z : Nat → Nat → Int} {X : Nat → Int} {mine short : Int} {pk : Nat → Nat} (hf : P.Fines Z L n) : ∀ m, P.Valid mine short X Z n L pk m → 0 ≤ P.tk L Z pk m
  | 0, _ => Int.le_refl _
  | m + 1, h => by
    have ih := tk_nonneg hf m (fun i hi => h i (by omega))
    obtain ⟨⟨b1, b2, _⟩, _⟩ := h m (by omega)
    have := (hf _ b1 (P.tauAt L pk m (pk m) - 1) (by have := P.tauAt_le (L := L) (pk := pk) m (pk m); have := b2.1; omega)).1
    simp only [P.tk]
    omega

theorem Y.crow {w wr : World} {B bp bw n : Nat} {L : Nat → Nat} {X : Nat → Int} {Z : Nat → Nat → Int} {l : Nat → Nat} {e c : Nat → Nat → Nat} {mine short : Int} {m : Nat} {pk : Nat → Nat} {v : Value} {xs : List Value} (h : Y w wr n L X Z e c mine short m pk v xs) (ho : Ok w B bp bw n L X Z l e c) :
    ∃ ao cap, v = .slice ao m cap ∧ CRow wr ao m (clm L c pk) (siz L Z pk) := by
  have hsize : ∀ i, i < m → ∃ cs, wr.heap[clm L c pk i]? = some (Obj.cells cs 94 (0, 0)) ∧ cs[2]? = some (.int .i64 (siz L Z pk i)) := fun i hi => by
    obtain ⟨⟨b1, b2, _⟩, _⟩ := h.valid i hi
    have hle := P.tauAt_le (L := L) (pk := pk) i (pk i)
    have := b2.1
    exact ((ho.below h.below).lists _ b1).size _ (by omega)
  obtain ⟨h0, h1 | h1⟩ := h.own
  · obtain ⟨rfl, rfl⟩ := h1
    exact ⟨none, 0, rfl, fun i hi => by omega, hsize⟩
  · obtain ⟨g, cap, cs, rfl, _⟩ := h1
    refine ⟨_, cap, rfl, fun i hi => ⟨g, 0, rfl, ?_, ?_⟩, hsize⟩
    · rw [h.own.cellAt (0 + i) (by omega), Nat.zero_add]
      exact h.row i hi
    · exact (h.own.lt g rfl).2

theorem y_zero {w wr : World} {n : Nat} {L : Nat → Nat} {X : Nat → Int} {Z : Nat → Nat → Int} {e c : Nat → Nat → Nat} {mine short : Int} (hb : Below w.heap.size w wr) {k : Nat} (hk : k ≤ n)
    (m1 : MapIs Trym.prog 9 wr w.heap.size k (P.fmap (fun p => .int .i64 (hold L X Z p)) n)) (m2 : MapIs Trym.prog 9 wr (w.heap.size + 1) k (P.fmap (fun p => elp (e p) (L p)) n)) :
    Y w wr n L X Z e c mine short 0 (fun _ => 0) (.slice none 0 0) [] :=
  ⟨hb, m2.lt, m1.mono hk, m2.mono hk, P.valid_zero, World.ownsRow_nil _ _ _ _, fun i hi => by omega⟩

/-- What the inner loop has found among the peers that are not left. -/
def Sel (mine : Int) (X : Nat → Int) (Z : Nat → Nat → Int) (n : Nat) (τ : Nat → Nat) (left : Lit → Bool) (a b : Value) : Prop :=
  (b = .bool false ∧ ∀ p, p < n → left (key (P.nm p)) = false → ¬ P.Elig mine X Z τ p) ∨
  (∃ p, p < n ∧ a = .string (P.nm p) ∧ b = .bool true ∧ P.Elig mine X Z τ p ∧ ∀ q, q < n → left (key (P.nm q)) = false → P.Elig mine X Z τ q → P.cur X Z τ q ≤ P.cur X Z τ p)

theorem left_or {left : Lit → Bool} {n p q : Nat} (hn : n ≤ 1024) (hp : p < n) (hq : q < n) (h : (left (key (P.nm q)) && !(key (P.nm q)).sameKey (key (P.nm p))) = false) : q = p ∨ left (key (P.nm q)) = false := by
  rw [T.same_key] at h
  by_cases e : P.nm q = P.nm p
  · exact Or.inl (P.nm_inj (by omega) (by omega) e)
  · right; simpa [e] using h

end Go.Proofs.Qxb6618960aMods.W
