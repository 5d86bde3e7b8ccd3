import Derived.WalkKit
import Derived.Maps.RangeWalk
import Derived.Maps.Ext
import Derived.WalkSpells
import Derived.WalkSmall
import Derived.Deep.QuietTactic
/-! A map keyed by strings, its elements whatever values: told by a plain function from strings to values. No program is named. -/
namespace Go.Proofs.Qxb6618960aMods.T
open Go.WideShapes Go.RowKit Go.WideMaps
open Go.Maps (Keyed IsMap)

/-- An element stands for itself. -/
def tok (v : Value) : Option (DataW Value × List MemPlace) := some (.held v, [])

/-- A string as a key of a reading. -/
def key (s : ByteArray) : Lit := .string s.data.toList

theorem key_inj {s t : ByteArray} (h : key s = key t) : s = t := by
  unfold key at h
  exact bytes_inj (by simpa using h)

theorem key_lit (s : ByteArray) : WideAt.IsKeyLit (key s) := trivial

/-- The reading D holds what f says. -/
structure Rd (D : DataW Value) (f : ByteArray → Option Value) : Prop where
  has : ∀ s, Maps.has D (key s) = (f s).isSome
  at' : ∀ s v, f s = some v → ∀ z, D.atKey (key s) z = .held v

theorem rd_empty : Rd (.map []) (fun _ => none) := ⟨fun _ => rfl, fun _ _ h => by cases h⟩

/-- f with v laid at s. -/
def upd (f : ByteArray → Option Value) (s : ByteArray) (v : Value) (t : ByteArray) : Option Value := if t = s then some v else f t

theorem upd_same (f : ByteArray → Option Value) (s : ByteArray) (v : Value) : upd f s v s = some v := by simp [upd]
theorem upd_other (f : ByteArray → Option Value) {s t : ByteArray} (v : Value) (h : t ≠ s) : upd f s v t = f t := by simp [upd, h]

theorem rd_put {D : DataW Value} {f : ByteArray → Option Value} (h : Rd D f) (hm : IsMap D) (s : ByteArray) (v : Value) : Rd (D.put (key s) (.held v)) (upd f s v) := by
  refine ⟨fun t => ?_, fun t u hu z => ?_⟩
  · by_cases e : t = s
    · subst e; rw [Maps.has_put_same hm (key_lit _), upd_same]; rfl
    · rw [Maps.has_put_other (fun e' => e (key_inj e')), h.has, upd_other _ _ e]
  · by_cases e : t = s
    · subst e
      rw [upd_same] at hu
      cases hu
      exact Maps.atKey_put_same hm (key_lit _) _ _
    · rw [upd_other _ _ e] at hu
      rw [Maps.atKey_put_other (fun e' => e (key_inj e'))]
      exact h.at' t u hu z

variable {P : Program} {k e t : TypeId} {w : World} {b n : Nat} {D : DataW Value} {f : ByteArray → Option Value}

/-- Block b is a map of at most n entries that holds what f says. -/
def MapIs (P : Program) (k : TypeId) (w : World) (b n : Nat) (f : ByteArray → Option Value) : Prop := ∃ D, w.ownsMap P k tok b n D ∧ Rd D f

theorem mapIs_made (w : World) (P : Program) (k : TypeId) : MapIs P k (w.alloc (.map #[] 0)) w.heap.size 0 (fun _ => none) := ⟨_, World.ownsMap_made w P k tok, rd_empty⟩

theorem MapIs.congr {g : ByteArray → Option Value} (h : MapIs P k w b n f) (e : ∀ s, f s = g s) : MapIs P k w b n g := by
  obtain rfl : f = g := funext e
  exact h
theorem MapIs.mono (h : MapIs P k w b n f) {n' : Nat} (hn : n ≤ n') : MapIs P k w b n' f := by
  obtain ⟨D, h1, h2⟩ := h; exact ⟨D, h1.mono hn, h2⟩
theorem MapIs.lt (h : MapIs P k w b n f) : b < w.heap.size := by obtain ⟨D, h1, _⟩ := h; exact h1.lt
theorem MapIs.kept {w' : World} (h : MapIs P k w b n f) (hb : w'.heap[b]? = w.heap[b]?) : MapIs P k w' b n f := by
  obtain ⟨D, ⟨es, clock, h1, r⟩, h2⟩ := h
  exact ⟨D, ⟨es, clock, hb.trans h1, r⟩, h2⟩
theorem MapIs.below {w' : World} (h : MapIs P k w b n f) (hb : Below w.heap.size w w') : MapIs P k w' b n f := h.kept (hb.block b h.lt)
theorem MapIs.alloc (h : MapIs P k w b n f) (o : Obj) : MapIs P k (w.alloc o) b n f := by
  obtain ⟨D, h1, h2⟩ := h; exact ⟨D, h1.alloc o, h2⟩
theorem MapIs.drew (h : MapIs P k w b n f) : MapIs P k w.drew b n f := h
theorem MapIs.drewN (h : MapIs P k w b n f) (m : Nat) : MapIs P k (w.drewN m) b n f := h.kept rfl

/-- 'v, ok := m[s]'. -/
theorem MapIs.look_ok (h : MapIs P k w b n f) (hk : P.underlying k = some .string) (ht : P.underlying t = some (.map k e)) {z : Value} (hz : (zeroValue e).run P w = .ok z w) {s : ByteArray} (hs : s.size ≤ maxLen) :
    (Instr.lookup t (.map (some b)) (.string s) true).run P w = .ok (.tuple #[(f s).getD z, .bool (f s).isSome]) w := by
  obtain ⟨D, h1, h2⟩ := h
  obtain ⟨v, ps, hrun, hv⟩ := h1.look_ok (Maps.string_keyed hk) ht hz (zd := .held z) (zp := []) rfl (key := .string s) (kl := key s) (keyOf_string_mk hk hs)
  rw [hrun, h2.has s]
  have e1 : DataW.held v = D.atKey (key s) (.held z) := by
    have : (DataW.held v, ([] : List MemPlace)) = (D.atKey (key s) (.held z), ps) := Option.some.inj hv
    exact congrArg Prod.fst this
  cases hf : f s with
  | none =>
    rw [Maps.atKey_of_not_has (by rw [h2.has, hf]; rfl)] at e1
    cases e1; rfl
  | some u =>
    rw [h2.at' s u hf] at e1
    cases e1; rfl

/-- 'm[s]'. -/
theorem MapIs.look (h : MapIs P k w b n f) (hk : P.underlying k = some .string) (ht : P.underlying t = some (.map k e)) {z : Value} (hz : (zeroValue e).run P w = .ok z w) {s : ByteArray} (hs : s.size ≤ maxLen) :
    (Instr.lookup t (.map (some b)) (.string s) false).run P w = .ok ((f s).getD z) w := by
  obtain ⟨D, h1, h2⟩ := h
  obtain ⟨v, ps, hrun, hv⟩ := h1.lookup (Maps.string_keyed hk) ht hz (zd := .held z) (zp := []) rfl (key := .string s) (kl := key s) (keyOf_string_mk hk hs)
  rw [hrun]
  have e1 : DataW.held v = D.atKey (key s) (.held z) := by
    have : (DataW.held v, ([] : List MemPlace)) = (D.atKey (key s) (.held z), ps) := Option.some.inj hv
    exact congrArg Prod.fst this
  cases hf : f s with
  | none =>
    rw [Maps.atKey_of_not_has (by rw [h2.has, hf]; rfl)] at e1
    cases e1; rfl
  | some u =>
    rw [h2.at' s u hf] at e1
    cases e1; rfl

/-- 'm[s] = v'. -/
theorem MapIs.store (h : MapIs P k w b n f) (hk : P.underlying k = some .string) (ht : P.underlying t = some (.map k e)) (hn : n < maxLen) {s : ByteArray} (hs : s.size ≤ maxLen) (v : Value) :
    ∃ w', (Instr.mapUpdate t (.map (some b)) (.string s) v).run P w = .ok () w' ∧ MapIs P k w' b (n + 1) (upd f s v) ∧ w.grownBy w' (some b) := by
  obtain ⟨D, h1, h2⟩ := h
  obtain ⟨w', hrun, h3, h4⟩ := h1.update (Maps.string_keyed hk) ht hn (key := .string s) (kl := key s) (keyOf_string_mk hk hs) (val := v) (d := .held v) (ps := []) rfl
  exact ⟨w', hrun, ⟨_, h3, rd_put h2 h1.isMap s v⟩, h4⟩

section
variable {ops : Array Oper} {rest : List Oper} {o : Oper} {a : Act} {Q : Exit → Act → World → Prop}

theorem wpList_look_ok (w : World) (hg : o.guard = none) (m x : Operand) (t : TypeId) (hop : o.op = Op.lookup t m x true) (k e : TypeId) (hk : P.underlying k = some .string) (ht : P.underlying t = some (.map k e)) {z : Value} (hz : (zeroValue e).run P w = .ok z w)
    (b n : Nat) (f : ByteArray → Option Value) (hm : a.eval m = .map (some b)) (h : MapIs P k w b n f) (s : ByteArray) (hx : a.eval x = .string s) (hs : s.size ≤ maxLen) (r : Value) (q : Bool) (hr : (f s).getD z = r) (hq : (f s).isSome = q)
    (hK : wpList P ops Q rest (a.put o.dst (.tuple #[r, .bool q])) w) : wpList P ops Q (o :: rest) a w := by
  refine wpList_plain hg fun K' hK' => ?_
  have hrun := h.look_ok hk ht hz hs
  subst hr hq
  unfold Oper.wp
  simp [execOp, hop, hm, hx, hrun, Result.andThen]
  exact hK' _ _ hK

theorem wpList_look (w : World) (hg : o.guard = none) (m x : Operand) (t : TypeId) (hop : o.op = Op.lookup t m x false) (k e : TypeId) (hk : P.underlying k = some .string) (ht : P.underlying t = some (.map k e)) {z : Value} (hz : (zeroValue e).run P w = .ok z w)
    (b n : Nat) (f : ByteArray → Option Value) (hm : a.eval m = .map (some b)) (h : MapIs P k w b n f) (s : ByteArray) (hx : a.eval x = .string s) (hs : s.size ≤ maxLen) (r : Value) (hr : (f s).getD z = r)
    (hK : wpList P ops Q rest (a.put o.dst r) w) : wpList P ops Q (o :: rest) a w := by
  refine wpList_plain hg fun K' hK' => ?_
  have hrun := h.look hk ht hz hs
  subst hr
  unfold Oper.wp
  simp [execOp, hop, hm, hx, hrun, Result.andThen]
  exact hK' _ _ hK

theorem wpList_store (w : World) (hg : o.guard = none) (m x v : Operand) (t : TypeId) (hop : o.op = Op.mapUpdate t m x v) (k e : TypeId) (hk : P.underlying k = some .string) (ht : P.underlying t = some (.map k e))
    (b n : Nat) (f : ByteArray → Option Value) (hm : a.eval m = .map (some b)) (h : MapIs P k w b n f) (hn : n < maxLen) (s : ByteArray) (hx : a.eval x = .string s) (hs : s.size ≤ maxLen) (u : Value) (hu : a.eval v = u)
    (hK : ∀ w', MapIs P k w' b (n + 1) (upd f s u) → w.grownBy w' (some b) → wpList P ops Q rest (a.put o.dst undef) w') : wpList P ops Q (o :: rest) a w := by
  refine wpList_plain hg fun K' hK' => ?_
  obtain ⟨w', hrun, r1, r2⟩ := h.store hk ht hn hs u
  subst hu
  unfold Oper.wp
  simp [execOp, hop, hm, hx, hrun, Result.andThen]
  exact hK' _ _ (hK w' r1 r2)
end

/-! ### what a whole map is -/
theorem keyOf_str (hk : P.underlying k = some .string) {v : Value} {l : Lit} (h : keyOf P k v = some l) : ∃ s : ByteArray, v = .string s ∧ l = key s ∧ s.size ≤ maxLen := by
  cases v <;> simp [keyOf, hk, mapKey] at h
  exact ⟨_, rfl, h.2.symm, h.1⟩

theorem has_key (h : w.ownsMap P k tok b n D) (hk : P.underlying k = some .string) {kl : Lit} (hh : Maps.has D kl = true) : ∃ s, kl = key s := by
  obtain ⟨es, clock, _, F, _, rfl⟩ := h
  obtain ⟨p, hp, hpk⟩ := List.any_eq_true.1 hh
  obtain ⟨x, hx, rfl⟩ := List.mem_map.1 (mem_sorted.1 hp)
  obtain ⟨y, hy⟩ := F.reads x hx
  have e := WideAt.sameKey_eq hpk
  rw [WideElems.rg_of hy] at e
  obtain ⟨s, _, hs, _⟩ := keyOf_str hk (WideElems.rd_key hy)
  exact ⟨s, by rw [← e, hs]⟩

theorem size_of_same {P' : Program} {k' : TypeId} {w' : World} {b' n' : Nat} {D' : DataW Value} {f' : ByteArray → Option Value} (h : w.ownsMap P k tok b n D) (h' : w'.ownsMap P' k' tok b' n' D') (hk : P.underlying k = some .string) (hk' : P'.underlying k' = some .string)
    (r : Rd D f) (r' : Rd D' f') (e : ∀ s, f s = f' s) : Maps.size D = Maps.size D' := by
  have : D = D' := by
    refine Maps.ext (h.canon (Maps.string_keyed hk)) (h'.canon (Maps.string_keyed hk')) (fun kl => ?_) (fun kl z hh => ?_)
    · cases h1 : Maps.has D kl with
      | true =>
        obtain ⟨s, rfl⟩ := has_key h hk h1
        rw [r.has] at h1
        rw [r'.has, ← e, h1]
      | false =>
        cases h2 : Maps.has D' kl with
        | false => rfl
        | true =>
          obtain ⟨s, rfl⟩ := has_key h' hk' h2
          rw [r.has, e, ← r'.has, h2] at h1
          cases h1
    · obtain ⟨s, rfl⟩ := has_key h hk hh
      rw [r.has] at hh
      obtain ⟨v, hv⟩ := Option.isSome_iff_exists.1 hh
      rw [r.at' s v hv, r'.at' s v (by rw [← e]; exact hv)]
  rw [this]

theorem pigeon {α : Type} : ∀ (l m : List α), l.Pairwise (fun x y => x ≠ y) → (∀ x ∈ l, x ∈ m) → m.length ≤ l.length → ∀ x ∈ m, x ∈ l
  | [], m, _, _, hl, x, hx => by
    have : m = [] := List.length_eq_zero_iff.1 (by simpa using hl)
    rw [this] at hx; exact hx
  | a :: l, m, hp, hs, hl, x, hx => by
    obtain ⟨h1, h2⟩ := List.pairwise_cons.1 hp
    obtain ⟨m1, m2, rfl⟩ := List.append_of_mem (hs a (by simp))
    have hs' : ∀ y ∈ l, y ∈ m1 ++ m2 := fun y hy => by
      have hy' := hs y (by simp [hy])
      have hne : y ≠ a := fun e => h1 y hy e.symm
      simp at hy' ⊢
      rcases hy' with h | h | h
      · exact Or.inl h
      · exact absurd h hne
      · exact Or.inr h
    have ih := pigeon l (m1 ++ m2) h2 hs' (by simp at hl ⊢; omega)
    by_cases e : x = a
    · simp [e]
    · have : x ∈ m1 ++ m2 := by
        simp at hx ⊢
        rcases hx with h | h | h
        · exact Or.inl h
        · exact absurd h e
        · exact Or.inr h
      simp [ih x this]

theorem same_of_sub {P' : Program} {k' : TypeId} {w' : World} {b' n' : Nat} {D' : DataW Value} {f' : ByteArray → Option Value} (h : w.ownsMap P k tok b n D) (h' : w'.ownsMap P' k' tok b' n' D') (hk : P.underlying k = some .string)
    (r : Rd D f) (r' : Rd D' f') (hs : Maps.size D = Maps.size D') (e : ∀ s v, f s = some v → f' s = some v) : ∀ s, f s = f' s := by
  obtain ⟨es, rfl, hp, hkl⟩ := h.entries (Maps.string_keyed hk)
  obtain ⟨es', rfl⟩ := h'.isMap
  have hk1 : ∀ p ∈ es, ∃ s, p.1 = key s := fun p hp' => has_key h hk (List.any_eq_true.2 ⟨p, hp', WideAt.sameKey_self (hkl p hp')⟩)
  have hsub : ∀ x ∈ es.map (·.1), x ∈ es'.map (·.1) := by
    intro x hx
    obtain ⟨p, hp', rfl⟩ := List.mem_map.1 hx
    obtain ⟨s, hs'⟩ := hk1 p hp'
    have hh : Maps.has (.map es) (key s) = true := List.any_eq_true.2 ⟨p, hp', by rw [hs']; exact WideAt.sameKey_self (key_lit s)⟩
    rw [r.has] at hh
    obtain ⟨v, hv⟩ := Option.isSome_iff_exists.1 hh
    have hh' : Maps.has (.map es') (key s) = true := by rw [r'.has, e s v hv]; rfl
    obtain ⟨p', hp'', hpk⟩ := List.any_eq_true.1 hh'
    exact List.mem_map.2 ⟨p', hp'', by rw [WideAt.sameKey_eq hpk, hs']⟩
  have hpig := pigeon (es.map (·.1)) (es'.map (·.1)) (by rw [List.pairwise_map]; exact hp) hsub (by simp; simp [Maps.size] at hs; omega)
  intro s
  cases hf : f s with
  | some v => exact (e s v hf).symm
  | none =>
    cases hf' : f' s with
    | none => rfl
    | some v =>
      have hh' : Maps.has (.map es') (key s) = true := by rw [r'.has, hf']; rfl
      obtain ⟨p', hp'', hpk⟩ := List.any_eq_true.1 hh'
      have hm := hpig p'.1 (List.mem_map.2 ⟨p', hp'', rfl⟩)
      obtain ⟨p, hp', ep⟩ := List.mem_map.1 hm
      have hh : Maps.has (.map es) (key s) = true := List.any_eq_true.2 ⟨p, hp', by rw [ep]; exact hpk⟩
      rw [r.has, hf] at hh
      cases hh

theorem same_key (s t : ByteArray) : (key s).sameKey (key t) = decide (s = t) := by
  by_cases h : s = t
  · subst h; rw [WideAt.sameKey_self (key_lit s)]; simp
  · rw [Maps.sameKey_ne (fun e => h (key_inj e))]; simp [h]

section
variable {ops : Array Oper} {rest : List Oper} {o : Oper} {a : Act} {Q : Exit → Act → World → Prop}

/-- A loop's step over such a map. -/
theorem wpList_next_tok (w : World) (hg : o.guard = none) (it : Operand) (hop : o.op = Op.next it false) (k : TypeId) (hk : P.underlying k = some .string) (b r n : Nat) (D : DataW Value) (f : ByteArray → Option Value) (left : Lit → Bool) (cnt : Nat)
    (hit : a.eval it = .pointer (some ⟨r, 0, none⟩)) (h : w.ranges P k tok b r n D left cnt) (hrd : Rd D f) {β : Type} (mk : β → Value) (inv : ∀ s v, f s = some v → ∃ c, v = mk c)
    (hDone : (∀ s, left (key s) = false) → wpList P ops Q rest (a.put o.dst (.tuple #[.bool false])) w)
    (hMore : ∀ (s : ByteArray) (c : β) (w' : World) (cnt' : Nat), s.size ≤ maxLen → left (key s) = true → f s = some (mk c) → w'.ranges P k tok b r n D (fun z => left z && !z.sameKey (key s)) cnt' → cnt' < cnt →
      w.grownBy w' (some r) → w'.heap.size = w.heap.size → (Instr.entry (.pointer (some ⟨r, 0, none⟩))).run P w' = .ok (.tuple #[.string s, mk c]) w' → wpList P ops Q rest (a.put o.dst (.tuple #[.bool true, .string s, mk c])) w') :
    wpList P ops Q (o :: rest) a w := by
  refine wpList_plain hg fun K' hK' => ?_
  unfold Oper.wp
  rcases h.next (Maps.string_keyed hk) o.type with ⟨h0, hl, hrun⟩ | ⟨kv, v, kl, y, w', cnt', hkey, hlk, hv, hat, hrun, hrg, hlt, hgr, hsz, hen⟩
  · simp [execOp, hop, hit, hrun, Result.andThen]
    exact hK' _ _ (hDone fun s => hl _)
  · obtain ⟨s, rfl, rfl, hsz'⟩ := keyOf_str hk hkey
    have hf : f s = some v := by
      have hh := Maps.has_true_of_atKey hat
      rw [hrd.has] at hh
      obtain ⟨u, hu⟩ := Option.isSome_iff_exists.1 hh
      have h1 := (hrd.at' s u hu .nil).symm.trans (hat .nil)
      have h2 : (DataW.held v, ([] : List MemPlace)) = y := Option.some.inj hv
      rw [← h2] at h1
      cases h1
      exact hu
    obtain ⟨c, rfl⟩ := inv s v hf
    simp [execOp, hop, hit, hrun, Result.andThen]
    exact hK' _ _ (hMore s c w' cnt' hsz' hlk hf hrg hlt hgr hsz hen)
end
end Go.Proofs.Qxb6618960aMods.T
