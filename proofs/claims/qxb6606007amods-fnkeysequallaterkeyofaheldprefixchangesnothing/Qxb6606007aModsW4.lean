import Derived.Test.Qxb6606007aModsW3
import Derived.Deep.AppendLies
import Derived.Lib.ConvBytes
import Derived.OneCell
namespace Go.Proofs.Qxb6606007aMods.W
open Go.ChangeShapes Go.WideShapes Go.ChangeAt Go.RowKit

/-- The slice v reads as the bytes of s; it lies at the head of a row of bytes. -/
def Byt (w : World) (v : Value) (s : ByteArray) : Prop :=
  ∃ b cap cs fr, v = .slice (some ⟨b, 0, none⟩) s.size cap ∧ w.heap[b]? = some (Obj.cells cs 5 fr) ∧ ∀ j, j < s.size → cs[j]? = some (.int .u8 (s.data.toList.getD j 0).toNat)

theorem Byt.kept {w w' : World} {v : Value} {s : ByteArray} (h : Byt w v s) (hk : ∀ (b : Nat) (cs : Array Value) (fr : Nat × Nat), w.heap[b]? = some (Obj.cells cs 5 fr) → w'.heap[b]? = w.heap[b]?) : Byt w' v s := by
  obtain ⟨b, cap, cs, fr, hv, hb, hc⟩ := h
  exact ⟨b, cap, cs, fr, hv, (hk b cs fr hb).trans hb, hc⟩

theorem Byt.below {w w' : World} {v : Value} {s : ByteArray} (h : Byt w v s) (hb : Below w.heap.size w w') : Byt w' v s :=
  h.kept fun b _ _ hh => hb.block b (lt_of_block hh)

/-- Block p is a Keys: sealed, and the n keys with the prefixes A and the secrets S. -/
structure KInv (w : World) (p : Nat) (sealed : ByteArray) (n : Nat) (A S : Nat → ByteArray) (v : Value) (xs : List Value) : Prop where
  here : w.heap[p]? = some (Obj.cells #[v, .string sealed] 48 (0, 0))
  own : w.ownsRow (p + 1) 60 5 v n xs
  key : ∀ i, i < n → ∃ pv sv, xs[i * 5]? = some (.string ⟨#[]⟩) ∧ xs[i * 5 + 1]? = some (.string ⟨#[]⟩) ∧ xs[i * 5 + 2]? = some pv ∧ xs[i * 5 + 3]? = some sv ∧ xs[i * 5 + 4]? = some .nilFunc ∧ Byt w pv (A i) ∧ Byt w sv (S i)

def Keys (w : World) (p : Nat) (sealed : ByteArray) (n : Nat) (A S : Nat → ByteArray) : Prop := ∃ v xs, KInv w p sealed n A S v xs

theorem Keys.below {w w' : World} {p : Nat} {sealed : ByteArray} {n : Nat} {A S : Nat → ByteArray} (h : Keys w p sealed n A S) (hb : Below w.heap.size w w') : Keys w' p sealed n A S := by
  obtain ⟨v, xs, h1, h2, h3⟩ := h
  refine ⟨v, xs, (hb.block p (lt_of_block h1)).trans h1, ?_, fun i hi => ?_⟩
  · obtain ⟨a, c⟩ := h2
    refine ⟨a, ?_⟩
    rcases c with c | ⟨g, cap, cur, hv, hg, hh, r⟩
    · exact Or.inl c
    · exact Or.inr ⟨g, cap, cur, hv, hg, (hb.block g (lt_of_block hh)).trans hh, r⟩
  · obtain ⟨pv, sv, a, b, c, d, e, f, g⟩ := h3 i hi
    exact ⟨pv, sv, a, b, c, d, e, f.below hb, g.below hb⟩

theorem Keys.lt {w : World} {p : Nat} {sealed : ByteArray} {n : Nat} {A S : Nat → ByteArray} (h : Keys w p sealed n A S) : p < w.heap.size := by
  obtain ⟨v, xs, h1, _⟩ := h
  exact lt_of_block h1

theorem newKeys_any {w : World} {s : ByteArray} :
    Calls Trym.prog 25 #[.string s] w fun e w' => e = .returned (.pointer (some ⟨w.heap.size, 0, none⟩)) ∧ w' = w.alloc (.cells #[.slice none 0 0, .string s] 48) := by
  go_enter Trym.func25, Trym.ntmps25
  go_wp2
  go_ret
  exact ⟨rfl, rfl⟩

theorem keys_new (w : World) (s : ByteArray) (A S : Nat → ByteArray) : Keys (w.alloc (.cells #[.slice none 0 0, .string s] 48)) w.heap.size s 0 A S :=
  ⟨.slice none 0 0, [], (MapKept.heap_alloc w _).1, World.ownsRow_nil _ _ _ _, fun i hi => by omega⟩

theorem Trym.info60 : (Trym.prog.info? 60).map (fun i => (i.zero, i.size, i.bytes)) = some (some (.agg #[.string ⟨#[]⟩, .string ⟨#[]⟩, .slice none 0 0, .slice none 0 0, .nilFunc]), 5, 88) := by kernel_rfl

theorem get5 {xs : List Value} {n : Nat} (hx : xs.length = n * 5) (a b c d e : Value) : (xs ++ [a, b, c, d, e])[n * 5]? = some a ∧ (xs ++ [a, b, c, d, e])[n * 5 + 1]? = some b ∧
    (xs ++ [a, b, c, d, e])[n * 5 + 2]? = some c ∧ (xs ++ [a, b, c, d, e])[n * 5 + 3]? = some d ∧ (xs ++ [a, b, c, d, e])[n * 5 + 4]? = some e := by
  refine ⟨?_, ?_, ?_, ?_, ?_⟩
  all_goals
    rw [List.getElem?_append_right (by omega)]
    first
      | (rw [show n * 5 - xs.length = 0 by omega]; rfl)
      | (rw [show n * 5 + 1 - xs.length = 1 by omega]; rfl)
      | (rw [show n * 5 + 2 - xs.length = 2 by omega]; rfl)
      | (rw [show n * 5 + 3 - xs.length = 3 by omega]; rfl)
      | (rw [show n * 5 + 4 - xs.length = 4 by omega]; rfl)

theorem two_setCell {w : World} {b : Nat} {v u s : Value} {t : TypeId} (h : w.heap[b]? = some (Obj.cells #[v, s] t (0, 0))) : (w.setCell ⟨b, 0, none⟩ u).heap[b]? = some (Obj.cells #[u, s] t (0, 0)) := by
  have hlt := lt_of_block h
  have h' : w.heap[b] = Obj.cells #[v, s] t (0, 0) := by simpa [Array.getElem?_eq_getElem hlt] using h
  show (w.heap.modify b _)[b]? = _
  rw [Array.getElem?_eq_getElem (by simpa using hlt), Array.getElem_modify_self, h']
  rfl

theorem row_keys {w : World} {p : Nat} {n : Nat} {v : Value} {xs : List Value} (h : w.ownsRow (p + 1) 60 5 v n xs) : ∀ b, v.ownBlock = some b → p + 1 ≤ b ∧ ∃ cur, w.heap[b]? = some (Obj.cells cur 60 (0, 0)) := by
  intro b hb
  obtain ⟨_, c⟩ := h
  rcases c with ⟨rfl, _⟩ | ⟨g', cap', cur, rfl, hg, hh, _⟩
  · cases hb
  · cases hb
    exact ⟨hg, cur, hh⟩

theorem row_keep {w w1 : World} {p : Nat} {n : Nat} {v : Value} {xs : List Value} {o : Obj} (h : w.ownsRow (p + 1) 60 5 v n xs) (hgrow : (w.alloc o).grownBy w1 v.ownBlock) :
    ∀ (b : Nat) (cs : Array Value) (t : TypeId) (fr : Nat × Nat), w.heap[b]? = some (Obj.cells cs t fr) → t ≠ 60 → w1.heap[b]? = w.heap[b]? := by
  intro b cs t fr hb ht
  have hbl := lt_of_block hb
  have hsz : w.heap.size ≤ (w.alloc o).heap.size := by simp
  refine (hgrow.block b (Nat.lt_of_lt_of_le hbl hsz) (fun e => ?_)).trans (Below.heap_alloc w o b hbl)
  obtain ⟨_, cur, hc⟩ := row_keys h b e.symm
  rw [hb] at hc
  simp at hc
  exact ht hc.2.1

theorem add_cell {w w1 : World} {p : Nat} {sealed : ByteArray} {n : Nat} {A S : Nat → ByteArray} {v : Value} {xs : List Value} {o : Obj} (hk : KInv w p sealed n A S v xs) (hgrow : (w.alloc o).grownBy w1 v.ownBlock) :
    w1.cell? ⟨p, 0, none⟩ = some v ∧ w1.frozen? ⟨p, 0, none⟩ = false := by
  have hp1 : w1.heap[p]? = some (Obj.cells #[v, .string sealed] 48 (0, 0)) := (row_keep hk.own hgrow p _ 48 _ hk.here (by decide)).trans hk.here
  exact ⟨by simp [World.cell?, hp1], by simp [World.frozen?, hp1]⟩

/-- What the append and the store make of a Keys. -/
theorem add_step {w w1 : World} {p : Nat} {sealed : ByteArray} {n : Nat} {A S : Nat → ByteArray} {pv sv v : Value} {xs : List Value} {o : Obj} {g cap : Nat} (hk : KInv w p sealed n A S v xs) (hp : Byt w pv (A n)) (hs : Byt w sv (S n))
    (hown : w1.ownsRow (p + 1) 60 5 (.slice (some ⟨g, 0, none⟩) (n + 1) cap) (n + 1) (xs ++ [.string ⟨#[]⟩, .string ⟨#[]⟩, pv, sv, .nilFunc])) (hgrow : (w.alloc o).grownBy w1 v.ownBlock) (hlt : p < w.heap.size) :
    Keys (w1.setCell ⟨p, 0, none⟩ (.slice (some ⟨g, 0, none⟩) (n + 1) cap)) p sealed (n + 1) A S ∧ Below p w (w1.setCell ⟨p, 0, none⟩ (.slice (some ⟨g, 0, none⟩) (n + 1) cap)) := by
  have hrow := row_keys hk.own
  have keep := row_keep hk.own hgrow
  have hp1 : w1.heap[p]? = some (Obj.cells #[v, .string sealed] 48 (0, 0)) := (keep p _ 48 _ hk.here (by decide)).trans hk.here
  have hbyt : ∀ {u : Value} {s : ByteArray}, Byt w u s → Byt (w1.setCell ⟨p, 0, none⟩ (.slice (some ⟨g, 0, none⟩) (n + 1) cap)) u s := by
    intro u s hu
    refine hu.kept fun b cs fr hb => ?_
    rw [Below.heap_setCell _ _ _ _ (fun e => ?_)]
    · exact keep b cs 5 fr hb (by decide)
    · simp at e
      subst e
      rw [hk.here] at hb
      simp at hb
  refine ⟨⟨_, _, two_setCell hp1, ownsRow_setCell_below hown (by simp) _, fun i hi => ?_⟩, ?_⟩
  · by_cases e : i = n
    · subst e
      obtain ⟨g0, g1, g2, g3, g4⟩ := get5 hk.own.1 (Value.string ⟨#[]⟩) (.string ⟨#[]⟩) pv sv .nilFunc
      exact ⟨pv, sv, g0, g1, g2, g3, g4, hbyt hp, hbyt hs⟩
    · obtain ⟨pv', sv', a, b, c, d, e', f, g'⟩ := hk.key i (by omega)
      have hl := hk.own.1
      refine ⟨pv', sv', ?_, ?_, ?_, ?_, ?_, hbyt f, hbyt g'⟩
      all_goals rw [List.getElem?_append_left (by omega)]; assumption
  · refine Below.setCell ?_ (by exact Nat.le_refl _) _
    refine ((Below.refl p w).alloc (Nat.le_of_lt hlt) o).grown hgrow (by simp; omega) fun k hk' => ?_
    have := (hrow k hk').1
    omega

set_option maxHeartbeats 1000000 in
theorem add_any {w : World} {p : Nat} {sealed : ByteArray} {n : Nat} {A S : Nat → ByteArray} {pv sv : Value} (hk : Keys w p sealed n A S) (hn : n ≤ 10000) (hp : Byt w pv (A n)) (hs : Byt w sv (S n)) :
    Calls Trym.prog 14 #[.pointer (some ⟨p, 0, none⟩), pv, sv] w fun e w' => e = .returned (.tuple #[]) ∧ Keys w' p sealed (n + 1) A S ∧ Below p w w' := by
  obtain ⟨v, xs, hk⟩ := hk
  obtain ⟨i0, hi, hz0, hz1, hz2⟩ := info_parts Trym.info60
  have c0 : w.cell? ⟨p, 0, none⟩ = some v := by simp [World.cell?, hk.here]
  have hlt : p < w.heap.size := lt_of_block hk.here
  have hown := hk.own
  have hp' := hp
  have hs' := hs
  obtain ⟨b, cp, cs, fr, rfl, _⟩ := hp'
  obtain ⟨b', cp', cs', fr', rfl, _⟩ := hs'
  have hone : ∀ u ∈ [Value.string ⟨#[]⟩, .string ⟨#[]⟩, .slice (some ⟨b, 0, none⟩) (A n).size cp, .slice (some ⟨b', 0, none⟩) (S n).size cp', .nilFunc], u.oneCell' = true := by
    intro u hu
    simp at hu
    rcases hu with rfl | rfl | rfl | rfl <;> rfl
  go_enter Trym.func14, Trym.ntmps14
  go_wp2_with (at_builtin; refine wpList_append_lies _ rfl (.tmp 10) (.tmp 14) 46 rfl (p + 1) 60 i0 _ 5 88 Trym.underlying46 hi hz0 hz1 hz2 rfl (by omega) v n xs rfl (hown.alloc _) ⟨w.heap.size, 0, none⟩ 1 1 [Value.string ⟨#[]⟩, .string ⟨#[]⟩, .slice (some ⟨b, 0, none⟩) (A n).size cp, .slice (some ⟨b', 0, none⟩) (S n).size cp', .nilFunc] rfl rfl (World.news_of_block (heap_alloc_new w _)) hone (by omega) (by unfold maxLen; omega) (by omega) (by simp; omega) (w.heap.size + 1) (by simp) ?_; intro g cap w1 hown1 hgrow hat hgl; obtain ⟨hc1, hf1⟩ := add_cell hk hgrow)
  go_end0
  obtain ⟨r1, r2⟩ := add_step hk hp hs hown1 hgrow hlt
  exact ⟨rfl, r1, r2⟩
end Go.Proofs.Qxb6606007aMods.W
