import Derived.Test.Qxb6606007aModsW5
import Derived.Test.Qxb6606007aModsTok
import Derived.Laws.IdiomStrings
import Derived.Laws.EntriesVeiled
namespace Go.Proofs.Qxb6606007aMods.W
open Go.ChangeShapes Go.WideShapes Go.ChangeAt Go.RowKit
open Go.Proofs.Qxb6606007aMods.T (MapIs upd upd_same upd_other mapIs_made wpList_look_ok wpList_store)

/-- The first secret at each prefix among the first k keys. -/
def fm (A S : Nat → ByteArray) (k : Nat) (s : ByteArray) : Option Value := (P.first A s k).map fun i => .string (S i)

theorem fm_old {A S : Nat → ByteArray} {k : Nat} (h : (P.first A (A k) k).isSome = true) (s : ByteArray) : fm A S k s = fm A S (k + 1) s := by
  unfold fm
  cases hf : P.first A s k with
  | some i => rw [P.first_old hf]
  | none =>
    rw [P.first_none hf]
    intro e
    rw [e, hf] at h
    cases h

theorem fm_new {A S : Nat → ByteArray} {k : Nat} (h : P.first A (A k) k = none) (s : ByteArray) : upd (fm A S k) (A k) (.string (S k)) s = fm A S (k + 1) s := by
  by_cases e : s = A k
  · subst e
    rw [upd_same]
    simp [fm, P.first_new h rfl]
  · rw [upd_other _ _ e]
    unfold fm
    cases hf : P.first A s k with
    | some i => rw [P.first_old hf]
    | none => rw [P.first_none hf (fun e' => e e'.symm)]

theorem conv_back {w : World} {v : Value} {s : ByteArray} (h : Byt w v s) : (convert 32 9 v).run Trym.prog w = .ok (.string s) w := by
  obtain ⟨b, cap, cs, fr, rfl, hb, hc⟩ := h
  have := run_convert_bytes_back (P := Trym.prog) w 32 9 5 ⟨b, 0, none⟩ cap s.data.toList Trym.underlying32 Trym.underlying5 Trym.underlying9 (fun j hj => by
    have hj' : j < s.size := by simpa using hj
    rw [add_plain]
    simp only [World.cell?, hb, Nat.zero_add]
    have := hc j hj'
    simpa [List.getD, hj'] using this)
  simpa using this

theorem zero9 (w : World) : (zeroValue 9).run Trym.prog w = .ok (.string ⟨#[]⟩) w := by kernel_rfl

theorem own_shape {w : World} {B e size : Nat} {v : Value} {n : Nat} {xs : List Value} (h : w.ownsRow B e size v n xs) : ∃ ao cap, v = .slice ao n cap ∧ (0 < n → ∃ g, ao = some ⟨g, 0, none⟩) := by
  obtain ⟨_, c⟩ := h
  rcases c with ⟨rfl, rfl⟩ | ⟨g, cap, cur, rfl, _⟩
  · exact ⟨none, 0, rfl, fun h => by omega⟩
  · exact ⟨_, cap, rfl, fun _ => ⟨g, rfl⟩⟩

set_option maxHeartbeats 2000000 in
theorem byPrefix_any {w : World} {p : Nat} {sealed : ByteArray} {n : Nat} {A S : Nat → ByteArray} (hk : Keys w p sealed n A S) (hn : n ≤ 10000) (hA : ∀ i, i < n → (A i).size ≤ maxLen) :
    Calls Trym.prog 26 #[.pointer (some ⟨p, 0, none⟩)] w fun e w' => e = .returned (.map (some w.heap.size)) ∧ MapIs Trym.prog 9 w' w.heap.size n (fm A S n) ∧ Below w.heap.size w w' := by
  obtain ⟨v, xs, hk⟩ := hk
  have hown := hk.own
  obtain ⟨ao, cap, rfl, hao⟩ := own_shape hown
  have hlt : p < w.heap.size := lt_of_block hk.here
  have hmm := @run_makeMap Trym.prog
  have c0 : (w.alloc (.map #[] 0)).cell? ⟨p, 0, none⟩ = some (.slice ao n cap) := by
    rw [World.cell?_alloc_lt _ _ _ hlt]; simp [World.cell?, hk.here]
  go_enter Trym.func26, Trym.ntmps26
  go_wp2
  go_loopw [14] (fun i wr => ∃ (k : Nat), k ≤ n ∧ i = .int .i64 k ∧ MapIs Trym.prog 9 wr w.heap.size k (fm A S k) ∧ Below w.heap.size w wr) (fun i _ => n - (intOf i).toNat)
  case atStart => exact ⟨0, Nat.zero_le _, rfl, mapIs_made w _ _, (Below.refl _ _).alloc (Nat.le_refl _) _⟩
  case round =>
    obtain ⟨k, hkn, rfl, hm, hbr⟩ := hrel
    clear c0
    by_cases hlt' : k < n
    · obtain ⟨g, rfl⟩ := hao (by omega)
      obtain ⟨pv, sv, x0, x1, x2, x3, x4, hp, hs⟩ := hk.key k hlt'
      have hgl : g < w.heap.size := (hown.lt g rfl).2
      have d0 : wr.cell? ⟨g, k * 5, none⟩ = some (.string ⟨#[]⟩) := by rw [hbr.cell hgl, hown.cellAt _ (by omega)]; exact x0
      have d1 : wr.cell? ⟨g, k * 5 + 1, none⟩ = some (.string ⟨#[]⟩) := by rw [hbr.cell hgl, hown.cellAt _ (by omega)]; exact x1
      have d2 : wr.cell? ⟨g, k * 5 + 2, none⟩ = some pv := by rw [hbr.cell hgl, hown.cellAt _ (by omega)]; exact x2
      have d3 : wr.cell? ⟨g, k * 5 + 3, none⟩ = some sv := by rw [hbr.cell hgl, hown.cellAt _ (by omega)]; exact x3
      have d4 : wr.cell? ⟨g, k * 5 + 4, none⟩ = some .nilFunc := by rw [hbr.cell hgl, hown.cellAt _ (by omega)]; exact x4
      clear x0 x1 x2 x3 x4
      have hbo : Below w.heap.size w (wr.alloc (.cells #[.string ⟨#[]⟩, .string ⟨#[]⟩, pv, sv, .nilFunc] 60)) := hbr.alloc hbr.size _
      have q1 := conv_back (hp.below hbo)
      have q2 := conv_back (hs.below hbo)
      have hsz := hA k hlt'
      obtain ⟨b, cp, cs, fr, rfl, _⟩ := hp
      obtain ⟨b', cp', cs', fr', rfl, _⟩ := hs
      have hm1 := hm.alloc (.cells #[.string ⟨#[]⟩, .string ⟨#[]⟩, .slice (some ⟨b, 0, none⟩) (A k).size cp, .slice (some ⟨b', 0, none⟩) (S k).size cp', .nilFunc] 60)
      cases hf : P.first A (A k) k with
      | some i =>
        have e1 : (fm A S k (A k)).getD (.string ⟨#[]⟩) = .string (S i) := by simp [fm, hf]
        have e2 : (fm A S k (A k)).isSome = true := by simp [fm, hf]
        have HF : Hid (P.first A (A k) k = some i) := hf
        clear hf
        go_wp2_with (at_lookup; refine wpList_look_ok _ rfl (.tmp 19) (.tmp 22) 55 rfl 9 9 Trym.underlying9 Trym.underlying55 (zero9 _) w.heap.size k (fm A S k) rfl hm1 (A k) rfl hsz _ _ e1 e2 ?_)
        go_roundw
        case rel => exact ⟨k + 1, by omega, by go_num, (hm1.mono (Nat.le_succ _)).congr (fm_old (by rw [HF.out]; rfl)), hbo⟩
        case measure => simp [intOf]; omega
      | none =>
        have e1 : (fm A S k (A k)).getD (.string ⟨#[]⟩) = .string ⟨#[]⟩ := by simp [fm, hf]
        have e2 : (fm A S k (A k)).isSome = false := by simp [fm, hf]
        have HF : Hid (P.first A (A k) k = none) := hf
        clear hf
        go_wp2_with (first
          | (at_lookup; refine wpList_look_ok _ rfl (.tmp 19) (.tmp 22) 55 rfl 9 9 Trym.underlying9 Trym.underlying55 (zero9 _) w.heap.size k (fm A S k) rfl hm1 (A k) rfl hsz _ _ e1 e2 ?_)
          | (at_mapUpdate; refine wpList_store _ rfl (.tmp 28) (.tmp 31) (.tmp 34) 55 rfl 9 9 Trym.underlying9 Trym.underlying55 w.heap.size k (fm A S k) rfl hm1 (by unfold maxLen; omega) (A k) rfl hsz _ rfl ?_; intro w1 hm2 hg2))
        go_roundw
        case rel => exact ⟨k + 1, by omega, by go_num, hm2.congr (fm_new HF.out), hbo.grown hg2 hbo.size (fun j hj => by cases hj; exact Nat.le_refl _)⟩
        case measure => simp [intOf]; omega
    · obtain rfl : n = k := by omega
      go_wp2
      go_ret
      exact ⟨rfl, hm, hbr⟩
end Go.Proofs.Qxb6606007aMods.W
