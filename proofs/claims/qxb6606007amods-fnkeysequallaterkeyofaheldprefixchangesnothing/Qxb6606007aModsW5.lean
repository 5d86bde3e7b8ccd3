import Derived.Test.Qxb6606007aModsW4
namespace Go.Proofs.Qxb6606007aMods.W
open Go.ChangeShapes Go.WideShapes Go.ChangeAt Go.RowKit

theorem below_bytes (w : World) (e : TypeId) (s : ByteArray) : Below w.heap.size w (Lib.bytesWorld w e s) :=
  ⟨rfl, rfl, rfl, by rw [Lib.bytesWorld_size]; omega, fun k hk => Lib.bytesWorld_at_old w e s k hk⟩

theorem Keys.bytes {w : World} {p : Nat} {sealed : ByteArray} {n : Nat} {A S : Nat → ByteArray} (h : Keys w p sealed n A S) (s : ByteArray) : Keys (Lib.bytesWorld w 5 s) p sealed n A S := h.below (below_bytes w 5 s)
theorem Keys.drew {w : World} {p : Nat} {sealed : ByteArray} {n : Nat} {A S : Nat → ByteArray} (h : Keys w p sealed n A S) : Keys w.drew p sealed n A S := h.below (Below.refl _ _).drew
theorem Byt.bytes {w : World} {v : Value} {t : ByteArray} (h : Byt w v t) (s : ByteArray) : Byt (Lib.bytesWorld w 5 s) v t := h.below (below_bytes w 5 s)
theorem byt_new (w : World) (s : ByteArray) : Byt (Lib.bytesWorld w 5 s) (.slice (some ⟨w.heap.size, 0, none⟩) s.size (grownCap w s.size 0 5)) s := by
  refine ⟨w.heap.size, _, _, _, rfl, Lib.bytesWorld_at_new w 5 s, fun j hj => ?_⟩
  have := Lib.bytesWorld_cell w 5 s j hj
  simpa [World.cell?, Lib.bytesWorld_at_new] using this

set_option maxHeartbeats 1000000 in
theorem build_any {w : World} {s : ByteArray} {ao : Option Addr} {len cap : Nat} {A S : Nat → ByteArray} (hv : PRow w ao len A S) (hl : len ≤ 4096) :
    Calls Trym.prog 10 #[.bool false, .string s, .slice ao len cap] w fun e w' => e = .returned (.pointer (some ⟨w.heap.size, 0, none⟩)) ∧ Keys w' w.heap.size s len A S ∧ Below w.heap.size w w' := by
  have hconv : ∀ (w : World) (s : ByteArray), (convert 9 32 (.string s)).run Trym.prog w = .ok (.slice (some ⟨w.heap.size, 0, none⟩) s.size (grownCap w s.size 0 5)) (Lib.bytesWorld w 5 s) :=
    fun w s => Lib.run_convert_string_bytes w 9 32 5 s Trym.underlying9 Trym.underlying32 Trym.underlying5
  go_enter Trym.func10, Trym.ntmps10
  go_wp2_with (go_at_call 25; refine newKeys_any.mono ?_; rintro e w' ⟨rfl, hw⟩; subst w')
  go_loopw [8] (fun i wr => ∃ (k : Nat), k ≤ len ∧ i = .int .i64 k ∧ Keys wr w.heap.size s k A S ∧ Below w.heap.size w wr) (fun i _ => len - (intOf i).toNat)
  case atStart => exact ⟨0, Nat.zero_le _, rfl, keys_new w s A S, (Below.refl _ _).alloc (Nat.le_refl _) _⟩
  case round =>
    obtain ⟨k, hk, rfl, hkr, hbr⟩ := hrel
    by_cases hlt : k < len
    · obtain ⟨b, off, rfl, c0, c1, hb, h1, h2⟩ := (hv.below hbr).ok k hlt
      have b0 : (0 : Int) ≤ k := by omega
      have b1 : (k : Int) < len := by omega
      have f1 : (Lib.bytesWorld wr.drew 5 (A k)).cell? ⟨b, off + k * 2 + 1, none⟩ = some (.string (S k)) := by rw [Lib.bytesWorld_old _ _ _ _ hb]; exact c1
      have f2 : (Lib.bytesWorld wr.drew 5 (S k)).cell? ⟨b, off + k * 2, none⟩ = some (.string (A k)) := by rw [Lib.bytesWorld_old _ _ _ _ hb]; exact c0
      have K12 := (hkr.drew.bytes (A k)).bytes (S k)
      have K21 := (hkr.drew.bytes (S k)).bytes (A k)
      have P1 : Byt (Lib.bytesWorld (Lib.bytesWorld wr.drew 5 (A k)) 5 (S k)) (.slice (some ⟨wr.heap.size, 0, none⟩) (A k).size (grownCap wr.drew (A k).size 0 5)) (A k) := (byt_new wr.drew (A k)).bytes (S k)
      have P2 := byt_new (Lib.bytesWorld wr.drew 5 (A k)) (S k)
      have Q1 : Byt (Lib.bytesWorld (Lib.bytesWorld wr.drew 5 (S k)) 5 (A k)) (.slice (some ⟨wr.heap.size, 0, none⟩) (S k).size (grownCap wr.drew (S k).size 0 5)) (S k) := (byt_new wr.drew (S k)).bytes (A k)
      have Q2 := byt_new (Lib.bytesWorld wr.drew 5 (S k)) (A k)
      have B12 : Below w.heap.size w (Lib.bytesWorld (Lib.bytesWorld wr.drew 5 (A k)) 5 (S k)) := (hbr.drew.trans ((below_bytes _ _ _).mono hbr.size)).trans ((below_bytes _ _ _).mono (by rw [Lib.bytesWorld_size]; exact Nat.le_succ_of_le hbr.size))
      have B21 : Below w.heap.size w (Lib.bytesWorld (Lib.bytesWorld wr.drew 5 (S k)) 5 (A k)) := (hbr.drew.trans ((below_bytes _ _ _).mono hbr.size)).trans ((below_bytes _ _ _).mono (by rw [Lib.bytesWorld_size]; exact Nat.le_succ_of_le hbr.size))
      go_wp2
      go_region_with (first
        | (go_at_call_of 14 (grownCap wr.drew (A k).size 0 5); refine (add_any K12 (by omega) P1 P2).mono ?_; rintro e w' ⟨rfl, hk1, hb1⟩)
        | (go_at_call_of 14 (grownCap wr.drew (S k).size 0 5); refine (add_any K21 (by omega) Q2 Q1).mono ?_; rintro e w' ⟨rfl, hk1, hb1⟩))
      all_goals
        go_wp2
        go_roundw
        case rel => exact ⟨k + 1, by omega, by go_num, by assumption, by first | exact B12.trans (by assumption) | exact B21.trans (by assumption)⟩
        case measure => simp [intOf]; omega
    · obtain rfl : len = k := by omega
      go_wp2
      go_ret
      exact ⟨rfl, hkr, hbr⟩

theorem build_nil {w : World} {s : ByteArray} {ao : Option Addr} {len cap : Nat} :
    Calls Trym.prog 10 #[.bool true, .string s, .slice ao len cap] w fun e w' => e = .returned (.pointer none) ∧ w' = w := by
  go_enter Trym.func10, Trym.ntmps10
  go_wp2
  go_ret
  exact ⟨rfl, rfl⟩
end Go.Proofs.Qxb6606007aMods.W
