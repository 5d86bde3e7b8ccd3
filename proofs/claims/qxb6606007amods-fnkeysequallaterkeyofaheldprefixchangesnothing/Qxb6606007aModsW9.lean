import Derived.Test.Qxb6606007aModsW8
namespace Go.Proofs.Qxb6606007aMods.P
/-- The keys of a followed by those of b. -/
def cat (n : Nat) (f g : Nat → ByteArray) (i : Nat) : ByteArray := if i < n then f i else g (i - n)
theorem cat_lt {n i : Nat} {f g : Nat → ByteArray} (h : i < n) : cat n f g i = f i := by simp [cat, h]
theorem cat_add {n i : Nat} {f g : Nat → ByteArray} : cat n f g (n + i) = g i := by
  unfold cat; rw [if_neg (by omega)]; congr 1; omega

theorem first_congr {A B : Nat → ByteArray} {p : ByteArray} : ∀ {n : Nat}, (∀ i, i < n → A i = B i) → first A p n = first B p n
  | 0, _ => rfl
  | n + 1, h => by
    have ih := first_congr (p := p) (n := n) (fun i hi => h i (by omega))
    simp only [first, ih, h n (by omega)]

/-- All prefixes among the first k of E are held in A. -/
def allIn (A : Nat → ByteArray) (n : Nat) (E : Nat → ByteArray) (m : Nat) : Prop := ∀ i, i < m → (first A (E i) n).isSome = true
end Go.Proofs.Qxb6606007aMods.P

namespace Go.Proofs.Qxb6606007aMods.W
open Go.ChangeShapes Go.WideShapes Go.ChangeAt Go.RowKit

theorem fm_cat_iff {A S E F : Nat → ByteArray} {n m : Nat} : (∀ s, fm A S n s = fm (P.cat n A E) (P.cat n S F) (n + m) s) ↔ P.allIn A n E m := by
  constructor
  · intro h i hi
    have h1 : (P.first (P.cat n A E) (E i) (n + m)).isSome = true := P.first_of_mem (j := n + i) (by omega) P.cat_add
    have := h (E i)
    cases hf : P.first A (E i) n with
    | some j => rfl
    | none =>
      obtain ⟨j, hj⟩ := Option.isSome_iff_exists.1 h1
      simp [fm, hf, hj] at this
  · intro h s
    have hc : P.first (P.cat n A E) s n = P.first A s n := P.first_congr fun i hi => P.cat_lt hi
    cases hf : P.first A s n with
    | some i =>
      have := (P.first_some hf).1
      rw [hf] at hc
      simp [fm, hf, P.first_mono hc (show n ≤ n + m by omega), P.cat_lt this]
    | none =>
      cases hg : P.first (P.cat n A E) s (n + m) with
      | none => simp [fm, hf, hg]
      | some j =>
        obtain ⟨hj, hs⟩ := P.first_some hg
        by_cases hjn : j < n
        · rw [P.cat_lt hjn] at hs
          have := P.first_of_mem hjn hs
          rw [hf] at this
          cases this
        · obtain ⟨i, rfl⟩ : ∃ i, j = n + i := ⟨j - n, by omega⟩
          rw [P.cat_add] at hs
          have := h i (by omega)
          rw [hs, hf] at this
          cases this

theorem Keys.congr {w : World} {p : Nat} {sealed : ByteArray} {n : Nat} {A S A' S' : Nat → ByteArray} (h : Keys w p sealed n A S) (hA : ∀ i, i < n → A i = A' i) (hS : ∀ i, i < n → S i = S' i) : Keys w p sealed n A' S' := by
  obtain ⟨v, xs, h1, h2, h3⟩ := h
  refine ⟨v, xs, h1, h2, fun i hi => ?_⟩
  obtain ⟨pv, sv, a, b, c, d, e, f, g⟩ := h3 i hi
  exact ⟨pv, sv, a, b, c, d, e, hA i hi ▸ f, hS i hi ▸ g⟩

set_option maxRecDepth 100000 in
set_option maxHeartbeats 8000000 in
theorem law2 {w : World} {s : ByteArray} {ao bo : Option Addr} {n cap m dap : Nat} {A S E F : Nat → ByteArray} (hv : PRow w ao n A S) (hu : PRow w bo m E F) (hs : s.size ≤ 9223372036854775807) :
    Calls Trym.prog 4 #[.string s, .slice ao n cap, .slice bo m dap] w fun e w' => e = .returned (.bool true) ∧ Below w.heap.size w w' := by
  have hconv : ∀ (w : World) (s : ByteArray), (convert 9 32 (.string s)).run Trym.prog w = .ok (.slice (some ⟨w.heap.size, 0, none⟩) s.size (grownCap w s.size 0 5)) (Lib.bytesWorld w 5 s) :=
    fun w s => Lib.run_convert_string_bytes w 9 32 5 s Trym.underlying9 Trym.underlying32 Trym.underlying5
  go_enter Trym.func4, Trym.ntmps4
  go_wp2_with fail
  refine (bytes2_any hv hu hs).mono ?_
  rintro e w' ⟨⟨q1, rfl⟩, hw⟩
  subst w'
  cases q1 with
  | false =>
    go_wp2
    go_ret
    exact ⟨rfl, Below.refl _ _⟩
  | true =>
    go_wp2_with fail
    refine (fit_any hv hu hs (by decide)).mono ?_
    rintro e w1 ⟨⟨q2, rfl, hfit⟩, hb1⟩
    cases q2 with
    | false =>
      clear hfit
      go_wp2
      go_ret
      exact ⟨rfl, hb1⟩
    | true =>
      obtain ⟨hn, hm⟩ := hfit rfl
      clear hfit
      have hv1 := hv.below hb1
      have hu1 := hu.below hb1
      have HA : Hid (∀ i, i < n → (A i).size ≤ maxLen) := fun i hi => by obtain ⟨_, _, _, _, _, _, h, _⟩ := hv.ok i hi; unfold maxLen; exact h
      have HC : Hid (∀ i, i < n + m → (P.cat n A E i).size ≤ maxLen) := fun i hi => by
        by_cases h : i < n
        · rw [P.cat_lt h]; exact HA.out i h
        · obtain ⟨j, rfl⟩ : ∃ j, i = n + j := ⟨i - n, by omega⟩
          rw [P.cat_add]
          obtain ⟨_, _, _, _, _, _, h, _⟩ := hu.ok j (by omega)
          unfold maxLen; exact h
      clear hv hu
      go_wp2_with fail
      refine (clone_any hv1 hn).mono ?_
      rintro e w2 ⟨ac, cc, rfl, hvc, hb2⟩
      have hu2 := hu1.below hb2
      have hb12 := hb1.trans (hb2.mono hb1.size)
      go_wp2_with fail
      refine (clone_any hu2 hm).mono ?_
      rintro e w3 ⟨bc, dc, rfl, huc, hb3⟩
      have hvc := hvc.below hb3
      have hb13 := hb12.trans (hb3.mono hb12.size)
      clear hb1 hb2 hb3 hb12 hv1 hu1 hu2
      go_wp2_with fail
      refine (build_any hvc hn).mono ?_
      rintro e w4 ⟨rfl, hk4, hb4⟩
      have huc4 := huc.below hb4
      have hvc4 := hvc.below hb4
      have hb := hb13.trans (hb4.mono hb13.size)
      clear hb4 hb13 huc hvc
      go_wp2_with fail
      refine (build_any hvc4 hn).mono ?_
      rintro e w5 ⟨rfl, hk5, hb5⟩
      have hk5 : Keys w5 w4.heap.size s n (P.cat n A E) (P.cat n S F) := hk5.congr (fun i hi => (P.cat_lt hi).symm) (fun i hi => (P.cat_lt hi).symm)
      go_wp2
      go_loopw [9] (fun i wr => ∃ (k : Nat), k ≤ m ∧ i = .int .i64 k ∧ Keys wr w4.heap.size s (n + k) (P.cat n A E) (P.cat n S F) ∧ Below w4.heap.size w4 wr) (fun i _ => m - (intOf i).toNat)
      case atStart => exact ⟨0, Nat.zero_le _, rfl, hk5, hb5⟩
      case round =>
        clear hk5 hb5
        obtain ⟨k, hk, rfl, hkr, hbr⟩ := hrel
        by_cases hlt : k < m
        · obtain ⟨b, off, rfl, c0, c1, hbl, h1, h2⟩ := (huc4.below hbr).ok k hlt
          have b0 : (0 : Int) ≤ k := by omega
          have b1 : (k : Int) < m := by omega
          have f1 : (Lib.bytesWorld wr.drew 5 (E k)).cell? ⟨b, off + k * 2 + 1, none⟩ = some (.string (F k)) := by rw [Lib.bytesWorld_old _ _ _ _ hbl]; exact c1
          have f2 : (Lib.bytesWorld wr.drew 5 (F k)).cell? ⟨b, off + k * 2, none⟩ = some (.string (E k)) := by rw [Lib.bytesWorld_old _ _ _ _ hbl]; exact c0
          have K12 := (hkr.drew.bytes (E k)).bytes (F k)
          have K21 := (hkr.drew.bytes (F k)).bytes (E k)
          have P1 : Byt (Lib.bytesWorld (Lib.bytesWorld wr.drew 5 (E k)) 5 (F k)) (.slice (some ⟨wr.heap.size, 0, none⟩) (E k).size (grownCap wr.drew (E k).size 0 5)) (P.cat n A E (n + k)) := by rw [P.cat_add]; exact (byt_new wr.drew (E k)).bytes (F k)
          have P2 : Byt (Lib.bytesWorld (Lib.bytesWorld wr.drew 5 (E k)) 5 (F k)) (.slice (some ⟨(Lib.bytesWorld wr.drew 5 (E k)).heap.size, 0, none⟩) (F k).size (grownCap (Lib.bytesWorld wr.drew 5 (E k)) (F k).size 0 5)) (P.cat n S F (n + k)) := by rw [P.cat_add]; exact byt_new (Lib.bytesWorld wr.drew 5 (E k)) (F k)
          have Q1 : Byt (Lib.bytesWorld (Lib.bytesWorld wr.drew 5 (F k)) 5 (E k)) (.slice (some ⟨wr.heap.size, 0, none⟩) (F k).size (grownCap wr.drew (F k).size 0 5)) (P.cat n S F (n + k)) := by rw [P.cat_add]; exact (byt_new wr.drew (F k)).bytes (E k)
          have Q2 : Byt (Lib.bytesWorld (Lib.bytesWorld wr.drew 5 (F k)) 5 (E k)) (.slice (some ⟨(Lib.bytesWorld wr.drew 5 (F k)).heap.size, 0, none⟩) (E k).size (grownCap (Lib.bytesWorld wr.drew 5 (F k)) (E k).size 0 5)) (P.cat n A E (n + k)) := by rw [P.cat_add]; exact byt_new (Lib.bytesWorld wr.drew 5 (F k)) (E k)
          have B12 : Below w4.heap.size w4 (Lib.bytesWorld (Lib.bytesWorld wr.drew 5 (E k)) 5 (F k)) := (hbr.drew.trans ((below_bytes _ _ _).mono hbr.size)).trans ((below_bytes _ _ _).mono (by rw [Lib.bytesWorld_size]; exact Nat.le_succ_of_le hbr.size))
          have B21 : Below w4.heap.size w4 (Lib.bytesWorld (Lib.bytesWorld wr.drew 5 (F k)) 5 (E k)) := (hbr.drew.trans ((below_bytes _ _ _).mono hbr.size)).trans ((below_bytes _ _ _).mono (by rw [Lib.bytesWorld_size]; exact Nat.le_succ_of_le hbr.size))
          go_wp2
          go_region_with (first
            | (go_at_call_of 14 (grownCap wr.drew (E k).size 0 5); refine (add_any K12 (by omega) P1 P2).mono ?_; rintro e w' ⟨rfl, hk1, hb1⟩)
            | (go_at_call_of 14 (grownCap wr.drew (F k).size 0 5); refine (add_any K21 (by omega) Q2 Q1).mono ?_; rintro e w' ⟨rfl, hk1, hb1⟩))
          all_goals
            go_wp2
            go_roundw
            case rel => exact ⟨k + 1, by omega, by go_num, by assumption, by first | exact B12.trans (by assumption) | exact B21.trans (by assumption)⟩
            case measure => simp [intOf]; omega
        · obtain rfl : m = k := by omega
          have hvr := hvc4.below hbr
          have hur := huc4.below hbr
          clear huc4 hvc4
          have hiff := @fm_cat_iff A S E F n m
          go_wp2
          go_loop [10, 11] (fun t i => ∃ (k : Nat), k ≤ m ∧ i = .int .i64 k ∧ t = .bool true ∧ P.allIn A n E k) (fun _ i => m - (intOf i).toNat)
          case atStart => exact ⟨0, Nat.zero_le _, rfl, rfl, fun i hi => by omega⟩
          case round =>
            obtain ⟨k, hk, rfl, rfl, hall⟩ := hrel
            have HALL : Hid (P.allIn A n E k) := hall
            have HIFF : Hid ((∀ u, fm A S n u = fm (P.cat n A E) (P.cat n S F) (n + m) u) ↔ P.allIn A n E m) := hiff
            clear hall hiff
            by_cases hlt : k < m
            · obtain ⟨b, off, rfl, c0, c1, hbl, h1, h2⟩ := hur.ok k hlt
              go_wp2_with fail
              refine (first_any hvr).mono ?_
              rintro e w' ⟨rfl, hw⟩
              subst w'
              cases hf : (P.first A (E k) n).isSome with
              | true =>
                have HF : Hid ((P.first A (E k) n).isSome = true) := hf
                generalize P.sec A S (E k) n = y at *
                clear hf
                go_wp2
                go_round
                case rel => exact ⟨k + 1, by omega, by go_num, rfl, fun i hi => if h : i = k then h ▸ HF.out else HALL.out i (by omega)⟩
                case measure => simp [intOf]; omega
              | false =>
                have EQ1 : Hid (¬ ∀ u, fm A S n u = fm (P.cat n A E) (P.cat n S F) (n + m) u) := fun h => by
                  have := HIFF.out.1 h k hlt
                  rw [hf] at this
                  cases this
                have EQ2 : Hid (¬ ∀ u, fm (P.cat n A E) (P.cat n S F) (n + m) u = fm A S n u) := fun h => EQ1.out fun u => (h u).symm
                generalize P.sec A S (E k) n = y at *
                clear hf
                have hkk := hk4.below hbr
                have hb5 := hb.trans (hbr.mono hb.size)
                clear hbr hk4 hb
                go_wp2_with fail
                refine (equal_any hkk hkr (by omega) (by omega) HA.out HC.out).mono ?_
                rintro e w6 ⟨⟨r, rfl, hr⟩, hb6⟩
                have hr' : r = false := by cases r with | false => rfl | true => exact absurd (hr.1 rfl).2 EQ1.out
                subst hr'
                clear hr
                have hkk := hkk.below hb6
                have hkr := hkr.below hb6
                have hb5 := hb5.trans (hb6.mono hb5.size)
                clear hb6
                go_wp2_with fail
                refine (equal_any hkr hkk (by omega) (by omega) HC.out HA.out).mono ?_
                rintro e w7 ⟨⟨r, rfl, hr⟩, hb6⟩
                have hr' : r = false := by cases r with | false => rfl | true => exact absurd (hr.1 rfl).2 EQ2.out
                subst hr'
                clear hr
                have hkk := hkk.below hb6
                have hkr := hkr.below hb6
                have hb5 := hb5.trans (hb6.mono hb5.size)
                clear hb6
                go_wp2_with fail
                refine (equal_any hkk hkk (by omega) (by omega) HA.out HA.out).mono ?_
                rintro e w8 ⟨⟨r, rfl, hr⟩, hb6⟩
                have hr' : r = true := hr.2 ⟨rfl, fun _ => rfl⟩
                subst hr'
                clear hr
                have hkr := hkr.below hb6
                have hb5 := hb5.trans (hb6.mono hb5.size)
                clear hb6
                go_wp2_with fail
                refine (equal_any hkr hkr (by omega) (by omega) HC.out HC.out).mono ?_
                rintro e w9 ⟨⟨r, rfl, hr⟩, hb6⟩
                have hr' : r = true := hr.2 ⟨rfl, fun _ => rfl⟩
                subst hr'
                clear hr
                have hb5 := hb5.trans (hb6.mono hb5.size)
                clear hb6
                go_wp2
                go_ret
                exact ⟨rfl, hb5⟩
            · obtain rfl : m = k := by omega
              have EQ1 : Hid (∀ u, fm A S n u = fm (P.cat n A E) (P.cat n S F) (n + m) u) := HIFF.out.2 HALL.out
              have EQ2 : Hid (∀ u, fm (P.cat n A E) (P.cat n S F) (n + m) u = fm A S n u) := fun u => (EQ1.out u).symm
              have hkk := hk4.below hbr
              have hb5 := hb.trans (hbr.mono hb.size)
              clear hbr hk4 hb
              go_wp2_with fail
              refine (equal_any hkk hkr (by omega) (by omega) HA.out HC.out).mono ?_
              rintro e w6 ⟨⟨r, rfl, hr⟩, hb6⟩
              have hr' : r = true := hr.2 ⟨rfl, EQ1.out⟩
              subst hr'
              clear hr
              have hkk := hkk.below hb6
              have hkr := hkr.below hb6
              have hb5 := hb5.trans (hb6.mono hb5.size)
              clear hb6
              go_wp2_with fail
              refine (equal_any hkr hkk (by omega) (by omega) HC.out HA.out).mono ?_
              rintro e w7 ⟨⟨r, rfl, hr⟩, hb6⟩
              have hr' : r = true := hr.2 ⟨rfl, EQ2.out⟩
              subst hr'
              clear hr
              have hkk := hkk.below hb6
              have hkr := hkr.below hb6
              have hb5 := hb5.trans (hb6.mono hb5.size)
              clear hb6
              go_wp2_with fail
              refine (equal_any hkk hkk (by omega) (by omega) HA.out HA.out).mono ?_
              rintro e w8 ⟨⟨r, rfl, hr⟩, hb6⟩
              have hr' : r = true := hr.2 ⟨rfl, fun _ => rfl⟩
              subst hr'
              clear hr
              have hkr := hkr.below hb6
              have hb5 := hb5.trans (hb6.mono hb5.size)
              clear hb6
              go_wp2_with fail
              refine (equal_any hkr hkr (by omega) (by omega) HC.out HC.out).mono ?_
              rintro e w9 ⟨⟨r, rfl, hr⟩, hb6⟩
              have hr' : r = true := hr.2 ⟨rfl, fun _ => rfl⟩
              subst hr'
              clear hr
              have hb5 := hb5.trans (hb6.mono hb5.size)
              clear hb6
              go_wp2
              go_ret
              exact ⟨rfl, hb5⟩
end Go.Proofs.Qxb6606007aMods.W
