import Derived.Test.Qxb6618960aModsW7
import Derived.Deep.OwnRows
namespace Go.Proofs.Qxb6618960aMods.W
open Go.ChangeShapes Go.WideShapes Go.ChangeAt Go.RowKit
open Go.Proofs.Qxb6618960aMods.T (MapIs upd upd_same upd_other mapIs_made wpList_look wpList_look_ok wpList_store wpList_next_tok tok key Rd)

/-- What a round has when its claims are all to come. -/
structure Mid (w0 wr w3 : World) (k : Nat) (l : Nat → Nat) (lk rk m : Nat) (z : Nat → Int) : Prop where
  chg : Chg wr w3 (fun b => b = w0.heap.size + 1)
  mw : MapIs Trym.prog 9 w3 (w0.heap.size + 1) (k + 1) (upd (P.fmap (fun p => ptr (l p)) k) (P.nm k) (ptr lk))
  start : In w3 w3 lk rk m 0 (fun _ => 0) (fun _ => 0) z
  lr : lk < rk
  rs : rk + 1 = w3.heap.size
  lo : wr.heap.size ≤ lk

theorem mid_made {w0 wr w1 w2 : World} {n k : Nat} {L : Nat → Nat} {X : Nat → Int} {Z : Nat → Nat → Int} {l rw : Nat → Nat} {e c : Nat → Nat → Nat} (h : St w0 wr n k L X Z l rw e c) (hb : Below wr.heap.size wr w1)
    (hm : MapIs Trym.prog 9 w2 (w0.heap.size + 1) (k + 1) (upd (P.fmap (fun p => ptr (l p)) k) (P.nm k) (ptr w1.heap.size))) (hg : (w1.alloc (rootObj w1.heap.size)).grownBy w2 (some (w0.heap.size + 1))) (m : Nat) (z : Nat → Int) :
    Mid w0 wr (w2.alloc (.cells (madeCells #[.pointer none] m) 42)) k l w1.heap.size w2.heap.size m z := by
  have hroom := h.room
  have hs1 := hb.size
  have hs2 : w1.heap.size + 1 ≤ w2.heap.size := by have := hg.size; simpa using this
  have hs3 : (w2.alloc (.cells (madeCells #[.pointer none] m) 42)).heap.size = w2.heap.size + 1 := by simp
  have hroot : w2.heap[w1.heap.size]? = some (rootObj w1.heap.size) := by
    rw [hg.block _ (by simp) (fun e => by have := Option.some.inj e; omega)]
    exact (MapKept.heap_alloc w1 _).1
  refine ⟨⟨hg.os.trans hb.os, hg.tape.trans hb.tape, hg.output.trans hb.output, by omega, fun b hb1 hb2 => ?_⟩, hm.alloc _, ⟨⟨rfl, rfl, rfl, Nat.le_refl _, fun _ _ _ => rfl⟩, linv_new ?_, row_made w2 m 42 _ _, fun i hi => by omega⟩, by omega, by omega, hs1⟩
  · rw [Below.heap_alloc _ _ _ (by omega), hg.block b (by simp; omega) (fun e => hb2 (by cases e; rfl)), Below.heap_alloc _ _ _ (by omega)]
    exact hb.block b hb1
  · rw [Below.heap_alloc _ _ _ (by omega)]; exact hroot

/-- The end of a round. -/
theorem St.close {w0 wr w3 w4 w7 : World} {n k : Nat} {L : Nat → Nat} {X : Nat → Int} {Z : Nat → Nat → Int} {l rw : Nat → Nat} {e c : Nat → Nat → Nat} {lk rk : Nat} {ek ck : Nat → Nat} (h : St w0 wr n k L X Z l rw e c) (hk : k < n) (hm : Mid w0 wr w3 k l lk rk (L k) (Z k)) (hi : In w3 w4 lk rk (L k) (L k) ek ck (Z k))
    (hp : MapIs Trym.prog 9 w7 w0.heap.size (k + 1) (upd (P.fmap (fun p => Value.int .i64 (hold L X Z p)) k) (P.nm k) (.int .i64 (hold L X Z k))))
    (hg : ((w4.setCell ⟨w0.heap.size + 3, k, none⟩ (.slice (some ⟨rk, 0, none⟩) (L k) (L k))).setCell ⟨w0.heap.size + 4, k, none⟩ (.int .i64 (hold L X Z k))).grownBy w7 (some w0.heap.size)) :
    St w0 w7 n (k + 1) L X Z (updN l k lk) (updN rw k rk) (updN e k ek) (updN c k ck) := by
  have hroom := h.room
  obtain ⟨m1, m2, m3, m4, m5, m6⟩ := hm
  have hz3 := m1.size
  have hz4 := hi.chg.size
  have c4 : Chg wr w4 (fun b => b = w0.heap.size + 1) := m1.trans hi.chg (fun _ _ hx => hx) (fun b hb hx => by rcases hx with hx | hx <;> omega)
  have gc4 := h.gc.keep (c4.block _ h.gc.lt (by omega))
  have gh4 := h.gh.keep (c4.block _ h.gh.lt (by omega))
  have hz7 : w4.heap.size ≤ w7.heap.size := by have := hg.size; simpa using this
  have b7 : ∀ b, b < w4.heap.size → b ≠ w0.heap.size → b ≠ w0.heap.size + 3 → b ≠ w0.heap.size + 4 → w7.heap[b]? = w4.heap[b]? := fun b hb h1 h2 h3 => by
    rw [hg.block b (by simpa using hb) (fun e => h1 (by cases e; rfl)), set_far h3, set_far h2]
  have c7 : Chg wr w7 (roundX w0.heap.size) := ⟨by rw [hg.os, set_os, set_os]; exact c4.os, by rw [hg.tape, set_tape, set_tape]; exact c4.tape, by rw [hg.output, set_output, set_output]; exact c4.output, by have := c4.size; omega, fun b hb hx => by
    have := c4.size
    unfold roundX at hx
    rw [b7 b (by omega) (by omega) (by omega) (by omega)]
    exact c4.block b hb (by omega)⟩
  have hltk := hi.list.lt
  refine h.step c7 hp (m2.kept ?_) ?_ ?_ (hi.list.keep fun b hb hbs => b7 b hbs (by omega) (by omega) (by omega)) (hi.row.keep (b7 _ hi.row.lt (by omega) (by omega) (by omega))) (by omega) (by omega)
  · have := m2.lt
    rw [b7 _ (by omega) (by omega) (by omega) (by omega)]
    exact hi.chg.block _ this (by omega)
  · have h1 : Row w4 (w0.heap.size + 3) n k 38 (fun p => .slice (some ⟨updN rw k rk p, 0, none⟩) (L p) (L p)) := gc4.congr fun p hp => by simp [updN_other rw _ (show p ≠ k by omega)]
    have h2 := h1.set hk (x := .slice (some ⟨rk, 0, none⟩) (L k) (L k)) (by simp [updN_same])
    refine h2.keep ?_
    rw [hg.block _ (by simpa using h1.lt) (fun e => by have := Option.some.inj e; omega), set_far (by omega)]
  · have h1 : Row (w4.setCell ⟨w0.heap.size + 3, k, none⟩ (.slice (some ⟨rk, 0, none⟩) (L k) (L k))) (w0.heap.size + 4) n k 2 (fun p => .int .i64 (hold L X Z p)) := gh4.keep (set_far (by omega))
    have h2 := h1.set hk (x := .int .i64 (hold L X Z k)) rfl
    refine h2.keep ?_
    rw [hg.block _ (by simpa using gh4.lt) (fun e => by have := Option.some.inj e; omega)]

def BuildEnd (w0 : World) (n : Nat) (L : Nat → Nat) (X : Nat → Int) (Z : Nat → Nat → Int) (r : Ending) (w' : World) : Prop :=
  ∃ l rw e c, r = .returned (.tuple #[ptr (w0.heap.size + 2), .slice (some ⟨w0.heap.size + 3, 0, none⟩) n n, .slice (some ⟨w0.heap.size + 4, 0, none⟩) n n]) ∧ St w0 w' n n L X Z l rw e c

set_option maxRecDepth 100000 in
set_option maxHeartbeats 8000000 in
theorem build_any {w : World} {ao bo : Option Addr} {n cap dap : Nat} {A : Nat → Option Addr} {L C : Nat → Nat} {Z : Nat → Nat → Int} {X : Nat → Int} (hv : SRow w ao n A L C Z) (hu : IRow w bo n X) (hpr : Prem n L X Z) (hn : n ≤ 1024) (hL : P.sumL L n ≤ 131072) :
    Calls Trym.prog 14 #[.slice ao n cap, .slice bo n dap] w fun r w' => BuildEnd w n L X Z r w' := by
  have hle := hv.le
  have hle' := hu.le
  have hmk1 := run_make_row' (P := Trym.prog) 34 38 (.slice none 0 0) 24 Trym.underlying34 info38 rfl .i64 .i64 n (by omega) (by omega)
  have hmk2 := run_make_row' (P := Trym.prog) 30 2 (.int .i64 0) 8 Trym.underlying30 info2 rfl .i64 .i64 n (by omega) (by omega)
  have HPR : Hid (Prem n L X Z) := hpr
  clear hpr
  go_enter Trym.func14, Trym.ntmps14
  go_wp2_with fail
  refine budget_any.mono ?_
  rintro r w' ⟨rfl, hw⟩
  subst w'
  go_wp2
  go_loopw [10] (fun i wr => ∃ (k : Nat) (l rw : Nat → Nat) (e c : Nat → Nat → Nat), k ≤ n ∧ i = .int .i64 k ∧ St w wr n k L X Z l rw e c) (fun i _ => n - (intOf i).toNat)
  case atStart => exact ⟨0, _, _, _, _, Nat.zero_le _, rfl, st_zero w n L X Z⟩
  case round =>
    obtain ⟨k, l, rw, e, c, hk, rfl, hst⟩ := hrel
    rename World => wo
    have HST : Hid _ := hst
    have hbl := hst.below
    clear hmk1 hmk2
    by_cases hlt : k < n
    · have hlk := (hv.row k hlt).le
      have hLk : L k ≤ 131072 := Nat.le_trans (P.sumL_one hlt) hL
      have hmk3 := run_make_row' (P := Trym.prog) 38 42 (.pointer none) 8 Trym.underlying38 info42 rfl .i64 .i64 (L k) (by omega) (by omega)
      obtain ⟨b, off, hao, c0, hb⟩ := hv.ok k hlt
      subst hao
      obtain ⟨b', off', hbo, d0, hb'⟩ := hu.ok k hlt
      subst hbo
      have hrow := hv.row k hlt
      have hroom := hst.room
      obtain ⟨_, hx0, hx1, hz⟩ := HPR.out k hlt
      have HF : Hid (P.Fine (Z k) (L k)) := hz
      have HROW : Hid _ := hrow
      clear hz hrow hv hu
      go_wp2_with fail
      refine (name_any (w := wo) (p := k) (by omega)).mono ?_
      rintro r w1 ⟨rfl, hb1⟩
      have hb01 : Below w.heap.size w w1 := hbl.trans (hb1.mono hbl.size)
      have hbud1 : w1.heap[w.heap.size + 2]? = some (budObj w.heap.size (w.heap.size + 1)) := (hb1.block _ (by omega)).trans HST.out.bud
      have hsz1 := hb1.size
      have hmw1 : MapIs Trym.prog 9 w1 (w.heap.size + 1) k (P.fmap (fun p => ptr (l p)) k) := HST.out.mw.below hb1
      have HBUD : Hid _ := hbud1
      clear hbud1
      go_wp2_with fail
      refine (wait_any (w := w1) (B := w.heap.size + 2) (bw := w.heap.size + 1) (s := P.nm k) (by omega) (cell_of HBUD.out) hmw1 (by unfold maxLen; omega) (by have := P.nm_size k; unfold maxLen; omega)).mono ?_
      rintro r w2 ⟨rfl, hm2, hg2⟩
      have hmid := mid_made HST.out hb1 hm2 hg2 (L k) (Z k)
      have hb02 : Below w.heap.size w w2 := (hb01.alloc hb01.size _).grown hg2 (by simp; omega) (fun q hq => by have := Option.some.inj hq; omega)
      have c2 := (hb02.cell (p := ⟨b, off + k, none⟩) hb).trans c0
      have d2 := (hb02.cell (p := ⟨b', off' + k, none⟩) hb').trans d0
      have hbs : b < w2.heap.size := Nat.lt_of_lt_of_le hb hb02.size
      have hbs' : b' < w2.heap.size := Nat.lt_of_lt_of_le hb' hb02.size
      have HMID : Hid _ := hmid
      have HB02 : Hid _ := hb02
      have hsz2 : w1.heap.size < w2.heap.size := hmid.lr
      clear hm2 hg2 hmid hmw1 hb02
      go_wp2
      have hb03 : Below w.heap.size w (w2.alloc (.cells (madeCells #[.pointer none] (L k)) 42)) := HB02.out.alloc HB02.out.size _
      have hs3 : (w2.alloc (.cells (madeCells #[.pointer none] (L k)) 42)).heap.size = w2.heap.size + 1 := by simp
      generalize w2.alloc (.cells (madeCells #[.pointer none] (L k)) 42) = w3 at *
      go_loopw [13, 14] (fun v i wq => ∃ (j : Nat) (ej cj : Nat → Nat), v = .int .i64 (X k + P.S (Z k) j) ∧ i = .int .i64 (j : Int) ∧ j ≤ L k ∧ In w3 wq w1.heap.size w2.heap.size (L k) j ej cj (Z k)) (fun _ i _ => L k - (intOf i).toNat)
      case atStart => exact ⟨0, _, _, by simp [P.S], rfl, Nat.zero_le _, HMID.out.start⟩
      case round =>
        obtain ⟨j, ej, cj, rfl, rfl, hj, hin⟩ := hrel
        have hbj : Below w.heap.size w wr := hb03.trans (hin.chg.below hb03.size (fun q hq => by have := hb01.size; rcases hq with rfl | rfl <;> omega))
        have c3 := (hbj.cell (p := ⟨b, off + k, none⟩) hb).trans c0
        have hsj := hin.chg.size
        by_cases hlj : j < L k
        · obtain ⟨b2, off2, ha, g0, hb2⟩ := HROW.out.ok j hlj
          rw [ha] at c3
          have g3 := (hbj.cell (p := ⟨b2, off2 + j, none⟩) hb2).trans g0
          have hblk : wr.heap[w.heap.size + 2]? = some (budObj w.heap.size (w.heap.size + 1)) := by
            have h1 : w3.heap[w.heap.size + 2]? = some (budObj w.heap.size (w.heap.size + 1)) := (HMID.out.chg.block _ (by omega) (by omega)).trans HST.out.bud
            rw [hin.chg.block _ (lt_of_block h1) (by have := hb01.size; omega)]
            exact h1
          have hmwj : MapIs Trym.prog 9 wr (w.heap.size + 1) (k + 1) (upd (P.fmap (fun p => ptr (l p)) k) (P.nm k) (ptr w1.heap.size)) :=
            HMID.out.mw.kept (hin.chg.block _ HMID.out.mw.lt (by omega))
          have HIN : Hid _ := hin
          have HBLK : Hid _ := hblk
          have HA : Hid (A k = some ⟨b2, off2, none⟩) := ha
          clear hin hblk ha
          go_wp2_with fail
          refine (pushw_any (w := wr) (B := w.heap.size + 2) (bw := w.heap.size + 1) (s := P.nm k) (z := Z k) (lt_of_block HBLK.out) (cell_of HBLK.out) hmwj (by have := P.nm_size k; unfold maxLen; omega) (upd_same _ _ _) HIN.out.list (by omega)).mono ?_
          rintro r w4 ⟨rfl, hl4, hc4, hs4⟩
          obtain ⟨hrow4, hin4⟩ := HIN.out.step hlj hsz2 (by omega) hl4 hc4
          obtain ⟨old, q0⟩ := hrow4.old hlj
          have q1 := hrow4.free (i := j)
          have hb4 : Below w.heap.size w w4 := hbj.trans (hc4.below hbj.size (fun q hq => by
            have := hb01.size
            rcases hq with rfl | ⟨i, hi, rfl⟩
            · omega
            · have := HIN.out.eb i (by omega)
              omega))
          have c4 := (hb4.cell (p := ⟨b, off + k, none⟩) hb).trans c0
          rw [HA.out] at c4
          have g4 := (hb4.cell (p := ⟨b2, off2 + j, none⟩) hb2).trans g0
          have hbn : b < w2.heap.size := by omega
          have hbn2 : b2 < w2.heap.size := by have := hb01.size; omega
          have hS := P.S_bound HF.out j hj
          have hzj := HF.out j hlj
          have HIN4 : Hid _ := hin4
          clear hl4 hc4 hrow4 hin4 hmwj
          go_wp2
          go_roundw
          case rel => exact ⟨j + 1, _, _, by simp only [P.S, Int.add_assoc], by go_num, by omega, HIN4.out⟩
          case measure => simp [intOf]; omega
        · obtain rfl : j = L k := by omega
          have hcW : ∀ q, q < wo.heap.size → q ≠ w.heap.size + 1 → wr.heap[q]? = wo.heap[q]? := fun q hq hq1 => by
            have h1 := HMID.out.chg.size
            have h2 := HMID.out.lo
            have h3 := HMID.out.lr
            rw [hin.chg.block q (by omega) (by omega)]
            exact HMID.out.chg.block q hq hq1
          have hgc := HST.out.gc.keep (hcW _ HST.out.gc.lt (by omega))
          have hgh := HST.out.gh.keep (hcW _ HST.out.gh.lt (by omega))
          obtain ⟨old1, q1⟩ := hgc.old hlt
          obtain ⟨old2, q2⟩ := hgh.old hlt
          have q1' : wr.cell? ⟨w.heap.size + 1 + 1 + 1, k, none⟩ = some old1 := q1
          have q2' : wr.cell? ⟨w.heap.size + 1 + 1 + 1 + 1, k, none⟩ = some old2 := q2
          have f1' : wr.frozen? ⟨w.heap.size + 1 + 1 + 1, k, none⟩ = false := hgc.free
          have f2' : wr.frozen? ⟨w.heap.size + 1 + 1 + 1 + 1, k, none⟩ = false := hgh.free
          have hbud : wr.heap[w.heap.size + 2]? = some (budObj w.heap.size (w.heap.size + 1)) := (hcW _ (by omega) (by omega)).trans HST.out.bud
          have hmp : MapIs Trym.prog 9 wr w.heap.size k (P.fmap (fun p => Value.int .i64 (hold L X Z p)) k) := HST.out.mp.kept (hcW _ (by omega) (by omega))
          have HBUD2 : Hid _ := hbud
          have HMP2 : Hid _ := (fun (_ : Unit) => hmp)
          have HIN : Hid _ := hin
          clear hgc hgh q1 q2 hbud hmp hin hcW
          go_wp2_with fail
          refine (set_any (B := w.heap.size + 2) (bp := w.heap.size) (n := k) (f := P.fmap (fun p => Value.int .i64 (hold L X Z p)) k) (s := P.nm k) (cell_of ((set_far (by omega)).trans ((set_far (by omega)).trans HBUD2.out))) ((HMP2.out ()).kept ((set_far (by omega)).trans (set_far (by omega)))) (by unfold maxLen; omega) (by have := P.nm_size k; unfold maxLen; omega)).mono ?_
          rintro r w7 ⟨rfl, hm7, hg7⟩
          have hst7 := HST.out.close hlt HMID.out HIN.out hm7 hg7
          have HST7 : Hid _ := hst7
          clear hst7 hm7 hg7
          go_wp2
          go_roundw
          case rel => exact ⟨k + 1, _, _, _, _, by omega, by go_num, HST7.out⟩
          case measure => simp [intOf]; omega
    · obtain rfl : n = k := by omega
      go_wp2
      go_ret3
      exact ⟨l, rw, e, c, rfl, HST.out⟩
end Go.Proofs.Qxb6618960aMods.W
