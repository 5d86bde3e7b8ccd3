import Derived.Test.Qxb6618960aModsW10
namespace Go.Proofs.Qxb6618960aMods.W
open Go.ChangeShapes Go.WideShapes Go.ChangeAt Go.RowKit
open Go.Proofs.Qxb6618960aMods.T (MapIs upd upd_same upd_other mapIs_made wpList_look wpList_look_ok wpList_store wpList_next_tok tok key Rd)

theorem hid {p : Prop} (h : p) : Hid p := h

theorem assert42 (v : Value) (w : World) : (Instr.typeAssert (.iface 42 v) 20 42 false).run Trym.prog w = .ok v w := by
  simp [Instr.typeAssert, run_underlying Trym.underlying42, Result.andThen]

theorem grown_of_below {w w' : World} (h : Below w.heap.size w w') : w.grownBy w' none := ⟨h.os, h.tape, h.output, h.size, fun k hk _ => h.block k hk⟩

theorem cur_bound {n : Nat} {L : Nat → Nat} {X : Nat → Int} {Z : Nat → Nat → Int} (h : Pm n L X Z) {pk : Nat → Nat} {m p : Nat} (hp : p < n) : 0 ≤ P.cur X Z (P.tauAt L pk m) p ∧ P.cur X Z (P.tauAt L pk m) p ≤ 1099511627776 * 131073 := by
  obtain ⟨_, h0, h1, hf⟩ := h.pr p hp
  have hl := h.len hp
  have ht := P.tauAt_le (L := L) (pk := pk) m p
  have := P.S_bound hf _ ht
  unfold P.cur
  omega

theorem fmap_elp (e : Nat → Nat → Nat) (τ : Nat → Nat) (n : Nat) : ∀ s v, P.fmap (fun p => elp (e p) (τ p)) n s = some v → ∃ a, v = Value.pointer a := by
  intro s v h
  obtain ⟨k, _, _, hv⟩ := P.fmap_some h
  subst hv
  unfold elp
  split
  · exact ⟨_, rfl⟩
  · exact ⟨_, rfl⟩

set_option maxRecDepth 100000 in
set_option maxHeartbeats 8000000 in
theorem yielding_any {w : World} {B bp bw n : Nat} {L : Nat → Nat} {X : Nat → Int} {Z : Nat → Nat → Int} {l : Nat → Nat} {e c : Nat → Nat → Nat} {mine short : Int} (h : Ok w B bp bw n L X Z l e c) (hp : Pm n L X Z) (hs0 : -9223372036854775808 ≤ short) (hs1 : short ≤ 9223372036854775807) :
    Calls Trym.prog 28 #[ptr B, .int .i64 mine, .int .i64 short] w fun r w' => YEnd n L X Z c mine short r w' ∧ Below w.heap.size w w' := by
  have hmm := @run_makeMap Trym.prog
  have hn := hp.n1
  have HP : Hid (Pm n L X Z) := hp
  have HO : Hid (Ok w B bp bw n L X Z l e c) := h
  have hB := lt_of_block h.bud
  have hbwl := h.mw.lt
  have hbpl := h.mp.lt
  have c7 : w.cell? ⟨B, 7, none⟩ = some (.map (some bw)) := cell_of h.bud
  have hmw2 := ((h.mw.alloc (.map #[] 0)).alloc (.map #[] 0))
  obtain ⟨D, ho, hrd⟩ := hmw2
  have hsd := ho.size_le
  clear h hp
  go_enter Trym.func28, Trym.ntmps28
  have s2 : ((w.alloc (.map #[] 0)).alloc (.map #[] 0)).heap.size = w.heap.size + 2 := by simp
  go_wp2_with (at_range; refine wpList_range_own _ rfl (.tmp 23) 79 rfl 9 89 (Maps.string_keyed Trym.underlying9) Trym.underlying79 tok bw n D rfl ho ?_; intro w3 hrg0 hg0 hs0; rw [s2] at hrg0 ⊢)
  go_frame
  have hb3 : Below w.heap.size w w3 := (((Below.refl _ w).alloc (Nat.le_refl _) (.map #[] 0)).alloc (by simp) (.map #[] 0)).grown hg0 (by simp; omega) (fun q hq => by cases hq)
  have hone : One w w3 bw n D L X Z e (Maps.has D) (Maps.size D) 0 := by
    have m1 := mapIs_made w Trym.prog 9
    have m2 := mapIs_made (w.alloc (.map #[] 0)) Trym.prog 9
    have s1 : (w.alloc (.map #[] 0)).heap.size = w.heap.size + 1 := by simp
    rw [s1] at m2
    have hnone : ∀ (v : Nat → Value) (s : ByteArray), (none : Option Value) = fh (Maps.has D) v n s := fun v s => by
      unfold fh
      cases hh : Maps.has D (key s) with
      | true => simp
      | false =>
        rw [hrd.has] at hh
        simp
        unfold P.fmap at hh ⊢
        cases hw : P.who s n with
        | none => rfl
        | some k => rw [hw] at hh; simp at hh
    refine ⟨hrg0, ?_, ?_, by omega, hb3⟩
    · exact ((m1.alloc _).kept (hg0.block _ (by rw [s2]; omega) (by simp))).congr (hnone _)
    · exact (m2.kept (hg0.block _ (by rw [s2]; omega) (by simp))).congr (hnone _)
  have H1 := hid (hone)
  clear hone hrg0 hg0 hs0 hb3 hmm s2
  go_loopw [10] (fun _ wr => ∃ (left : Lit → Bool) (cnt k : Nat), One w wr bw n D L X Z e left cnt k)
        (fun _ wr => wr.rangeLeft bw (w.heap.size + 2))
  case atStart => exact ⟨_, _, _, H1.out⟩
  case round =>
    obtain ⟨left, cnt, k, hone⟩ := hrel
    clear H1
    have hrg := hone.rg
    go_wp2_with (at_next; refine wpList_next_tok _ rfl (.tmp 24) rfl 9 Trym.underlying9 bw (w.heap.size + 2) n D (P.fmap (fun p => ptr (l p)) n) left cnt rfl hrg hrd ptr (fmap_ptr l n) ?_ ?_)
    · intro hl
      have hY0 : Y w wr n L X Z e c mine short 0 (fun _ => 0) (.slice none 0 0) [] := y_zero hone.below (by have := hone.le; omega) (hone.mh.congr (fh_done hl)) (hone.mn.congr (fh_done hl))
      have HY0 := hid (hY0)
      clear hY0 hone hrg hl ho hrd hsd
      rename World => wz
      go_wp2
      go_loopw [2, 12] (fun s v wr => ∃ (m : Nat) (pk : Nat → Nat) (xs : List Value), s = .int .i64 (short - P.tk L Z pk m) ∧ Y w wr n L X Z e c mine short m pk v xs) (fun _ v _ => 131073 - lenV v)
      case atStart => exact ⟨0, _, _, by simp [P.tk], HY0.out⟩
      case round =>
        obtain ⟨m, pk, xs, rfl, hY⟩ := hrel
        have HY := hid (hY)
        have hcount := P.count m hY.valid
        have hsu := HP.out.su
        have htk0 := tk_nonneg HP.out.fines m hY.valid
        have htk1 := P.total m hY.valid
        by_cases hs : P.tk L Z pk m < short
        · rename World => wm
          obtain ⟨D2, ho2, hrd2⟩ := hY.mn
          have hroom := hY.room
          go_wp2_with (at_range; refine wpList_range_own _ rfl (.tmp 46) 96 rfl 9 92 (Maps.string_keyed Trym.underlying9) Trym.underlying96 tok (w.heap.size + 1) (n + m) D2 rfl ho2 ?_; intro w5 hrg5 hg5 hs5)
          go_frame
          have hb5 : Below wm.heap.size wm w5 := (Below.refl _ _).grown hg5 (Nat.le_refl _) (fun q hq => by cases hq)
          have hsel0 : Sel mine X Z n (P.tauAt L pk m) (Maps.has D2) (.string ⟨#[]⟩) (.bool false) := Or.inl ⟨rfl, fun p hp hl => by
            rw [hrd2.has, P.fmap_at hn hp] at hl
            cases hl⟩
          have HS0 := hid (hsel0)
          clear hsel0 hg5 hs5 hY
          go_loopw [13, 14] (fun a b wq => ∃ (left : Lit → Bool) (cnt : Nat), wq.ranges Trym.prog 9 tok (w.heap.size + 1) wm.heap.size (n + m) D2 left cnt ∧ Below wm.heap.size wm wq ∧ Sel mine X Z n (P.tauAt L pk m) left a b) (fun _ _ wq => wq.rangeLeft (w.heap.size + 1) wm.heap.size)
          case atStart => exact ⟨_, _, hrg5, hb5, HS0.out⟩
          case round =>
            obtain ⟨left2, cnt2, hrg, hbq, hsel⟩ := hrel
            clear hrg5 hb5 HS0
            have HSEL := hid (hsel)
            clear hsel
            go_wp2_with (at_next; refine wpList_next_tok _ rfl (.tmp 47) rfl 9 Trym.underlying9 (w.heap.size + 1) wm.heap.size (n + m) D2 (P.fmap (fun p => elp (e p) (P.tauAt L pk m p)) n) left2 cnt2 rfl hrg hrd2 Value.pointer (fmap_elp e _ n) ?_ ?_)
            · intro hl
              rename World => wq
              have hbw : Below w.heap.size w wq := HY.out.below.trans (hbq.mono HY.out.below.size)
              rcases HSEL.out with ⟨rfl, h2⟩ | ⟨p, hpn, rfl, rfl, hel, h5⟩
              · have hg := P.G_none n (fun p hp => h2 p hp (hl _))
                have HE : Hid (YEnd n L X Z c mine short (.returned (.tuple #[.slice none 0 0, .bool false])) wq) := Or.inl ⟨rfl, by omega, by omega⟩
                clear h2 hg hl HSEL
                go_wp2
                go_ret2
                exact ⟨HE.out, hbw⟩
              · have hbest : P.Best mine X Z n (P.tauAt L pk m) p := ⟨hpn, hel, fun q hq he => h5 q hq (hl _) he⟩
                have HBEST := hid hbest
                obtain ⟨t, ht⟩ : ∃ t, P.tauAt L pk m p = t + 1 := ⟨P.tauAt L pk m p - 1, by have := hel.1; omega⟩
                have htl : t < L p := by have := P.tauAt_le (L := L) (pk := pk) m p; omega
                have hlist := (HO.out.below hbw).lists p hpn
                have hcb := cur_bound HP.out (pk := pk) (m := m) hpn
                have hzb := HP.out.fines p hpn t htl
                have hss : (P.nm p).size ≤ maxLen := by have := P.nm_size p; unfold maxLen; omega
                have mnq := HY.out.mn.below hbq
                have mhq := HY.out.mh.below hbq
                have hN : (Instr.lookup 96 (.map (some (w.heap.size + 1))) (.string (P.nm p)) false).run Trym.prog wq = .ok (ptr (e p t)) wq := by
                  have := mnq.look (t := 96) Trym.underlying9 Trym.underlying96 (zero92 wq) hss
                  rw [P.fmap_at hn hpn] at this
                  simp only [ht, elp_succ] at this
                  exact this
                obtain ⟨nx, he, _⟩ := hlist.elem t htl
                have ce : wq.cell? ⟨e p t, 3, none⟩ = some (.iface 42 (ptr (c p t))) := cell_of he
                obtain ⟨cs, hcl, hcz⟩ := hlist.size t htl
                have hmax : n + m < maxLen := by unfold maxLen; omega
                obtain ⟨w5, hU, mn5, hg5⟩ := mnq.store (t := 96) Trym.underlying9 Trym.underlying96 hmax hss (elp (e p) t)
                have hwq := hbw.size
                have hz5 := hg5.size
                have mh5 := mhq.kept (hg5.block _ mhq.lt (fun e => by have := Option.some.inj e; omega))
                have hL5 : (Instr.lookup 78 (.map (some w.heap.size)) (.string (P.nm p)) false).run Trym.prog w5.drew = .ok (.int .i64 (P.cur X Z (P.tauAt L pk m) p)) w5.drew := by
                  have := mh5.drew.look (t := 78) Trym.underlying9 Trym.underlying78 (zero2 w5.drew) hss
                  rw [P.fmap_at hn hpn] at this
                  exact this
                obtain ⟨w6, hU2, mh6, hg6⟩ := mh5.drew.store (t := 78) Trym.underlying9 Trym.underlying78 hmax hss (.int .i64 (P.cur X Z (P.tauAt L pk m) p - Z p t))
                have hz6 : w5.heap.size ≤ w6.heap.size := hg6.size
                have hclo : w.heap.size + 1 ≠ c p t ∧ w.heap.size ≠ c p t := by
                  have := (HO.out.lists p hpn).clt htl
                  omega
                have hcl5 := (hg5.block _ (lt_of_block hcl) (fun e => by have := Option.some.inj e; omega)).trans hcl
                have hcl6 := (hg6.block _ (lt_of_block (w := w5) hcl5) (fun e => by have := Option.some.inj e; omega)).trans hcl5
                have c5 : w5.cell? ⟨c p t, 2, none⟩ = some (.int .i64 (Z p t)) := (cell_of hcl5).trans hcz
                have c6 : w6.cell? ⟨c p t, 2, none⟩ = some (.int .i64 (Z p t)) := (cell_of hcl6).trans hcz
                have mn6 := mn5.kept (w' := w6) (hg6.block _ mn5.lt (fun e => by have := Option.some.inj e; omega))
                have hb6 : Below w.heap.size w w6 := ((hbw.grown hg5 hbw.size (fun q hq => by have := Option.some.inj hq; omega)).drew).grown hg6 (by show _ ≤ w5.heap.size; omega) (fun q hq => by have := Option.some.inj hq; omega)
                have hown := HY.out.own
                have hlow := hown.lt
                have hown6 : w6.ownsRow (w.heap.size + 2) 42 1 u12 m xs := by
                  refine (((hown.kept (grown_of_below hbq) ?_).kept hg5 ?_).drew).kept hg6 ?_
                  · cases hv : u12.ownBlock with
                    | none => exact Or.inl rfl
                    | some b => exact Or.inr (by simp)
                  · refine Or.inr (fun e => ?_)
                    have := (hlow _ e).1
                    omega
                  · refine Or.inr (fun e => ?_)
                    have := (hlow _ e).1
                    omega
                have HLIST := hid hlist
                have HMH6 := hid mh6
                have HMN6 := hid mn6
                have HB6 := hid hb6
                have HG5 := hid hg5
                have HG6 := hid hg6
                have HHT := hid ht
                have HLOW := hid hlow
                clear hlist mh6 mn6 mh5 mn5 mhq mnq hb6 hg5 hg6 hown hcl hcl5 hcl6 hcz he hl h5 hel hbest ht hlow HSEL hrg
                have hta := assert42
                go_wp2_with fail
                refine (prev_any HLIST.out htl).mono ?_
                rintro r w' ⟨rfl, hw⟩
                subst w'
                go_wp2
                go_region
                obtain ⟨i0, hi, hz0, hz1, hz2⟩ := info_parts info42
                have hone1 : ∀ u ∈ [ptr (c p t)], u.oneCell' = true := by
                  intro u hu
                  simp at hu
                  subst hu
                  rfl
                have hb6s := HB6.out.size
                have hr6 : w.heap.size + 2 ≤ w6.heap.size := by have := hbq.size; omega
                go_wp2_with (at_builtin; refine wpList_append_lies _ rfl (.tmp 105) (.tmp 107) 38 rfl (w.heap.size + 2) 42 i0 _ 1 8 Trym.underlying38 hi hz0 hz1 hz2 rfl (by omega) u12 m xs rfl (hown6.alloc _) ⟨w6.heap.size, 0, none⟩ 1 1 [ptr (c p t)] rfl rfl (World.news_of_block (heap_alloc_new w6 _)) hone1 (by omega) (by unfold maxLen; omega) (by omega) (by simp; omega) (w6.heap.size + 1) (by simp) ?_; intro g cap w7 hown7 hgrow7 hat7 hgl7)
                have hblk : ∀ b, b < w6.heap.size → b < w.heap.size + 2 → w7.heap[b]? = w6.heap[b]? := fun b hb hb2 => by
                  rw [hgrow7.block b (by simp; omega) (fun e => by have := (HLOW.out b e.symm).1; omega)]
                  exact Below.heap_alloc _ _ _ hb
                have hb7 : Below w.heap.size w w7 := ((HB6.out).alloc hb6s _).grown hgrow7 (by simp; omega) (fun q hq => by have := (HLOW.out q hq).1; omega)
                have hY7 := HY.out.step hn HHT.out HBEST.out hs hb7 (HMH6.out.kept (hblk _ (by omega) (by omega))) (HMN6.out.kept (hblk _ (by omega) (by omega))) hown7
                have HY7 := hid hY7
                have hlen := HY.out.len
                have htk : P.tk L Z (P.updN pk m p) (m + 1) = P.tk L Z pk m + Z p t := by rw [P.push_tk, HHT.out]; rfl
                have HTK := hid htk
                clear htk hY7 hown7 hgrow7 hblk hb7 hgl7 hat7
                go_wp2
                go_roundw
                case rel => exact ⟨m + 1, P.updN pk m p, _, by rw [HTK.out]; congr 1; omega, HY7.out⟩
                case measure => rw [hlen]; show 131073 - (m + 1) < _; omega
            · intro s a w6 cnt6 hss hls hfs hrg6 hlt6 hg6 hs6 hen6
              obtain ⟨p, hpn, rfl, ha⟩ := P.fmap_some hfs
              have hb6 : Below wm.heap.size wm w6 := hbq.grown hg6 hbq.size (fun q hq => by have := Option.some.inj hq; omega)
              have hlk : ∀ q, q < n → (Instr.lookup 78 (.map (some w.heap.size)) (.string (P.nm q)) false).run Trym.prog w6 = .ok (.int .i64 (P.cur X Z (P.tauAt L pk m) q)) w6 := fun q hq => by
                have := (HY.out.mh.below hb6).look (t := 78) Trym.underlying9 Trym.underlying78 (zero2 w6) (s := P.nm q) (by have := P.nm_size q; unfold maxLen; omega)
                rw [P.fmap_at hn hq] at this
                exact this
              have hlkp := hlk p hpn
              have hmea : w6.rangeLeft (w.heap.size + 1) wm.heap.size < wr.rangeLeft (w.heap.size + 1) wm.heap.size := by rw [hrg6.left_eq, hrg.left_eq]; exact hlt6
              have HM := hid (hmea)
              have HR := hid (hrg6)
              have HLK := hid (hlk)
              have hor : ∀ q, q < n → (left2 (key (P.nm q)) && !(key (P.nm q)).sameKey (key (P.nm p))) = false → q = p ∨ left2 (key (P.nm q)) = false := fun q hq h => left_or hn hpn hq h
              have HOR := hid (hor)
              clear hmea hrg6 hls hfs hlk hor
              cases ht : P.tauAt L pk m p with
              | zero =>
                rw [ht, elp_zero] at ha
                obtain rfl : a = none := by simpa using ha
                have hno : ¬ P.Elig mine X Z (P.tauAt L pk m) p := fun h => by have := h.1; omega
                have hsel' : ∀ a b, Sel mine X Z n (P.tauAt L pk m) left2 a b → Sel mine X Z n (P.tauAt L pk m) (fun z => left2 z && !z.sameKey (key (P.nm p))) a b := fun a b hs => by
                  rcases hs with ⟨h1, h2⟩ | ⟨p0, h1, h2, h3, h4, h5⟩
                  · exact Or.inl ⟨h1, fun q hq hl => by
                      rcases HOR.out q hq hl with rfl | h
                      · exact hno
                      · exact h2 q hq h⟩
                  · exact Or.inr ⟨p0, h1, h2, h3, h4, fun q hq hl he => by
                      rcases HOR.out q hq hl with rfl | h
                      · exact absurd he hno
                      · exact h5 q hq h he⟩
                have HSEL' := hsel' _ _ HSEL.out
                have HSS := hid (HSEL')
                clear hsel' HSEL' hno ht ha
                go_wp2
                go_roundw
                case rel => exact ⟨_, _, HR.out, hb6, HSS.out⟩
                case measure => exact HM.out
              | succ t =>
                rw [ht, elp_succ] at ha
                obtain rfl : a = some ⟨e p t, 0, none⟩ := by simpa using ha
                by_cases hc : mine < P.cur X Z (P.tauAt L pk m) p
                · have hel : P.Elig mine X Z (P.tauAt L pk m) p := ⟨by omega, hc⟩
                  have HEL := hid hel
                  clear hel ht ha
                  rcases HSEL.out with ⟨rfl, h2⟩ | ⟨p0, h1, rfl, rfl, h4, h5⟩
                  · have HSS : Hid (Sel mine X Z n (P.tauAt L pk m) (fun z => left2 z && !z.sameKey (key (P.nm p))) (.string (P.nm p)) (.bool true)) := Or.inr ⟨p, hpn, rfl, rfl, HEL.out, fun q hq hl he => by
                      rcases HOR.out q hq hl with rfl | h
                      · exact Int.le_refl _
                      · exact absurd he (h2 q hq h)⟩
                    clear h2 HSEL
                    go_wp2
                    go_roundw
                    case rel => exact ⟨_, _, HR.out, hb6, HSS.out⟩
                    case measure => exact HM.out
                  · have hlk0 := HLK.out p0 h1
                    by_cases hc2 : P.cur X Z (P.tauAt L pk m) p0 < P.cur X Z (P.tauAt L pk m) p
                    · have HSS : Hid (Sel mine X Z n (P.tauAt L pk m) (fun z => left2 z && !z.sameKey (key (P.nm p))) (.string (P.nm p)) (.bool true)) := Or.inr ⟨p, hpn, rfl, rfl, HEL.out, fun q hq hl he => by
                        rcases HOR.out q hq hl with rfl | h
                        · exact Int.le_refl _
                        · have := h5 q hq h he; omega⟩
                      clear h4 h5 HSEL
                      go_wp2
                      go_roundw
                      case rel => exact ⟨_, _, HR.out, hb6, HSS.out⟩
                      case measure => exact HM.out
                    · have HSS : Hid (Sel mine X Z n (P.tauAt L pk m) (fun z => left2 z && !z.sameKey (key (P.nm p))) (.string (P.nm p0)) (.bool true)) := Or.inr ⟨p0, h1, rfl, rfl, h4, fun q hq hl he => by
                        rcases HOR.out q hq hl with rfl | h
                        · omega
                        · exact h5 q hq h he⟩
                      clear h4 h5 HSEL
                      go_wp2
                      go_roundw
                      case rel => exact ⟨_, _, HR.out, hb6, HSS.out⟩
                      case measure => exact HM.out
                · have hno : ¬ P.Elig mine X Z (P.tauAt L pk m) p := fun h => hc h.2
                  have hsel' : ∀ a b, Sel mine X Z n (P.tauAt L pk m) left2 a b → Sel mine X Z n (P.tauAt L pk m) (fun z => left2 z && !z.sameKey (key (P.nm p))) a b := fun a b hs => by
                    rcases hs with ⟨h1, h2⟩ | ⟨p0, h1, h2, h3, h4, h5⟩
                    · exact Or.inl ⟨h1, fun q hq hl => by
                        rcases HOR.out q hq hl with rfl | h
                        · exact hno
                        · exact h2 q hq h⟩
                    · exact Or.inr ⟨p0, h1, h2, h3, h4, fun q hq hl he => by
                        rcases HOR.out q hq hl with rfl | h
                        · exact absurd he hno
                        · exact h5 q hq h he⟩
                  have HSEL' := hsel' _ _ HSEL.out
                  have HSS := hid HSEL'
                  clear hsel' HSEL' hno ht ha
                  go_wp2
                  go_roundw
                  case rel => exact ⟨_, _, HR.out, hb6, HSS.out⟩
                  case measure => exact HM.out
        · obtain ⟨ao, cap, rfl, hcr⟩ := hY.crow HO.out
          have hbel := hY.below
          have hend : YEnd n L X Z c mine short (.returned (.tuple #[.slice ao m cap, .bool true])) wr := Or.inr ⟨ao, m, cap, pk, rfl, hY.valid, by omega, by omega, hcr⟩
          have HEND := hid (hend)
          clear hend hcr hY
          go_wp2
          go_ret2
          exact ⟨HEND.out, hbel⟩
    · intro s q w4 cnt4 hss hls hfs hrg4 hlt4 hg4 hs4 hen4
      obtain ⟨p, hpn, rfl, hq⟩ := P.fmap_some hfs
      obtain rfl : q = l p := by simpa using hq
      clear hq hfs hls
      have hb4 : Below w.heap.size w w4 := hone.below.grown hg4 hone.below.size (fun q hq => by have := Option.some.inj hq; omega)
      have hsz := hone.mn.lt
      have mh4 := hone.mh.kept (hg4.block _ (by omega) (fun e => by have := Option.some.inj e; omega))
      have mn4 := hone.mn.kept (hg4.block _ (by omega) (fun e => by have := Option.some.inj e; omega))
      have hO4 := HO.out.below hb4
      have hk := hone.le
      have hmax : n < maxLen := by unfold maxLen; omega
      have hls := hO4.lists p hpn
      obtain ⟨m, hm⟩ : ∃ m, L p = m + 1 := ⟨L p - 1, by have := (HP.out.pr p hpn).1; omega⟩
      have hm2 : m ≤ 200000 := by have := HP.out.len hpn; omega
      rw [hm] at hls
      have hlsd : LInv w4.drew (l p) (m + 1) (e p) (c p) (Z p) := hls.below (Below.refl _ _).drew
      have hlook : ∀ (u : World), u.heap[bp]? = w4.heap[bp]? → (Instr.lookup 78 (.map (some bp)) (.string (P.nm p)) false).run Trym.prog u = .ok (.int .i64 (hold L X Z p)) u := fun u hu => by
        have := (hO4.mp.kept hu).look (t := 78) Trym.underlying9 Trym.underlying78 (zero2 u) hss
        rw [P.fmap_at hn hpn] at this
        exact this
      obtain ⟨v0, st, w5, hE, hg5, hs5, hSt⟩ := mh4.drew.entry (t := 78) Trym.underlying9 Trym.underlying78 zero2 (by omega) hss
      obtain ⟨w6, hS, mh6, hg6⟩ := hSt (.int .i64 (hold L X Z p))
      have mn6 := mn4.kept (w' := w6) (hg6.block _ (by show _ < w4.heap.size; have := mn4.lt; omega) (fun e => by have := Option.some.inj e; omega))
      obtain ⟨w7, hU, mn7, hg7⟩ := mn6.store (t := 96) Trym.underlying9 Trym.underlying96 (by omega) hss (ptr (e p m))
      have hz4 : w.heap.size + 2 < w4.heap.size := hrg4.lt
      have hL0 := hlook w4.drew rfl
      have hL5 := hlook w5 (hg5.block _ (by show bp < w4.heap.size; omega) (fun e => by have := Option.some.inj e; omega))
      have c54 : w4.cell? ⟨B, 5, none⟩ = some (.map (some bp)) := cell_of hO4.bud
      have c55 : w5.cell? ⟨B, 5, none⟩ = some (.map (some bp)) := cell_of ((hg5.block _ (by show B < w4.heap.size; omega) (fun e => by have := Option.some.inj e; omega)).trans hO4.bud)
      have hdr : w4.grownBy w4.drew none := ⟨rfl, rfl, rfl, Nat.le_refl _, fun _ _ _ => rfl⟩
      have hone' : One w w7 bw n D L X Z e (fun z => left z && !z.sameKey (key (P.nm p))) cnt4 (k + 1) := by
        have hz6 : w4.heap.size ≤ w6.heap.size := hg6.size
        refine ⟨?_, ?_, ?_, by omega, ?_⟩
        · refine ((hrg4.kept hdr (by simp) (by simp)).kept hg6 (fun e => ?_) (fun e => ?_)).kept hg7 (fun e => ?_) (fun e => ?_)
          all_goals (have := Option.some.inj e; omega)
        · exact (mh6.kept (hg7.block _ (by omega) (fun e => by have := Option.some.inj e; omega))).congr (fh_step hn hpn rfl)
        · exact mn7.congr (fh_step hn hpn (by simp only [hm, elp_succ]))
        · exact ((hb4.drew.grown hg6 hb4.size (fun q hq => by have := Option.some.inj hq; omega)).grown hg7 (by have := hb4.size; omega) (fun q hq => by have := Option.some.inj hq; omega))
      have hlt' : w7.rangeLeft bw (w.heap.size + 2) < wr.rangeLeft bw (w.heap.size + 2) := by rw [hone'.rg.left_eq, hrg.left_eq]; exact hlt4
      have H1 := hid (hone')
      have H2 := hid (hlt')
      clear hone' hlt' hlook hSt mh6 mn6 mn7 hg5 hg6 hg7 hdr hs5 mh4 mn4 hb4 hg4 hrg4 hone hrg hls
      go_wp2
      go_region_with (go_at_call 36; refine (back_any hlsd hm2).mono ?_; rintro e0 w' ⟨rfl, hw⟩; subst w')
      all_goals
        go_wp2
        go_roundw
        case rel => exact ⟨_, _, _, H1.out⟩
        case measure => exact H2.out
end Go.Proofs.Qxb6618960aMods.W
