/-
  THE WALK OF THE LAW (3), where nothing leads out early.
-/
import Derived.Test.Qxb6608787aHalf
namespace Go.Proofs.Qxb6608787a
open Go.RowKit
set_option linter.unusedVariables false

theorem getD_left (a b : List R3) (k : Nat) (h : k < a.length) : (a ++ b).getD k r0 = a.getD k r0 := by
  simp only [List.getD]
  rw [List.getElem?_append_left h]

theorem getD_right (a b : List R3) (n k : Nat) (h : n = a.length) : (a ++ b).getD (n + k) r0 = b.getD k r0 := by
  simp only [List.getD]
  rw [List.getElem?_append_right (by omega)]
  congr 2
  omega

/-- The seven cells of one decision. -/
theorem seven_at {w : World} {g o n cap : Nat} {ds : List Dn} (h : RdD w (.slice (some ⟨g, 0, none⟩) n cap) n ds) (i : Nat) (hi : i < n) (ho : o = i * 7) (d : Dn) (hd : d = ds.getD i d0) :
    w.cell? ⟨g, o, none⟩ = some (.int .u8 d.v) ∧ w.cell? ⟨g, o + 1, none⟩ = some (.bool d.bg) ∧ w.cell? ⟨g, o + 2, none⟩ = some (.bool d.br) ∧ w.cell? ⟨g, o + 3, none⟩ = some (.int .u8 d.rv) ∧
      w.cell? ⟨g, o + 4, none⟩ = some (.int .i64 d.rl) ∧ w.cell? ⟨g, o + 5, none⟩ = some (.int .i64 d.rc) ∧ w.cell? ⟨g, o + 6, none⟩ = some (.bool d.rch) := by
  obtain ⟨hl, a, cap', hv, hn, h1, h2, hc⟩ := h
  obtain ⟨rfl, rfl⟩ : some (⟨g, 0, none⟩ : Addr) = a ∧ cap = cap' := by simpa using hv
  have h3 := fun j u => hc _ rfl i hi j u
  simp only [add_none, Nat.zero_add] at h3
  subst ho
  subst hd
  exact ⟨h3 0 _ rfl, h3 1 _ rfl, h3 2 _ rfl, h3 3 _ rfl, h3 4 _ rfl, h3 5 _ rfl, h3 6 _ rfl⟩

set_option maxRecDepth 100000 in
set_option maxHeartbeats 2000000 in
theorem law_main (q : Int) (a b : Option Addr) (la ca lb cb : Nat) (ra rb : List R3) (w : World) (hA : RdR w (.slice a la ca) la ra) (hB : RdR w (.slice b lb cb) lb rb)
    (h1 : la ≤ 20000) (h2 : lb ≤ 20000) (hq0 : 0 ≤ q) (hq2 : q ≤ 2) (hdA : inDom ra = true) (hdB : inDom rb = true) :
    Calls Try.prog 3 #[.int .u8 q, .slice a la ca, .slice b lb cb] w fun e w' => e = .returned (.bool true) ∧ Below w.heap.size w w' := by
  obtain ⟨i0, hi, hz0, hz1, hz2⟩ := info_parts Try.info29
  go_enter Try.func3, Try.ntmps3
  go_wp2_with (go_at_call 4; refine (fit_true _ _ _ _ _ _ _ _ (by omega)).mono ?_; rintro e w' ⟨rfl, hw⟩; obtain rfl := hw.symm)
  refine (dom_any _ la ra _ hA).mono ?_
  rintro e w' ⟨rfl, hw⟩
  obtain rfl := hw.symm
  rw [hdA]
  go_wp2_with fail
  refine (dom_any _ lb rb _ hB).mono ?_
  rintro e w' ⟨rfl, hw⟩
  obtain rfl := hw.symm
  rw [hdB]
  clear hdA hdB
  go_wp2_with fail
  refine (rets_any _ la ra _ hA (by omega)).mono ?_
  rintro e w1 ⟨rfl, hown1, hb1⟩
  have hB1 := hB.below hb1
  have hR1 := RdR.of_owns hown1 (by unfold maxLen; omega)
  clear hA hB hown1
  go_wp2_with fail
  refine (rets_any _ lb rb _ hB1 (by omega)).mono ?_
  rintro e w2 ⟨rfl, hown2, hb2⟩
  have hR2 := RdR.of_owns hown2 (by unfold maxLen; omega)
  have hR1' := hR1.below hb2
  have hb02 : Below w.heap.size w w2 := hb1.trans (hb2.mono hb1.size)
  have hlA := hR1.1
  have hlB := hR2.1
  have hs1 := hb1.size
  have hs2 := hb2.size
  clear hown2 hR1 hB1 hb1 hb2
  go_wp2_with (at_make; refine wpList_make_full _ rfl _ _ 26 rfl w2.heap.size 29 i0 (.agg #[.int .u8 0, .int .i64 0, .int .i64 0]) 3 Try.underlying26 hi hz0 hz1 _ _ _ _ (la + lb) rfl rfl (by omega) (by omega) (by rw [hz2]; omega) (by unfold maxLen; omega) (Nat.le_refl _) ?_)
  intro w3 hown3 hgrow3
  have hb3 : Below w2.heap.size w2 w3 := (Below.refl _ _).grown hgrow3 (Nat.le_refl _) (fun k hk => by cases hk)
  clear hgrow3
  obtain ⟨xs0, hown3⟩ : ∃ xs, w3.ownsRow w2.heap.size 29 3 (.slice (some ⟨w2.heap.size, 0, none⟩) (la + lb) (la + lb)) (la + lb) xs := ⟨_, hown3⟩
  go_wp2
  go_loopw [11] (fun i wr => ∃ k : Nat, ∃ xs, k ≤ la ∧ i = .int .i64 k ∧ wr.ownsRow w2.heap.size 29 3 (.slice (some ⟨w2.heap.size, 0, none⟩) (la + lb) (la + lb)) (la + lb) xs ∧ Hid (xs.take (k * 3) = ((ra ++ rb).take k).flatMap cellsR) ∧ Below w2.heap.size w2 wr) (fun i _ => la - (intOf i).toNat)
  case atStart => exact ⟨0, xs0, Nat.zero_le _, rfl, hown3, rfl, hb3⟩
  case round =>
    obtain ⟨k, xs, hk, rfl, how, HT, hbr⟩ := hrel
    clear hown3 hb3
    by_cases hlt : k < la
    · obtain ⟨_, _, hv, c0, c1, c2⟩ := (hR1'.below hbr).some_at hlt
      obtain ⟨rfl, rfl⟩ : _ ∧ _ := by simpa using hv
      simp only [Nat.zero_add] at c0 c1 c2
      obtain ⟨r, hr⟩ : ∃ r, r = ra.getD k r0 := ⟨_, rfl⟩
      rw [← hr] at c0 c1 c2
      have HR : Hid (r = ra.getD k r0) := hr
      clear hr
      obtain ⟨u0, e0⟩ := own_cell how (k * 3) (by omega)
      obtain ⟨u1, e1⟩ := own_cell how (k * 3 + 1) (by omega)
      obtain ⟨u2, e2⟩ := own_cell how (k * 3 + 2) (by omega)
      have f0 := how.frozenAt (k * 3)
      have f1 := how.frozenAt (k * 3 + 1)
      have f2 := how.frozenAt (k * 3 + 2)
      go_wp2
      go_roundw
      case rel =>
        refine ⟨k + 1, _, by omega, by go_num, own3 how (k * 3) _ _ _, ?_, below3 hbr (Nat.le_refl _) (k * 3) _ _ _⟩
        exact laid_next (ra ++ rb) k (by simp; omega) xs HT.out (by rw [how.1]; omega) (by rw [getD_left ra rb k (by omega), ← HR.out]) (by rw [getD_left ra rb k (by omega), ← HR.out]) (by rw [getD_left ra rb k (by omega), ← HR.out])
      case measure => simp [intOf]; omega
    · obtain rfl : k = la := by omega
      go_wp2
      go_loopw [12] (fun i ws => ∃ j : Nat, ∃ ys, j ≤ lb ∧ i = .int .i64 j ∧ ws.ownsRow w2.heap.size 29 3 (.slice (some ⟨w2.heap.size, 0, none⟩) (k + lb) (k + lb)) (k + lb) ys ∧ Hid (ys.take ((k + j) * 3) = ((ra ++ rb).take (k + j)).flatMap cellsR) ∧ Below w2.heap.size w2 ws) (fun i _ => lb - (intOf i).toNat)
      case atStart => exact ⟨0, xs, Nat.zero_le _, rfl, how, HT, hbr⟩
      case round =>
        clear how HT hbr
        obtain ⟨j, ys, hj, rfl, how, HT, hbr⟩ := hrel
        by_cases hlt2 : j < lb
        · obtain ⟨_, _, hv, c0, c1, c2⟩ := (hR2.below hbr).some_at hlt2
          obtain ⟨rfl, rfl⟩ : _ ∧ _ := by simpa using hv
          simp only [Nat.zero_add] at c0 c1 c2
          obtain ⟨r, hr⟩ : ∃ r, r = rb.getD j r0 := ⟨_, rfl⟩
          rw [← hr] at c0 c1 c2
          have HR : Hid (r = rb.getD j r0) := hr
          clear hr
          obtain ⟨u0, e0⟩ := own_cell how ((k + j) * 3) (by omega)
          obtain ⟨u1, e1⟩ := own_cell how ((k + j) * 3 + 1) (by omega)
          obtain ⟨u2, e2⟩ := own_cell how ((k + j) * 3 + 2) (by omega)
          have f0 := how.frozenAt ((k + j) * 3)
          have f1 := how.frozenAt ((k + j) * 3 + 1)
          have f2 := how.frozenAt ((k + j) * 3 + 2)
          go_wp2
          go_roundw
          case rel =>
            refine ⟨j + 1, _, by omega, by go_num, own3 how ((k + j) * 3) _ _ _, ?_, below3 hbr (Nat.le_refl _) ((k + j) * 3) _ _ _⟩
            exact laid_next (ra ++ rb) (k + j) (by simp; omega) ys HT.out (by rw [how.1]; omega) (by rw [getD_right ra rb k j (by omega), ← HR.out]) (by rw [getD_right ra rb k j (by omega), ← HR.out]) (by rw [getD_right ra rb k j (by omega), ← HR.out])
          case measure => simp [intOf]; omega
        · obtain rfl : j = lb := by omega
          have hall : ys = (ra ++ rb).flatMap cellsR := by
            have h3 := HT.out
            rw [List.take_of_length_le (by rw [how.1]; omega), List.take_of_length_le (by simp; omega)] at h3
            exact h3
          rw [hall] at how
          have hR3 := RdR.of_owns how (by unfold maxLen; omega)
          have hR1s := hR1'.below hbr
          have hR2s := hR2.below hbr
          have hbs : Below w.heap.size w wr := hb02.trans (hbr.mono hb02.size)
          clear hall how HT hbr hR1' hR2 hb02 hlt hlt2 hk hj
          obtain ⟨pa, hpa⟩ : ∃ p, p = heads q ra := ⟨_, rfl⟩
          obtain ⟨pb, hpb⟩ : ∃ p, p = heads q rb := ⟨_, rfl⟩
          obtain ⟨ta, hta⟩ : ∃ p, p = (tail q ra).length := ⟨_, rfl⟩
          obtain ⟨tb, htb⟩ : ∃ p, p = (tail q rb).length := ⟨_, rfl⟩
          obtain ⟨tc, htc⟩ : ∃ p, p = (tail q (ra ++ rb)).length := ⟨_, rfl⟩
          have hpc : pa + pb = heads q (ra ++ rb) := by rw [heads_append, hpa, hpb]
          have hpal : pa ≤ k := by rw [hpa, ← hlA]; exact heads_le q ra
          have hpbl : pb ≤ j := by rw [hpb, ← hlB]; exact heads_le q rb
          have hta1 : 1 ≤ ta ∧ ta ≤ 2 := by rw [hta]; exact tail_len q ra
          have htb1 : 1 ≤ tb ∧ tb ≤ 2 := by rw [htb]; exact tail_len q rb
          have htc1 : 1 ≤ tc ∧ tc ≤ 2 := by rw [htc]; exact tail_len q (ra ++ rb)
          have HP : Hid (pa = heads q ra ∧ pb = heads q rb ∧ ta = (tail q ra).length ∧ tb = (tail q rb).length ∧ tc = (tail q (ra ++ rb)).length ∧ pa + pb = heads q (ra ++ rb)) := ⟨hpa, hpb, hta, htb, htc, hpc⟩
          clear hpa hpb hta htb htc hpc hlA hlB
          go_wp2_with fail
          refine (new_any q _ _ _ _).mono ?_
          rintro e w4 ⟨rfl, n0, n1, n2, hb4⟩
          go_wp2_with fail
          refine (decs_any _ _ k _ _ q ra _ n0 n1 n2 (hR1s.below hb4) (by omega) hq0 pa ta HP.out.1 HP.out.2.2.1).mono ?_
          rintro e w5 ⟨gA, capA, rfl, hcA, hdA, hb5⟩
          have hb45 := hb4.trans (hb5.mono hb4.size)
          have hR2t := hR2s.below hb45
          have hR3t := hR3.below hb45
          have hbs5 : Below w.heap.size w w5 := hbs.trans (hb45.mono hbs.size)
          clear n0 n1 n2 hb4 hb5 hb45 hR1s hR2s hR3 hbs
          go_wp2_with fail
          refine (new_any q _ _ _ _).mono ?_
          rintro e w6 ⟨rfl, n0, n1, n2, hb6⟩
          go_wp2_with fail
          refine (decs_any _ _ j _ _ q rb _ n0 n1 n2 (hR2t.below hb6) (by omega) hq0 pb tb HP.out.2.1 HP.out.2.2.2.1).mono ?_
          rintro e w7 ⟨gB, capB, rfl, hcB, hdB, hb7⟩
          have hb67 := hb6.trans (hb7.mono hb6.size)
          have hR3u := hR3t.below hb67
          have hdA7 := hdA.below hb67
          have hbs7 : Below w.heap.size w w7 := hbs5.trans (hb67.mono hbs5.size)
          clear n0 n1 n2 hb6 hb7 hb67 hR2t hR3t hdA hbs5
          go_wp2_with fail
          refine (new_any q _ _ _ _).mono ?_
          rintro e w8 ⟨rfl, n0, n1, n2, hb8⟩
          go_wp2_with fail
          refine (decs_any _ _ (k + j) _ _ q (ra ++ rb) _ n0 n1 n2 (hR3u.below hb8) (by omega) hq0 (pa + pb) tc HP.out.2.2.2.2.2 HP.out.2.2.2.2.1).mono ?_
          rintro e w9 ⟨gC, capC, rfl, hcC, hdC, hb9⟩
          have hb89 := hb8.trans (hb9.mono hb8.size)
          have hdA9 := hdA7.below hb89
          have hdB9 := hdB.below hb89
          have hbs9 : Below w.heap.size w w9 := hbs7.trans (hb89.mono hbs7.size)
          clear n0 n1 n2 hb8 hb9 hb89 hR3u hdA7 hdB hbs7
          go_wp2_with fail
          refine (head_any _ (pa + ta) pa _ _ hdA9 (by omega) (by omega) (fun i hi => rch_head q ra i (by rw [← HP.out.1]; exact hi)) (by have := rch_stop q ra; rw [← HP.out.1] at this; exact this)).mono ?_
          rintro e w' ⟨rfl, hw⟩
          obtain rfl := hw.symm
          go_wp2_with fail
          refine (head_any _ (pb + tb) pb _ _ hdB9 (by omega) (by omega) (fun i hi => rch_head q rb i (by rw [← HP.out.2.1]; exact hi)) (by have := rch_stop q rb; rw [← HP.out.2.1] at this; exact this)).mono ?_
          rintro e w' ⟨rfl, hw⟩
          obtain rfl := hw.symm
          have hneA : ¬ capA = pa := by omega
          have hneB : ¬ capB = pb := by omega
          have hta2 := tail_append q ra rb
          by_cases htt : ta < tb
          · rw [if_pos (by rw [← HP.out.2.2.1, ← HP.out.2.2.2.1]; exact htt)] at hta2
            obtain rfl : tc = tb := by rw [HP.out.2.2.2.2.1, hta2, ← HP.out.2.2.2.1]
            have HREST : Hid (tail q (ra ++ rb) = tail q rb) := hta2
            clear hta2
            have HF : Hid ((decs q (ra ++ rb)).getD (pa + pb) d0 = if q = 0 then grantsD 0 else joinD q false r0) := by
              have h3 := joined_rest q ra rb 0
              rw [← HP.out.1, ← HP.out.2.1, Nat.add_zero, tail_first] at h3
              exact h3
            have HG : Hid (∀ i, (decs q (ra ++ rb)).getD (pa + pb + i) d0 = (decs q rb).getD (pb + i) d0) := by
              intro i
              have h3 := joined_rest q ra rb i
              have h4 := decs_tail q rb i
              rw [← HP.out.1, ← HP.out.2.1] at h3
              rw [← HP.out.2.1] at h4
              rw [h3, h4, HREST.out]
            have hgC : gC < w9.heap.size := World.block_lt_of_cell? _ _ (seven_at hdC 0 (by omega) rfl _ rfl).1
            go_wp2
            go_loopw [21] (fun i ws => ∃ n : Nat, n ≤ pa ∧ i = .int .i64 n ∧ ∃ m, ws = w9.drewN m) (fun i _ => pa - (intOf i).toNat)
            case atStart => exact ⟨0, Nat.zero_le _, rfl, 0, rfl⟩
            case round =>
              obtain ⟨i, hi, rfl, m, rfl⟩ := hrel
              by_cases hli : i < pa
              · obtain ⟨d, hd⟩ : ∃ d, d = (decs q ra).getD i d0 := ⟨_, rfl⟩
                obtain ⟨a0, a1, a2, a3, a4, a5, a6⟩ := seven_at hdA9 i (by omega) rfl d hd
                obtain ⟨c0, c1, c2, c3, c4, c5, c6⟩ := seven_at hdC i (by omega) rfl d (by rw [hd, joined_first q ra rb i (by rw [← HP.out.1]; exact hli)])
                clear hd
                have hI1 : (i : Int) < (pa : Int) + (pb : Int) + (tc : Int) := by omega
                have hI2 : (i : Int) < (pa : Int) + (ta : Int) := by omega
                have hI3 : (0 : Int) ≤ (i : Int) := by omega
                go_wp2
                go_quiet (fail)
                go_wp2
                go_roundw
                case rel => exact ⟨i + 1, by omega, by go_num, _, rfl⟩
                case measure => simp [intOf]; omega
              · obtain rfl : i = pa := by omega
                go_wp2
                go_loopw [22] (fun x ws => ∃ n : Nat, n ≤ pb ∧ x = .int .i64 n ∧ ∃ m, ws = w9.drewN m) (fun x _ => pb - (intOf x).toNat)
                case atStart => exact ⟨0, Nat.zero_le _, rfl, m, rfl⟩
                case round =>
                  obtain ⟨n, hn, rfl, m2, rfl⟩ := hrel
                  by_cases hln : n < pb
                  · obtain ⟨d, hd⟩ : ∃ d, d = (decs q rb).getD n d0 := ⟨_, rfl⟩
                    obtain ⟨a0, a1, a2, a3, a4, a5, a6⟩ := seven_at hdB9 n (by omega) rfl d hd
                    obtain ⟨c0, c1, c2, c3, c4, c5, c6⟩ := seven_at hdC (i + n) (by omega) rfl d (by rw [hd, HP.out.1, joined_second q ra rb n (by rw [← HP.out.2.1]; exact hln)])
                    clear hd
                    have hI1 : (i : Int) + (n : Int) < (i : Int) + (pb : Int) + (tc : Int) := by omega
                    have hI2 : (n : Int) < (pb : Int) + (tc : Int) := by omega
                    have hI3 : (0 : Int) ≤ (n : Int) := by omega
                    go_wp2
                    go_quiet (fail)
                    go_wp2
                    go_roundw
                    case rel => exact ⟨n + 1, by omega, by go_num, _, rfl⟩
                    case measure => simp [intOf]; omega
                  · obtain rfl : n = pb := by omega
                    go_wp2
                    go_loopw [23] (fun x ws => ∃ l : Nat, l ≤ tc ∧ x = .int .i64 l ∧ ∃ m, ws = w9.drewN m) (fun x _ => tc - (intOf x).toNat)
                    case atStart => exact ⟨0, Nat.zero_le _, rfl, m2, rfl⟩
                    case round =>
                      obtain ⟨l, hl, rfl, m3, rfl⟩ := hrel
                      by_cases hll : l < tc
                      · obtain ⟨d, hd⟩ : ∃ d, d = (decs q rb).getD (n + l) d0 := ⟨_, rfl⟩
                        obtain ⟨a0, a1, a2, a3, a4, a5, a6⟩ := seven_at hdB9 (n + l) (by omega) (show n * 7 + l * 7 = (n + l) * 7 by omega) d hd
                        obtain ⟨c0, c1, c2, c3, c4, c5, c6⟩ := seven_at hdC (i + n + l) (by omega) rfl d (by rw [hd, HG.out])
                        clear hd
                        have hI1 : (i : Int) + (n : Int) + (l : Int) < (i : Int) + (n : Int) + (tc : Int) := by omega
                        have hI2 : (l : Int) < (tc : Int) := by omega
                        have hI3 : (0 : Int) ≤ (l : Int) := by omega
                        go_wp2
                        go_quiet (fail)
                        go_wp2
                        go_roundw
                        case rel => exact ⟨l + 1, by omega, by go_num, _, rfl⟩
                        case measure => simp [intOf]; omega
                      · have hI1 : (i : Int) + (n : Int) < (i : Int) + (n : Int) + (tc : Int) := by omega
                        obtain ⟨W, hW⟩ : ∃ W, W = w9.drewN m3 := ⟨_, rfl⟩
                        have hdW : RdD W (.slice (some ⟨gC, 0, none⟩) (i + n + tc) capC) (i + n + tc) (decs q (ra ++ rb)) := by rw [hW]; exact hdC.drewN m3
                        have hbW : Below w.heap.size w W := by rw [hW]; exact below_drewN hbs9 m3
                        have hgW : gC < W.heap.size := by rw [hW]; exact hgC
                        have hsW := hbW.size
                        rw [← hW]
                        clear hW hgC hbs9
                        by_cases hq : q = 0
                        · subst hq
                          obtain ⟨c0, c1, c2, c3, c4, c5, c6⟩ := seven_at hdW (i + n) (by omega) rfl (grantsD 0) (by rw [HF.out]; rfl)
                          simp only [grantsD] at c0 c1 c2 c3 c4 c5 c6
                          go_wp2
                          go_quiet (fail)
                          go_wp2
                          go_ret
                          exact ⟨rfl, below_drewN (hbW.alloc hsW _) _⟩
                        · have hqb : (0 == q) = false := by simpa using fun e => hq e.symm
                          have hqc : (q == 0) = false := by simpa using hq
                          obtain ⟨c0, c1, c2, c3, c4, c5, c6⟩ := seven_at hdW (i + n) (by omega) rfl (joinD q false r0) (by rw [HF.out, if_neg hq])
                          simp only [joinD, r0, hqb] at c0 c1 c2 c3 c4 c5 c6
                          go_wp2
                          go_quiet (fail)
                          go_wp2
                          go_ret
                          exact ⟨rfl, below_drewN (hbW.alloc hsW _) _⟩
          · rw [if_neg (by rw [← HP.out.2.2.1, ← HP.out.2.2.2.1]; exact htt)] at hta2
            obtain rfl : tc = ta := by rw [HP.out.2.2.2.2.1, hta2, ← HP.out.2.2.1]
            have HREST : Hid (tail q (ra ++ rb) = tail q ra) := hta2
            clear hta2
            have HF : Hid ((decs q (ra ++ rb)).getD (pa + pb) d0 = if q = 0 then grantsD 0 else joinD q false r0) := by
              have h3 := joined_rest q ra rb 0
              rw [← HP.out.1, ← HP.out.2.1, Nat.add_zero, tail_first] at h3
              exact h3
            have HG : Hid (∀ i, (decs q (ra ++ rb)).getD (pa + pb + i) d0 = (decs q ra).getD (pa + i) d0) := by
              intro i
              have h3 := joined_rest q ra rb i
              have h4 := decs_tail q ra i
              rw [← HP.out.1, ← HP.out.2.1] at h3
              rw [← HP.out.1] at h4
              rw [h3, h4, HREST.out]
            have hgC : gC < w9.heap.size := World.block_lt_of_cell? _ _ (seven_at hdC 0 (by omega) rfl _ rfl).1
            go_wp2
            go_loopw [21] (fun i ws => ∃ n : Nat, n ≤ pa ∧ i = .int .i64 n ∧ ∃ m, ws = w9.drewN m) (fun i _ => pa - (intOf i).toNat)
            case atStart => exact ⟨0, Nat.zero_le _, rfl, 0, rfl⟩
            case round =>
              obtain ⟨i, hi, rfl, m, rfl⟩ := hrel
              by_cases hli : i < pa
              · obtain ⟨d, hd⟩ : ∃ d, d = (decs q ra).getD i d0 := ⟨_, rfl⟩
                obtain ⟨a0, a1, a2, a3, a4, a5, a6⟩ := seven_at hdA9 i (by omega) rfl d hd
                obtain ⟨c0, c1, c2, c3, c4, c5, c6⟩ := seven_at hdC i (by omega) rfl d (by rw [hd, joined_first q ra rb i (by rw [← HP.out.1]; exact hli)])
                clear hd
                have hI1 : (i : Int) < (pa : Int) + (pb : Int) + (tc : Int) := by omega
                have hI2 : (i : Int) < (pa : Int) + (tc : Int) := by omega
                have hI3 : (0 : Int) ≤ (i : Int) := by omega
                go_wp2
                go_quiet (fail)
                go_wp2
                go_roundw
                case rel => exact ⟨i + 1, by omega, by go_num, _, rfl⟩
                case measure => simp [intOf]; omega
              · obtain rfl : i = pa := by omega
                go_wp2
                go_loopw [22] (fun x ws => ∃ n : Nat, n ≤ pb ∧ x = .int .i64 n ∧ ∃ m, ws = w9.drewN m) (fun x _ => pb - (intOf x).toNat)
                case atStart => exact ⟨0, Nat.zero_le _, rfl, m, rfl⟩
                case round =>
                  obtain ⟨n, hn, rfl, m2, rfl⟩ := hrel
                  by_cases hln : n < pb
                  · obtain ⟨d, hd⟩ : ∃ d, d = (decs q rb).getD n d0 := ⟨_, rfl⟩
                    obtain ⟨a0, a1, a2, a3, a4, a5, a6⟩ := seven_at hdB9 n (by omega) rfl d hd
                    obtain ⟨c0, c1, c2, c3, c4, c5, c6⟩ := seven_at hdC (i + n) (by omega) rfl d (by rw [hd, HP.out.1, joined_second q ra rb n (by rw [← HP.out.2.1]; exact hln)])
                    clear hd
                    have hI1 : (i : Int) + (n : Int) < (i : Int) + (pb : Int) + (tc : Int) := by omega
                    have hI2 : (n : Int) < (pb : Int) + (tb : Int) := by omega
                    have hI3 : (0 : Int) ≤ (n : Int) := by omega
                    go_wp2
                    go_quiet (fail)
                    go_wp2
                    go_roundw
                    case rel => exact ⟨n + 1, by omega, by go_num, _, rfl⟩
                    case measure => simp [intOf]; omega
                  · obtain rfl : n = pb := by omega
                    go_wp2
                    go_loopw [23] (fun x ws => ∃ l : Nat, l ≤ tc ∧ x = .int .i64 l ∧ ∃ m, ws = w9.drewN m) (fun x _ => tc - (intOf x).toNat)
                    case atStart => exact ⟨0, Nat.zero_le _, rfl, m2, rfl⟩
                    case round =>
                      obtain ⟨l, hl, rfl, m3, rfl⟩ := hrel
                      by_cases hll : l < tc
                      · obtain ⟨d, hd⟩ : ∃ d, d = (decs q ra).getD (i + l) d0 := ⟨_, rfl⟩
                        obtain ⟨a0, a1, a2, a3, a4, a5, a6⟩ := seven_at hdA9 (i + l) (by omega) (show i * 7 + l * 7 = (i + l) * 7 by omega) d hd
                        obtain ⟨c0, c1, c2, c3, c4, c5, c6⟩ := seven_at hdC (i + n + l) (by omega) rfl d (by rw [hd, HG.out])
                        clear hd
                        have hI1 : (i : Int) + (n : Int) + (l : Int) < (i : Int) + (n : Int) + (tc : Int) := by omega
                        have hI2 : (l : Int) < (tc : Int) := by omega
                        have hI3 : (0 : Int) ≤ (l : Int) := by omega
                        go_wp2
                        go_quiet (fail)
                        go_wp2
                        go_roundw
                        case rel => exact ⟨l + 1, by omega, by go_num, _, rfl⟩
                        case measure => simp [intOf]; omega
                      · have hI1 : (i : Int) + (n : Int) < (i : Int) + (n : Int) + (tc : Int) := by omega
                        obtain ⟨W, hW⟩ : ∃ W, W = w9.drewN m3 := ⟨_, rfl⟩
                        have hdW : RdD W (.slice (some ⟨gC, 0, none⟩) (i + n + tc) capC) (i + n + tc) (decs q (ra ++ rb)) := by rw [hW]; exact hdC.drewN m3
                        have hbW : Below w.heap.size w W := by rw [hW]; exact below_drewN hbs9 m3
                        have hgW : gC < W.heap.size := by rw [hW]; exact hgC
                        have hsW := hbW.size
                        rw [← hW]
                        clear hW hgC hbs9
                        by_cases hq : q = 0
                        · subst hq
                          obtain ⟨c0, c1, c2, c3, c4, c5, c6⟩ := seven_at hdW (i + n) (by omega) rfl (grantsD 0) (by rw [HF.out]; rfl)
                          simp only [grantsD] at c0 c1 c2 c3 c4 c5 c6
                          go_wp2
                          go_quiet (fail)
                          go_wp2
                          go_ret
                          exact ⟨rfl, below_drewN (hbW.alloc hsW _) _⟩
                        · have hqb : (0 == q) = false := by simpa using fun e => hq e.symm
                          have hqc : (q == 0) = false := by simpa using hq
                          obtain ⟨c0, c1, c2, c3, c4, c5, c6⟩ := seven_at hdW (i + n) (by omega) rfl (joinD q false r0) (by rw [HF.out, if_neg hq])
                          simp only [joinD, r0, hqb] at c0 c1 c2 c3 c4 c5 c6
                          go_wp2
                          go_quiet (fail)
                          go_wp2
                          go_ret
                          exact ⟨rfl, below_drewN (hbW.alloc hsW _) _⟩


end Go.Proofs.Qxb6608787a
