/-
  THE WALK OF FnEmptyAfterServerHelloDoneHeaderIffNothingFollows (5).
-/
import Derived.Test.Qxb6608867aSame
namespace Go.Proofs.Qxb6608867a
open Go.RowKit
set_option linter.unusedVariables false

theorem Try.info5 : (Try.prog.info? 5).map (fun i => (i.zero, i.size, i.bytes)) = some (some (.int .u8 0), 1, 1) := by kernel_rfl

/-- The message: the header, then the bytes. -/
def msgOf (bs : List Int) : List Int := [14, 0, 0, 0] ++ bs

theorem msg_head (bs : List Int) (k : Nat) (h : k < 4) : (msgOf bs).getD k 0 = if k = 0 then 14 else 0 := by
  match k, h with
  | 0, _ => rfl
  | 1, _ => rfl
  | 2, _ => rfl
  | 3, _ => rfl

theorem msg_rest (bs : List Int) (k : Nat) : (msgOf bs).getD (4 + k) 0 = bs.getD k 0 := by
  simp only [msgOf, List.getD]
  rw [List.getElem?_append_right (by simp)]
  simp

theorem msg_len (bs : List Int) : (msgOf bs).length = 4 + bs.length := by simp [msgOf]; omega

/-- One cell more is laid. -/
theorem lay1 (xs : List Value) (l : List Int) (k : Nat) (hT : xs.take k = (l.map (Value.int .u8)).take k) (hk : k < l.length) (hx : xs.length = l.length) {z : Int} (hz : z = l.getD k 0) :
    (xs.set k (.int .u8 z)).take (k + 1) = (l.map (Value.int .u8)).take (k + 1) := by
  rw [List.take_succ_eq_append_getElem (by simp; omega), List.take_succ_eq_append_getElem (by simpa using hk)]
  rw [List.take_set_of_le (Nat.le_refl _), hT]
  simp [hz, List.getD, hk]

theorem own_cell {wr : World} {B g n : Nat} {xs : List Value} (h : wr.ownsRow B 5 1 (.slice (some ⟨g, 0, none⟩) n n) n xs) (j : Nat) (hj : j < n) : ∃ u, wr.cell? ⟨g, j, none⟩ = some u := by
  rw [h.cellAt j (by omega)]
  exact ⟨_, List.getElem?_eq_getElem (by rw [h.1]; omega)⟩

theorem law_big (a : Option Addr) (len cap : Nat) (s : Bool) (w : World) (h : 1048576 < len) :
    Calls Try.prog 5 #[.slice a len cap, .bool s] w fun e w' => e = .returned (.bool true) ∧ w' = w := by
  go_enter Try.func5, Try.ntmps5
  go_wp2_with (go_at_call 11; refine (fit_false _ _ _ _ _ h).mono ?_; rintro e w' ⟨rfl, rfl⟩)
  go_ret
  exact ⟨rfl, rfl⟩

set_option maxHeartbeats 1000000 in
theorem law_main (a : Option Addr) (len cap : Nat) (bs : List Int) (s : Bool) (w : World) (hb : Rd w (.slice a len cap) len bs) (h : len ≤ 1048576) :
    Calls Try.prog 5 #[.slice a len cap, .bool s] w fun e w' => e = .returned (.bool true) ∧ Below w.heap.size w w' := by
  obtain ⟨i0, hi, hz0, hz1, hz2⟩ := info_parts Try.info5
  have hbl := hb.1
  go_enter Try.func5, Try.ntmps5
  go_wp2_with (go_at_call 11; refine (fit_true _ _ _ _ _ h).mono ?_; rintro e w' ⟨rfl, hw⟩; obtain rfl := hw.symm)
  refine (done_any w).mono ?_
  rintro e w1 ⟨rfl, hw1⟩
  have m0 : w1.cell? ⟨w.heap.size, 0, none⟩ = some (.int .u8 14) := by rw [hw1]; simp
  have m1 : w1.cell? ⟨w.heap.size, 1, none⟩ = some (.int .u8 0) := by rw [hw1]; simp
  have m2 : w1.cell? ⟨w.heap.size, 2, none⟩ = some (.int .u8 0) := by rw [hw1]; simp
  have m3 : w1.cell? ⟨w.heap.size, 3, none⟩ = some (.int .u8 0) := by rw [hw1]; simp
  have hm : ∀ k, k < 4 → w1.cell? ⟨w.heap.size, k, none⟩ = some (.int .u8 ((msgOf bs).getD k 0)) := by
    intro k hk
    rw [msg_head bs k hk]
    match k, hk with
    | 0, _ => exact m0
    | 1, _ => exact m1
    | 2, _ => exact m2
    | 3, _ => exact m3
  have hb01 : Below w.heap.size w w1 := by rw [hw1]; exact (Below.refl _ _).alloc (Nat.le_refl _) _
  have hs1 : w.heap.size < w1.heap.size := World.block_lt_of_cell? _ _ m0
  have hb1 := hb.below hb01
  have hbO := hb
  clear hw1 m0 m1 m2 m3 hb
  go_wp2_with (at_make; refine wpList_make_full _ rfl _ _ 22 rfl w1.heap.size 5 i0 (.int .u8 0) 1 Try.underlying22 hi hz0 hz1 _ _ _ _ (4 + len) rfl rfl (by omega) (by omega) (by rw [hz2]; omega) (by unfold maxLen; omega) (Nat.le_refl _) ?_)
  intro w2 hown2 hgrow2
  have hb2 : Below w1.heap.size w1 w2 := (Below.refl _ _).grown hgrow2 (Nat.le_refl _) (fun k hk => by cases hk)
  clear hgrow2
  obtain ⟨xs0, hown2⟩ : ∃ xs, w2.ownsRow w1.heap.size 5 1 (.slice (some ⟨w1.heap.size, 0, none⟩) (4 + len) (4 + len)) (4 + len) xs := ⟨_, hown2⟩
  go_wp2
  go_loopw [7] (fun i wr => ∃ k : Nat, ∃ xs, k ≤ 4 ∧ i = .int .i64 k ∧ wr.ownsRow w1.heap.size 5 1 (.slice (some ⟨w1.heap.size, 0, none⟩) (4 + len) (4 + len)) (4 + len) xs ∧ Hid (xs.take k = ((msgOf bs).map (Value.int .u8)).take k) ∧ Below w1.heap.size w1 wr) (fun i _ => 4 - (intOf i).toNat)
  case atStart => exact ⟨0, xs0, by omega, rfl, hown2, rfl, hb2⟩
  case round =>
    obtain ⟨k, xs, hk, rfl, how, HT, hbr⟩ := hrel
    clear hb2
    have hxl : xs.length = (msgOf bs).length := by rw [how.1, msg_len]; omega
    by_cases hlt : k < 4
    · have c0 := cell_later hbr (hm k hlt)
      obtain ⟨z, hz⟩ : ∃ z, z = (msgOf bs).getD k 0 := ⟨_, rfl⟩
      rw [← hz] at c0
      have HZ : Hid (z = (msgOf bs).getD k 0) := hz
      clear hz
      obtain ⟨u0, e0⟩ := own_cell how k (by omega)
      have f0 := how.frozenAt k
      go_wp2
      go_roundw
      case rel =>
        refine ⟨k + 1, _, by omega, by go_num, (how.stored k _).1, ?_, hbr.setCell (p := ⟨w1.heap.size, k, none⟩) (Nat.le_refl _) _⟩
        exact lay1 xs (msgOf bs) k HT.out (by rw [msg_len]; omega) hxl HZ.out
      case measure => simp [intOf]; omega
    · obtain rfl : k = 4 := by omega
      go_wp2
      go_loopw [8] (fun i ws => ∃ j : Nat, ∃ ys, j ≤ len ∧ i = .int .i64 j ∧ ws.ownsRow w1.heap.size 5 1 (.slice (some ⟨w1.heap.size, 0, none⟩) (4 + len) (4 + len)) (4 + len) ys ∧ Hid (ys.take (4 + j) = ((msgOf bs).map (Value.int .u8)).take (4 + j)) ∧ Below w1.heap.size w1 ws) (fun i _ => len - (intOf i).toNat)
      case atStart => exact ⟨0, xs, Nat.zero_le _, rfl, how, HT, hbr⟩
      case round =>
        clear how HT hbr
        obtain ⟨j, ys, hj, rfl, how, HT, hbr⟩ := hrel
        have hyl : ys.length = (msgOf bs).length := by rw [how.1, msg_len]; omega
        by_cases hlt2 : j < len
        · obtain ⟨b, o, cap', hv, _, _, hc⟩ := (hb1.below hbr).at (by omega)
          obtain ⟨rfl, rfl⟩ : a = some ⟨b, o, none⟩ ∧ cap = cap' := by simpa using hv
          have c0 := hc j hlt2
          obtain ⟨z, hz⟩ : ∃ z, z = bs.getD j 0 := ⟨_, rfl⟩
          rw [← hz] at c0
          have HZ : Hid (z = bs.getD j 0) := hz
          clear hz hc hv
          obtain ⟨u0, e0⟩ := own_cell how (4 + j) (by omega)
          have f0 := how.frozenAt (4 + j)
          go_wp2
          go_roundw
          case rel =>
            refine ⟨j + 1, _, by omega, by go_num, (how.stored (4 + j) _).1, ?_, hbr.setCell (p := ⟨w1.heap.size, 4 + j, none⟩) (Nat.le_refl _) _⟩
            exact lay1 ys (msgOf bs) (4 + j) HT.out (by rw [msg_len]; omega) hyl (by rw [msg_rest]; exact HZ.out)
          case measure => simp [intOf]; omega
        · obtain rfl : j = len := by omega
          have hall : ys = (msgOf bs).map (Value.int .u8) := by
            have h3 := HT.out
            rw [List.take_of_length_le (by rw [hyl, msg_len]; omega), List.take_of_length_le (by rw [List.length_map, msg_len]; omega)] at h3
            exact h3
          rw [hall] at how
          have hR := Rd.of_owns how
          have hbb := hb1.below hbr
          have hbw : Below w.heap.size w wr := hb01.trans (hbr.mono hb01.size)
          have hsw := hbw.size
          have g : ∀ i, i < 4 + j → wr.cell? ⟨w1.heap.size, i, none⟩ = some (.int .u8 ((msgOf bs).getD i 0)) := by
            intro i hi
            obtain ⟨b, o, cap', hv, _, _, hc⟩ := hR.at (by omega)
            obtain ⟨⟨rfl, rfl⟩, rfl⟩ : (w1.heap.size = b ∧ 0 = o) ∧ 4 + j = cap' := by simpa using hv
            have h4 := hc i hi
            rw [Nat.zero_add] at h4
            exact h4
          have g0 : wr.cell? ⟨w1.heap.size, 0, none⟩ = some (.int .u8 14) := g 0 (by omega)
          have g1 : wr.cell? ⟨w1.heap.size, 1, none⟩ = some (.int .u8 0) := g 1 (by omega)
          have g2 : wr.cell? ⟨w1.heap.size, 2, none⟩ = some (.int .u8 0) := g 2 (by omega)
          have g3 : wr.cell? ⟨w1.heap.size, 3, none⟩ = some (.int .u8 0) := g 3 (by omega)
          have hG : w1.heap.size < wr.heap.size := World.block_lt_of_cell? _ _ g0
          clear hall how HT hm hb1 hb01 hR hbr hown2
          go_wp2_with fail
          refine (new_any _ _ _ _ _).mono ?_
          rintro e w4 ⟨rfl, hw4⟩
          have d0 : w4.cell? ⟨wr.heap.size, 0, none⟩ = some (.slice (some ⟨w1.heap.size, 0, none⟩) (4 + j) (4 + j)) := by rw [hw4]; simp
          have d1 : w4.cell? ⟨wr.heap.size, 1, none⟩ = some (.bool s) := by rw [hw4]; simp
          have df : w4.frozen? ⟨wr.heap.size, 0, none⟩ = false := by rw [hw4]; simp
          have hb4 : Below wr.heap.size wr w4 := by rw [hw4]; exact (Below.refl _ _).alloc (Nat.le_refl _) _
          have hbw4 : Below w.heap.size w w4 := hbw.trans (hb4.mono hsw)
          have hbb4 := hbb.below hb4
          have q0 := cell_later hb4 g0
          have q1 := cell_later hb4 g1
          have q2 := cell_later hb4 g2
          have q3 := cell_later hb4 g3
          have q : ∀ i, i < 4 + j → w4.cell? ⟨w1.heap.size, i, none⟩ = some (.int .u8 ((msgOf bs).getD i 0)) := fun i hi => cell_later hb4 (g i hi)
          clear hw4 g g0 g1 g2 g3 hbb hbw hb4
          have hne : ¬ w1.heap.size = wr.heap.size := by omega
          have hoff : ∀ i, (⟨w1.heap.size, i, none⟩ : Addr) ≠ ⟨wr.heap.size, 0, none⟩ := fun i e => hne (by simpa using congrArg Addr.block e)
          go_wp2_with fail
          refine (first16 wr.heap.size w1.heap.size 0 (4 + j) (4 + j) _ d0 df (by omega) (by omega) (by omega) hne q0 q1).mono ?_
          rintro e w5 ⟨rfl, m, hw5⟩
          have M1 : Moved wr.heap.size (.slice (some ⟨w1.heap.size, 2, none⟩) (2 + j) (2 + j)) w4 w5 := by
            rw [hw5, show 4 + j - 2 = 2 + j by omega]; exact Moved.mk' d0 m
          clear hw5
          by_cases hj0 : j = 0
          · subst hj0
            obtain rfl : bs = [] := List.eq_nil_of_length_eq_zero hbl
            go_wp2_with fail
            refine (last16 wr.heap.size w1.heap.size 2 _ M1.here ((M1.ice _).trans df) hne ((M1.other _ (hoff 2)).trans q2) ((M1.other _ (hoff 3)).trans q3)).mono ?_
            rintro e w6 ⟨rfl, m2, hw6⟩
            have M2 : Moved wr.heap.size (.slice (some ⟨w1.heap.size, 2, none⟩) 0 0) w5 w6 := by rw [hw6]; exact Moved.mk' M1.here m2
            clear hw6
            have hend := M2.below w (M1.below w hbw4 hsw) hsw
            have hb6 := hbO.below hend
            have hs6 : w6.cell? ⟨wr.heap.size, 1, none⟩ = some (.bool s) := (M2.other _ (by simp)).trans ((M1.other _ (by simp)).trans d1)
            have hp6 := M2.here
            have hr6 : Rd w6 (.slice (some ⟨w1.heap.size, 2, none⟩) 0 0) 0 [] := ⟨rfl, some _, 0, rfl, (fun e => by cases e), Nat.le_refl _, Nat.zero_le _, fun _ _ i hi => by omega⟩
            clear M1 M2 q q0 q1 q2 q3 d0 d1 df hoff hbb4 hbw4
            go_wp2_with fail
            refine (short_any wr.heap.size s _ hs6).mono ?_
            rintro e w' ⟨rfl, hw⟩
            obtain rfl := hw.symm
            have hss : (s != s) = false := by simp
            go_wp2_with fail
            refine (bytes_any wr.heap.size _ _ _ _ hp6).mono ?_
            rintro e w' ⟨rfl, hw⟩
            obtain rfl := hw.symm
            go_wp2_with fail
            refine (eq_true _ _ 0 [] _ hr6 hb6).mono ?_
            rintro e w7 ⟨rfl, m3, rfl⟩
            go_wp2_with fail
            refine (empty_any wr.heap.size (some ⟨w1.heap.size, 2, none⟩) 0 0 (w6.drewN m3) hp6).mono ?_
            rintro e w' ⟨rfl, hw⟩
            obtain rfl := hw.symm
            go_wp2
            go_ret
            exact ⟨rfl, below_drewN hend m3⟩
          · have hjb : ((j : Int) == 0) = false := by simp; omega
            go_wp2_with fail
            refine (next16 wr.heap.size w1.heap.size 2 (2 + j) (2 + j) _ M1.here ((M1.ice _).trans df) (by omega) (by omega) (by omega) hne ((M1.other _ (hoff 2)).trans q2) ((M1.other _ (hoff 3)).trans q3)).mono ?_
            rintro e w6 ⟨rfl, m2, hw6⟩
            have M2 : Moved wr.heap.size (.slice (some ⟨w1.heap.size, 4, none⟩) j j) w5 w6 := by
              rw [hw6, show 2 + j - 2 = j by omega]; exact Moved.mk' M1.here m2
            clear hw6
            have hend := M2.below w (M1.below w hbw4 hsw) hsw
            have hb6 := hbO.below hend
            have hs6 : w6.cell? ⟨wr.heap.size, 1, none⟩ = some (.bool s) := (M2.other _ (by simp)).trans ((M1.other _ (by simp)).trans d1)
            have hp6 := M2.here
            have hr6 : Rd w6 (.slice (some ⟨w1.heap.size, 4, none⟩) j j) j bs := by
              refine ⟨hbl, some _, j, rfl, (fun e => by cases e), Nat.le_refl _, by unfold maxLen; omega, ?_⟩
              intro x hx i hi
              obtain rfl := Option.some.inj hx
              have e : (⟨w1.heap.size, 4, none⟩ : Addr).add i = ⟨w1.heap.size, 4 + i, none⟩ := by unfold Addr.add; split <;> simp_all
              rw [e, M2.other _ (hoff _), M1.other _ (hoff _), q (4 + i) (by omega), msg_rest]
            clear M1 M2 q q0 q1 q2 q3 d0 d1 df hoff hbb4 hbw4
            go_wp2_with fail
            refine (short_any wr.heap.size s _ hs6).mono ?_
            rintro e w' ⟨rfl, hw⟩
            obtain rfl := hw.symm
            have hss : (s != s) = false := by simp
            go_wp2_with fail
            refine (bytes_any wr.heap.size _ _ _ _ hp6).mono ?_
            rintro e w' ⟨rfl, hw⟩
            obtain rfl := hw.symm
            go_wp2_with fail
            refine (eq_true _ _ j bs _ hr6 hb6).mono ?_
            rintro e w7 ⟨rfl, m3, rfl⟩
            go_wp2_with fail
            refine (empty_any wr.heap.size (some ⟨w1.heap.size, 4, none⟩) j j (w6.drewN m3) hp6).mono ?_
            rintro e w' ⟨rfl, hw⟩
            obtain rfl := hw.symm
            go_wp2
            go_ret
            exact ⟨rfl, below_drewN hend m3⟩

end Go.Proofs.Qxb6608867a
