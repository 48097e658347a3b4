/-
  zzReadsBackAs (11): the escaped text reads back as what was escaped.
-/
import Derived.Test.Qxb6608713aEq
import Derived.Test.Qxb6608713aEsc
namespace Go.Proofs.Qxb6608713a
open Go.RowKit
set_option linter.unusedVariables false

theorem has_lit (v : Value) (n i : Nat) (xs : List Int) (t : ByteArray) (w : World) (h : Rd w v n xs) (hi : i < n) (hn : n ≤ 1000000000) (ht : t.size ≤ 1000) :
    Calls Try.prog 18 #[v, .int .i64 i, .string t] w fun e w' => e = .returned (.bool (hasB xs i (bytesOf t))) ∧ ∃ m, w' = w.drewN m :=
  has_any v n i xs t (bytesOf t) w h hi hn ht (bytesOf_length t).symm (fun k hk => (bytesOf_at t k hk).symm)

/-- What the reader meets at the place of the k-th byte, a byte that is written by a reference. -/
theorem meets (l : List Int) (k : Nat) (h : k < l.length) (t : ByteArray) (c : Int) (hc : l.getD k 0 = c) (b : Bool) (hb : ∀ rest, (bytesOf t).isPrefixOf (escB c ++ rest) = b) :
    hasB (esc l) (esc (l.take k)).length (bytesOf t) = b := by
  obtain ⟨rest, hr⟩ := hasB_esc l k h (bytesOf t)
  rw [hr, hc]
  exact hb rest

set_option maxHeartbeats 1000000 in
theorem back_any (v : Value) (n : Nat) (s : ByteArray) (w : World) (h : Rd w v n (esc (bytesOf s))) (hn : n ≤ 1000000000) (hs : s.size ≤ 1000000000) :
    Calls Try.prog 11 #[v, .string s] w fun e w' => e = .returned (.bool true) ∧ ∃ m, w' = w.drewN m := by
  have hl := h.1
  by_cases hp : 0 < n
  · obtain ⟨b, o, cap, rfl, _, _, hc⟩ := h.at hp
    obtain ⟨T, hT⟩ : ∃ T, T = esc (bytesOf s) := ⟨_, rfl⟩
    rw [← hT] at h hc hl
    have HT : Hid (T = esc (bytesOf s)) := hT
    clear hT
    go_enter Try.func11, Try.ntmps11
    go_wp2
    go_loopw [5, 6] (fun i j wr => ∃ k I : Nat, k ≤ s.size ∧ Hid (I = (esc ((bytesOf s).take k)).length) ∧ i = .int .i64 I ∧ j = .int .i64 k ∧ ∃ m, wr = w.drewN m) (fun _ j _ => s.size - (intOf j).toNat)
    case atStart => exact ⟨0, 0, Nat.zero_le _, rfl, rfl, rfl, 0, rfl⟩
    case round =>
      obtain ⟨k, I, hk, HI, rfl, rfl, m, rfl⟩ := hrel
      by_cases hlt : k < s.size
      · have hlt2 : k < (bytesOf s).length := by rw [bytesOf_length]; exact hlt
        have HB : Hid ((bytesOf s).getD k 0 = (s[k].toNat : Int)) := bytesOf_at s k hlt
        have hIn : I + (escB ((bytesOf s).getD k 0)).length ≤ n := by
          have h1 := esc_take_lt (bytesOf s) k hlt2
          rw [← HT.out, hl] at h1
          rw [HI.out]
          exact h1
        have hI1 : I < n := by have := escB_pos ((bytesOf s).getD k 0); omega
        have hat : T.getD I 0 = (escB (s[k].toNat : Int)).getD 0 0 := by
          rw [HT.out, HI.out, esc_at (bytesOf s) k hlt2, HB.out]
        have hstep : (esc ((bytesOf s).take (k + 1))).length = I + (escB (s[k].toNat : Int)).length := by
          rw [esc_take_succ _ _ hlt2, List.length_append, ← HI.out, HB.out]
        have hm0 : ∀ (t : ByteArray) (c : Int), (s[k].toNat : Int) = c → ∀ b, (∀ rest, (bytesOf t).isPrefixOf (escB c ++ rest) = b) → hasB T I (bytesOf t) = b := by
          intro t c hcc b hb
          rw [HT.out, HI.out]
          exact meets _ k hlt2 t c (HB.out.trans hcc) b hb
        have gc := hc I hI1
        rw [hat] at gc
        clear hc hat HT
        have hcs : (s[k].toNat : Int) = 38 ∨ (s[k].toNat : Int) = 60 ∨ (s[k].toNat : Int) = 34 ∨ (s[k].toNat : Int) = 9 ∨ (s[k].toNat : Int) = 10 ∨ (s[k].toNat : Int) = 13 ∨
            ((s[k].toNat : Int) ≠ 38 ∧ (s[k].toNat : Int) ≠ 60 ∧ (s[k].toNat : Int) ≠ 34 ∧ (s[k].toNat : Int) ≠ 9 ∧ (s[k].toNat : Int) ≠ 10 ∧ (s[k].toNat : Int) ≠ 13) := by omega
        rcases hcs with hcc | hcc | hcc | hcc | hcc | hcc | ⟨g1, g2, g3, g4, g5, g6⟩
        case inr.inr.inr.inr.inr.inr =>
          have he : escB (s[k].toNat : Int) = [(s[k].toNat : Int)] := by unfold escB; rw [if_neg g1, if_neg g2, if_neg g3, if_neg g4, if_neg g5, if_neg g6]
          rw [he] at gc hstep
          have HS : Hid ((esc ((bytesOf s).take (k + 1))).length = I + 1) := hstep
          have gc' : w.cell? ⟨b, o + I, none⟩ = some (.int .u8 (s[k].toNat : Int)) := gc
          clear gc he hstep hm0
          have q1 := beq_false_of_ne g1
          have q2 := beq_false_of_ne g2
          have q3 := beq_false_of_ne g3
          have q4 := beq_false_of_ne g4
          have q5 := beq_false_of_ne g5
          have q6 := beq_false_of_ne g6
          clear g1 g2 g3 g4 g5 g6
          go_wp2
          go_roundw
          case rel => exact ⟨k + 1, I + 1, by omega, HS.out.symm, by go_num, by go_num, _, rfl⟩
          case measure => simp [intOf]; omega
        case inl =>
          have p0 := hm0 ⟨#[38, 97, 109, 112, 59]⟩ 38 hcc true (fun rest => rfl)
          rw [hcc] at gc hstep
          have HS : Hid ((esc ((bytesOf s).take (k + 1))).length = I + 5) := hstep
          have gc' : w.cell? ⟨b, o + I, none⟩ = some (.int .u8 38) := gc
          clear gc hstep hm0
          go_wp2_with (go_at_call 18; refine (has_lit _ n I T _ _ (h.drewN _) hI1 hn (by decide)).mono ?_; rintro e w' ⟨rfl, m', rfl⟩)
          go_roundw
          case rel => exact ⟨k + 1, I + 5, by omega, HS.out.symm, by go_num, by go_num, _, rfl⟩
          case measure => simp [intOf]; omega
        case inr.inl =>
          have p0 := hm0 ⟨#[38, 97, 109, 112, 59]⟩ 60 hcc false (fun rest => rfl)
          have p1 := hm0 ⟨#[38, 108, 116, 59]⟩ 60 hcc true (fun rest => rfl)
          rw [hcc] at gc hstep
          have HS : Hid ((esc ((bytesOf s).take (k + 1))).length = I + 4) := hstep
          have gc' : w.cell? ⟨b, o + I, none⟩ = some (.int .u8 38) := gc
          clear gc hstep hm0
          go_wp2_with (go_at_call 18; refine (has_lit _ n I T _ _ (h.drewN _) hI1 hn (by decide)).mono ?_; rintro e w' ⟨rfl, m', rfl⟩)
          go_roundw
          case rel => exact ⟨k + 1, I + 4, by omega, HS.out.symm, by go_num, by go_num, _, rfl⟩
          case measure => simp [intOf]; omega
        case inr.inr.inl =>
          have p0 := hm0 ⟨#[38, 97, 109, 112, 59]⟩ 34 hcc false (fun rest => rfl)
          have p1 := hm0 ⟨#[38, 108, 116, 59]⟩ 34 hcc false (fun rest => rfl)
          have p2 := hm0 ⟨#[38, 113, 117, 111, 116, 59]⟩ 34 hcc true (fun rest => rfl)
          rw [hcc] at gc hstep
          have HS : Hid ((esc ((bytesOf s).take (k + 1))).length = I + 6) := hstep
          have gc' : w.cell? ⟨b, o + I, none⟩ = some (.int .u8 38) := gc
          clear gc hstep hm0
          go_wp2_with (go_at_call 18; refine (has_lit _ n I T _ _ (h.drewN _) hI1 hn (by decide)).mono ?_; rintro e w' ⟨rfl, m', rfl⟩)
          go_roundw
          case rel => exact ⟨k + 1, I + 6, by omega, HS.out.symm, by go_num, by go_num, _, rfl⟩
          case measure => simp [intOf]; omega
        case inr.inr.inr.inl =>
          have p0 := hm0 ⟨#[38, 97, 109, 112, 59]⟩ 9 hcc false (fun rest => rfl)
          have p1 := hm0 ⟨#[38, 108, 116, 59]⟩ 9 hcc false (fun rest => rfl)
          have p2 := hm0 ⟨#[38, 113, 117, 111, 116, 59]⟩ 9 hcc false (fun rest => rfl)
          have p3 := hm0 ⟨#[38, 35, 120, 57, 59]⟩ 9 hcc true (fun rest => rfl)
          rw [hcc] at gc hstep
          have HS : Hid ((esc ((bytesOf s).take (k + 1))).length = I + 5) := hstep
          have gc' : w.cell? ⟨b, o + I, none⟩ = some (.int .u8 38) := gc
          clear gc hstep hm0
          go_wp2_with (go_at_call 18; refine (has_lit _ n I T _ _ (h.drewN _) hI1 hn (by decide)).mono ?_; rintro e w' ⟨rfl, m', rfl⟩)
          go_roundw
          case rel => exact ⟨k + 1, I + 5, by omega, HS.out.symm, by go_num, by go_num, _, rfl⟩
          case measure => simp [intOf]; omega
        case inr.inr.inr.inr.inl =>
          have p0 := hm0 ⟨#[38, 97, 109, 112, 59]⟩ 10 hcc false (fun rest => rfl)
          have p1 := hm0 ⟨#[38, 108, 116, 59]⟩ 10 hcc false (fun rest => rfl)
          have p2 := hm0 ⟨#[38, 113, 117, 111, 116, 59]⟩ 10 hcc false (fun rest => rfl)
          have p3 := hm0 ⟨#[38, 35, 120, 57, 59]⟩ 10 hcc false (fun rest => rfl)
          have p4 := hm0 ⟨#[38, 35, 120, 65, 59]⟩ 10 hcc true (fun rest => rfl)
          rw [hcc] at gc hstep
          have HS : Hid ((esc ((bytesOf s).take (k + 1))).length = I + 5) := hstep
          have gc' : w.cell? ⟨b, o + I, none⟩ = some (.int .u8 38) := gc
          clear gc hstep hm0
          go_wp2_with (go_at_call 18; refine (has_lit _ n I T _ _ (h.drewN _) hI1 hn (by decide)).mono ?_; rintro e w' ⟨rfl, m', rfl⟩)
          go_roundw
          case rel => exact ⟨k + 1, I + 5, by omega, HS.out.symm, by go_num, by go_num, _, rfl⟩
          case measure => simp [intOf]; omega
        case inr.inr.inr.inr.inr.inl =>
          have p0 := hm0 ⟨#[38, 97, 109, 112, 59]⟩ 13 hcc false (fun rest => rfl)
          have p1 := hm0 ⟨#[38, 108, 116, 59]⟩ 13 hcc false (fun rest => rfl)
          have p2 := hm0 ⟨#[38, 113, 117, 111, 116, 59]⟩ 13 hcc false (fun rest => rfl)
          have p3 := hm0 ⟨#[38, 35, 120, 57, 59]⟩ 13 hcc false (fun rest => rfl)
          have p4 := hm0 ⟨#[38, 35, 120, 65, 59]⟩ 13 hcc false (fun rest => rfl)
          have p5 := hm0 ⟨#[38, 35, 120, 68, 59]⟩ 13 hcc true (fun rest => rfl)
          rw [hcc] at gc hstep
          have HS : Hid ((esc ((bytesOf s).take (k + 1))).length = I + 5) := hstep
          have gc' : w.cell? ⟨b, o + I, none⟩ = some (.int .u8 38) := gc
          clear gc hstep hm0
          go_wp2_with (go_at_call 18; refine (has_lit _ n I T _ _ (h.drewN _) hI1 hn (by decide)).mono ?_; rintro e w' ⟨rfl, m', rfl⟩)
          go_roundw
          case rel => exact ⟨k + 1, I + 5, by omega, HS.out.symm, by go_num, by go_num, _, rfl⟩
          case measure => simp [intOf]; omega
      · have hend : I = n := by
          rw [HI.out, List.take_of_length_le (by rw [bytesOf_length]; omega), ← HT.out, hl]
        have hke : ((k : Int) == (s.size : Int)) = true := by simp; omega
        subst hend
        clear hc HT
        go_wp2
        go_ret
        exact ⟨rfl, m, rfl⟩
  · obtain rfl : n = 0 := by omega
    have hs0 : s.size = 0 := by
      by_cases e : 0 < s.size
      · have h1 := esc_take_lt (bytesOf s) 0 (by rw [bytesOf_length]; exact e)
        have h2 := escB_pos ((bytesOf s).getD 0 0)
        omega
      · omega
    obtain ⟨_, a1, cap1, rfl, _, _, _, _⟩ := h
    go_enter Try.func11, Try.ntmps11
    go_wp2
    refine wp_loop_rounds 1 ?_
    rw [rounds_succ]
    go_wp2
    go_ret
    exact ⟨rfl, 0, rfl⟩

end Go.Proofs.Qxb6608713a
