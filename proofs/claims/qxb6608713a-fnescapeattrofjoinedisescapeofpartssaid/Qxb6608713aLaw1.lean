/-
  THE WALK OF THE FIRST LAW (3).
-/
import Derived.Test.Qxb6608713aBack
namespace Go.Proofs.Qxb6608713a
open Go.RowKit
set_option linter.unusedVariables false

/-- The clone, its shape written out. -/
theorem clone_sh (v : Value) (n : Nat) (xs : List Int) (w : World) (h : Rd w v n xs) (hn : n ≤ 1000000000) :
    Calls Try.prog 8 #[v] w fun e w' => ∃ a cap, e = .returned (.slice a n cap) ∧ w'.ownsRow w.heap.size 5 1 (.slice a n cap) n (xs.map (Value.int .u8)) ∧ Below w.heap.size w w' := by
  refine (clone_any v n xs w h hn).mono ?_
  rintro e w' ⟨v', rfl, h1, h2⟩
  obtain ⟨_, a, cap, rfl, _⟩ := Rd.of_owns h1
  exact ⟨a, cap, rfl, h1, h2⟩

theorem zz_sh (s : ByteArray) (v : Value) (n base : Nat) (xs : List Int) (w : World) (hown0 : w.ownsRow base 5 1 v n (xs.map (Value.int .u8))) (hbase : base ≤ w.heap.size) (hsz : n + 6 * s.size ≤ 1000000000) :
    Calls Try.prog 9 #[v, .string s] w fun e w' => ∃ a cap, e = .returned (.slice a (n + (esc (bytesOf s)).length) cap) ∧ w'.ownsRow base 5 1 (.slice a (n + (esc (bytesOf s)).length) cap) (n + (esc (bytesOf s)).length) ((xs ++ esc (bytesOf s)).map (Value.int .u8)) ∧ Below base w w' := by
  refine (zz_any s v n base xs w hown0 hbase hsz).mono ?_
  rintro e w' ⟨v', rfl, h1, h2⟩
  obtain ⟨_, a, cap, rfl, _⟩ := Rd.of_owns h1
  exact ⟨a, cap, rfl, h1, h2⟩

theorem first_at {w : World} {a : Option Addr} {len E cap : Nat} {xs ys : List Int} (h : Rd w (.slice a (len + E) cap) (len + E) (xs ++ ys)) (hl : xs.length = len) : Rd w (.slice a len cap) len xs := by
  have h2 := h.first (k := len) (by omega)
  rwa [List.take_left' hl] at h2

theorem behind_at {w : World} {g len E cap : Nat} {xs ys : List Int} (h : Rd w (.slice (some ⟨g, 0, none⟩) (len + E) cap) (len + E) (xs ++ ys)) (hl : xs.length = len) (hc : ¬ cap = len) :
    Rd w (.slice (some ⟨g, len, none⟩) E (cap - len)) E ys := by
  have h2 := h.behind (k := len) (by omega)
  rw [List.drop_left' hl, Nat.add_sub_cancel_left] at h2
  unfold sliced at h2
  rw [if_neg hc, Nat.add_sub_cancel_left] at h2
  simpa [Addr.add_lit] using h2

theorem nothing_at (w : World) (x : Addr) (c : Nat) (hc : c ≤ maxLen) : Rd w (.slice (some x) 0 c) 0 [] :=
  ⟨rfl, some x, c, rfl, (fun e => by cases e), Nat.zero_le _, hc, fun _ _ i hi => by omega⟩

theorem law1_big (a : Option Addr) (len cap : Nat) (s : ByteArray) (w : World) (h1 : len ≤ maxLen) (h2 : s.size ≤ maxLen) (h : 524288 < len ∨ 524288 < s.size) :
    Calls Try.prog 3 #[.slice a len cap, .string s] w fun e w' => e = .returned (.bool true) ∧ w' = w := by
  by_cases hf : len + s.size ≤ 1048576
  · by_cases h3 : 524288 < len
    · go_enter Try.func3, Try.ntmps3
      go_wp2_with (go_at_call 7; refine (fit1_true _ _ _ _ _ hf).mono ?_; rintro e w' ⟨rfl, rfl⟩)
      go_ret
      exact ⟨rfl, rfl⟩
    · have h4 : 524288 < s.size := by omega
      go_enter Try.func3, Try.ntmps3
      go_wp2_with (go_at_call 7; refine (fit1_true _ _ _ _ _ hf).mono ?_; rintro e w' ⟨rfl, rfl⟩)
      go_ret
      exact ⟨rfl, rfl⟩
  · go_enter Try.func3, Try.ntmps3
    go_wp2_with (go_at_call 7; refine (fit1_false _ _ _ _ _ (by omega) h1 h2).mono ?_; rintro e w' ⟨rfl, rfl⟩)
    go_ret
    exact ⟨rfl, rfl⟩

theorem law1_small (a : Option Addr) (len cap : Nat) (xs : List Int) (s : ByteArray) (w : World) (hr : Rd w (.slice a len cap) len xs) (h1 : len ≤ 524288) (h2 : s.size ≤ 524288) :
    Calls Try.prog 3 #[.slice a len cap, .string s] w fun e w' => e = .returned (.bool true) ∧ Below w.heap.size w w' := by
  have hE : (esc (bytesOf s)).length ≤ 6 * 524288 := by have := esc_le (bytesOf s); rw [bytesOf_length] at this; omega
  go_enter Try.func3, Try.ntmps3
  go_wp2_with (go_at_call 7; refine (fit1_true _ _ _ _ _ (by omega)).mono ?_; rintro e w' ⟨rfl, hw⟩; obtain rfl := hw.symm)
  refine (clone_sh _ _ xs _ hr (by omega)).mono ?_
  rintro e w1 ⟨a1, cap1, rfl, hown1, hb1⟩
  have hr1 := Rd.of_owns hown1
  go_wp2_with fail
  refine (clone_sh _ _ xs _ hr1 (by omega)).mono ?_
  rintro e w2 ⟨a2, cap2, rfl, hown2, hb2⟩
  go_wp2_with fail
  refine (zz_sh s _ _ _ xs _ hown2 hb2.size (by omega)).mono ?_
  rintro e w3 ⟨a3, cap3, rfl, hown3, hb3⟩
  have hr3 := Rd.of_owns hown3
  have hb13 : Below w1.heap.size w1 w3 := hb2.trans hb3
  have hr1' := hr1.below hb13
  have hbel : Below w.heap.size w w3 := hb1.trans (hb13.mono hb1.size)
  rcases hown3.2 with ⟨hv, hz⟩ | ⟨g, cap', cur, hv, _, _, hnc, hmc, _, _⟩
  · obtain ⟨rfl, _, rfl⟩ : a3 = none ∧ len + (esc (bytesOf s)).length = 0 ∧ cap3 = 0 := by simpa using hv
    obtain rfl : len = 0 := by omega
    have hE0 : esc (bytesOf s) = [] := List.eq_nil_of_length_eq_zero (by omega)
    have hx0 : xs = [] := List.eq_nil_of_length_eq_zero hr1.1
    rw [hE0, hx0] at hr3
    rw [hE0]
    have hback : Rd w3 (.slice none 0 0) 0 (esc (bytesOf s)) := by rw [hE0]; exact hr3
    rw [hx0] at hr1'
    clear hv hown1 hown2 hown3 hb1 hb2 hb3 hb13 hr hr1
    have HE0 : Hid (esc (bytesOf s) = []) := hE0
    clear hE0 hx0
    go_wp2_with fail
    refine (eq_true _ _ 0 [] _ hr3 hr1').mono ?_
    rintro e w4 ⟨rfl, m, rfl⟩
    go_wp2_with fail
    refine (back_any _ 0 s _ (hback.drewN m) (by omega) (by omega)).mono ?_
    rintro e w5 ⟨rfl, m2, rfl⟩
    go_wp2
    go_ret
    exact ⟨rfl, ⟨hbel.os, hbel.tape, hbel.output, hbel.size, hbel.block⟩⟩
  · obtain ⟨rfl, rfl⟩ : a3 = some ⟨g, 0, none⟩ ∧ cap3 = cap' := by simpa using hv
    have hlx := hr1.1
    have hf := first_at hr3 hlx
    by_cases hcap : cap3 = len
    · have hE0 : esc (bytesOf s) = [] := List.eq_nil_of_length_eq_zero (by omega)
      have hback : Rd w3 (.slice (some ⟨g, 0, none⟩) 0 0) 0 (esc (bytesOf s)) := by rw [hE0]; exact nothing_at _ _ _ (Nat.zero_le _)
      obtain ⟨E, hEq⟩ : ∃ E, E = (esc (bytesOf s)).length := ⟨_, rfl⟩
      obtain rfl : E = 0 := by rw [hEq, hE0]; rfl
      rw [← hEq]
      clear hv hown1 hown2 hown3 hb1 hb2 hb3 hb13 hr hr1 hr3 hE0 hEq hlx hE hnc
      subst hcap
      go_wp2_with fail
      refine (eq_true _ _ cap3 xs _ hf hr1').mono ?_
      rintro e w4 ⟨rfl, m, rfl⟩
      go_wp2_with fail
      refine (back_any _ 0 s _ (hback.drewN m) (by omega) (by omega)).mono ?_
      rintro e w5 ⟨rfl, m2, rfl⟩
      go_wp2
      go_ret
      exact ⟨rfl, ⟨hbel.os, hbel.tape, hbel.output, hbel.size, hbel.block⟩⟩
    · have hback := behind_at hr3 hlx hcap
      clear hv hown1 hown2 hown3 hb1 hb2 hb3 hb13 hr hr1 hr3 hlx
      go_wp2_with fail
      refine (eq_true _ _ len xs _ hf hr1').mono ?_
      rintro e w4 ⟨rfl, m, rfl⟩
      go_wp2_with fail
      refine (back_any _ _ s _ (hback.drewN m) (by omega) (by omega)).mono ?_
      rintro e w5 ⟨rfl, m2, rfl⟩
      go_wp2
      go_ret
      exact ⟨rfl, ⟨hbel.os, hbel.tape, hbel.output, hbel.size, hbel.block⟩⟩

end Go.Proofs.Qxb6608713a
