/-
  THE WALK OF THE SECOND LAW (4).
-/
import Derived.Test.Qxb6608713aLaw1
namespace Go.Proofs.Qxb6608713a
open Go.RowKit
set_option linter.unusedVariables false

theorem bytesOf_append (x y : ByteArray) : bytesOf (x ++ y) = bytesOf x ++ bytesOf y := by
  simp [bytesOf]

theorem eq_true2 (v1 v2 : Value) (n1 n2 : Nat) (xs ys : List Int) (w : World) (h1 : Rd w v1 n1 xs) (h2 : Rd w v2 n2 ys) (he : xs = ys) :
    Calls Try.prog 10 #[v1, v2] w fun e w' => e = .returned (.bool true) ∧ ∃ m, w' = w.drewN m := by
  subst he
  obtain rfl : n1 = n2 := h1.1.symm.trans h2.1
  exact eq_true v1 v2 n1 xs w h1 h2

theorem law2_big (a : Option Addr) (len cap : Nat) (s t : ByteArray) (w : World) (h1 : len ≤ maxLen) (h2 : s.size ≤ maxLen) (h3 : t.size ≤ maxLen) (h : 524288 < len ∨ 262144 < s.size ∨ 262144 < t.size) :
    Calls Try.prog 4 #[.slice a len cap, .string s, .string t] w fun e w' => e = .returned (.bool true) ∧ w' = w := by
  by_cases hf : len + s.size + t.size ≤ 1048576
  · by_cases c1 : 524288 < len
    · go_enter Try.func4, Try.ntmps4
      go_wp2_with (go_at_call 12; refine (fit2_true _ _ _ _ _ _ hf).mono ?_; rintro e w' ⟨rfl, rfl⟩)
      go_ret
      exact ⟨rfl, rfl⟩
    · by_cases c2 : 262144 < s.size
      · go_enter Try.func4, Try.ntmps4
        go_wp2_with (go_at_call 12; refine (fit2_true _ _ _ _ _ _ hf).mono ?_; rintro e w' ⟨rfl, rfl⟩)
        go_ret
        exact ⟨rfl, rfl⟩
      · have c3 : 262144 < t.size := by omega
        go_enter Try.func4, Try.ntmps4
        go_wp2_with (go_at_call 12; refine (fit2_true _ _ _ _ _ _ hf).mono ?_; rintro e w' ⟨rfl, rfl⟩)
        go_ret
        exact ⟨rfl, rfl⟩
  · go_enter Try.func4, Try.ntmps4
    go_wp2_with (go_at_call 12; refine (fit2_false _ _ _ _ _ _ (by omega) h1 h2 h3).mono ?_; rintro e w' ⟨rfl, rfl⟩)
    go_ret
    exact ⟨rfl, rfl⟩

theorem law2_small (a : Option Addr) (len cap : Nat) (xs : List Int) (s t : ByteArray) (w : World) (hr : Rd w (.slice a len cap) len xs) (h1 : len ≤ 524288) (h2 : s.size ≤ 262144) (h3 : t.size ≤ 262144) :
    Calls Try.prog 4 #[.slice a len cap, .string s, .string t] w fun e w' => e = .returned (.bool true) ∧ Below w.heap.size w w' := by
  have hEs : (esc (bytesOf s)).length ≤ 6 * 262144 := by have := esc_le (bytesOf s); rw [bytesOf_length] at this; omega
  go_enter Try.func4, Try.ntmps4
  go_wp2_with (go_at_call 12; refine (fit2_true _ _ _ _ _ _ (by omega)).mono ?_; rintro e w' ⟨rfl, hw⟩; obtain rfl := hw.symm)
  refine (clone_sh _ _ xs _ hr (by omega)).mono ?_
  rintro e w1 ⟨a1, cap1, rfl, hown1, hb1⟩
  have hr1 := Rd.of_owns hown1
  go_wp2_with fail
  refine (clone_sh _ _ xs _ hr1 (by omega)).mono ?_
  rintro e w2 ⟨a2, cap2, rfl, hown2, hb2⟩
  go_wp2_with fail
  refine (zz_sh s _ _ _ xs _ hown2 hb2.size (by omega)).mono ?_
  rintro e w3 ⟨a3, cap3, rfl, hown3, hb3⟩
  go_wp2_with fail
  refine (zz_sh t _ _ _ (xs ++ esc (bytesOf s)) _ hown3 (Nat.le_trans hb2.size hb3.size) (by omega)).mono ?_
  rintro e w4 ⟨a4, cap4, rfl, hown4, hb4⟩
  have hr4 := Rd.of_owns hown4
  have hb14 : Below w1.heap.size w1 w4 := (hb2.trans hb3).trans hb4
  have hr14 := hr1.below hb14
  have hbel4 : Below w.heap.size w w4 := hb1.trans (hb14.mono hb1.size)
  clear hown1 hown2 hown3 hown4 hb1 hb2 hb3 hb4 hb14 hr1 hr
  go_wp2_with fail
  refine (clone_sh _ _ xs _ hr14 (by omega)).mono ?_
  rintro e w5 ⟨a5, cap5, rfl, hown5, hb5⟩
  have hsz : (s ++ t).size = s.size + t.size := ByteArray.size_append
  have HSZ : Hid ((s ++ t).size = s.size + t.size) := hsz
  clear hsz
  go_wp2_with fail
  refine (zz_sh (s ++ t) _ _ _ xs _ hown5 hb5.size (by rw [HSZ.out]; omega)).mono ?_
  rintro e w6 ⟨a6, cap6, rfl, hown6, hb6⟩
  have hE : (esc (bytesOf (s ++ t))).length ≤ 6 * 524288 := by have := esc_le (bytesOf (s ++ t)); rw [bytesOf_length, HSZ.out] at this; omega
  have hr6 := Rd.of_owns hown6
  have hb46 : Below w4.heap.size w4 w6 := hb5.trans hb6
  have hr46 := hr4.below hb46
  have hr16 := hr14.below hb46
  have hbel : Below w.heap.size w w6 := hbel4.trans (hb46.mono hbel4.size)
  have HEQ : Hid (xs ++ esc (bytesOf s) ++ esc (bytesOf t) = xs ++ esc (bytesOf (s ++ t))) := by
    show _ = _
    rw [bytesOf_append, esc_append, List.append_assoc]
  have hlx := hr14.1
  go_wp2_with fail
  refine (eq_true2 _ _ _ _ _ _ _ hr46 hr6 HEQ.out).mono ?_
  rintro e w7 ⟨rfl, m, rfl⟩
  rcases hown6.2 with ⟨hv, hz⟩ | ⟨g, cap', cur, hv, _, _, hnc, hmc, _, _⟩
  · obtain ⟨rfl, _, rfl⟩ : a6 = none ∧ len + (esc (bytesOf (s ++ t))).length = 0 ∧ cap6 = 0 := by simpa using hv
    obtain rfl : len = 0 := by omega
    have hE0 : esc (bytesOf (s ++ t)) = [] := List.eq_nil_of_length_eq_zero (by omega)
    have hx0 : xs = [] := List.eq_nil_of_length_eq_zero hlx
    rw [hE0, hx0] at hr6
    rw [hE0]
    have hback : Rd w6 (.slice none 0 0) 0 (esc (bytesOf (s ++ t))) := by rw [hE0]; exact hr6
    rw [hx0] at hr16
    clear hv hown5 hown6 hb5 hb6 hb46 hr4 hr46 hr14 hlx HEQ hE0 hx0
    go_wp2_with fail
    refine (eq_true _ _ 0 [] _ (hr6.drewN m) (hr16.drewN m)).mono ?_
    rintro e w8 ⟨rfl, m2, rfl⟩
    go_wp2_with fail
    refine (back_any _ _ (s ++ t) _ (hback.drewN _) (by omega) (by rw [HSZ.out]; omega)).mono ?_
    rintro e w9 ⟨rfl, m3, rfl⟩
    go_wp2
    go_ret
    exact ⟨rfl, ⟨hbel.os, hbel.tape, hbel.output, hbel.size, hbel.block⟩⟩
  · obtain ⟨rfl, rfl⟩ : a6 = some ⟨g, 0, none⟩ ∧ cap6 = cap' := by simpa using hv
    have hf := first_at hr6 hlx
    by_cases hcap : cap6 = len
    · have hE0 : esc (bytesOf (s ++ t)) = [] := List.eq_nil_of_length_eq_zero (by omega)
      have hback : Rd w6 (.slice (some ⟨g, 0, none⟩) 0 0) 0 (esc (bytesOf (s ++ t))) := by rw [hE0]; exact nothing_at _ _ _ (Nat.zero_le _)
      obtain ⟨E, hEq⟩ : ∃ E, E = (esc (bytesOf (s ++ t))).length := ⟨_, rfl⟩
      obtain rfl : E = 0 := by rw [hEq, hE0]; rfl
      rw [← hEq]
      clear hv hown5 hown6 hb5 hb6 hb46 hr4 hr46 hr14 hr6 hlx HEQ hE0 hEq hE hnc
      subst hcap
      go_wp2_with fail
      refine (eq_true _ _ cap6 xs _ (hf.drewN m) (hr16.drewN m)).mono ?_
      rintro e w8 ⟨rfl, m2, rfl⟩
      go_wp2_with fail
      refine (back_any _ 0 (s ++ t) _ (hback.drewN _) (by omega) (by rw [HSZ.out]; omega)).mono ?_
      rintro e w9 ⟨rfl, m3, rfl⟩
      go_wp2
      go_ret
      exact ⟨rfl, ⟨hbel.os, hbel.tape, hbel.output, hbel.size, hbel.block⟩⟩
    · have hback := behind_at hr6 hlx hcap
      clear hv hown5 hown6 hb5 hb6 hb46 hr4 hr46 hr14 hr6 hlx HEQ
      go_wp2_with fail
      refine (eq_true _ _ len xs _ (hf.drewN m) (hr16.drewN m)).mono ?_
      rintro e w8 ⟨rfl, m2, rfl⟩
      go_wp2_with fail
      refine (back_any _ _ (s ++ t) _ (hback.drewN _) (by omega) (by rw [HSZ.out]; omega)).mono ?_
      rintro e w9 ⟨rfl, m3, rfl⟩
      go_wp2
      go_ret
      exact ⟨rfl, ⟨hbel.os, hbel.tape, hbel.output, hbel.size, hbel.block⟩⟩

end Go.Proofs.Qxb6608713a
