/-
  THE CALLEES THAT ONLY READ: zzBytesEqual (10), zzHasAt (18), the two bounds on lengths (7, 12).
-/
import Derived.Test.Qxb6608713aReads
namespace Go.Proofs.Qxb6608713a
open Go.RowKit
set_option linter.unusedVariables false

/-- Two slices of the same bytes. -/
theorem eq_true (v1 v2 : Value) (n : Nat) (xs : List Int) (w : World) (h1 : Rd w v1 n xs) (h2 : Rd w v2 n xs) :
    Calls Try.prog 10 #[v1, v2] w fun e w' => e = .returned (.bool true) ∧ ∃ m, w' = w.drewN m := by
  have hmx := len_le h1
  by_cases hp : 0 < n
  · obtain ⟨b1, o1, cap1, rfl, _, _, hc1⟩ := h1.at hp
    obtain ⟨b2, o2, cap2, rfl, _, _, hc2⟩ := h2.at hp
    clear h1 h2
    go_enter Try.func10, Try.ntmps10
    go_wp2
    go_loopw [5] (fun i wr => ∃ k : Nat, k ≤ n ∧ i = .int .i64 k ∧ ∃ m, wr = w.drewN m) (fun i _ => n - (intOf i).toNat)
    case atStart => exact ⟨0, Nat.zero_le _, rfl, 0, rfl⟩
    case round =>
      obtain ⟨k, hk, rfl, m, rfl⟩ := hrel
      by_cases hlt : k < n
      · have g1 := hc1 k hlt
        have g2 := hc2 k hlt
        clear hc1 hc2
        have hlt' : (k : Int) < (n : Int) := by omega
        go_wp2
        go_quiet (fail)
        go_wp2
        go_roundw
        case rel => exact ⟨k + 1, by omega, by go_num, _, rfl⟩
        case measure => simp [intOf]; omega
      · go_wp2
        go_ret
        exact ⟨rfl, m, rfl⟩
  · obtain rfl : n = 0 := by omega
    obtain ⟨_, a1, cap1, rfl, _, _, _, _⟩ := h1
    obtain ⟨_, a2, cap2, rfl, _, _, _, _⟩ := h2
    go_enter Try.func10, Try.ntmps10
    go_wp2
    refine wp_loop_rounds 1 ?_
    rw [rounds_succ]
    go_wp2
    go_ret
    exact ⟨rfl, 0, rfl⟩

/-- A text at a place: 'hasB', decided ahead. -/
theorem has_any (v : Value) (n i : Nat) (xs : List Int) (s : ByteArray) (rs : List Int) (w : World) (h : Rd w v n xs) (hi : i < n) (hn : n ≤ 1000000000) (hs : s.size ≤ 1000) (hs0 : s.size = rs.length)
    (hr : ∀ k (hk : k < s.size), (s[k].toNat : Int) = rs.getD k 0) :
    Calls Try.prog 18 #[v, .int .i64 i, .string s] w fun e w' => e = .returned (.bool (hasB xs i rs)) ∧ ∃ m, w' = w.drewN m := by
  have hl := h.1
  obtain ⟨b, o, cap, rfl, _, _, hc⟩ := h.at (by omega)
  clear h
  by_cases hlen : n < i + s.size
  · rw [hasB_short xs i rs (by omega) (by omega)]
    go_enter Try.func18, Try.ntmps18
    go_wp2
    go_ret
    exact ⟨rfl, 0, rfl⟩
  · go_enter Try.func18, Try.ntmps18
    go_wp2
    go_loopw [7] (fun j wr => ∃ k : Nat, k ≤ s.size ∧ j = .int .i64 k ∧ (∃ m, wr = w.drewN m) ∧ ∀ t, t < k → xs.getD (i + t) 0 = rs.getD t 0) (fun j _ => s.size - (intOf j).toNat)
    case atStart => exact ⟨0, Nat.zero_le _, rfl, ⟨0, rfl⟩, fun t ht => by omega⟩
    case round =>
      obtain ⟨k, hk, rfl, ⟨m, rfl⟩, hall⟩ := hrel
      have HA : Hid (∀ t, t < k → xs.getD (i + t) 0 = rs.getD t 0) := hall
      clear hall
      by_cases hlt : k < s.size
      · have g1 := hc (i + k) (by omega)
        clear hc
        have hlt' : (k : Int) < (s.size : Int) := by omega
        have hin : (i : Int) + (k : Int) < (n : Int) := by omega
        go_wp2
        go_quiet (fail)
        go_wp2
        · have hk' : k < rs.length := by omega
          have ht : (xs[i + k]?.getD 0 != rs[k]) = true := by assumption
          go_ret
          refine ⟨?_, _, World.drewN_drewN _ _ _⟩
          rw [hasB_none xs i rs (by omega) k hk' (by simpa [List.getD, hk'] using ht)]
          rfl
        · have hk' : k < rs.length := by omega
          have ht : (xs[i + k]?.getD 0 != rs[k]) = false := by assumption
          have he : xs.getD (i + k) 0 = rs.getD k 0 := by simpa [List.getD, hk'] using ht
          go_roundw
          case rel =>
            refine ⟨k + 1, by omega, by go_num, ⟨_, rfl⟩, fun t htt => ?_⟩
            by_cases e : t = k
            · subst e; exact he
            · exact HA.out t (by omega)
          case measure => simp [intOf]; omega
      · have HN : Hid (hasB xs i rs = true) := hasB_all xs i rs (by omega) (fun t ht => HA.out t (by omega))
        go_wp2
        go_ret
        exact ⟨by rw [HN.out]; rfl, m, rfl⟩

/-- The bound on the lengths, of the first law. -/
theorem fit1_true (a : Option Addr) (len cap : Nat) (s : ByteArray) (w : World) (h : len + s.size ≤ 1048576) :
    Calls Try.prog 7 #[.slice a len cap, .string s] w fun e w' => e = .returned (.bool true) ∧ w' = w := by
  go_enter Try.func7, Try.ntmps7
  go_wp2
  go_ret
  exact ⟨rfl, rfl⟩

theorem fit1_false (a : Option Addr) (len cap : Nat) (s : ByteArray) (w : World) (h : 1048576 < len + s.size) (h1 : len ≤ maxLen) (h2 : s.size ≤ maxLen) :
    Calls Try.prog 7 #[.slice a len cap, .string s] w fun e w' => e = .returned (.bool false) ∧ w' = w := by
  unfold maxLen at h1 h2
  by_cases h3 : 1048576 < len
  · go_enter Try.func7, Try.ntmps7
    go_wp2
    go_ret
    exact ⟨rfl, rfl⟩
  · by_cases h4 : 1048576 < s.size
    · go_enter Try.func7, Try.ntmps7
      go_wp2
      go_ret
      exact ⟨rfl, rfl⟩
    · go_enter Try.func7, Try.ntmps7
      go_wp2
      go_ret
      exact ⟨rfl, rfl⟩

/-- The bound on the lengths, of the second law. -/
theorem fit2_true (a : Option Addr) (len cap : Nat) (s t : ByteArray) (w : World) (h : len + s.size + t.size ≤ 1048576) :
    Calls Try.prog 12 #[.slice a len cap, .string s, .string t] w fun e w' => e = .returned (.bool true) ∧ w' = w := by
  go_enter Try.func12, Try.ntmps12
  go_wp2
  go_ret
  exact ⟨rfl, rfl⟩

theorem fit2_false (a : Option Addr) (len cap : Nat) (s t : ByteArray) (w : World) (h : 1048576 < len + s.size + t.size) (h1 : len ≤ maxLen) (h2 : s.size ≤ maxLen) (h3 : t.size ≤ maxLen) :
    Calls Try.prog 12 #[.slice a len cap, .string s, .string t] w fun e w' => e = .returned (.bool false) ∧ w' = w := by
  unfold maxLen at h1 h2 h3
  by_cases c1 : 1048576 < len
  · go_enter Try.func12, Try.ntmps12
    go_wp2
    go_ret
    exact ⟨rfl, rfl⟩
  · by_cases c2 : 1048576 < s.size
    · go_enter Try.func12, Try.ntmps12
      go_wp2
      go_ret
      exact ⟨rfl, rfl⟩
    · by_cases c3 : 1048576 < len + s.size
      · go_enter Try.func12, Try.ntmps12
        go_wp2
        go_ret
        exact ⟨rfl, rfl⟩
      · by_cases c4 : 1048576 < t.size
        · go_enter Try.func12, Try.ntmps12
          go_wp2
          go_ret
          exact ⟨rfl, rfl⟩
        · go_enter Try.func12, Try.ntmps12
          go_wp2
          go_ret
          exact ⟨rfl, rfl⟩

end Go.Proofs.Qxb6608713a
