/-
  A SLICE OF BYTES AS IT READS; zzSameBytes (12); the bound on lengths (11).
-/
import Derived.Test.Qxb6608867aHead
namespace Go.Proofs.Qxb6608867a
open Go.RowKit
set_option linter.unusedVariables false

/-- The slice value v, of n bytes, reads as xs. -/
def Rd (w : World) (v : Value) (n : Nat) (xs : List Int) : Prop :=
  xs.length = n ∧ ∃ a cap, v = .slice a n cap ∧ (a = none → n = 0 ∧ cap = 0) ∧ n ≤ cap ∧ cap ≤ maxLen ∧
    ∀ x, a = some x → ∀ i, i < n → w.cell? (x.add i) = some (.int .u8 (xs.getD i 0))

/-- Where there is a byte, there is an address. -/
theorem Rd.at {w : World} {v : Value} {n : Nat} {xs : List Int} (h : Rd w v n xs) (hp : 0 < n) :
    ∃ b o cap, v = .slice (some ⟨b, o, none⟩) n cap ∧ n ≤ cap ∧ cap ≤ maxLen ∧ ∀ i, i < n → w.cell? ⟨b, o + i, none⟩ = some (.int .u8 (xs.getD i 0)) := by
  obtain ⟨hl, a, cap, rfl, hn, h1, h2, hc⟩ := h
  cases a with
  | none => have := (hn rfl).1; omega
  | some x =>
    obtain ⟨b, o, rfl, hc'⟩ := ints_at (k := .u8) (zs := xs) (w := w) (a := x) (fun i hi => hc x rfl i (by omega)) (by omega)
    exact ⟨b, o, cap, rfl, h1, h2, fun i hi => hc' i (by omega)⟩

theorem Rd.drewN {w : World} {v : Value} {n : Nat} {xs : List Int} (h : Rd w v n xs) (q : Nat) : Rd (w.drewN q) v n xs := h

/-- What is owned reads. -/
theorem Rd.of_owns {w : World} {base : Nat} {v : Value} {n : Nat} {xs : List Int} (h : w.ownsRow base 5 1 v n (xs.map (Value.int .u8))) : Rd w v n xs := by
  have hl : xs.length = n := by simpa using h.1
  refine ⟨hl, ?_⟩
  rcases h.2 with ⟨rfl, rfl⟩ | ⟨g, cap, cur, rfl, hb, hg, h1, h2, h3, h4⟩
  · exact ⟨none, 0, rfl, fun _ => ⟨rfl, rfl⟩, Nat.le_refl _, Nat.zero_le _, fun x hx => by cases hx⟩
  · refine ⟨some ⟨g, 0, none⟩, cap, rfl, (fun hx => by cases hx), h1, h2, ?_⟩
    intro x hx i hi
    obtain rfl := Option.some.inj hx
    refine h.cells (g := g) rfl i _ ?_
    rw [List.getElem?_map, List.getElem?_eq_getElem (by omega)]
    simp [List.getD, show i < xs.length by omega]

/-- A cell that was there is there in a world that lies below. -/
theorem Rd.below {w w' : World} {v : Value} {n : Nat} {xs : List Int} (h : Rd w v n xs) (hb : Below w.heap.size w w') : Rd w' v n xs := by
  obtain ⟨hl, a, cap, rfl, hn, h1, h2, hc⟩ := h
  exact ⟨hl, a, cap, rfl, hn, h1, h2, fun x hx i hi => cell_later hb (hc x hx i hi)⟩

theorem len_le {w : World} {v : Value} {n : Nat} {xs : List Int} (h : Rd w v n xs) : n ≤ 9223372036854775807 := by
  obtain ⟨_, _, cap, _, _, h1, h2, _⟩ := h
  unfold maxLen at h2
  omega

/-- Two slices of the same bytes. -/
theorem eq_true (v1 v2 : Value) (n : Nat) (xs : List Int) (w : World) (h1 : Rd w v1 n xs) (h2 : Rd w v2 n xs) :
    Calls Try.prog 12 #[v1, v2] w fun e w' => e = .returned (.bool true) ∧ ∃ m, w' = w.drewN m := by
  have hmx := len_le h1
  by_cases hp : 0 < n
  · obtain ⟨b1, o1, cap1, rfl, _, _, hc1⟩ := h1.at hp
    obtain ⟨b2, o2, cap2, rfl, _, _, hc2⟩ := h2.at hp
    clear h1 h2
    go_enter Try.func12, Try.ntmps12
    go_wp2
    go_loopw [5] (fun i wr => ∃ k : Nat, k ≤ n ∧ i = .int .i64 k ∧ ∃ m, wr = w.drewN m) (fun i _ => n - (intOf i).toNat)
    case atStart => exact ⟨0, Nat.zero_le _, rfl, 0, rfl⟩
    case round =>
      obtain ⟨k, hk, rfl, m, rfl⟩ := hrel
      by_cases hlt : k < n
      · have g1 := hc1 k hlt
        have g2 := hc2 k hlt
        clear hc1 hc2
        have hlt' : (k : Int) < (n : Int) := by omega
        go_wp2
        go_quiet (fail)
        go_wp2
        go_roundw
        case rel => exact ⟨k + 1, by omega, by go_num, _, rfl⟩
        case measure => simp [intOf]; omega
      · go_wp2
        go_ret
        exact ⟨rfl, m, rfl⟩
  · obtain rfl : n = 0 := by omega
    obtain ⟨_, a1, cap1, rfl, _, _, _, _⟩ := h1
    obtain ⟨_, a2, cap2, rfl, _, _, _, _⟩ := h2
    go_enter Try.func12, Try.ntmps12
    go_wp2
    refine wp_loop_rounds 1 ?_
    rw [rounds_succ]
    go_wp2
    go_ret
    exact ⟨rfl, 0, rfl⟩

theorem fit_true (a : Option Addr) (len cap : Nat) (s : Bool) (w : World) (h : len ≤ 1048576) :
    Calls Try.prog 11 #[.slice a len cap, .bool s] w fun e w' => e = .returned (.bool true) ∧ w' = w := by
  go_enter Try.func11, Try.ntmps11
  go_wp2
  go_ret
  exact ⟨rfl, rfl⟩

theorem fit_false (a : Option Addr) (len cap : Nat) (s : Bool) (w : World) (h : 1048576 < len) :
    Calls Try.prog 11 #[.slice a len cap, .bool s] w fun e w' => e = .returned (.bool false) ∧ w' = w := by
  go_enter Try.func11, Try.ntmps11
  go_wp2
  go_ret
  exact ⟨rfl, rfl⟩

end Go.Proofs.Qxb6608867a
