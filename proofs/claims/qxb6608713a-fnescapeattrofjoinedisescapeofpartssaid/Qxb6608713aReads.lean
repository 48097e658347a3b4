/-
  A SLICE OF BYTES, AS IT READS IN A WORLD: one predicate for what came in and for what the call owns; and the two small callees that only read.
-/
import Derived.Test.Qxb6608713aRows
import Derived.Test.Qxb6608713aPlain
import Derived.WalkKit
import Derived.WalkSpells
import Derived.WalkLawsBesides
import Derived.OpenShut
import Derived.Below
import Derived.BigQuiet
import Derived.Deep.QuietTactic
import Derived.Lib.AppendStr
namespace Go.Proofs.Qxb6608713a
open Go.RowKit

/-- The slice value v, of n bytes, reads as xs. -/
def Rd (w : World) (v : Value) (n : Nat) (xs : List Int) : Prop :=
  xs.length = n ∧ ∃ a cap, v = .slice a n cap ∧ (a = none → n = 0 ∧ cap = 0) ∧ n ≤ cap ∧ cap ≤ maxLen ∧
    ∀ x, a = some x → ∀ i, i < n → w.cell? (x.add i) = some (.int .u8 (xs.getD i 0))

/-- Where there is a byte, there is an address. -/
theorem Rd.at {w : World} {v : Value} {n : Nat} {xs : List Int} (h : Rd w v n xs) (hp : 0 < n) :
    ∃ b o cap, v = .slice (some ⟨b, o, none⟩) n cap ∧ n ≤ cap ∧ cap ≤ maxLen ∧ ∀ i, i < n → w.cell? ⟨b, o + i, none⟩ = some (.int .u8 (xs.getD i 0)) := by
  obtain ⟨hl, a, cap, rfl, hn, h1, h2, hc⟩ := h
  cases a with
  | none => have := (hn rfl).1; omega
  | some x =>
    obtain ⟨b, o, rfl, hc'⟩ := ints_at (k := .u8) (zs := xs) (w := w) (a := x) (fun i hi => hc x rfl i (by omega)) (by omega)
    exact ⟨b, o, cap, rfl, h1, h2, fun i hi => hc' i (by omega)⟩

theorem Rd.drewN {w : World} {v : Value} {n : Nat} {xs : List Int} (h : Rd w v n xs) (q : Nat) : Rd (w.drewN q) v n xs := h

/-- What is owned reads. -/
theorem Rd.of_owns {w : World} {base : Nat} {v : Value} {n : Nat} {xs : List Int} (h : w.ownsRow base 5 1 v n (xs.map (Value.int .u8))) : Rd w v n xs := by
  have hl : xs.length = n := by simpa using h.1
  refine ⟨hl, ?_⟩
  rcases h.2 with ⟨rfl, rfl⟩ | ⟨g, cap, cur, rfl, hb, hg, h1, h2, h3, h4⟩
  · exact ⟨none, 0, rfl, fun _ => ⟨rfl, rfl⟩, Nat.le_refl _, Nat.zero_le _, fun x hx => by cases hx⟩
  · refine ⟨some ⟨g, 0, none⟩, cap, rfl, (fun hx => by cases hx), h1, h2, ?_⟩
    intro x hx i hi
    obtain rfl := Option.some.inj hx
    refine h.cells (g := g) rfl i _ ?_
    rw [List.getElem?_map, List.getElem?_eq_getElem (by omega)]
    simp [List.getD, show i < xs.length by omega]

/-- The first k bytes of what reads. -/
theorem Rd.first {w : World} {a : Option Addr} {n cap k : Nat} {xs : List Int} (h : Rd w (.slice a n cap) n xs) (hk : k ≤ n) : Rd w (.slice a k cap) k (xs.take k) := by
  obtain ⟨hl, a', cap', hv, hn, h1, h2, hc⟩ := h
  obtain ⟨rfl, rfl⟩ : a = a' ∧ cap = cap' := by simpa using hv
  refine ⟨by rw [List.length_take]; omega, a, cap, rfl, fun e => ?_, by omega, h2, ?_⟩
  · have := hn e; omega
  · intro x hx i hi
    rw [hc x hx i (by omega)]
    simp [List.getD, hi]

/-- What lies behind the first k bytes. -/
theorem Rd.behind {w : World} {a : Option Addr} {n cap k : Nat} {xs : List Int} (h : Rd w (.slice a n cap) n xs) (hk : k ≤ n) : Rd w (sliced a k n cap 1) (n - k) (xs.drop k) := by
  obtain ⟨hl, a', cap', hv, hn, h1, h2, hc⟩ := h
  obtain ⟨rfl, rfl⟩ : a = a' ∧ cap = cap' := by simpa using hv
  refine ⟨by rw [List.length_drop]; omega, _, _, rfl, fun e => ?_, by omega, by omega, ?_⟩
  · cases a with
    | none => have := hn rfl; omega
    | some x => split at e <;> simp at e
  · intro x hx i hi
    rw [if_neg (by omega)] at hx
    cases a with
    | none => have := hn rfl; omega
    | some y =>
      obtain rfl : y.add (k * 1) = x := by simpa using hx
      have e : (y.add (k * 1)).add i = y.add (k + i) := by
        unfold Addr.add
        by_cases hk0 : k = 0
        · subst hk0; simp
        · by_cases hi0 : i = 0
          · subst hi0; simp [hk0]
          · simp [hk0, hi0, Nat.add_assoc]
      rw [e, hc y rfl (k + i) (by omega)]
      simp [List.getD]

/-- A cell that was there is there in a world that lies below. -/
theorem Rd.below {w w' : World} {v : Value} {n : Nat} {xs : List Int} (h : Rd w v n xs) (hb : Below w.heap.size w w') : Rd w' v n xs := by
  obtain ⟨hl, a, cap, rfl, hn, h1, h2, hc⟩ := h
  exact ⟨hl, a, cap, rfl, hn, h1, h2, fun x hx i hi => cell_later hb (hc x hx i hi)⟩

theorem len_le {w : World} {v : Value} {n : Nat} {xs : List Int} (h : Rd w v n xs) : n ≤ 9223372036854775807 := by
  obtain ⟨_, _, cap, _, _, h1, h2, _⟩ := h
  unfold maxLen at h2
  omega

end Go.Proofs.Qxb6608713a
