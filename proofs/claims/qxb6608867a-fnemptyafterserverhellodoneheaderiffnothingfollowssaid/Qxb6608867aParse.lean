/-
  The parser: new (7), readBytes (16), readUint16 (14, 8), short (9), empty (15, 10), its bytes (13).
-/
import Derived.Test.Qxb6608867aFresh
namespace Go.Proofs.Qxb6608867a
open Go.RowKit
set_option linter.unusedVariables false

theorem new_any (a : Option Addr) (n cap : Nat) (s : Bool) (w : World) :
    Calls Try.prog 7 #[.slice a n cap, .bool s] w fun e w' => e = .returned (.pointer (some ⟨w.heap.size, 0, none⟩)) ∧ w' = w.alloc (.cells #[.slice a n cap, .bool s] 35) := by
  go_enter Try.func7, Try.ntmps7
  go_wp2
  go_ret
  exact ⟨rfl, rfl⟩

theorem short_any (D : Nat) (s : Bool) (w : World) (h1 : w.cell? ⟨D, 1, none⟩ = some (.bool s)) :
    Calls Try.prog 9 #[.pointer (some ⟨D, 0, none⟩)] w fun e w' => e = .returned (.bool s) ∧ w' = w := by
  go_enter Try.func9, Try.ntmps9
  go_wp2
  go_ret
  exact ⟨rfl, rfl⟩

theorem bytes_any (D : Nat) (a : Option Addr) (n cap : Nat) (w : World) (h0 : w.cell? ⟨D, 0, none⟩ = some (.slice a n cap)) :
    Calls Try.prog 13 #[.pointer (some ⟨D, 0, none⟩)] w fun e w' => e = .returned (.slice a n cap) ∧ w' = w := by
  go_enter Try.func13, Try.ntmps13
  go_wp2
  go_ret
  exact ⟨rfl, rfl⟩

theorem empty_any (D : Nat) (a : Option Addr) (n cap : Nat) (w : World) (h0 : w.cell? ⟨D, 0, none⟩ = some (.slice a n cap)) :
    Calls Try.prog 10 #[.pointer (some ⟨D, 0, none⟩)] w fun e w' => e = .returned (.bool ((n : Int) == 0)) ∧ w' = w := by
  have h15 : Calls Try.prog 15 #[.pointer (some ⟨D, 0, none⟩)] w fun e w' => e = .returned (.bool ((n : Int) == 0)) ∧ w' = w := by
    go_enter Try.func15, Try.ntmps15
    go_wp2
    go_ret
    exact ⟨rfl, rfl⟩
  go_enter Try.func10, Try.ntmps10
  go_wp2_with fail
  refine h15.mono ?_
  rintro e w' ⟨rfl, hw⟩
  obtain rfl := hw.symm
  go_wp2
  go_ret
  exact ⟨rfl, rfl⟩

/-- readBytes(2), bytes being left behind. -/
theorem two_more (D b o n cap : Nat) (w : World) (h0 : w.cell? ⟨D, 0, none⟩ = some (.slice (some ⟨b, o, none⟩) n cap)) (f0 : w.frozen? ⟨D, 0, none⟩ = false) (hn : 2 ≤ n) (hc : n ≤ cap) (hc2 : ¬ cap = 2) :
    Calls Try.prog 16 #[.pointer (some ⟨D, 0, none⟩), .int .i64 2] w fun e w' => e = .returned (.slice (some ⟨b, o, none⟩) 2 2) ∧ w' = w.setCell ⟨D, 0, none⟩ (.slice (some ⟨b, o + 2, none⟩) (n - 2) (cap - 2)) := by
  go_enter Try.func16, Try.ntmps16
  go_wp2
  go_ret
  exact ⟨rfl, rfl⟩

theorem two_last (D b o n : Nat) (w : World) (h0 : w.cell? ⟨D, 0, none⟩ = some (.slice (some ⟨b, o, none⟩) 2 2)) (f0 : w.frozen? ⟨D, 0, none⟩ = false) :
    Calls Try.prog 16 #[.pointer (some ⟨D, 0, none⟩), .int .i64 2] w fun e w' => e = .returned (.slice (some ⟨b, o, none⟩) 2 2) ∧ w' = w.setCell ⟨D, 0, none⟩ (.slice (some ⟨b, o, none⟩) 0 0) := by
  go_enter Try.func16, Try.ntmps16
  go_wp2
  go_ret
  exact ⟨rfl, rfl⟩

end Go.Proofs.Qxb6608867a
