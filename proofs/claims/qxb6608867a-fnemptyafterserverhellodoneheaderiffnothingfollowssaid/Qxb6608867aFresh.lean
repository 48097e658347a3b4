/-
  MarshalServerHelloDone (6); the walk of FnServerHelloDoneFreshBufferEachCall (4).
-/
import Derived.Test.Qxb6608867aRows
import Derived.WalkKit
import Derived.WalkSpells
import Derived.WalkLawsBesides
import Derived.OpenShut
import Derived.Below
import Derived.BigQuiet
import Derived.BigRegion
import Derived.Deep.QuietTactic
import Derived.RowKit3
namespace Go.Proofs.Qxb6608867a
open Go.RowKit
set_option linter.unusedVariables false

theorem done_any (w : World) :
    Calls Try.prog 6 #[] w fun e w' => e = .returned (.slice (some ⟨w.heap.size, 0, none⟩) 4 4) ∧ w' = w.alloc (.cells #[.int .u8 14, .int .u8 0, .int .u8 0, .int .u8 0] 5) := by
  go_enter Try.func6, Try.ntmps6
  go_wp2
  go_ret
  exact ⟨rfl, rfl⟩

theorem fresh_any (w : World) : Calls Try.prog 4 #[] w fun e w' => e = .returned (.bool true) ∧ Grown w w' := by
  go_enter Try.func4, Try.ntmps4
  go_wp2_with fail
  refine (done_any w).mono ?_
  rintro e w' ⟨rfl, rfl⟩
  go_wp2
  go_loopw [2] (fun i wr => ∃ k : Nat, ∃ c : Array Value, k ≤ 4 ∧ i = .int .i64 k ∧ c.size = 4 ∧ wr = w.alloc (.cells c 5)) (fun i _ => 4 - (intOf i).toNat)
  case atStart => exact ⟨0, _, by omega, rfl, rfl, rfl⟩
  case round =>
    obtain ⟨k, c, hk, rfl, hc, rfl⟩ := hrel
    by_cases hlt : k < 4
    · obtain ⟨u, hu⟩ : ∃ u, c[k]? = some u := ⟨_, Array.getElem?_eq_getElem (by omega)⟩
      go_wp2
      go_roundw
      case rel => exact ⟨k + 1, _, by omega, by go_num, by simpa using hc, rfl⟩
      case measure => simp [intOf]; omega
    · go_wp2_with fail
      refine (done_any _).mono ?_
      rintro e w' ⟨rfl, rfl⟩
      go_wp2
      go_ret
      exact ⟨rfl, ((Grown.refl _).alloc _ _).alloc _ _⟩

end Go.Proofs.Qxb6608867a
