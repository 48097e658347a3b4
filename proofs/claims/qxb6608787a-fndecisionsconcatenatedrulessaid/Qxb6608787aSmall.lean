import Derived.Test.Qxb6608787aRows
import Derived.WalkKit
import Derived.WalkSpells
import Derived.WalkLawsBesides
import Derived.OpenShut
import Derived.Below
import Derived.BigQuiet
import Derived.BigRegion
import Derived.Deep.QuietTactic
namespace Go.Proofs.Qxb6608787a
open Go.RowKit
set_option linter.unusedVariables false

/-- The bound on the lengths. -/
theorem fit_true (q : Int) (a b : Option Addr) (la ca lb cb : Nat) (w : World) (h : la + lb ≤ 1048576) :
    Calls Try.prog 4 #[.int .u8 q, .slice a la ca, .slice b lb cb] w fun e w' => e = .returned (.bool true) ∧ w' = w := by
  go_enter Try.func4, Try.ntmps4
  go_wp2
  go_ret
  exact ⟨rfl, rfl⟩

theorem fit_false (q : Int) (a b : Option Addr) (la ca lb cb : Nat) (w : World) (h : 1048576 < la + lb) (h1 : la ≤ maxLen) (h2 : lb ≤ maxLen) :
    Calls Try.prog 4 #[.int .u8 q, .slice a la ca, .slice b lb cb] w fun e w' => e = .returned (.bool false) ∧ w' = w := by
  unfold maxLen at h1 h2
  by_cases h3 : 1048576 < la
  · go_enter Try.func4, Try.ntmps4
    go_wp2
    go_ret
    exact ⟨rfl, rfl⟩
  · by_cases h4 : 1048576 < lb
    · go_enter Try.func4, Try.ntmps4
      go_wp2
      go_ret
      exact ⟨rfl, rfl⟩
    · go_enter Try.func4, Try.ntmps4
      go_wp2
      go_ret
      exact ⟨rfl, rfl⟩

/-- The decision of the grants alone. -/
theorem grants_any (D : Nat) (q : Int) (w : World) (h0 : w.cell? ⟨D, 0, none⟩ = some (.int .u8 q)) :
    Calls Try.prog 11 #[.pointer (some ⟨D, 0, none⟩)] w fun e w' => e = .returned (.agg #[.int .u8 q, .bool true, .bool false, .int .u8 0, .int .i64 0, .int .i64 0, .bool false]) ∧ Below w.heap.size w w' := by
  have hD : D < w.heap.size := World.block_lt_of_cell? _ _ h0
  go_enter Try.func11, Try.ntmps11
  go_wp2
  exact bodyPost_ret (v := .agg #[.int .u8 q, .bool true, .bool false, .int .u8 0, .int .i64 0, .int .i64 0, .bool false]) (by simp [results, Try.results11, go_sem]) rfl ⟨rfl, (Below.refl _ _).alloc (Nat.le_refl _) _⟩

theorem runs_any (D R : Nat) (q : Int) (w : World) (h0 : w.cell? ⟨D, 0, none⟩ = some (.int .u8 q)) (h2 : w.cell? ⟨D, 2, none⟩ = some (.pointer (some ⟨R, 0, none⟩))) :
    Calls Try.prog 10 #[.pointer (some ⟨D, 0, none⟩)] w fun e w' => e = .returned (.bool (q != 0)) ∧ w' = w := by
  go_enter Try.func10, Try.ntmps10
  go_wp2
  go_ret
  exact ⟨rfl, rfl⟩

theorem below7 {B g : Nat} {w w0 : World} (h : Below B w w0) (hg : B ≤ g) (v0 v1 v2 v3 v4 v5 v6 : Value) :
    Below B w (((((((w0.setCell ⟨g, 0, none⟩ v0).setCell ⟨g, 1, none⟩ v1).setCell ⟨g, 2, none⟩ v2).setCell ⟨g, 3, none⟩ v3).setCell ⟨g, 4, none⟩ v4).setCell ⟨g, 5, none⟩ v5).setCell ⟨g, 6, none⟩ v6) :=
  ((((((h.setCell hg v0).setCell hg v1).setCell hg v2).setCell hg v3).setCell hg v4).setCell hg v5).setCell hg v6

set_option maxHeartbeats 1000000 in
theorem join_any (D : Nat) (q v l c : Int) (b : Bool) (w : World) (h0 : w.cell? ⟨D, 0, none⟩ = some (.int .u8 q)) (hv : v ≤ q) :
    Calls Try.prog 12 #[.pointer (some ⟨D, 0, none⟩), .agg #[.int .u8 v, .int .i64 l, .int .i64 c], .bool b] w
      fun e w' => e = .returned (.agg #[.int .u8 v, .bool (v == q), .bool true, .int .u8 v, .int .i64 l, .int .i64 c, .bool b]) ∧ Below w.heap.size w w' := by
  have hD : D < w.heap.size := World.block_lt_of_cell? _ _ h0
  go_enter Try.func12, Try.ntmps12
  go_wp2
  go_quiet (fail)
  go_wp2
  go_region
  go_wp2
  refine bodyPost_ret (v := .agg #[.int .u8 v, .bool (v == q), .bool true, .int .u8 v, .int .i64 l, .int .i64 c, .bool b]) (by simp [results, Try.results12, go_sem]) rfl ⟨rfl, ?_⟩
  exact below7 (below_drewN (((Below.refl _ w).alloc (Nat.le_refl _) _).alloc (by simp) _) _) (by omega) _ _ _ _ _ _ _

end Go.Proofs.Qxb6608787a
