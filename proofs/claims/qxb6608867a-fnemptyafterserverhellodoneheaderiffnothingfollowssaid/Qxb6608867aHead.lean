/-
  readUint16 (14, 8) at the header's octets; the walk of FnServerHelloDoneHeaderParsesToEmptyBody (3).
-/
import Derived.Test.Qxb6608867aParse
namespace Go.Proofs.Qxb6608867a
open Go.RowKit
set_option linter.unusedVariables false

/-- The first two octets: 14, 0. -/
theorem first16 (D b o n cap : Nat) (w : World) (h0 : w.cell? ⟨D, 0, none⟩ = some (.slice (some ⟨b, o, none⟩) n cap)) (f0 : w.frozen? ⟨D, 0, none⟩ = false) (hn : 2 ≤ n) (hc : n ≤ cap) (hc2 : ¬ cap = 2)
    (hne : ¬ b = D) (c0 : w.cell? ⟨b, o, none⟩ = some (.int .u8 14)) (c1 : w.cell? ⟨b, o + 1, none⟩ = some (.int .u8 0)) :
    Calls Try.prog 8 #[.pointer (some ⟨D, 0, none⟩)] w fun e w' => e = .returned (.int .u16 3584) ∧ ∃ m, w' = (w.setCell ⟨D, 0, none⟩ (.slice (some ⟨b, o + 2, none⟩) (n - 2) (cap - 2))).drewN m := by
  have hq : ∀ (w : World) (a : Option Addr) (n c : Nat), (binOp .eql 22 (.slice a n c) (.slice none 0 0)).run Try.prog w = .ok (.bool a.isNone) w := fun w a n c => Lib.run_eql_slice_nil w _ _ a n c 0 0 Try.underlying22
  have h14 : Calls Try.prog 14 #[.pointer (some ⟨D, 0, none⟩)] w fun e w' => e = .returned (.int .u16 3584) ∧ ∃ m, w' = (w.setCell ⟨D, 0, none⟩ (.slice (some ⟨b, o + 2, none⟩) (n - 2) (cap - 2))).drewN m := by
    go_enter Try.func14, Try.ntmps14
    go_wp2_with fail
    refine (two_more D b o n cap w h0 f0 hn hc hc2).mono ?_
    rintro e w' ⟨rfl, rfl⟩
    go_wp2
    go_quiet (fail)
    go_wp2
    go_ret
    exact ⟨rfl, _, rfl⟩
  go_enter Try.func8, Try.ntmps8
  go_wp2_with fail
  refine h14.mono ?_
  rintro e w' ⟨rfl, m, rfl⟩
  go_wp2
  go_ret
  exact ⟨rfl, m, rfl⟩

/-- The next two: 0, 0. -/
theorem next16 (D b o n cap : Nat) (w : World) (h0 : w.cell? ⟨D, 0, none⟩ = some (.slice (some ⟨b, o, none⟩) n cap)) (f0 : w.frozen? ⟨D, 0, none⟩ = false) (hn : 2 ≤ n) (hc : n ≤ cap) (hc2 : ¬ cap = 2)
    (hne : ¬ b = D) (c0 : w.cell? ⟨b, o, none⟩ = some (.int .u8 0)) (c1 : w.cell? ⟨b, o + 1, none⟩ = some (.int .u8 0)) :
    Calls Try.prog 8 #[.pointer (some ⟨D, 0, none⟩)] w fun e w' => e = .returned (.int .u16 0) ∧ ∃ m, w' = (w.setCell ⟨D, 0, none⟩ (.slice (some ⟨b, o + 2, none⟩) (n - 2) (cap - 2))).drewN m := by
  have hq : ∀ (w : World) (a : Option Addr) (n c : Nat), (binOp .eql 22 (.slice a n c) (.slice none 0 0)).run Try.prog w = .ok (.bool a.isNone) w := fun w a n c => Lib.run_eql_slice_nil w _ _ a n c 0 0 Try.underlying22
  have h14 : Calls Try.prog 14 #[.pointer (some ⟨D, 0, none⟩)] w fun e w' => e = .returned (.int .u16 0) ∧ ∃ m, w' = (w.setCell ⟨D, 0, none⟩ (.slice (some ⟨b, o + 2, none⟩) (n - 2) (cap - 2))).drewN m := by
    go_enter Try.func14, Try.ntmps14
    go_wp2_with fail
    refine (two_more D b o n cap w h0 f0 hn hc hc2).mono ?_
    rintro e w' ⟨rfl, rfl⟩
    go_wp2
    go_quiet (fail)
    go_wp2
    go_ret
    exact ⟨rfl, _, rfl⟩
  go_enter Try.func8, Try.ntmps8
  go_wp2_with fail
  refine h14.mono ?_
  rintro e w' ⟨rfl, m, rfl⟩
  go_wp2
  go_ret
  exact ⟨rfl, m, rfl⟩

/-- The next two: 0, 0, and nothing is left. -/
theorem last16 (D b o : Nat) (w : World) (h0 : w.cell? ⟨D, 0, none⟩ = some (.slice (some ⟨b, o, none⟩) 2 2)) (f0 : w.frozen? ⟨D, 0, none⟩ = false)
    (hne : ¬ b = D) (c0 : w.cell? ⟨b, o, none⟩ = some (.int .u8 0)) (c1 : w.cell? ⟨b, o + 1, none⟩ = some (.int .u8 0)) :
    Calls Try.prog 8 #[.pointer (some ⟨D, 0, none⟩)] w fun e w' => e = .returned (.int .u16 0) ∧ ∃ m, w' = (w.setCell ⟨D, 0, none⟩ (.slice (some ⟨b, o, none⟩) 0 0)).drewN m := by
  have hq : ∀ (w : World) (a : Option Addr) (n c : Nat), (binOp .eql 22 (.slice a n c) (.slice none 0 0)).run Try.prog w = .ok (.bool a.isNone) w := fun w a n c => Lib.run_eql_slice_nil w _ _ a n c 0 0 Try.underlying22
  have h14 : Calls Try.prog 14 #[.pointer (some ⟨D, 0, none⟩)] w fun e w' => e = .returned (.int .u16 0) ∧ ∃ m, w' = (w.setCell ⟨D, 0, none⟩ (.slice (some ⟨b, o, none⟩) 0 0)).drewN m := by
    go_enter Try.func14, Try.ntmps14
    go_wp2_with fail
    refine (two_last D b o 2 w h0 f0).mono ?_
    rintro e w' ⟨rfl, rfl⟩
    go_wp2
    go_quiet (fail)
    go_wp2
    go_ret
    exact ⟨rfl, _, rfl⟩
  go_enter Try.func8, Try.ntmps8
  go_wp2_with fail
  refine h14.mono ?_
  rintro e w' ⟨rfl, m, rfl⟩
  go_wp2
  go_ret
  exact ⟨rfl, m, rfl⟩

/-- The parser's first field has been moved on; nothing else has turned. -/
structure Moved (D : Nat) (v : Value) (w w' : World) : Prop where
  here : w'.cell? ⟨D, 0, none⟩ = some v
  other : ∀ a, a ≠ ⟨D, 0, none⟩ → w'.cell? a = w.cell? a
  ice : ∀ a, w'.frozen? a = w.frozen? a
  grown : ∀ W, Grown W w → W.heap.size ≤ D → Grown W w'
  below : ∀ W, Below W.heap.size W w → W.heap.size ≤ D → Below W.heap.size W w'

theorem Moved.mk' {D : Nat} {u v : Value} {w : World} (h : w.cell? ⟨D, 0, none⟩ = some u) (m : Nat) : Moved D v w ((w.setCell ⟨D, 0, none⟩ v).drewN m) :=
  ⟨World.cell?_setCell_same (w := w) (a := ⟨D, 0, none⟩) (v := v) h, fun a ha => World.cell?_setCell_other (w := w) (a := ⟨D, 0, none⟩) (b := a) (v := v) (h := Ne.symm ha), fun a => by simp, fun W hg hD => Grown.setCell hg (a := ⟨D, 0, none⟩) hD v, fun W hb hD => below_drewN (hb.setCell (p := ⟨D, 0, none⟩) hD v) m⟩

/-- The law of the bare header. -/
theorem head_any (w : World) : Calls Try.prog 3 #[] w fun e w' => e = .returned (.bool true) ∧ Grown w w' := by
  go_enter Try.func3, Try.ntmps3
  go_wp2_with fail
  refine (done_any w).mono ?_
  rintro e w' ⟨rfl, rfl⟩
  go_wp2_with fail
  refine (new_any _ _ _ _ _).mono ?_
  rintro e w1 ⟨rfl, hw1⟩
  have d0 : w1.cell? ⟨w.heap.size + 1, 0, none⟩ = some (.slice (some ⟨w.heap.size, 0, none⟩) 4 4) := by rw [hw1]; simp
  have d1 : w1.cell? ⟨w.heap.size + 1, 1, none⟩ = some (.bool false) := by rw [hw1]; simp
  have df : w1.frozen? ⟨w.heap.size + 1, 0, none⟩ = false := by rw [hw1]; simp
  have b0 : w1.cell? ⟨w.heap.size, 0, none⟩ = some (.int .u8 14) := by rw [hw1]; simp
  have b1 : w1.cell? ⟨w.heap.size, 1, none⟩ = some (.int .u8 0) := by rw [hw1]; simp
  have b2 : w1.cell? ⟨w.heap.size, 2, none⟩ = some (.int .u8 0) := by rw [hw1]; simp
  have b3 : w1.cell? ⟨w.heap.size, 3, none⟩ = some (.int .u8 0) := by rw [hw1]; simp
  have hg : Grown w w1 := by rw [hw1]; exact ((Grown.refl _).alloc _ _).alloc _ _
  clear hw1
  go_wp2_with fail
  refine (first16 (w.heap.size + 1) w.heap.size 0 4 4 _ d0 df (by omega) (by omega) (by omega) (by omega) b0 b1).mono ?_
  rintro e w2 ⟨rfl, m, hw2⟩
  have M1 : Moved (w.heap.size + 1) (.slice (some ⟨w.heap.size, 2, none⟩) 2 2) w1 w2 := by rw [hw2]; exact Moved.mk' d0 m
  clear hw2
  go_wp2_with fail
  refine (last16 (w.heap.size + 1) w.heap.size 2 _ M1.here ((M1.ice _).trans df) (by omega) ((M1.other _ (by simp)).trans b2) ((M1.other _ (by simp)).trans b3)).mono ?_
  rintro e w3 ⟨rfl, m2, hw3⟩
  have M2 : Moved (w.heap.size + 1) (.slice (some ⟨w.heap.size, 2, none⟩) 0 0) w2 w3 := by rw [hw3]; exact Moved.mk' M1.here m2
  clear hw3
  go_wp2_with fail
  refine (short_any (w.heap.size + 1) false _ ((M2.other _ (by simp)).trans ((M1.other _ (by simp)).trans d1))).mono ?_
  rintro e w' ⟨rfl, hw⟩
  obtain rfl := hw.symm
  go_wp2_with fail
  refine (empty_any (w.heap.size + 1) (some ⟨w.heap.size, 2, none⟩) 0 0 _ M2.here).mono ?_
  rintro e w' ⟨rfl, hw⟩
  obtain rfl := hw.symm
  have hend := M2.grown w (M1.grown w hg (by omega)) (by omega)
  clear M1 M2 d0 d1 df b0 b1 b2 b3 hg
  have k1 : bits BinOp.and IntKind.u16 3584 255 = 0 := by kernel_rfl
  have k2 : bits BinOp.or IntKind.i64 0 0 = 0 := by kernel_rfl
  have k3 : wrap64 0 = 0 := by kernel_rfl
  go_wp2
  go_ret
  exact ⟨rfl, hend⟩

end Go.Proofs.Qxb6608867a
