/-
  zzCloneBytes (8): a fresh row with the same bytes.
-/
import Derived.Test.Qxb6608713aReads
import Derived.Laws.CopyOwn
namespace Go.Proofs.Qxb6608713a
open Go.RowKit
set_option linter.unusedVariables false

theorem Try.info5 : (Try.prog.info? 5).map (fun i => (i.zero, i.size, i.bytes)) = some (some (.int .u8 0), 1, 1) := by kernel_rfl
theorem Try.size5 : (Try.prog.info? 5).map (·.size) = some 1 := by kernel_rfl

/-- 'copy' over the whole of a row of the call's own. -/
theorem copy_full (w1 : World) (g n cap : Nat) (x : Addr) (xs : List Int) (zs : List Value) (hl : xs.length = n) (hown : w1.ownsRow g 5 1 (.slice (some ⟨g, 0, none⟩) n n) n zs)
    (hc : ∀ i, i < n → w1.cell? (x.add i) = some (.int .u8 (xs.getD i 0))) :
    ∃ w2, (Builtin.copy_ #[22, 22] 3 #[.slice (some ⟨g, 0, none⟩) n n, .slice (some x) n cap]).run Try.prog w1 = .ok (.int .i64 n) w2 ∧
      w2.ownsRow g 5 1 (.slice (some ⟨g, 0, none⟩) n n) n (xs.map (Value.int .u8)) ∧ w1.grownBy w2 (some g) := by
  rcases hown.2 with ⟨h', _⟩ | ⟨g', cap', cur, h', hb, hg, hnc, hcm, hcs, htake⟩
  · simp at h'
  · simp only [Value.slice.injEq, Option.some.injEq, Addr.mk.injEq, and_true, true_and] at h'
    obtain ⟨rfl, rfl⟩ := h'
    have hcl : (xs.map (Value.int .u8)).length = n := by simpa using hl
    have hcs' : cur.size = n := by simpa using hcs
    have hr := run_copy_row (P := Try.prog) w1 22 22 3 5 g 0 n n x n cap cur 5 (xs.map (Value.int .u8)) Try.underlying22 Try.size5 hg (by rw [hcl]; exact (Nat.min_self n).symm)
      (fun j v hj => by
        have hjl : j < n := by have := (List.getElem?_eq_some_iff.1 hj).1; omega
        rw [hc j hjl]
        rw [List.getElem?_map, List.getElem?_eq_getElem (by omega)] at hj
        simpa [List.getD, show j < xs.length by omega] using hj)
      (by omega) (ints_oneCell _ _)
    have hcur : (cur.toList.take 0 ++ xs.map (Value.int .u8) ++ cur.toList.drop (0 + (xs.map (Value.int .u8)).length)) = xs.map (Value.int .u8) := by
      rw [hcl, List.drop_eq_nil_of_le (by rw [Array.length_toList]; omega)]
      simp
    rw [hcur, hcl] at hr
    refine ⟨_, hr, ⟨by simpa using hl, .inr ⟨g, n, _, rfl, hb, setRow_heap w1 g cur _ 5 _ hg, Nat.le_refl _, hcm, by simpa using hl, ?_⟩⟩, ⟨rfl, rfl, rfl, by simp [World.setRow], fun k _ hk => setRow_other w1 g k _ (fun e => hk (by rw [e]))⟩⟩
    rw [List.take_of_length_le (by simp; omega)]

theorem clone_any (v : Value) (n : Nat) (xs : List Int) (w : World) (h : Rd w v n xs) (hn : n ≤ 1000000000) :
    Calls Try.prog 8 #[v] w fun e w' => ∃ v', e = .returned v' ∧ w'.ownsRow w.heap.size 5 1 v' n (xs.map (Value.int .u8)) ∧ Below w.heap.size w w' := by
  obtain ⟨hl, a, cap, rfl, hnil, h1, h2, hc⟩ := h
  obtain ⟨i0, hi, hz0, hz1, hz2⟩ := info_parts Try.info5
  have hq : ∀ (w : World) (a : Option Addr) (n c : Nat), (binOp .eql 22 (.slice a n c) (.slice none 0 0)).run Try.prog w = .ok (.bool a.isNone) w := fun w a n c => Lib.run_eql_slice_nil w _ _ a n c 0 0 Try.underlying22
  cases a with
  | none =>
    obtain ⟨rfl, rfl⟩ := hnil rfl
    obtain rfl : xs = [] := List.eq_nil_of_length_eq_zero hl
    go_enter Try.func8, Try.ntmps8
    go_wp2
    go_ret
    exact ⟨_, rfl, World.ownsRow_nil _ _ _ _, Below.refl _ _⟩
  | some x =>
    go_enter Try.func8, Try.ntmps8
    go_wp2_with (at_make; refine wpList_make_full _ rfl _ _ 22 rfl w.heap.size 5 i0 (.int .u8 0) 1 Try.underlying22 hi hz0 hz1 _ _ _ _ n rfl rfl (by first | rfl | omega) (by first | rfl | omega) (by rw [hz2]; omega) (by unfold maxLen; omega) (Nat.le_refl _) ?_)
    intro w1 hown hgrow
    have hb1 : Below w.heap.size w w1 := (Below.refl _ _).grown hgrow (Nat.le_refl _) (fun k hk => by cases hk)
    obtain ⟨w2, hrun, hown2, hgrow2⟩ := copy_full w1 w.heap.size n cap x xs _ hl hown (fun i hi => cell_later hb1 (hc x rfl i hi))
    have hb2 : Below w.heap.size w w2 := hb1.grown hgrow2 hb1.size (fun k hk => by have := Option.some.inj hk; omega)
    clear hown hgrow hb1 hgrow2 hc
    go_wp2
    go_ret
    exact ⟨_, rfl, hown2, hb2⟩

end Go.Proofs.Qxb6608713a
