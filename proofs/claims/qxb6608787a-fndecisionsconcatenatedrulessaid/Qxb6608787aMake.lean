/-
  zzReturns (6): a fresh slice of returns.
-/
import Derived.Test.Qxb6608787aReads
namespace Go.Proofs.Qxb6608787a
open Go.RowKit
set_option linter.unusedVariables false

theorem Try.info29 : (Try.prog.info? 29).map (fun i => (i.zero, i.size, i.bytes)) = some (some (.agg #[.int .u8 0, .int .i64 0, .int .i64 0]), 3, 24) := by kernel_rfl

theorem set3 {α : Type} (ys : List α) (x y z : α) (rest : List α) (a b c : α) : (((ys ++ x :: y :: z :: rest).set ys.length a).set (ys.length + 1) b).set (ys.length + 2) c = ys ++ a :: b :: c :: rest := by
  simp

/-- Three cells more are laid. -/
theorem lay3 (xs ys : List Value) (m : Nat) (hm : xs.take m = ys) (hl : m + 3 ≤ xs.length) (a b c : Value) : (((xs.set m a).set (m + 1) b).set (m + 2) c).take (m + 3) = ys ++ [a, b, c] := by
  have hy : ys.length = m := by rw [← hm, List.length_take]; omega
  have hx : xs = ys ++ xs.drop m := by rw [← hm, List.take_append_drop]
  have hd : 3 ≤ (xs.drop m).length := by rw [List.length_drop]; omega
  generalize xs.drop m = zs at hx hd
  match zs, hd with
  | x :: y :: z :: rest, _ =>
    rw [hx, ← hy, set3]
    have e : ys ++ a :: b :: c :: rest = (ys ++ [a, b, c]) ++ rest := by simp
    rw [e]
    exact List.take_left' (by simp)

theorem flatR_len (rs : List R3) : (rs.flatMap cellsR).length = rs.length * 3 := by
  induction rs with
  | nil => rfl
  | cons r rs ih => rw [List.flatMap_cons, List.length_append, ih, List.length_cons]; simp [cellsR]; omega

theorem flatR_snoc (rs : List R3) (k : Nat) (h : k < rs.length) : (rs.take (k + 1)).flatMap cellsR = (rs.take k).flatMap cellsR ++ [.int .u8 (rs.getD k r0).v, .int .i64 (rs.getD k r0).l, .int .i64 (rs.getD k r0).c] := by
  rw [take_snoc rs k h, List.flatMap_append]
  simp [cellsR]

/-- What is owned, three cells of it stored. -/
theorem own3 {wr : World} {B g n : Nat} {xs : List Value} (h : wr.ownsRow B 29 3 (.slice (some ⟨g, 0, none⟩) n n) n xs) (m : Nat) (a b c : Value) :
    (((wr.setCell ⟨g, m, none⟩ a).setCell ⟨g, m + 1, none⟩ b).setCell ⟨g, m + 2, none⟩ c).ownsRow B 29 3 (.slice (some ⟨g, 0, none⟩) n n) n (((xs.set m a).set (m + 1) b).set (m + 2) c) :=
  (((h.stored m a).1.stored (m + 1) b).1.stored (m + 2) c).1

theorem own_cell {wr : World} {B g n : Nat} {xs : List Value} (h : wr.ownsRow B 29 3 (.slice (some ⟨g, 0, none⟩) n n) n xs) (j : Nat) (hj : j < n * 3) : ∃ u, wr.cell? ⟨g, j, none⟩ = some u := by
  rw [h.cellAt j hj]
  exact ⟨_, List.getElem?_eq_getElem (by rw [h.1]; exact hj)⟩

theorem below3 {B g : Nat} {w w0 : World} (h : Below B w w0) (hg : B ≤ g) (m : Nat) (v0 v1 v2 : Value) :
    Below B w (((w0.setCell ⟨g, m, none⟩ v0).setCell ⟨g, m + 1, none⟩ v1).setCell ⟨g, m + 2, none⟩ v2) :=
  ((h.setCell hg v0).setCell hg v1).setCell hg v2

theorem laid_next (rs : List R3) (k : Nat) (hk : k < rs.length) (xs : List Value) (hT : xs.take (k * 3) = (rs.take k).flatMap cellsR) (hl : k * 3 + 3 ≤ xs.length) {rv rl rc : Int} (hv : rv = (rs.getD k r0).v) (hL : rl = (rs.getD k r0).l) (hC : rc = (rs.getD k r0).c) :
    (((xs.set (k * 3) (.int .u8 rv)).set (k * 3 + 1) (.int .i64 rl)).set (k * 3 + 2) (.int .i64 rc)).take ((k + 1) * 3) = (rs.take (k + 1)).flatMap cellsR := by
  rw [show (k + 1) * 3 = k * 3 + 3 by omega, lay3 xs _ (k * 3) hT hl, flatR_snoc rs k hk, hv, hL, hC]

set_option maxHeartbeats 1000000 in
theorem rets_any (v : Value) (n : Nat) (rs : List R3) (w : World) (h : RdR w v n rs) (hn : n ≤ 1000000) :
    Calls Try.prog 6 #[v] w fun e w' => e = .returned (.slice (some ⟨w.heap.size, 0, none⟩) n n) ∧ w'.ownsRow w.heap.size 29 3 (.slice (some ⟨w.heap.size, 0, none⟩) n n) n (rs.flatMap cellsR) ∧ Below w.heap.size w w' := by
  obtain ⟨i0, hi, hz0, hz1, hz2⟩ := info_parts Try.info29
  have hl := h.1
  by_cases hp : 0 < n
  · obtain ⟨b, o, cap, rfl, _, _, hc⟩ := h.at hp
    clear h
    have hbl : b < w.heap.size := World.block_lt_of_cell? _ _ (hc 0 hp).1
    go_enter Try.func6, Try.ntmps6
    go_wp2_with (at_make; refine wpList_make_full _ rfl _ _ 26 rfl w.heap.size 29 i0 (.agg #[.int .u8 0, .int .i64 0, .int .i64 0]) 3 Try.underlying26 hi hz0 hz1 _ _ _ _ n rfl rfl (by first | rfl | omega) (by first | rfl | omega) (by rw [hz2]; omega) (by unfold maxLen; omega) (Nat.le_refl _) ?_)
    intro w1 hown hgrow
    have hb1 : Below w.heap.size w w1 := (Below.refl _ _).grown hgrow (Nat.le_refl _) (fun k hk => by cases hk)
    clear hgrow
    obtain ⟨xs0, hown⟩ : ∃ xs, w1.ownsRow w.heap.size 29 3 (.slice (some ⟨w.heap.size, 0, none⟩) n n) n xs := ⟨_, hown⟩
    go_wp2
    go_loopw [4] (fun i wr => ∃ k : Nat, ∃ xs, k ≤ n ∧ i = .int .i64 k ∧ wr.ownsRow w.heap.size 29 3 (.slice (some ⟨w.heap.size, 0, none⟩) n n) n xs ∧ Hid (xs.take (k * 3) = (rs.take k).flatMap cellsR) ∧ Below w.heap.size w wr) (fun i _ => n - (intOf i).toNat)
    case atStart => exact ⟨0, xs0, Nat.zero_le _, rfl, hown, rfl, hb1⟩
    case round =>
      obtain ⟨k, xs, hk, rfl, how, HT, hbr⟩ := hrel
      by_cases hlt : k < n
      · have g0 := (hbr.cell (p := ⟨b, o + k * 3, none⟩) hbl).trans (hc k hlt).1
        have g1 := (hbr.cell (p := ⟨b, o + k * 3 + 1, none⟩) hbl).trans (hc k hlt).2.1
        have g2 := (hbr.cell (p := ⟨b, o + k * 3 + 2, none⟩) hbl).trans (hc k hlt).2.2
        obtain ⟨u0, e0⟩ := own_cell how (k * 3) (by omega)
        obtain ⟨u1, e1⟩ := own_cell how (k * 3 + 1) (by omega)
        obtain ⟨u2, e2⟩ := own_cell how (k * 3 + 2) (by omega)
        have f0 := how.frozenAt (k * 3)
        have f1 := how.frozenAt (k * 3 + 1)
        have f2 := how.frozenAt (k * 3 + 2)
        obtain ⟨r, hr⟩ : ∃ r, r = rs.getD k r0 := ⟨_, rfl⟩
        rw [← hr] at g0 g1 g2
        have HR : Hid (r = rs.getD k r0) := hr
        obtain ⟨rv, hrv⟩ : ∃ x, x = r.v := ⟨_, rfl⟩
        obtain ⟨rl, hrl⟩ : ∃ x, x = r.l := ⟨_, rfl⟩
        obtain ⟨rc, hrc⟩ : ∃ x, x = r.c := ⟨_, rfl⟩
        rw [← hrv] at g0
        rw [← hrl] at g1
        rw [← hrc] at g2
        have HV : Hid (rv = r.v ∧ rl = r.l ∧ rc = r.c) := ⟨hrv, hrl, hrc⟩
        clear hr hrv hrl hrc hown hb1
        have hkI : (k : Int) < (n : Int) := by omega
        have hk0 : (0 : Int) ≤ (k : Int) := by omega
        have hne : ¬ b = w.heap.size := by omega
        go_wp2
        go_region
        go_wp2
        go_roundw
        case rel =>
          refine ⟨k + 1, _, by omega, by go_num, (own3 how (k * 3) _ _ _).drew, ?_, (below3 hbr (Nat.le_refl _) (k * 3) _ _ _).drew⟩
          exact laid_next rs k (by omega) xs HT.out (by rw [how.1]; omega) (by rw [← HR.out]; exact HV.out.1) (by rw [← HR.out]; exact HV.out.2.1) (by rw [← HR.out]; exact HV.out.2.2)
        case measure => simp [intOf]; omega
      · have hall : xs = rs.flatMap cellsR := by
          have h2 := HT.out
          rw [List.take_of_length_le (by rw [how.1]; omega), List.take_of_length_le (by omega)] at h2
          exact h2
        have how2 : wr.ownsRow w.heap.size 29 3 (.slice (some ⟨w.heap.size, 0, none⟩) n n) n (rs.flatMap cellsR) := by rw [← hall]; exact how
        clear hall how HT hown
        go_wp2
        go_ret
        exact ⟨rfl, how2, hbr⟩
  · obtain rfl : n = 0 := by omega
    obtain rfl : rs = [] := List.eq_nil_of_length_eq_zero hl
    obtain ⟨_, a1, cap1, rfl, _, _, _, _⟩ := h
    go_enter Try.func6, Try.ntmps6
    go_wp2_with (at_make; refine wpList_make_full _ rfl _ _ 26 rfl w.heap.size 29 i0 (.agg #[.int .u8 0, .int .i64 0, .int .i64 0]) 3 Try.underlying26 hi hz0 hz1 _ _ _ _ 0 rfl rfl (by rfl) (by rfl) (by omega) (by unfold maxLen; omega) (Nat.le_refl _) ?_)
    intro w1 hown hgrow
    have hb1 : Below w.heap.size w w1 := (Below.refl _ _).grown hgrow (Nat.le_refl _) (fun k hk => by cases hk)
    clear hgrow
    obtain ⟨xs0, hown⟩ : ∃ xs, w1.ownsRow w.heap.size 29 3 (.slice (some ⟨w.heap.size, 0, none⟩) 0 0) 0 xs := ⟨_, hown⟩
    obtain rfl : xs0 = [] := List.eq_nil_of_length_eq_zero (by simpa using hown.1)
    go_wp2
    refine wp_loop_rounds 1 ?_
    rw [rounds_succ]
    go_wp2
    go_ret
    exact ⟨rfl, hown, hb1⟩

end Go.Proofs.Qxb6608787a
