/-
  Decisions (8) where the access is not Hidden.
-/
import Derived.Test.Qxb6608787aDecs
namespace Go.Proofs.Qxb6608787a
open Go.RowKit
set_option linter.unusedVariables false

theorem flatD_len (ds : List Dn) : (ds.flatMap cellsD).length = ds.length * 7 := by
  induction ds with
  | nil => rfl
  | cons r ds ih => rw [List.flatMap_cons, List.length_append, ih, List.length_cons]; simp [cellsD]; omega

/-- One decision more is owned. -/
theorem next_dec {w1 : World} {B m : Nat} {v' : Value} {ds : List Dn} {d : Dn} {news : List Value} (h : w1.ownsRow B 36 7 v' (m + 1) (ds.flatMap cellsD ++ news)) (hm : m = ds.length) (hn : news = cellsD d) :
    w1.ownsRow B 36 7 v' (ds ++ [d]).length ((ds ++ [d]).flatMap cellsD) := by
  rw [List.length_append, List.flatMap_append, ← hm]
  have e : [d].flatMap cellsD = news := by rw [hn]; simp
  rw [e]
  exact h

theorem own_drewN {w : World} {B : Nat} {e : TypeId} {size : Nat} {v : Value} {n : Nat} {xs : List Value} (h : w.ownsRow B e size v n xs) (q : Nat) : (w.drewN q).ownsRow B e size v n xs := h

theorem cell_alloc_old (w : World) (o : Obj) (p : Addr) (h : p.block < w.heap.size) : (w.alloc o).cell? p = w.cell? p :=
  ((Below.refl w.heap.size w).alloc (Nat.le_refl _) o).cell h

set_option maxHeartbeats 1000000 in
theorem decs_pos (D R n cap : Nat) (a : Option Addr) (q : Int) (rs : List R3) (w : World) (h0 : w.cell? ⟨D, 0, none⟩ = some (.int .u8 q)) (h2 : w.cell? ⟨D, 2, none⟩ = some (.pointer (some ⟨R, 0, none⟩)))
    (h1 : w.cell? ⟨R, 1, none⟩ = some (.slice a n cap)) (hr : RdR w (.slice a n cap) n rs) (hn : n ≤ 1000000) (hq : 0 < q) :
    Calls Try.prog 8 #[.pointer (some ⟨D, 0, none⟩)] w fun e w' => ∃ v', e = .returned v' ∧ w'.ownsRow w.heap.size 36 7 v' (decs q rs).length ((decs q rs).flatMap cellsD) ∧ Below w.heap.size w w' := by
  obtain ⟨i0, hi, hz0, hz1, hz2⟩ := info_parts Try.info36
  have hqb : (q != 0) = true := by simp; omega
  have hD : D < w.heap.size := World.block_lt_of_cell? _ _ h0
  have hl := hr.1
  go_enter Try.func8, Try.ntmps8
  go_wp2_with (go_at_call 10; refine (runs_any D R q _ h0 h2).mono ?_; rintro e w' ⟨rfl, hw⟩; obtain rfl := hw.symm)
  go_loopw [3, 4, 21] (fun v c i wr => ∃ k : Nat, k ≤ n ∧ i = .int .i64 k ∧ c = .bool (caps q (rs.take k)) ∧ wr.ownsRow w.heap.size 36 7 v (reach q (rs.take k)).length ((reach q (rs.take k)).flatMap cellsD) ∧ Below w.heap.size w wr) (fun _ _ i _ => n - (intOf i).toNat)
  case atStart => exact ⟨0, Nat.zero_le _, rfl, rfl, World.ownsRow_nil _ _ _ _, Below.refl _ _⟩
  case round =>
    obtain ⟨k, hk, rfl, rfl, hown, hbr⟩ := hrel
    have g0 : wr.cell? ⟨D, 0, none⟩ = some (.int .u8 q) := cell_later hbr h0
    have hDr : D < wr.heap.size := Nat.lt_of_lt_of_le hD hbr.size
    have hBr := hbr.size
    have h0' := h0
    have H0 : Hid (w.cell? ⟨D, 0, none⟩ = some (.int .u8 q)) := h0
    clear h0 h0' h1 h2
    by_cases hlt : k < n
    · obtain ⟨b, o, rfl, c0, c1, c2⟩ := (hr.below hbr).some_at hlt
      clear hr
      have hbl : b < wr.heap.size := World.block_lt_of_cell? _ _ c0
      obtain ⟨r, hr⟩ : ∃ r, r = rs.getD k r0 := ⟨_, rfl⟩
      rw [← hr] at c0 c1 c2
      have HR : Hid (r = rs.getD k r0) := hr
      clear hr
      by_cases hv : q < r.v
      · go_wp2
        go_quiet (fail)
        go_wp2
        go_roundw
        case rel =>
          refine ⟨k + 1, by omega, by go_num, ?_, ?_, ?_⟩
          · rw [caps_yes q rs k (by omega) (by rw [← HR.out]; exact hv)]
          · rw [reach_no q rs k (by omega) (by rw [← HR.out]; exact hv)]
            exact hown.alloc _
          · exact below_drewN (hbr.alloc hBr _) _
        case measure => simp [intOf]; omega
      · have hv2 : r.v ≤ q := by omega
        go_wp2
        go_quiet (fail)
        go_wp2_with fail
        refine (join_any D q r.v r.l r.c true _ ?_ hv2).mono ?_
        · exact (cell_alloc_old _ _ _ hDr).trans g0
        rintro e w2 ⟨rfl, hb2⟩
        have hb2' : Below w.heap.size w w2 := (below_drewN (hbr.alloc hBr _) nq).trans (hb2.mono (by simp; omega))
        have hown2 := own_below (own_drewN (hown.alloc _) nq) hb2
        have hs2 := hb2'.size
        clear hown hb2
        have hle : (reach q (rs.take k)).length ≤ 1000000 := by have := reach_le q (rs.take k); rw [List.length_take] at this; omega
        go_wp2_with (at_builtin; refine wpList_append_own _ rfl _ _ 30 rfl w.heap.size 36 i0 _ 7 40 Try.underlying30 hi hz0 hz1 hz2 rfl (by decide) _ _ _ rfl (hown2.alloc _) ⟨w2.heap.size, 0, none⟩ 1 1 _ rfl rfl (news_new w2 36 _) ?c2 (by unfold maxLen; omega) (by omega) (by simp; omega) ?_)
        case c2 => repeat' (first | exact rfl | apply And.intro)
        intro v' w3 hown3 hgrow _
        have R := next_dec (d := joinD q true (rs.getD k r0)) hown3 rfl (by rw [← HR.out]; rfl)
        rw [← reach_yes q rs k (by omega) (by rw [← HR.out]; exact hv2)] at R
        have hb3 : Below w.heap.size w w3 := (hb2'.alloc hs2 _).grown hgrow (by simp; omega) (fun g hg => (hown2.lt g hg).1)
        clear hown3 hgrow hown2 hb2'
        go_wp2
        go_roundw
        case rel => exact ⟨k + 1, by omega, by go_num, by rw [caps_no q rs k (by omega) (by rw [← HR.out]; exact hv2)], R, hb3⟩
        case measure => simp [intOf]; omega
    · have hall : rs.take k = rs := List.take_of_length_le (by omega)
      rw [hall] at hown ⊢
      clear hall hr
      have hle : (reach q rs).length ≤ 1000000 := by have := reach_le q rs; omega
      have hv0 : (0 : Int) ≤ q := by omega
      by_cases hcap : caps q rs = true
      · rw [hcap]
        have hdecs : decs q rs = (reach q rs ++ [joinD q false r0]) ++ [grantsD q] := by
          unfold decs tail; rw [if_neg (by omega), if_neg (by omega), if_pos hcap]; simp
        have HD : Hid (decs q rs = (reach q rs ++ [joinD q false r0]) ++ [grantsD q]) := hdecs
        clear hdecs hcap
        go_wp2_with fail
        refine (join_any D q 0 0 0 false _ g0 hv0).mono ?_
        rintro e w2 ⟨rfl, hb2⟩
        have hown2 := own_below hown hb2
        have hb2' : Below w.heap.size w w2 := hbr.trans (hb2.mono hBr)
        have hs2 := hb2'.size
        have g2 : w2.cell? ⟨D, 0, none⟩ = some (.int .u8 q) := cell_later hb2 g0
        clear hown hb2 hbr
        go_wp2_with (at_builtin; refine wpList_append_own _ rfl _ _ 30 rfl w.heap.size 36 i0 _ 7 40 Try.underlying30 hi hz0 hz1 hz2 rfl (by decide) _ _ _ rfl (hown2.alloc _) ⟨w2.heap.size, 0, none⟩ 1 1 _ rfl rfl (news_new w2 36 _) ?d2 (by unfold maxLen; omega) (by omega) (by simp; omega) ?_)
        case d2 => repeat' (first | exact rfl | apply And.intro)
        intro v' w3 hown3 hgrow _
        have R3 := next_dec (d := joinD q false r0) hown3 rfl (by rfl)
        have hb3 : Below w.heap.size w w3 := (hb2'.alloc hs2 _).grown hgrow (by simp; omega) (fun g hg => (hown2.lt g hg).1)
        have hs3 := hb3.size
        have hsz : w2.heap.size < w3.heap.size := by have := hgrow.size; simp at this; omega
        have g3 : w3.cell? ⟨D, 0, none⟩ = some (.int .u8 q) := cell_later hb3 H0.out
        clear hown3 hgrow hown2 hb2'
        go_wp2_with fail
        refine (grants_any D q _ g3).mono ?_
        rintro e w4 ⟨rfl, hb4⟩
        have hown4 := own_below R3 hb4
        have hb4' : Below w.heap.size w w4 := hb3.trans (hb4.mono hs3)
        have hs4 := hb4'.size
        have hle2 : (reach q rs ++ [joinD q false r0]).length ≤ 1000001 := by simp; omega
        obtain ⟨ds2, hds2⟩ : ∃ ds, ds = reach q rs ++ [joinD q false r0] := ⟨_, rfl⟩
        rw [← hds2] at hown4 hle2
        have HD2 : Hid (ds2 = reach q rs ++ [joinD q false r0]) := hds2
        clear R3 hb4 hb3 hds2
        go_wp2_with (at_builtin; refine wpList_append_own _ rfl _ _ 30 rfl w.heap.size 36 i0 _ 7 40 Try.underlying30 hi hz0 hz1 hz2 rfl (by decide) _ _ _ rfl (hown4.alloc _) ⟨w4.heap.size, 0, none⟩ 1 1 _ rfl rfl (news_new w4 36 _) ?d3 (by unfold maxLen; omega) (by omega) (by simp; omega) ?_)
        case d3 => repeat' (first | exact rfl | apply And.intro)
        intro v5 w5 hown5 hgrow5 _
        have R5 := next_dec (d := grantsD q) hown5 rfl (by rfl)
        have hb5 : Below w.heap.size w w5 := (hb4'.alloc hs4 _).grown hgrow5 (by simp; omega) (fun g hg => (hown4.lt g hg).1)
        clear hown5 hgrow5 hown4 hb4'
        go_wp2
        go_ret
        exact ⟨_, rfl, by rw [HD.out, ← HD2.out]; exact R5, hb5⟩
      · have hcap2 : caps q rs = false := by simpa using hcap
        rw [hcap2]
        have hdecs : decs q rs = reach q rs ++ [joinD q false r0] := by
          unfold decs tail; rw [if_neg (by omega), if_neg (by omega), if_neg hcap]
        have HD : Hid (decs q rs = reach q rs ++ [joinD q false r0]) := hdecs
        clear hdecs hcap hcap2
        go_wp2_with fail
        refine (join_any D q 0 0 0 false _ g0 hv0).mono ?_
        rintro e w2 ⟨rfl, hb2⟩
        have hown2 := own_below hown hb2
        have hb2' : Below w.heap.size w w2 := hbr.trans (hb2.mono hBr)
        have hs2 := hb2'.size
        clear hown hb2 hbr
        go_wp2_with (at_builtin; refine wpList_append_own _ rfl _ _ 30 rfl w.heap.size 36 i0 _ 7 40 Try.underlying30 hi hz0 hz1 hz2 rfl (by decide) _ _ _ rfl (hown2.alloc _) ⟨w2.heap.size, 0, none⟩ 1 1 _ rfl rfl (news_new w2 36 _) ?d4 (by unfold maxLen; omega) (by omega) (by simp; omega) ?_)
        case d4 => repeat' (first | exact rfl | apply And.intro)
        intro v' w3 hown3 hgrow _
        have R3 := next_dec (d := joinD q false r0) hown3 rfl (by rfl)
        have hb3 : Below w.heap.size w w3 := (hb2'.alloc hs2 _).grown hgrow (by simp; omega) (fun g hg => (hown2.lt g hg).1)
        clear hown3 hgrow hown2 hb2'
        go_wp2
        go_ret
        exact ⟨_, rfl, by rw [HD.out]; exact R3, hb3⟩

end Go.Proofs.Qxb6608787a
