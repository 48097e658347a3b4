/-
  What is owned reads; Decisions in one contract; the early ways out of the law (3).
-/
import Derived.Test.Qxb6608787aDecsLoop
namespace Go.Proofs.Qxb6608787a
open Go.RowKit
set_option linter.unusedVariables false

theorem flatR_at (rs : List R3) (i j : Nat) (hi : i < rs.length) (hj : j < 3) : (rs.flatMap cellsR)[i * 3 + j]? = (cellsR (rs.getD i r0))[j]? := by
  induction rs generalizing i with
  | nil => simp at hi
  | cons r rs ih =>
    rw [List.flatMap_cons]
    cases i with
    | zero =>
      rw [List.getElem?_append_left (by simp [cellsR]; omega)]
      simp [List.getD]
    | succ i =>
      rw [List.getElem?_append_right (by simp [cellsR]; omega)]
      have e : (i + 1) * 3 + j - (cellsR r).length = i * 3 + j := by simp [cellsR]; omega
      rw [e, ih i (by simpa using hi)]
      simp [List.getD]

theorem flatD_at (ds : List Dn) (i j : Nat) (hi : i < ds.length) (hj : j < 7) : (ds.flatMap cellsD)[i * 7 + j]? = (cellsD (ds.getD i d0))[j]? := by
  induction ds generalizing i with
  | nil => simp at hi
  | cons r ds ih =>
    rw [List.flatMap_cons]
    cases i with
    | zero =>
      rw [List.getElem?_append_left (by simp [cellsD]; omega)]
      simp [List.getD]
    | succ i =>
      rw [List.getElem?_append_right (by simp [cellsD]; omega)]
      have e : (i + 1) * 7 + j - (cellsD r).length = i * 7 + j := by simp [cellsD]; omega
      rw [e, ih i (by simpa using hi)]
      simp [List.getD]

theorem RdR.of_owns {w : World} {B g n : Nat} {rs : List R3} (h : w.ownsRow B 29 3 (.slice (some ⟨g, 0, none⟩) n n) n (rs.flatMap cellsR)) (hm : n ≤ maxLen) : RdR w (.slice (some ⟨g, 0, none⟩) n n) n rs := by
  have hl : rs.length = n := by have := h.1; rw [flatR_len] at this; omega
  refine ⟨hl, some ⟨g, 0, none⟩, n, rfl, (fun e => by cases e), Nat.le_refl _, hm, ?_⟩
  intro x hx i hi
  obtain rfl := Option.some.inj hx
  have hc : ∀ j u, j < 3 → (cellsR (rs.getD i r0))[j]? = some u → w.cell? ((⟨g, 0, none⟩ : Addr).add (i * 3 + j)) = some u := fun j u hj hu => by
    rw [add_none, Nat.zero_add, h.cellAt (i * 3 + j) (by omega), flatR_at rs i j (by omega) hj, hu]
  exact ⟨by simpa using hc 0 _ (by omega) rfl, hc 1 _ (by omega) rfl, hc 2 _ (by omega) rfl⟩

theorem RdD.of_owns {w : World} {B : Nat} {v : Value} {ds : List Dn} (h : w.ownsRow B 36 7 v ds.length (ds.flatMap cellsD)) (hp : 0 < ds.length) :
    ∃ g cap, v = .slice (some ⟨g, 0, none⟩) ds.length cap ∧ ds.length ≤ cap ∧ RdD w (.slice (some ⟨g, 0, none⟩) ds.length cap) ds.length ds := by
  rcases h.2 with ⟨_, h0⟩ | ⟨g, cap, cur, rfl, _, _, h1, h2, _, _⟩
  · omega
  · refine ⟨g, cap, rfl, h1, rfl, some ⟨g, 0, none⟩, cap, rfl, (fun e => by cases e), h1, h2, ?_⟩
    intro x hx i hi j u hu
    obtain rfl := Option.some.inj hx
    have hj : j < 7 := by have := (List.getElem?_eq_some_iff.1 hu).1; simpa [cellsD] using this
    rw [add_none, Nat.zero_add, h.cellAt (i * 7 + j) (by omega), flatD_at ds i j hi hj, hu]

/-- Decisions, whatever the access. -/
theorem decs_any (D R n cap : Nat) (a : Option Addr) (q : Int) (rs : List R3) (w : World) (h0 : w.cell? ⟨D, 0, none⟩ = some (.int .u8 q)) (h2 : w.cell? ⟨D, 2, none⟩ = some (.pointer (some ⟨R, 0, none⟩)))
    (h1 : w.cell? ⟨R, 1, none⟩ = some (.slice a n cap)) (hr : RdR w (.slice a n cap) n rs) (hn : n ≤ 1000000) (hq : 0 ≤ q) (p t : Nat) (hp : p = heads q rs) (ht : t = (tail q rs).length) :
    Calls Try.prog 8 #[.pointer (some ⟨D, 0, none⟩)] w fun e w' => ∃ g cap', e = .returned (.slice (some ⟨g, 0, none⟩) (p + t) cap') ∧ p + t ≤ cap' ∧ RdD w' (.slice (some ⟨g, 0, none⟩) (p + t) cap') (p + t) (decs q rs) ∧ Below w.heap.size w w' := by
  have hlen : (decs q rs).length = p + t := by rw [decs_len, hp, ht]
  have hpos : 0 < (decs q rs).length := by have := tail_len q rs; omega
  have hall : Calls Try.prog 8 #[.pointer (some ⟨D, 0, none⟩)] w fun e w' => ∃ v', e = .returned v' ∧ w'.ownsRow w.heap.size 36 7 v' (decs q rs).length ((decs q rs).flatMap cellsD) ∧ Below w.heap.size w w' := by
    by_cases hq0 : q = 0
    · subst hq0
      exact decs_zero D R w rs h0 h2
    · exact decs_pos D R n cap a q rs w h0 h2 h1 hr hn (by omega)
  refine hall.mono ?_
  rintro e w' ⟨v', rfl, hown, hb⟩
  obtain ⟨g, cap', rfl, h3, h4⟩ := RdD.of_owns hown hpos
  rw [hlen] at h3 h4
  refine ⟨g, cap', by rw [hlen], h3, h4, hb⟩

set_option maxRecDepth 100000 in
/-- The early ways out. -/
theorem law_early (q : Int) (a b : Option Addr) (la ca lb cb : Nat) (ra rb : List R3) (w : World) (hA : RdR w (.slice a la ca) la ra) (hB : RdR w (.slice b lb cb) lb rb)
    (h : 20000 < la ∨ 20000 < lb ∨ 2 < q ∨ inDom ra = false ∨ inDom rb = false) :
    Calls Try.prog 3 #[.int .u8 q, .slice a la ca, .slice b lb cb] w fun e w' => e = .returned (.bool true) ∧ w' = w := by
  have hmA := hA.len_le
  have hmB := hB.len_le
  have h1 : la ≤ maxLen := by unfold maxLen; omega
  have h2 : lb ≤ maxLen := by unfold maxLen; omega
  by_cases hf : la + lb ≤ 1048576
  · by_cases c1 : 20000 < la
    · go_enter Try.func3, Try.ntmps3
      go_wp2_with (go_at_call 4; refine (fit_true _ _ _ _ _ _ _ _ hf).mono ?_; rintro e w' ⟨rfl, rfl⟩)
      go_ret
      exact ⟨rfl, rfl⟩
    · by_cases c2 : 20000 < lb
      · go_enter Try.func3, Try.ntmps3
        go_wp2_with (go_at_call 4; refine (fit_true _ _ _ _ _ _ _ _ hf).mono ?_; rintro e w' ⟨rfl, rfl⟩)
        go_ret
        exact ⟨rfl, rfl⟩
      · by_cases c3 : 2 < q
        · go_enter Try.func3, Try.ntmps3
          go_wp2_with (go_at_call 4; refine (fit_true _ _ _ _ _ _ _ _ hf).mono ?_; rintro e w' ⟨rfl, rfl⟩)
          go_ret
          exact ⟨rfl, rfl⟩
        · by_cases c4 : inDom ra = false
          · go_enter Try.func3, Try.ntmps3
            go_wp2_with (go_at_call 4; refine (fit_true _ _ _ _ _ _ _ _ hf).mono ?_; rintro e w' ⟨rfl, hw⟩; obtain rfl := hw.symm)
            refine (dom_any _ la ra _ hA).mono ?_
            rintro e w' ⟨rfl, hw⟩
            obtain rfl := hw.symm
            rw [c4]
            go_wp2
            go_ret
            exact ⟨rfl, rfl⟩
          · have c5 : inDom ra = true := by simpa using c4
            have c6 : inDom rb = false := by
              rcases h with h | h | h | h | h
              · omega
              · omega
              · omega
              · exact absurd h c4
              · exact h
            clear h c4
            go_enter Try.func3, Try.ntmps3
            go_wp2_with (go_at_call 4; refine (fit_true _ _ _ _ _ _ _ _ hf).mono ?_; rintro e w' ⟨rfl, hw⟩; obtain rfl := hw.symm)
            refine (dom_any _ la ra _ hA).mono ?_
            rintro e w' ⟨rfl, hw⟩
            obtain rfl := hw.symm
            rw [c5]
            go_wp2_with fail
            refine (dom_any _ lb rb _ hB).mono ?_
            rintro e w' ⟨rfl, hw⟩
            obtain rfl := hw.symm
            rw [c6]
            go_wp2
            go_ret
            exact ⟨rfl, rfl⟩
  · go_enter Try.func3, Try.ntmps3
    go_wp2_with (go_at_call 4; refine (fit_false _ _ _ _ _ _ _ _ (by omega) h1 h2).mono ?_; rintro e w' ⟨rfl, rfl⟩)
    go_ret
    exact ⟨rfl, rfl⟩

end Go.Proofs.Qxb6608787a
