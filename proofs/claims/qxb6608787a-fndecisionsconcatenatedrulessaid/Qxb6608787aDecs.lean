/-
  ZZnewRuleDecider (7) and Decisions (8).
-/
import Derived.Test.Qxb6608787aMake
namespace Go.Proofs.Qxb6608787a
open Go.RowKit
set_option linter.unusedVariables false

theorem Try.info36 : (Try.prog.info? 36).map (fun i => (i.zero, i.size, i.bytes)) = some (some (.agg #[.int .u8 0, .bool false, .bool false, .int .u8 0, .int .i64 0, .int .i64 0, .bool false]), 7, 40) := by kernel_rfl

theorem new_any (q : Int) (a : Option Addr) (n c : Nat) (w : World) :
    Calls Try.prog 7 #[.int .u8 q, .slice a n c] w fun e w' => e = .returned (.pointer (some ⟨w.heap.size + 1, 0, none⟩)) ∧ w'.cell? ⟨w.heap.size + 1, 0, none⟩ = some (.int .u8 q) ∧
      w'.cell? ⟨w.heap.size + 1, 2, none⟩ = some (.pointer (some ⟨w.heap.size, 0, none⟩)) ∧ w'.cell? ⟨w.heap.size, 1, none⟩ = some (.slice a n c) ∧ Below w.heap.size w w' := by
  go_enter Try.func7, Try.ntmps7
  go_wp2
  go_ret
  exact ⟨rfl, by simp, by simp, by simp, ((Below.refl _ w).alloc (Nat.le_refl _) _).alloc (by simp) _⟩

/-- What is owned stays owned in a world that lies below. -/
theorem own_below {W w2 : World} {B : Nat} {e : TypeId} {size : Nat} {v : Value} {n : Nat} {xs : List Value} (h : W.ownsRow B e size v n xs) (hb : Below W.heap.size W w2) : w2.ownsRow B e size v n xs := by
  refine ⟨h.1, ?_⟩
  rcases h.2 with hn | ⟨g, cap, cur, hv, h1, hg, rest⟩
  · exact .inl hn
  · exact .inr ⟨g, cap, cur, hv, h1, by rw [hb.block g (Array.getElem?_eq_some_iff.1 hg).1]; exact hg, rest⟩

theorem news_new (w : World) (e : TypeId) (cs : Array Value) : ∀ j u, cs.toList[j]? = some u → (w.alloc (.cells cs e)).cell? ((⟨w.heap.size, 0, none⟩ : Addr).add j) = some u := by
  intro j u hj
  rw [add_none, Nat.zero_add, cell_of_row _ _ j cs e (0, 0) (heap_alloc_new w _)]
  simpa using hj

theorem cellsD_one (d : Dn) : ∀ u ∈ cellsD d, u.oneCell' = true := by
  intro u hu
  simp only [cellsD, List.mem_cons, List.not_mem_nil, or_false] at hu
  rcases hu with rfl | rfl | rfl | rfl | rfl | rfl | rfl <;> rfl

theorem RdR.some_at {w : World} {a : Option Addr} {n cap k : Nat} {rs : List R3} (h : RdR w (.slice a n cap) n rs) (hk : k < n) :
    ∃ b o, a = some ⟨b, o, none⟩ ∧ w.cell? ⟨b, o + k * 3, none⟩ = some (.int .u8 (rs.getD k r0).v) ∧ w.cell? ⟨b, o + k * 3 + 1, none⟩ = some (.int .i64 (rs.getD k r0).l) ∧ w.cell? ⟨b, o + k * 3 + 2, none⟩ = some (.int .i64 (rs.getD k r0).c) := by
  obtain ⟨b, o, cap', hv, _, _, hc⟩ := h.at (by omega)
  obtain ⟨rfl, rfl⟩ : a = some ⟨b, o, none⟩ ∧ cap = cap' := by simpa using hv
  exact ⟨b, o, rfl, hc k hk⟩

theorem decs_zero (D R : Nat) (w : World) (rs : List R3) (h0 : w.cell? ⟨D, 0, none⟩ = some (.int .u8 0)) (h2 : w.cell? ⟨D, 2, none⟩ = some (.pointer (some ⟨R, 0, none⟩))) :
    Calls Try.prog 8 #[.pointer (some ⟨D, 0, none⟩)] w fun e w' => ∃ v', e = .returned v' ∧ w'.ownsRow w.heap.size 36 7 v' (decs 0 rs).length ((decs 0 rs).flatMap cellsD) ∧ Below w.heap.size w w' := by
  go_enter Try.func8, Try.ntmps8
  go_wp2_with (first | (go_at_call 10; refine (runs_any D R 0 _ h0 h2).mono ?_; rintro e w' ⟨rfl, hw⟩; obtain rfl := hw.symm) | (go_at_call 11; refine (grants_any D 0 _ h0).mono ?_; rintro e w1 ⟨rfl, hb⟩))
  go_ret
  refine ⟨_, rfl, ?_, hb.alloc hb.size _⟩
  exact World.ownsRow_lit w1 _ 1 hb.size (by unfold maxLen; omega) rfl

end Go.Proofs.Qxb6608787a
