/-
  The proof of 'Rows.FnDecisionsConcatenatedRulesSaid': the guide's frame for a law (as the given shells have it), a slice of structs opened by its cells.
-/
import Derived.Test.Qxb6608787aRows
import Derived.Test.Qxb6608787aLaw
import Derived.WalkKit
import Derived.ProofKit
import Derived.OpenShut
import Derived.ShutString
import Derived.ChangeOld
import Derived.Below
import Derived.Deep.Slices
import Derived.Deep.Strs
namespace Go.Proofs.Qxb6608787a.fnDecisionsConcatenatedRules
open Go.ChangeShapes Go.WideShapes Go.ChangeAt Go.RowKit
set_option linter.unusedVariables false

theorem own : ownKnob Try.prog.godebug = none := by kernel_rfl
theorem laidOut : laidOutB Try.prog = true := by kernel_rfl
theorem cells38 : Try.prog.cellsOf 38 = 3 := by kernel_rfl
theorem cells5 : Try.prog.cellsOf 5 = 1 := by kernel_rfl
theorem cells3 : Try.prog.cellsOf 3 = 1 := by kernel_rfl

theorem getD_map_range (f : Nat → Int × Int × Int) (n i : Nat) (h : i < n) : ((List.range n).map fun k => (⟨(f k).1, (f k).2.1, (f k).2.2⟩ : R3)).getD i r0 = ⟨(f i).1, (f i).2.1, (f i).2.2⟩ := by
  simp [List.getD, h]

/-- A slice of returns that came in. -/
theorem opens {H : Type} {enc : TypeId × Value → H} {W : World} {base : Nat} {spare : Nat → Bool} {held : Bool} {a : Option Addr} {len cap fuel : Nat} {x : DataW H × List MemPlace}
    (h : DataW.trod enc Try.prog W base spare held fuel 22 [.slice a len cap] = some x) : ∃ rs, RdR W (.slice a len cap) len rs := by
  rcases Deep.open_slice Try.underlying22 h with ⟨hcs, _⟩ | ⟨y, len', cap', m, n, D, Pl, hcs, _, hl, hm, hmm, _, hx⟩
  · obtain ⟨rfl, rfl, rfl⟩ : a = none ∧ len = 0 ∧ cap = 0 := by simpa using hcs
    exact ⟨[], rfl, none, 0, rfl, fun _ => ⟨rfl, rfl⟩, Nat.le_refl _, Nat.zero_le _, fun x hx => by cases hx⟩
  · obtain ⟨rfl, rfl, rfl⟩ : a = some y ∧ len = len' ∧ cap = cap' := by simpa using hcs
    have hlm : len ≤ m := by rw [hmm]; split <;> omega
    have each : ∀ i, i < len → ∃ q : Int × Int × Int, W.cell? (y.add (i * 3)) = some (.int .u8 q.1) ∧ W.cell? (y.add (i * 3 + 1)) = some (.int .i64 q.2.1) ∧ W.cell? (y.add (i * 3 + 2)) = some (.int .i64 q.2.2) := by
      intro i hi
      obtain ⟨cs', h1, h2⟩ := hx i (by omega)
      rw [cells38] at h1
      obtain ⟨_, hlen, hcell⟩ := World.cells?_some h1
      obtain ⟨y0, y1, y2, k, _, _, g0, g1, g2⟩ := Deep.trod_struct3 Try.underlying38 h2
      match cs', hlen with
      | [v0, v1, v2], _ =>
        simp only [cells5, cells3] at g0 g1 g2
        obtain ⟨n0, e0, _, _⟩ := DataW.trod_int Try.underlying5 g0
        obtain ⟨n1, e1, _, _⟩ := DataW.trod_int Try.underlying3 g1
        obtain ⟨n2, e2, _, _⟩ := DataW.trod_int Try.underlying3 g2
        simp at e0 e1 e2
        subst e0 e1 e2
        have c0 := hcell 0 (by omega)
        have c1 := hcell 1 (by omega)
        have c2 := hcell 2 (by omega)
        rw [Deep.add_add] at c0 c1 c2
        exact ⟨(n0, n1, n2), by simpa using c0, by simpa using c1, by simpa using c2⟩
    obtain ⟨f, hf⟩ := Deep.choose_lt each
    refine ⟨(List.range len).map fun k => ⟨(f k).1, (f k).2.1, (f k).2.2⟩, by simp, some y, cap, rfl, (fun e => by cases e), hl, hm, ?_⟩
    intro z hz i hi
    obtain rfl := Option.some.inj hz
    rw [getD_map_range f len i hi]
    exact hf i hi

theorem walk (q : Int) (a0 : Option Addr) (len0 cap0 : Nat) (a1 : Option Addr) (len1 cap1 : Nat) (r0 r1 : List R3) (w : World) (hq : 0 ≤ q) (w0 : RdR w (.slice a0 len0 cap0) len0 r0) (w1 : RdR w (.slice a1 len1 cap1) len1 r1) :
    Calls Try.prog 3 #[.int .u8 q, .slice a0 len0 cap0, .slice a1 len1 cap1] w fun e w' => e = .returned (.bool true) ∧ Below w.heap.size w w' := by
  by_cases h : 20000 < len0 ∨ 20000 < len1 ∨ 2 < q ∨ inDom r0 = false ∨ inDom r1 = false
  · refine (law_early q a0 a1 len0 cap0 len1 cap1 r0 r1 w w0 w1 h).mono ?_
    rintro e w' ⟨rfl, hw⟩
    subst hw
    exact ⟨rfl, Below.refl _ _⟩
  · have h1 : ¬ 20000 < len0 := fun e => h (.inl e)
    have h2 : ¬ 20000 < len1 := fun e => h (.inr (.inl e))
    have h3 : ¬ 2 < q := fun e => h (.inr (.inr (.inl e)))
    have h4 : inDom r0 = true := by rw [← Bool.not_eq_false]; exact fun e => h (.inr (.inr (.inr (.inl e))))
    have h5 : inDom r1 = true := by rw [← Bool.not_eq_false]; exact fun e => h (.inr (.inr (.inr (.inr e))))
    exact law_main q a0 a1 len0 cap0 len1 cap1 r0 r1 w w0 w1 (by omega) (by omega) hq (by omega) h4 h5

set_option maxRecDepth 100000 in
theorem lifted (os : Os) (started : os.Started) (H : Type) (enc : TypeId × Value → H) :
    ReturnsInHanded {} Try.checked os 3 .any (Rows.fnDecisionsConcatenatedRulesSpec.pre6 enc Try.prog Try.f3 Rows.fnDecisionsConcatenatedRulesRow.domain false) (Rows.fnDecisionsConcatenatedRulesSpec.post enc Try.prog Try.f3 false true false false) := by
  refine returnsInHanded_of_change (C := Try.checked) own started (by kernel_rfl) Try.func3
    (ChangeSpec.witness6 (enc := enc) (C := Try.checked) false ⟨#[], #[.int .u8 0, .slice none 0 0, .slice none 0 0], []⟩ 8 (by kernel_rfl) (by kernel_rfl) (by kernel_rfl) (by kernel_rfl)) ?_
  intro W base args ds gs before hval0 hW hcnd _
  have hval : ∀ (j : Nat) t v, Try.f3.params[j]? = some t → args[j]? = some v → Value.okWide Try.prog W .any base t v := hval0
  have hW' := hW
  obtain ⟨p, q, hA0, hV, rfl, hfz, hnd⟩ := hW
  have hA : DataW.TrodAll enc Try.prog W 0 (fun _ => true) true Try.f3.params.toList args.toList ds p := hA0
  rw [Try.params3] at hA hval
  obtain ⟨v0, vs0, d0, ds0, p0, q0, hargs, rfl, rfl, h0, r0⟩ := trodAll_cons hA
  obtain ⟨v1, vs1, d1, ds1, p1, q1, rfl, rfl, rfl, h1, r1⟩ := trodAll_cons r0
  obtain ⟨v2, vs2, d2, ds2, p2, q2, rfl, rfl, rfl, h2, r2⟩ := trodAll_cons r1
  obtain ⟨rfl, rfl, rfl⟩ := trodAll_nil r2
  obtain rfl : args = #[v0, v1, v2] := by cases args; simp_all
  obtain ⟨rfl, rfl⟩ := trodVars_none hV
  obtain ⟨x, rfl, rfl, rfl, wx⟩ := open_int Try.underlying5 (hval 0 5 v0 rfl rfl) h0
  obtain ⟨a1, len1, cap1, rfl⟩ := okWide_slice Try.underlying22 (hval 1 22 v1 rfl rfl)
  obtain ⟨a2, len2, cap2, rfl⟩ := okWide_slice Try.underlying22 (hval 2 22 v2 rfl rfl)
  have k1 := h1
  have k2 := h2
  have lt1 : ∀ x ∈ p1, x.block < W.heap.size := by obtain ⟨m, hm⟩ := k1; exact DataW.trod_lt m _ _ _ hm
  have lt2 : ∀ x ∈ p2, x.block < W.heap.size := by obtain ⟨m, hm⟩ := k2; exact DataW.trod_lt m _ _ _ hm
  obtain ⟨z1, w1⟩ : ∃ rs, RdR W (.slice a1 len1 cap1) len1 rs := by
    obtain ⟨fuel, hf⟩ := h1
    exact opens (x := _) (by simpa [Value.cells] using hf)
  obtain ⟨z2, w2⟩ : ∃ rs, RdR W (.slice a2 len2 cap2) len2 rs := by
    obtain ⟨fuel, hf⟩ := h2
    exact opens (x := _) (by simpa [Value.cells] using hf)
  clear hA0 hval0
  refine (walk x a1 len1 cap1 a2 len2 cap2 z1 z2 W (bounds_u8 wx).1 w1 w2).mono fun e W' ⟨he, bel⟩ => ?_
  subst he
  exact ⟨_, rfl, _, _, _, [], _, [], hW', trodAll_mk1 (shut_bool Try.underlying4 _), (trodAll_cons_mk (shut_int Try.underlying5 wx) (trodAll_cons_mk (Below.trod laidOut (by kernel_rfl) (of_decide_eq_true (by kernel_rfl)) k1 bel lt1) (trodAll_cons_mk (Below.trod laidOut (by kernel_rfl) (of_decide_eq_true (by kernel_rfl)) k2 bel lt2) trodAll_mk0))), rfl, bel.frame _, fun h => by cases h⟩

theorem over : Rows.fnDecisionsConcatenatedRulesRow.holds Try.pinned (OpenSpec.ofChange Rows.fnDecisionsConcatenatedRulesSpec) :=
  OpenClaim.holds_of_wide 3 Try.f3 rfl rfl rfl rfl rfl rfl rfl ⟨rfl, rfl, rfl, rfl, rfl⟩ rfl rfl rfl rfl rfl (by kernel_rfl) Try.func3 (by kernel_rfl)
    (of_decide_eq_true (by kernel_rfl)) (by unfold Func.isWrapper; first | (rw [if_pos (by decide +kernel)]; kernel_rfl) | (rw [if_neg (by decide +kernel)]; exact ⟨rfl, rfl⟩))
    (fun os started H enc _ => lifted os started H enc)

theorem proved : Rows.FnDecisionsConcatenatedRulesSaid := over
end Go.Proofs.Qxb6608787a.fnDecisionsConcatenatedRules
