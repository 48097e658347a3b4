/-
  SLICES OF STRUCTS AS THEY READ IN A WORLD; the callees that only read: zzVerdictsInDomain (5), zzReachedPrefix (9).
-/
import Derived.Test.Qxb6608787aSmall
import Derived.Test.Qxb6608787aPlain
namespace Go.Proofs.Qxb6608787a
open Go.RowKit
set_option linter.unusedVariables false

def cellsR (r : R3) : List Value := [.int .u8 r.v, .int .i64 r.l, .int .i64 r.c]
def cellsD (d : Dn) : List Value := [.int .u8 d.v, .bool d.bg, .bool d.br, .int .u8 d.rv, .int .i64 d.rl, .int .i64 d.rc, .bool d.rch]

/-- A slice of returns. -/
def RdR (w : World) (v : Value) (n : Nat) (rs : List R3) : Prop :=
  rs.length = n ∧ ∃ a cap, v = .slice a n cap ∧ (a = none → n = 0 ∧ cap = 0) ∧ n ≤ cap ∧ cap ≤ maxLen ∧
    ∀ x, a = some x → ∀ i, i < n → w.cell? (x.add (i * 3)) = some (.int .u8 (rs.getD i r0).v) ∧ w.cell? (x.add (i * 3 + 1)) = some (.int .i64 (rs.getD i r0).l) ∧ w.cell? (x.add (i * 3 + 2)) = some (.int .i64 (rs.getD i r0).c)

/-- A slice of decisions. -/
def RdD (w : World) (v : Value) (n : Nat) (ds : List Dn) : Prop :=
  ds.length = n ∧ ∃ a cap, v = .slice a n cap ∧ (a = none → n = 0 ∧ cap = 0) ∧ n ≤ cap ∧ cap ≤ maxLen ∧
    ∀ x, a = some x → ∀ i, i < n → ∀ j u, (cellsD (ds.getD i d0))[j]? = some u → w.cell? (x.add (i * 7 + j)) = some u

theorem add_none (b o i : Nat) : (⟨b, o, none⟩ : Addr).add i = ⟨b, o + i, none⟩ := by
  unfold Addr.add; split <;> simp_all

theorem RdR.at {w : World} {v : Value} {n : Nat} {rs : List R3} (h : RdR w v n rs) (hp : 0 < n) :
    ∃ b o cap, v = .slice (some ⟨b, o, none⟩) n cap ∧ n ≤ cap ∧ cap ≤ maxLen ∧
      ∀ i, i < n → w.cell? ⟨b, o + i * 3, none⟩ = some (.int .u8 (rs.getD i r0).v) ∧ w.cell? ⟨b, o + i * 3 + 1, none⟩ = some (.int .i64 (rs.getD i r0).l) ∧ w.cell? ⟨b, o + i * 3 + 2, none⟩ = some (.int .i64 (rs.getD i r0).c) := by
  obtain ⟨hl, a, cap, rfl, hn, h1, h2, hc⟩ := h
  cases a with
  | none => have := (hn rfl).1; omega
  | some x =>
    obtain ⟨b, o, spot⟩ := x
    have hs : spot = none := by simpa [Addr.add] using World.cell?_spot (hc _ rfl 0 hp).1
    subst hs
    refine ⟨b, o, cap, rfl, h1, h2, fun i hi => ?_⟩
    have h3 := hc _ rfl i hi
    rw [add_none, add_none, add_none, ← Nat.add_assoc, ← Nat.add_assoc] at h3
    exact h3

theorem RdD.at {w : World} {v : Value} {n : Nat} {ds : List Dn} (h : RdD w v n ds) (hp : 0 < n) :
    ∃ b o cap, v = .slice (some ⟨b, o, none⟩) n cap ∧ n ≤ cap ∧ cap ≤ maxLen ∧
      ∀ i, i < n → ∀ j u, (cellsD (ds.getD i d0))[j]? = some u → w.cell? ⟨b, o + i * 7 + j, none⟩ = some u := by
  obtain ⟨hl, a, cap, rfl, hn, h1, h2, hc⟩ := h
  cases a with
  | none => have := (hn rfl).1; omega
  | some x =>
    obtain ⟨b, o, spot⟩ := x
    have hs : spot = none := by simpa [Addr.add] using World.cell?_spot (hc _ rfl 0 hp 0 _ rfl)
    subst hs
    refine ⟨b, o, cap, rfl, h1, h2, fun i hi j u hu => ?_⟩
    have h3 := hc _ rfl i hi j u hu
    rw [add_none, ← Nat.add_assoc] at h3
    exact h3

theorem RdR.below {w w' : World} {v : Value} {n : Nat} {rs : List R3} (h : RdR w v n rs) (hb : Below w.heap.size w w') : RdR w' v n rs := by
  obtain ⟨hl, a, cap, rfl, hn, h1, h2, hc⟩ := h
  exact ⟨hl, a, cap, rfl, hn, h1, h2, fun x hx i hi => ⟨cell_later hb (hc x hx i hi).1, cell_later hb (hc x hx i hi).2.1, cell_later hb (hc x hx i hi).2.2⟩⟩

theorem RdD.below {w w' : World} {v : Value} {n : Nat} {ds : List Dn} (h : RdD w v n ds) (hb : Below w.heap.size w w') : RdD w' v n ds := by
  obtain ⟨hl, a, cap, rfl, hn, h1, h2, hc⟩ := h
  exact ⟨hl, a, cap, rfl, hn, h1, h2, fun x hx i hi j u hu => cell_later hb (hc x hx i hi j u hu)⟩

theorem RdD.drewN {w : World} {v : Value} {n : Nat} {ds : List Dn} (h : RdD w v n ds) (q : Nat) : RdD (w.drewN q) v n ds := h
theorem RdR.drewN {w : World} {v : Value} {n : Nat} {rs : List R3} (h : RdR w v n rs) (q : Nat) : RdR (w.drewN q) v n rs := h

theorem RdR.len_le {w : World} {v : Value} {n : Nat} {rs : List R3} (h : RdR w v n rs) : n ≤ 9223372036854775807 := by
  obtain ⟨_, _, cap, _, _, h1, h2, _⟩ := h
  unfold maxLen at h2
  omega

/-- Does every return give one of the three verdicts? -/
def inDom (rs : List R3) : Bool := rs.all fun r => decide (r.v ≤ 2)

theorem inDom_all (rs : List R3) (h : ∀ t, t < rs.length → (rs.getD t r0).v ≤ 2) : inDom rs = true := by
  rw [inDom, List.all_eq_true]
  intro r hr
  obtain ⟨i, hi, rfl⟩ := List.getElem_of_mem hr
  have := h i hi
  simpa [List.getD, hi] using this

theorem inDom_none (rs : List R3) (t : Nat) (ht : t < rs.length) (h : 2 < (rs.getD t r0).v) : inDom rs = false := by
  rw [← Bool.not_eq_true, inDom, List.all_eq_true]
  intro hall
  have h2 := hall rs[t] (List.getElem_mem ht)
  simp [List.getD, ht] at h
  simp at h2
  omega

theorem dom_any (v : Value) (n : Nat) (rs : List R3) (w : World) (h : RdR w v n rs) :
    Calls Try.prog 5 #[v] w fun e w' => e = .returned (.bool (inDom rs)) ∧ w' = w := by
  have hmx := h.len_le
  have hl := h.1
  by_cases hp : 0 < n
  · obtain ⟨b, o, cap, rfl, _, _, hc⟩ := h.at hp
    clear h
    go_enter Try.func5, Try.ntmps5
    go_wp2
    go_loop [3] (fun i => ∃ k : Nat, k ≤ n ∧ i = .int .i64 k ∧ Hid (∀ t, t < k → (rs.getD t r0).v ≤ 2)) (fun i => n - (intOf i).toNat)
    case atStart => exact ⟨0, Nat.zero_le _, rfl, fun t ht => by omega⟩
    case round =>
      obtain ⟨k, hk, rfl, HA⟩ := hrel
      by_cases hlt : k < n
      · have g1 := (hc k hlt).1
        clear hc
        obtain ⟨x, hx⟩ : ∃ x, x = (rs.getD k r0).v := ⟨_, rfl⟩
        rw [← hx] at g1
        have HX : Hid (x = (rs.getD k r0).v) := hx
        clear hx
        by_cases hx2 : x ≤ 2
        · go_wp2
          go_round
          case rel =>
            refine ⟨k + 1, by omega, by go_num, fun t ht => ?_⟩
            by_cases e : t = k
            · subst e; rw [← HX.out]; exact hx2
            · exact HA.out t (by omega)
          case measure => simp [intOf]; omega
        · have hx3 : 2 < x := by omega
          go_wp2
          go_ret
          exact ⟨by rw [inDom_none rs k (by omega) (by rw [← HX.out]; exact hx3)]; rfl, rfl⟩
      · go_wp2
        go_ret
        exact ⟨by rw [inDom_all rs (fun t ht => HA.out t (by omega))]; rfl, rfl⟩
  · obtain rfl : n = 0 := by omega
    have hin : inDom rs = true := inDom_all rs (fun t ht => by omega)
    obtain ⟨_, a1, cap1, rfl, _, _, _, _⟩ := h
    go_enter Try.func5, Try.ntmps5
    go_wp2
    refine wp_loop_rounds 1 ?_
    rw [rounds_succ]
    go_wp2
    go_ret
    exact ⟨by rw [hin]; rfl, rfl⟩

/-- How many decisions at the head are marked reached. -/
theorem head_any (v : Value) (n h : Nat) (ds : List Dn) (w : World) (hr : RdD w v n ds) (hn : n ≤ 1000000) (hh : h < n) (h1 : ∀ i, i < h → (ds.getD i d0).rch = true) (h2 : (ds.getD h d0).rch = false) :
    Calls Try.prog 9 #[v] w fun e w' => e = .returned (.int .i64 h) ∧ w' = w := by
  obtain ⟨b, o, cap, rfl, _, _, hc⟩ := hr.at (by omega)
  have hl := hr.1
  clear hr
  have H1 : Hid (∀ i, i < h → (ds.getD i d0).rch = true) := h1
  have H2 : Hid ((ds.getD h d0).rch = false) := h2
  clear h1 h2
  go_enter Try.func9, Try.ntmps9
  go_wp2
  go_loop [3] (fun i => ∃ k : Nat, k ≤ h ∧ i = .int .i64 k) (fun i => n - (intOf i).toNat)
  case atStart => exact ⟨0, Nat.zero_le _, rfl⟩
  case round =>
    obtain ⟨k, hk, rfl⟩ := hrel
    have g1 := hc k (by omega) 6 _ rfl
    clear hc
    by_cases hlt : k < h
    · rw [H1.out k hlt] at g1
      go_wp2
      go_round
      case rel => exact ⟨k + 1, by omega, by go_num⟩
      case measure => simp [intOf]; omega
    · obtain rfl : k = h := by omega
      rw [H2.out] at g1
      go_wp2
      go_ret
      exact ⟨rfl, rfl⟩

end Go.Proofs.Qxb6608787a
