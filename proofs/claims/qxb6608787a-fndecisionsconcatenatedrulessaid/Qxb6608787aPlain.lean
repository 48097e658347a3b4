/-
  THE PLAIN MATHEMATICS: the decisions of a rule, as lists. No Go in sight.
-/
namespace Go.Proofs.Qxb6608787a

/-- A return statement. -/
structure R3 where
  v : Int
  l : Int
  c : Int

/-- A decision. -/
structure Dn where
  v : Int
  bg : Bool
  br : Bool
  rv : Int
  rl : Int
  rc : Int
  rch : Bool

def r0 : R3 := ⟨0, 0, 0⟩
def d0 : Dn := ⟨0, false, false, 0, 0, 0, false⟩

def joinD (q : Int) (b : Bool) (r : R3) : Dn := ⟨r.v, r.v == q, true, r.v, r.l, r.c, b⟩
def grantsD (q : Int) : Dn := ⟨q, true, false, 0, 0, 0, false⟩

/-- The decisions that name a reached return. -/
def reach (q : Int) (rs : List R3) : List Dn := (rs.filter fun r => decide (r.v ≤ q)).map (joinD q true)
/-- Does a return give more than the access? -/
def caps (q : Int) (rs : List R3) : Bool := rs.any fun r => decide (q < r.v)
/-- What stands behind the reached ones. -/
def tail (q : Int) (rs : List R3) : List Dn := if q = 0 then [grantsD 0] else joinD q false r0 :: (if caps q rs then [grantsD q] else [])
def decs (q : Int) (rs : List R3) : List Dn := (if q = 0 then [] else reach q rs) ++ tail q rs

theorem reach_append (q : Int) (a b : List R3) : reach q (a ++ b) = reach q a ++ reach q b := by simp [reach]
theorem caps_append (q : Int) (a b : List R3) : caps q (a ++ b) = (caps q a || caps q b) := by simp [caps]

theorem take_snoc (l : List R3) (k : Nat) (h : k < l.length) : l.take (k + 1) = l.take k ++ [l.getD k r0] := by
  rw [List.take_succ_eq_append_getElem h]
  simp [List.getD, h]

theorem reach_yes (q : Int) (l : List R3) (k : Nat) (h : k < l.length) (hv : (l.getD k r0).v ≤ q) : reach q (l.take (k + 1)) = reach q (l.take k) ++ [joinD q true (l.getD k r0)] := by
  rw [take_snoc l k h, reach_append]
  simp only [reach, List.filter_cons, hv, decide_true, if_true, List.filter_nil, List.map_cons, List.map_nil]

theorem reach_no (q : Int) (l : List R3) (k : Nat) (h : k < l.length) (hv : q < (l.getD k r0).v) : reach q (l.take (k + 1)) = reach q (l.take k) := by
  rw [take_snoc l k h, reach_append]
  have hn : decide ((l.getD k r0).v ≤ q) = false := decide_eq_false (by omega)
  simp only [reach, List.filter_cons, hn, List.filter_nil, List.map_nil, List.append_nil, Bool.false_eq_true, if_false]

theorem caps_yes (q : Int) (l : List R3) (k : Nat) (h : k < l.length) (hv : q < (l.getD k r0).v) : caps q (l.take (k + 1)) = true := by
  rw [take_snoc l k h, caps_append]
  simp only [caps, List.any_cons, hv, decide_true, Bool.true_or, Bool.or_true]

theorem caps_no (q : Int) (l : List R3) (k : Nat) (h : k < l.length) (hv : (l.getD k r0).v ≤ q) : caps q (l.take (k + 1)) = caps q (l.take k) := by
  rw [take_snoc l k h, caps_append]
  have hn : decide (q < (l.getD k r0).v) = false := decide_eq_false (by omega)
  simp only [caps, List.any_cons, hn, List.any_nil, Bool.or_false]

theorem reach_le (q : Int) (l : List R3) : (reach q l).length ≤ l.length := by
  simp only [reach, List.length_map]
  exact List.length_filter_le _ _

/-- The head: how many reached decisions. -/
def heads (q : Int) (rs : List R3) : Nat := if q = 0 then 0 else (reach q rs).length

theorem heads_le (q : Int) (l : List R3) : heads q l ≤ l.length := by
  unfold heads; split
  · exact Nat.zero_le _
  · exact reach_le q l

theorem tail_len (q : Int) (rs : List R3) : 1 ≤ (tail q rs).length ∧ (tail q rs).length ≤ 2 := by
  unfold tail; split
  · simp
  · split <;> simp

theorem decs_len (q : Int) (rs : List R3) : (decs q rs).length = heads q rs + (tail q rs).length := by
  unfold decs heads; split <;> simp

/-- The decisions behind the head, and those of the head. -/
theorem decs_head (q : Int) (rs : List R3) (i : Nat) (h : i < heads q rs) : (decs q rs).getD i d0 = (reach q rs).getD i d0 := by
  unfold decs heads at *
  by_cases hq : q = 0
  · simp [hq] at h
  · simp only [hq, if_false] at *
    simp only [List.getD]
    rw [List.getElem?_append_left h]

theorem decs_tail (q : Int) (rs : List R3) (i : Nat) : (decs q rs).getD (heads q rs + i) d0 = (tail q rs).getD i d0 := by
  unfold decs heads
  by_cases hq : q = 0
  · simp [hq]
  · simp only [hq, if_false]
    simp only [List.getD]
    rw [List.getElem?_append_right (by omega)]
    congr 2
    omega

theorem reach_rch (q : Int) (rs : List R3) (i : Nat) (h : i < (reach q rs).length) : ((reach q rs).getD i d0).rch = true := by
  have hl : i < (rs.filter fun r => decide (r.v ≤ q)).length := by simpa [reach] using h
  simp only [reach, List.getD, List.getElem?_map, List.getElem?_eq_getElem hl, Option.map_some, Option.getD_some]
  rfl

theorem tail_first (q : Int) (rs : List R3) : (tail q rs).getD 0 d0 = if q = 0 then grantsD 0 else joinD q false r0 := by
  unfold tail; split <;> rfl

/-- The reached mark of a decision, by its place. -/
theorem rch_head (q : Int) (rs : List R3) (i : Nat) (h : i < heads q rs) : ((decs q rs).getD i d0).rch = true := by
  rw [decs_head q rs i h]
  unfold heads at h
  by_cases hq : q = 0
  · simp [hq] at h
  · simp only [hq, if_false] at h
    exact reach_rch q rs i h

theorem rch_stop (q : Int) (rs : List R3) : ((decs q rs).getD (heads q rs) d0).rch = false := by
  have h := decs_tail q rs 0
  rw [Nat.add_zero] at h
  rw [h, tail_first]
  split <;> rfl

/-! ### Two rules behind one another -/

theorem heads_append (q : Int) (a b : List R3) : heads q (a ++ b) = heads q a + heads q b := by
  unfold heads; split
  · rfl
  · rw [reach_append, List.length_append]

theorem tail_append (q : Int) (a b : List R3) : tail q (a ++ b) = if (tail q a).length < (tail q b).length then tail q b else tail q a := by
  unfold tail
  rw [caps_append]
  by_cases hq : q = 0
  · simp [hq]
  · cases ha : caps q a <;> cases hb : caps q b <;> simp [hq]

theorem joined_first (q : Int) (a b : List R3) (i : Nat) (h : i < heads q a) : (decs q (a ++ b)).getD i d0 = (decs q a).getD i d0 := by
  have h2 : i < heads q (a ++ b) := by rw [heads_append]; omega
  rw [decs_head q _ i h2, decs_head q a i h, reach_append]
  unfold heads at h
  by_cases hq : q = 0
  · simp [hq] at h
  · simp only [hq, if_false] at h
    simp only [List.getD]
    rw [List.getElem?_append_left h]

theorem joined_second (q : Int) (a b : List R3) (i : Nat) (h : i < heads q b) : (decs q (a ++ b)).getD (heads q a + i) d0 = (decs q b).getD i d0 := by
  have h2 : heads q a + i < heads q (a ++ b) := by rw [heads_append]; omega
  rw [decs_head q _ _ h2, decs_head q b i h, reach_append]
  unfold heads at *
  by_cases hq : q = 0
  · simp [hq] at h
  · simp only [hq, if_false] at *
    simp only [List.getD]
    rw [List.getElem?_append_right (by omega)]
    congr 2
    omega

theorem joined_rest (q : Int) (a b : List R3) (i : Nat) : (decs q (a ++ b)).getD (heads q a + heads q b + i) d0 = (tail q (a ++ b)).getD i d0 := by
  rw [← heads_append, decs_tail]

theorem joined_len (q : Int) (a b : List R3) : (decs q (a ++ b)).length = heads q a + heads q b + (tail q (a ++ b)).length := by
  rw [decs_len, heads_append]

end Go.Proofs.Qxb6608787a
