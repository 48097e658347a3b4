/-
  escapeAttr (17) and its door ZZescapeAttr (9): the escaped text is appended to a row of the call's own.
-/
import Derived.Test.Qxb6608713aReads
import Derived.Test.Qxb6608713aClone
namespace Go.Proofs.Qxb6608713a
open Go.RowKit
set_option linter.unusedVariables false

/-- A string's bytes as integers. -/
def bytesOf (s : ByteArray) : List Int := s.data.toList.map fun b => (b.toNat : Int)

theorem bytesOf_length (s : ByteArray) : (bytesOf s).length = s.size := by
  rw [bytesOf, List.length_map, Array.length_toList]
  rfl

theorem bytesOf_at (s : ByteArray) (k : Nat) (h : k < s.size) : (bytesOf s).getD k 0 = (s[k].toNat : Int) := by
  have h2 : k < s.data.size := h
  simp only [bytesOf, List.getD, List.getElem?_map, Array.getElem?_toList, Array.getElem?_eq_getElem h2, Option.map_some, Option.getD_some]
  rfl

/-- What is owned behind one byte more. -/
theorem next_own {w1 : World} {base n k : Nat} {v' : Value} {xs : List Int} {s : ByteArray} {news : List Value} {m : Nat} (hk : k < s.size) {c : Int} (hc : (bytesOf s).getD k 0 = c)
    (h : w1.ownsRow base 5 1 v' (n + (esc ((bytesOf s).take k)).length + m) (xs.map (Value.int .u8) ++ ((esc ((bytesOf s).take k)).map (Value.int .u8) ++ news))) (hr : news = (escB c).map (Value.int .u8)) (hm : m = (escB c).length) :
    w1.ownsRow base 5 1 v' (n + (esc ((bytesOf s).take (k + 1))).length) ((xs ++ esc ((bytesOf s).take (k + 1))).map (Value.int .u8)) := by
  have e := esc_take_succ (bytesOf s) k (by rw [bytesOf_length]; exact hk)
  rw [hc] at e
  rw [e, List.length_append, List.map_append, List.map_append, ← Nat.add_assoc, ← hr, ← hm]
  exact h

theorem room1 {n t : Nat} (ht : t ≤ 6) (h : n ≤ 1000000000 - 6) : n + t ≤ maxLen := by unfold maxLen; omega
theorem room2 {n t : Nat} (ht : t ≤ 6) (h : n ≤ 1000000000 - 6) : n + t ≤ 140737488355328 := by omega

theorem esc_any (s : ByteArray) (v : Value) (n base : Nat) (xs : List Int) (w : World) (hown0 : w.ownsRow base 5 1 v n (xs.map (Value.int .u8))) (hbase : base ≤ w.heap.size) (hsz : n + 6 * s.size ≤ 1000000000) :
    Calls Try.prog 17 #[v, .string s] w fun e w' => ∃ v', e = .returned v' ∧ w'.ownsRow base 5 1 v' (n + (esc (bytesOf s)).length) ((xs ++ esc (bytesOf s)).map (Value.int .u8)) ∧ Below base w w' := by
  obtain ⟨i0, hi, hz0, hz1, hz2⟩ := info_parts Try.info5
  go_enter Try.func17, Try.ntmps17
  go_wp2
  go_loopw [0, 9] (fun v i wr => ∃ k : Nat, k ≤ s.size ∧ i = .int .i64 k ∧ wr.ownsRow base 5 1 v (n + (esc ((bytesOf s).take k)).length) ((xs ++ esc ((bytesOf s).take k)).map (Value.int .u8)) ∧ Below base w wr) (fun _ i _ => s.size - (intOf i).toNat)
  case atStart => exact ⟨0, Nat.zero_le _, rfl, by simpa [esc] using hown0, Below.refl _ _⟩
  case round =>
    obtain ⟨k, hk, rfl, hown, hbel⟩ := hrel
    clear hown0
    by_cases hlt : k < s.size
    · have HB : Hid ((bytesOf s).getD k 0 = (s[k].toNat : Int)) := bytesOf_at s k hlt
      have hb1 : base ≤ wr.heap.size := Nat.le_trans hbase hbel.size
      have hle : n + (esc ((bytesOf s).take k)).length ≤ 1000000000 - 6 := by
        have h1 := esc_take_lt (bytesOf s) k (by rw [bytesOf_length]; exact hlt)
        have h2 := esc_le ((bytesOf s).take k)
        rw [List.length_take, bytesOf_length] at h2
        omega
      have hcs : (s[k].toNat : Int) = 38 ∨ (s[k].toNat : Int) = 60 ∨ (s[k].toNat : Int) = 34 ∨ (s[k].toNat : Int) = 9 ∨ (s[k].toNat : Int) = 10 ∨ (s[k].toNat : Int) = 13 ∨
          ((s[k].toNat : Int) ≠ 38 ∧ (s[k].toNat : Int) ≠ 60 ∧ (s[k].toNat : Int) ≠ 34 ∧ (s[k].toNat : Int) ≠ 9 ∧ (s[k].toNat : Int) ≠ 10 ∧ (s[k].toNat : Int) ≠ 13) := by omega
      rcases hcs with hc | hc | hc | hc | hc | hc | ⟨g1, g2, g3, g4, g5, g6⟩
      case inr.inr.inr.inr.inr.inr =>
        have he : escB (s[k].toNat : Int) = [(s[k].toNat : Int)] := by unfold escB; rw [if_neg g1, if_neg g2, if_neg g3, if_neg g4, if_neg g5, if_neg g6]
        have HE : Hid (escB (s[k].toNat : Int) = [(s[k].toNat : Int)]) := he
        clear he
        go_wp2_with (at_builtin; refine wpList_append_own _ rfl _ _ 22 rfl base 5 i0 (.int .u8 0) 1 1 Try.underlying22 hi hz0 hz1 hz2 rfl (by decide) _ _ _ rfl (hown.alloc _) ⟨wr.heap.size, 0, none⟩ 1 1 [.int .u8 (s[k].toNat : Int)] rfl rfl (cell_one_new _ _ _) ?c2 (by unfold maxLen; omega) (by omega) (by simp; omega) ?_)
        case c2 => intro u hu; simp at hu; subst hu; rfl
        intro v' w1 hown' hgrow _
        have R := next_own hlt HB.out hown' (by rw [HE.out]; rfl) (by rw [HE.out]; rfl)
        have hb2 : Below base w w1 := (hbel.alloc hb1 _).grown hgrow (by simp; omega) (fun q hq => (hown.lt q hq).1)
        clear hown' hgrow hown hbel HE
        go_wp2
        go_roundw
        case rel => exact ⟨k + 1, by omega, by go_num, R, hb2⟩
        case measure => simp [intOf]; omega
      all_goals
        go_wp2_with (at_builtin; refine Lib.wpList_append_own_string _ rfl _ _ 22 9 rfl base 5 i0 Try.underlying22 Try.underlying9 hi hz0 hz1 hz2 _ _ _ rfl hown _ rfl (room1 (by decide) hle) (room2 (by decide) hle) hb1 ?_)
        intro v' w1 hown' hgrow _
        have R := next_own hlt (HB.out.trans hc) hown' (by rfl) (by rfl)
        have hb2 : Below base w w1 := hbel.grown hgrow hb1 (fun q hq => (hown.lt q hq).1)
        clear hown' hgrow hown hbel
        go_wp2
        go_roundw
        case rel => exact ⟨k + 1, by omega, by go_num, R, hb2⟩
        case measure => simp [intOf]; omega
    · have hall : (bytesOf s).take k = bytesOf s := List.take_of_length_le (by rw [bytesOf_length]; omega)
      rw [hall] at hown
      clear hall
      go_wp2
      go_ret
      exact ⟨_, rfl, hown, hbel⟩

theorem zz_any (s : ByteArray) (v : Value) (n base : Nat) (xs : List Int) (w : World) (hown0 : w.ownsRow base 5 1 v n (xs.map (Value.int .u8))) (hbase : base ≤ w.heap.size) (hsz : n + 6 * s.size ≤ 1000000000) :
    Calls Try.prog 9 #[v, .string s] w fun e w' => ∃ v', e = .returned v' ∧ w'.ownsRow base 5 1 v' (n + (esc (bytesOf s)).length) ((xs ++ esc (bytesOf s)).map (Value.int .u8)) ∧ Below base w w' := by
  go_enter Try.func9, Try.ntmps9
  go_wp2_with fail
  refine (esc_any s v n base xs _ hown0 hbase hsz).mono ?_
  rintro e w' ⟨v', rfl, h1, h2⟩
  go_wp2
  go_ret
  exact ⟨_, rfl, h1, h2⟩

end Go.Proofs.Qxb6608713a
