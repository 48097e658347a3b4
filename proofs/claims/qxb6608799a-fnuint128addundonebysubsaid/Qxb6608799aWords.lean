/-
  TWO-WORD NUMBERS: math/bits.Add64 and Sub64 at this dump (11, 12), add (9), sub (10), their doors (6, 7), u128SumFits (5), u128OwnSum (8); the plain arithmetic.
-/
import Derived.Test.Qxb6608799aRows
import Derived.WalkKit
import Derived.WalkSpells
import Derived.WalkLawsBesides
import Derived.OpenShut
import Derived.BigQuiet
import Derived.Deep.QuietTactic
import Derived.RowKit3
import Derived.Laws.Externs
import Derived.Shelf.Spec.BitsCarry
namespace Go.Proofs.Qxb6608799a
open Go.RowKit
set_option linter.unusedVariables false

/-- The words. -/
def m64 : Int := 18446744073709551616
def Word (x : Int) : Prop := 0 ≤ x ∧ x < m64
def addLo (a b : Int) : Int := (a + b) % m64
def carry (a b : Int) : Int := (a + b) / m64
def subLo (a b : Int) : Int := (a - b) % m64
def bor (a b : Int) : Int := if a < b then 1 else 0

theorem add64 (x y : Int) (hx : 0 ≤ x) (hy : 0 ≤ y) (w : World) : (callFunc 11 #[.int .u64 x, .int .u64 y, .int .u64 0]).run Try.prog w = .ok (.value (.tuple #[.int .u64 (addLo x y), .int .u64 (carry x y)])) w := by
  rw [run_callFunc_extern Try.func11 (by kernel_rfl) (by kernel_rfl) (by kernel_rfl) (e := add64Entry) (by kernel_rfl), run_add64 x y 0 hx hy (by omega) (by omega)]
  simp only [Result.andThen, addLo, carry, m64, Int.add_zero]

theorem sub64 (x y : Int) (hx : 0 ≤ x) (hy : 0 ≤ y) (hy' : y < m64) (w : World) : (callFunc 12 #[.int .u64 x, .int .u64 y, .int .u64 0]).run Try.prog w = .ok (.value (.tuple #[.int .u64 (subLo x y), .int .u64 (bor x y)])) w := by
  obtain ⟨x, rfl⟩ := Int.eq_ofNat_of_zero_le hx
  obtain ⟨y, rfl⟩ := Int.eq_ofNat_of_zero_le hy
  unfold m64 at hy'
  have e1 : (((x + 18446744073709551616 - y - 0) % 18446744073709551616 : Nat) : Int) = subLo x y := by unfold subLo m64; omega
  have e2 : ((if x < y + 0 then 1 else 0 : Nat) : Int) = bor x y := by unfold bor; split <;> split <;> omega
  have h := run_sub64 (P := Try.prog) x y 0 (by omega) w
  rw [e1, e2] at h
  rw [run_callFunc_extern Try.func12 (by kernel_rfl) (by kernel_rfl) (by kernel_rfl) (e := sub64Entry) (by kernel_rfl)]
  have h2 : (sub64Entry #[.int .u64 x, .int .u64 y, .int .u64 0]).run Try.prog w = .ok (.tuple #[.int .u64 (subLo x y), .int .u64 (bor x y)]) w := h
  rw [h2]
  rfl

theorem wrap_u64 (n : Int) : IntKind.u64.wrap n = n % m64 := by
  simp [IntKind.wrap, IntKind.bits, IntKind.signed, m64]

def addHi (ah al bh bl : Int) : Int := IntKind.u64.wrap (IntKind.u64.wrap (ah + bh) + carry al bl)
def subHi (ah al bh bl : Int) : Int := IntKind.u64.wrap (IntKind.u64.wrap (ah - bh) - bor al bl)

theorem word_addLo (a b : Int) : Word (addLo a b) := by unfold Word addLo m64; omega
theorem word_subLo (a b : Int) : Word (subLo a b) := by unfold Word subLo m64; omega
theorem word_addHi (a b c d : Int) : Word (addHi a b c d) := by unfold addHi; rw [wrap_u64]; unfold Word m64; omega
theorem word_subHi (a b c d : Int) : Word (subHi a b c d) := by unfold subHi; rw [wrap_u64]; unfold Word m64; omega

theorem gtrans {a b c : World} (h : Grown a b) (k : Grown b c) : Grown a c := ⟨World.keptBut_trans h.1 k.1, fun x => (k.2.1 x).trans (h.2.1 x), Nat.le_trans h.2.2 k.2.2⟩
theorem gdrewN {a b : World} (h : Grown a b) (n : Nat) : Grown a (b.drewN n) := h

theorem add_any (ah al bh bl : Int) (h1 : Word ah) (h2 : Word al) (h3 : Word bh) (h4 : Word bl) (w : World) :
    Calls Try.prog 9 #[.agg #[.int .u64 ah, .int .u64 al], .agg #[.int .u64 bh, .int .u64 bl]] w fun e w' => e = .returned (.agg #[.int .u64 (addHi ah al bh bl), .int .u64 (addLo al bl)]) ∧ Grown w w' := by
  have f1 := fun w => add64 al bl h2.1 h4.1 w
  go_enter Try.func9, Try.ntmps9
  go_wp2_with (simp only [f1])
  exact bodyPost_ret (v := .agg #[.int .u64 (addHi ah al bh bl), .int .u64 (addLo al bl)]) (by simp [results, Try.results9, go_sem, addHi]) rfl ⟨rfl, (((Grown.refl _).alloc _ _).alloc _ _).alloc _ _⟩

theorem sub_any (ah al bh bl : Int) (h1 : Word ah) (h2 : Word al) (h3 : Word bh) (h4 : Word bl) (w : World) :
    Calls Try.prog 10 #[.agg #[.int .u64 ah, .int .u64 al], .agg #[.int .u64 bh, .int .u64 bl]] w fun e w' => e = .returned (.agg #[.int .u64 (subHi ah al bh bl), .int .u64 (subLo al bl)]) ∧ Grown w w' := by
  have f1 := fun w => sub64 al bl h2.1 h4.1 h4.2 w
  go_enter Try.func10, Try.ntmps10
  go_wp2_with (simp only [f1])
  exact bodyPost_ret (v := .agg #[.int .u64 (subHi ah al bh bl), .int .u64 (subLo al bl)]) (by simp [results, Try.results10, go_sem, subHi]) rfl ⟨rfl, (((Grown.refl _).alloc _ _).alloc _ _).alloc _ _⟩

theorem zzadd_any (ah al bh bl : Int) (h1 : Word ah) (h2 : Word al) (h3 : Word bh) (h4 : Word bl) (w : World) :
    Calls Try.prog 6 #[.int .u64 ah, .int .u64 al, .int .u64 bh, .int .u64 bl] w fun e w' => e = .returned (.tuple #[.int .u64 (addHi ah al bh bl), .int .u64 (addLo al bl)]) ∧ Grown w w' := by
  go_enter Try.func6, Try.ntmps6
  go_wp2_with fail
  refine (add_any ah al bh bl h1 h2 h3 h4 _).mono ?_
  rintro e w1 ⟨rfl, hg⟩
  go_wp2
  go_quiet (fail)
  go_wp2
  go_ret2
  exact ⟨rfl, gdrewN (hg.alloc _ _) _⟩

theorem zzsub_any (ah al bh bl : Int) (h1 : Word ah) (h2 : Word al) (h3 : Word bh) (h4 : Word bl) (w : World) :
    Calls Try.prog 7 #[.int .u64 ah, .int .u64 al, .int .u64 bh, .int .u64 bl] w fun e w' => e = .returned (.tuple #[.int .u64 (subHi ah al bh bl), .int .u64 (subLo al bl)]) ∧ Grown w w' := by
  go_enter Try.func7, Try.ntmps7
  go_wp2_with fail
  refine (sub_any ah al bh bl h1 h2 h3 h4 _).mono ?_
  rintro e w1 ⟨rfl, hg⟩
  go_wp2
  go_quiet (fail)
  go_wp2
  go_ret2
  exact ⟨rfl, gdrewN (hg.alloc _ _) _⟩

/-- It answers a bool. -/
def Said (e : Ending) : Prop := ∃ b, e = .returned (.bool b)

/-- Does the sum fit? -/
theorem fits_any (ah al bh bl : Int) (h1 : Word ah) (h2 : Word al) (h3 : Word bh) (h4 : Word bl) (w : World) :
    Calls Try.prog 5 #[.int .u64 ah, .int .u64 al, .int .u64 bh, .int .u64 bl] w fun e w' => Said e ∧ w' = w := by
  obtain ⟨sl, hsl⟩ : ∃ x, IntKind.u64.wrap (al + bl) = x := ⟨_, rfl⟩
  obtain ⟨sh, hsh⟩ : ∃ x, IntKind.u64.wrap (ah + bh) = x := ⟨_, rfl⟩
  obtain ⟨t0, ht0⟩ : ∃ x, IntKind.u64.wrap sh = x := ⟨_, rfl⟩
  obtain ⟨t1, ht1⟩ : ∃ x, IntKind.u64.wrap (sh + 1) = x := ⟨_, rfl⟩
  by_cases c1 : sl < al <;> by_cases c2 : sh < ah
  all_goals
    go_enter Try.func5, Try.ntmps5
    go_wp2
    go_ret
    exact ⟨⟨_, rfl⟩, rfl⟩

/-- The law's own sum. -/
theorem own_any (ah al bh bl : Int) (h1 : Word ah) (h2 : Word al) (h3 : Word bh) (h4 : Word bl) (w : World) :
    Calls Try.prog 8 #[.int .u64 ah, .int .u64 al, .int .u64 bh, .int .u64 bl] w fun e w' => e = .returned (.tuple #[.int .u64 (addHi ah al bh bl), .int .u64 (addLo al bl)]) ∧ w' = w := by
  have hsl : IntKind.u64.wrap (al + bl) = addLo al bl := by rw [wrap_u64]; rfl
  obtain ⟨sh, hsh⟩ : ∃ x, IntKind.u64.wrap (ah + bh) = x := ⟨_, rfl⟩
  have hhi : addHi ah al bh bl = IntKind.u64.wrap (sh + carry al bl) := by unfold addHi; rw [hsh]
  by_cases c1 : addLo al bl < al
  · have hc : carry al bl = 1 := by unfold Word at h2 h4; unfold addLo at c1; unfold carry; unfold m64 at *; omega
    rw [hc] at hhi
    have HH : Hid (addHi ah al bh bl = IntKind.u64.wrap (sh + 1)) := hhi
    clear hhi hc
    go_enter Try.func8, Try.ntmps8
    go_wp2
    go_ret2
    exact ⟨by rw [HH.out]; rfl, rfl⟩
  · have hc : carry al bl = 0 := by unfold Word at h2 h4; unfold addLo at c1; unfold carry; unfold m64 at *; omega
    rw [hc, Int.add_zero] at hhi
    have HH : Hid (addHi ah al bh bl = IntKind.u64.wrap sh) := hhi
    clear hhi hc
    go_enter Try.func8, Try.ntmps8
    go_wp2
    go_ret2
    exact ⟨by rw [HH.out]; rfl, rfl⟩

/-! ### The plain arithmetic -/

theorem back_lo (al bl : Int) (h2 : Word al) (h4 : Word bl) : subLo (addLo al bl) bl = al := by
  unfold Word at *; unfold subLo addLo; unfold m64 at *; omega
theorem back_hi (ah al bh bl : Int) (h1 : Word ah) (h2 : Word al) (h3 : Word bh) (h4 : Word bl) : subHi (addHi ah al bh bl) (addLo al bl) bh bl = ah := by
  unfold Word at *; unfold subHi addHi addLo carry bor; simp only [wrap_u64]; unfold m64 at *
  split <;> omega
theorem comm_lo (al bl : Int) : addLo al bl = addLo bl al := by unfold addLo; rw [Int.add_comm]
theorem comm_hi (ah al bh bl : Int) : addHi ah al bh bl = addHi bh bl ah al := by unfold addHi carry; rw [Int.add_comm ah bh, Int.add_comm al bl]
theorem assoc_lo (al bl cl : Int) : addLo (addLo al bl) cl = addLo al (addLo bl cl) := by unfold addLo m64; omega
theorem assoc_hi (ah al bh bl ch cl : Int) (h2 : Word al) (h4 : Word bl) (h6 : Word cl) :
    addHi (addHi ah al bh bl) (addLo al bl) ch cl = addHi ah al (addHi bh bl ch cl) (addLo bl cl) := by
  unfold Word at *; unfold addHi addLo carry; simp only [wrap_u64]; unfold m64 at *; omega

end Go.Proofs.Qxb6608799a
