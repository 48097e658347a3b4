/-
  THE WALKS OF THE TWO LAWS (3, 4).
-/
import Derived.Test.Qxb6608799aWords
namespace Go.Proofs.Qxb6608799a
open Go.RowKit
set_option linter.unusedVariables false

theorem law1 (xh xl yh yl : Int) (h1 : Word xh) (h2 : Word xl) (h3 : Word yh) (h4 : Word yl) (w : World) :
    Calls Try.prog 3 #[.int .u64 xh, .int .u64 xl, .int .u64 yh, .int .u64 yl] w fun e w' => e = .returned (.bool true) ∧ Grown w w' := by
  have e1 := back_lo xl yl h2 h4
  have e2 := back_hi xh xl yh yl h1 h2 h3 h4
  have e3 : subLo (addLo xl yl) xl = yl := by rw [comm_lo]; exact back_lo yl xl h4 h2
  have e4 : subHi (addHi xh xl yh yl) (addLo xl yl) xh xl = yh := by rw [comm_hi, comm_lo]; exact back_hi yh yl xh xl h3 h4 h1 h2
  go_enter Try.func3, Try.ntmps3
  go_wp2_with fail
  refine (fits_any xh xl yh yl h1 h2 h3 h4 _).mono ?_
  rintro e w' ⟨⟨b, rfl⟩, hw⟩
  obtain rfl := hw.symm
  cases b with
  | false =>
    go_wp2
    go_ret
    exact ⟨rfl, Grown.refl _⟩
  | true =>
    go_wp2_with fail
    refine (zzadd_any xh xl yh yl h1 h2 h3 h4 _).mono ?_
    rintro e w1 ⟨rfl, g1⟩
    go_wp2_with fail
    refine (zzsub_any _ _ yh yl (word_addHi _ _ _ _) (word_addLo _ _) h3 h4 _).mono ?_
    rintro e w2 ⟨rfl, g2⟩
    go_wp2_with fail
    refine (zzsub_any _ _ xh xl (word_addHi _ _ _ _) (word_addLo _ _) h1 h2 _).mono ?_
    rintro e w3 ⟨rfl, g3⟩
    rw [e3, e4]
    go_wp2
    go_ret
    exact ⟨rfl, gtrans (gtrans g1 g2) g3⟩

set_option maxRecDepth 100000 in
set_option maxHeartbeats 1000000 in
theorem law2 (xh xl yh yl zh zl : Int) (h1 : Word xh) (h2 : Word xl) (h3 : Word yh) (h4 : Word yl) (h5 : Word zh) (h6 : Word zl) (w : World) :
    Calls Try.prog 4 #[.int .u64 xh, .int .u64 xl, .int .u64 yh, .int .u64 yl, .int .u64 zh, .int .u64 zl] w fun e w' => e = .returned (.bool true) ∧ Grown w w' := by
  have a1 := word_addHi xh xl yh yl
  have a2 := word_addLo xl yl
  have HB1 : Hid (subLo (addLo xl yl) yl = xl) := back_lo xl yl h2 h4
  have HB2 : Hid (subHi (addHi xh xl yh yl) (addLo xl yl) yh yl = xh) := back_hi xh xl yh yl h1 h2 h3 h4
  have HC1 : Hid (addLo yl xl = addLo xl yl) := comm_lo yl xl
  have HC2 : Hid (addHi yh yl xh xl = addHi xh xl yh yl) := comm_hi yh yl xh xl
  have HA1 : Hid (addLo xl (addLo yl zl) = addLo (addLo xl yl) zl) := (assoc_lo xl yl zl).symm
  have HA2 : Hid (addHi xh xl (addHi yh yl zh zl) (addLo yl zl) = addHi (addHi xh xl yh yl) (addLo xl yl) zh zl) := (assoc_hi xh xl yh yl zh zl h2 h4 h6).symm
  have HD1 : Hid (subLo (addLo (addLo xl yl) zl) zl = addLo xl yl) := back_lo _ zl a2 h6
  have HD2 : Hid (subHi (addHi (addHi xh xl yh yl) (addLo xl yl) zh zl) (addLo (addLo xl yl) zl) zh zl = addHi xh xl yh yl) := back_hi _ _ zh zl a1 a2 h5 h6
  go_enter Try.func4, Try.ntmps4
  go_wp2_with fail
  refine (fits_any xh xl yh yl h1 h2 h3 h4 _).mono ?_
  rintro e w' ⟨⟨b, rfl⟩, hw⟩
  obtain rfl := hw.symm
  cases b with
  | false =>
    go_wp2
    go_ret
    exact ⟨rfl, Grown.refl _⟩
  | true =>
    go_wp2_with fail
    refine (own_any xh xl yh yl h1 h2 h3 h4 _).mono ?_
    rintro e w' ⟨rfl, hw⟩
    obtain rfl := hw.symm
    go_wp2_with fail
    refine (fits_any _ _ zh zl a1 a2 h5 h6 _).mono ?_
    rintro e w' ⟨⟨b, rfl⟩, hw⟩
    obtain rfl := hw.symm
    cases b with
    | false =>
      go_wp2
      go_ret
      exact ⟨rfl, Grown.refl _⟩
    | true =>
      go_wp2_with fail
      refine (zzadd_any xh xl yh yl h1 h2 h3 h4 _).mono ?_
      rintro e w1 ⟨rfl, g1⟩
      go_wp2_with fail
      refine (zzadd_any yh yl xh xl h3 h4 h1 h2 _).mono ?_
      rintro e w2 ⟨rfl, g2⟩
      rw [HC1.out, HC2.out]
      go_wp2_with fail
      refine (zzadd_any _ _ zh zl a1 a2 h5 h6 _).mono ?_
      rintro e w3 ⟨rfl, g3⟩
      go_wp2_with fail
      refine (zzadd_any yh yl zh zl h3 h4 h5 h6 _).mono ?_
      rintro e w4 ⟨rfl, g4⟩
      go_wp2_with fail
      refine (zzadd_any xh xl _ _ h1 h2 (word_addHi _ _ _ _) (word_addLo _ _) _).mono ?_
      rintro e w5 ⟨rfl, g5⟩
      rw [HA1.out, HA2.out]
      go_wp2_with fail
      refine (zzsub_any _ _ zh zl (word_addHi _ _ _ _) (word_addLo _ _) h5 h6 _).mono ?_
      rintro e w6 ⟨rfl, g6⟩
      rw [HD1.out, HD2.out]
      go_wp2_with fail
      refine (zzsub_any _ _ yh yl a1 a2 h3 h4 _).mono ?_
      rintro e w7 ⟨rfl, g7⟩
      rw [HB1.out, HB2.out]
      go_wp2
      go_ret
      exact ⟨rfl, gtrans (gtrans (gtrans (gtrans (gtrans (gtrans g1 g2) g3) g4) g5) g6) g7⟩

end Go.Proofs.Qxb6608799a
