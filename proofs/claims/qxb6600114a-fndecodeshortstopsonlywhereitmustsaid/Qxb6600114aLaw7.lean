import Derived.Test.Qxb6600114aMore
import Derived.Test.Qxb6600114aZDec
import Derived.Test.Qxb6600114aSmall
import Derived.Deep.CutBlock
import Derived.Deep.DeepCutAuto
namespace Go.Proofs.Qxb6600114a
open Go.RowKit
set_option linter.unusedVariables false

set_option maxRecDepth 100000 in
set_option maxHeartbeats 1000000 in
/-- The ways on which the law returns ahead of its first look at memory. -/
theorem law7_early (a0 : Option Addr) (len0 cap0 : Nat) (x1 x2 : Int) (a3 : Option Addr) (len3 cap3 : Nat) (x4 : Int) (w : World) (hl0 : len0 ≤ maxLen) (hl3 : len3 ≤ maxLen) (w1 : -9223372036854775808 ≤ x1 ∧ x1 ≤ 9223372036854775807)
    (hx : ¬ (len0 ≤ 65536 ∧ len3 ≤ 16384 ∧ 0 ≤ x1 ∧ x1 ≤ len0 ∧ ((len0 : Int) - x1) % 3 = 0 ∧ inR x2 = true ∧ 0 ≤ x4 ∧ x4 ≤ len3)) :
    Calls Try.prog 7 #[.slice a0 len0 cap0, .int .i64 x1, .int .i64 x2, .slice a3 len3 cap3, .int .i64 x4] w fun e w' => e = .returned (.bool true) ∧ Below w.heap.size w w' := by
  have Hx : Hid (¬ (len0 ≤ 65536 ∧ len3 ≤ 16384 ∧ 0 ≤ x1 ∧ x1 ≤ len0 ∧ ((len0 : Int) - x1) % 3 = 0 ∧ inR x2 = true ∧ 0 ≤ x4 ∧ x4 ≤ len3)) := hx
  clear hx
  by_cases c0 : len0 + len3 ≤ 1048576
  · have hd : fitsB (len0 + len3) = true := fits_yes c0
    by_cases c1 : 65536 < len0
    · go_enter Try.func7, Try.ntmps7
      go_wp2_with (go_at_call 22; refine (zzBytes22 _ _ _ _ _ _ _ _ _ _ hl0 hl3).mono ?_; rintro e w' ⟨rfl, rfl⟩)
      go_ret
      exact ⟨rfl, Below.refl _ _⟩
    by_cases c2 : 16384 < len3
    · go_enter Try.func7, Try.ntmps7
      go_wp2_with (go_at_call 22; refine (zzBytes22 _ _ _ _ _ _ _ _ _ _ hl0 hl3).mono ?_; rintro e w' ⟨rfl, rfl⟩)
      go_ret
      exact ⟨rfl, Below.refl _ _⟩
    by_cases c3 : x1 < 0
    · go_enter Try.func7, Try.ntmps7
      go_wp2_with (go_at_call 22; refine (zzBytes22 _ _ _ _ _ _ _ _ _ _ hl0 hl3).mono ?_; rintro e w' ⟨rfl, rfl⟩)
      go_ret
      exact ⟨rfl, Below.refl _ _⟩
    by_cases c4 : (len0 : Int) < x1
    · go_enter Try.func7, Try.ntmps7
      go_wp2_with (go_at_call 22; refine (zzBytes22 _ _ _ _ _ _ _ _ _ _ hl0 hl3).mono ?_; rintro e w' ⟨rfl, rfl⟩)
      go_ret
      exact ⟨rfl, Below.refl _ _⟩
    by_cases c5 : ((len0 : Int) - x1) % 3 = 0
    · have c5' : (((len0 : Int) - x1) % 3 != 0) = false := by simp [c5]
      have C5 : Hid (((len0 : Int) - x1) % 3 = 0) := c5
      clear c5
      by_cases c6 : inR x2 = true
      · by_cases c7 : x4 < 0
        · go_enter Try.func7, Try.ntmps7
          go_wp2_with (first | (go_at_call 22; refine (zzBytes22 _ _ _ _ _ _ _ _ _ _ hl0 hl3).mono ?_; rintro e w' ⟨rfl, rfl⟩) | (go_at_call 20; refine (inr20 _ _).mono ?_; rintro e w' ⟨rfl, rfl⟩))
          go_ret
          exact ⟨rfl, Below.refl _ _⟩
        have c8 : (len3 : Int) < x4 := by
          by_cases h : x4 ≤ len3
          · exact absurd ⟨by omega, by omega, by omega, by omega, C5.out, c6, by omega, h⟩ Hx.out
          · omega
        go_enter Try.func7, Try.ntmps7
        go_wp2_with (first | (go_at_call 22; refine (zzBytes22 _ _ _ _ _ _ _ _ _ _ hl0 hl3).mono ?_; rintro e w' ⟨rfl, rfl⟩) | (go_at_call 20; refine (inr20 _ _).mono ?_; rintro e w' ⟨rfl, rfl⟩))
        go_ret
        exact ⟨rfl, Below.refl _ _⟩
      · have c6' : inR x2 = false := by simpa using c6
        clear c6
        go_enter Try.func7, Try.ntmps7
        go_wp2_with (first | (go_at_call 22; refine (zzBytes22 _ _ _ _ _ _ _ _ _ _ hl0 hl3).mono ?_; rintro e w' ⟨rfl, rfl⟩) | (go_at_call 20; refine (inr20 _ _).mono ?_; rintro e w' ⟨rfl, rfl⟩))
        go_ret
        exact ⟨rfl, Below.refl _ _⟩
    · have c5' : (((len0 : Int) - x1) % 3 != 0) = true := by simp [c5]
      clear c5
      go_enter Try.func7, Try.ntmps7
      go_wp2_with (go_at_call 22; refine (zzBytes22 _ _ _ _ _ _ _ _ _ _ hl0 hl3).mono ?_; rintro e w' ⟨rfl, rfl⟩)
      go_ret
      exact ⟨rfl, Below.refl _ _⟩
  · have hd : fitsB (len0 + len3) = false := fits_no c0
    go_enter Try.func7, Try.ntmps7
    go_wp2_with (go_at_call 22; refine (zzBytes22 _ _ _ _ _ _ _ _ _ _ hl0 hl3).mono ?_; rintro e w' ⟨rfl, rfl⟩)
    go_ret
    exact ⟨rfl, Below.refl _ _⟩

end Go.Proofs.Qxb6600114a
