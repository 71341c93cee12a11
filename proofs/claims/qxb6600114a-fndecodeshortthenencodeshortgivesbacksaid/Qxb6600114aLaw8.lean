import Derived.Test.Qxb6600114aMore
import Derived.Test.Qxb6600114aZDec
import Derived.Test.Qxb6600114aZEnc
import Derived.Test.Qxb6600114aSmall
import Derived.Test.Qxb6600114aMake
import Derived.Test.Qxb6600114aPlain8
import Derived.Deep.RegionWith
import Derived.Deep.CutBlock
import Derived.Deep.DeepCutAuto
namespace Go.Proofs.Qxb6600114a
open Go.RowKit
set_option linter.unusedVariables false

set_option maxRecDepth 100000 in
set_option maxHeartbeats 1000000 in
/-- The ways on which the law returns ahead of its first look at memory. -/
theorem law8_early (a0 : Option Addr) (len0 cap0 : Nat) (x1 x2 : Int) (w : World) (hl0 : len0 ≤ maxLen)
    (hx : ¬ (len0 ≤ 65536 ∧ 0 ≤ x1 ∧ x1 ≤ len0 ∧ ((len0 : Int) - x1) % 3 = 0 ∧ 0 ≤ x2 ∧ x2 ≤ 2305843009213693951)) :
    Calls Try.prog 8 #[.slice a0 len0 cap0, .int .i64 x1, .int .i64 x2] w fun e w' => e = .returned (.bool true) ∧ Below w.heap.size w w' := by
  have Hx : Hid (¬ (len0 ≤ 65536 ∧ 0 ≤ x1 ∧ x1 ≤ len0 ∧ ((len0 : Int) - x1) % 3 = 0 ∧ 0 ≤ x2 ∧ x2 ≤ 2305843009213693951)) := hx
  clear hx
  by_cases c0 : len0 ≤ 1048576
  · have hd : fitsB len0 = true := fits_yes c0
    by_cases c1 : 65536 < len0
    · go_enter Try.func8, Try.ntmps8
      go_wp2_with (go_at_call 23; refine (zzBytes23 _ _ _ _ _ _ hl0).mono ?_; rintro e w' ⟨rfl, rfl⟩)
      go_ret
      exact ⟨rfl, Below.refl _ _⟩
    by_cases c3 : x1 < 0
    · go_enter Try.func8, Try.ntmps8
      go_wp2_with (go_at_call 23; refine (zzBytes23 _ _ _ _ _ _ hl0).mono ?_; rintro e w' ⟨rfl, rfl⟩)
      go_ret
      exact ⟨rfl, Below.refl _ _⟩
    by_cases c4 : (len0 : Int) < x1
    · go_enter Try.func8, Try.ntmps8
      go_wp2_with (go_at_call 23; refine (zzBytes23 _ _ _ _ _ _ hl0).mono ?_; rintro e w' ⟨rfl, rfl⟩)
      go_ret
      exact ⟨rfl, Below.refl _ _⟩
    by_cases c5 : ((len0 : Int) - x1) % 3 = 0
    · have c5' : (((len0 : Int) - x1) % 3 != 0) = false := by simp [c5]
      have C5 : Hid (((len0 : Int) - x1) % 3 = 0) := c5
      clear c5
      by_cases c6 : x2 < 0
      · go_enter Try.func8, Try.ntmps8
        go_wp2_with (go_at_call 23; refine (zzBytes23 _ _ _ _ _ _ hl0).mono ?_; rintro e w' ⟨rfl, rfl⟩)
        go_ret
        exact ⟨rfl, Below.refl _ _⟩
      have c7 : 2305843009213693951 < x2 := by
        by_cases h : x2 ≤ 2305843009213693951
        · exact absurd ⟨by omega, by omega, by omega, C5.out, by omega, h⟩ Hx.out
        · omega
      go_enter Try.func8, Try.ntmps8
      go_wp2_with (go_at_call 23; refine (zzBytes23 _ _ _ _ _ _ hl0).mono ?_; rintro e w' ⟨rfl, rfl⟩)
      go_ret
      exact ⟨rfl, Below.refl _ _⟩
    · have c5' : (((len0 : Int) - x1) % 3 != 0) = true := by simp [c5]
      clear c5
      go_enter Try.func8, Try.ntmps8
      go_wp2_with (go_at_call 23; refine (zzBytes23 _ _ _ _ _ _ hl0).mono ?_; rintro e w' ⟨rfl, rfl⟩)
      go_ret
      exact ⟨rfl, Below.refl _ _⟩
  · have hd : fitsB len0 = false := fits_no c0
    go_enter Try.func8, Try.ntmps8
    go_wp2_with (go_at_call 23; refine (zzBytes23 _ _ _ _ _ _ hl0).mono ?_; rintro e w' ⟨rfl, rfl⟩)
    go_ret
    exact ⟨rfl, Below.refl _ _⟩

end Go.Proofs.Qxb6600114a
