import Derived.Test.Qxb6600114aZEnc
import Derived.Test.Qxb6600114aSmall
import Derived.Deep.RegionWith
namespace Go.Proofs.Qxb6600114a
open Go.RowKit
set_option linter.unusedVariables false

set_option maxRecDepth 100000 in
set_option maxHeartbeats 1000000 in
/-- The ways on which the law returns ahead of its first look at memory. -/
theorem law5_early (a0 : Option Addr) (len0 cap0 : Nat) (x1 x2 x3 x4 : Int) (w : World) (hl0 : len0 ≤ maxLen)
    (hx : ¬ (len0 ≤ 16384 ∧ 0 ≤ x1 ∧ x1 ≤ 65536 ∧ 0 ≤ x2 ∧ x2 ≤ 65536 ∧ inR x3 = true ∧ 0 ≤ x4 ∧ x4 ≤ len0)) :
    Calls Try.prog 5 #[.slice a0 len0 cap0, .int .i64 x1, .int .i64 x2, .int .i64 x3, .int .i64 x4] w fun e w' => e = .returned (.bool true) ∧ Below w.heap.size w w' := by
  have Hx : Hid (¬ (len0 ≤ 16384 ∧ 0 ≤ x1 ∧ x1 ≤ 65536 ∧ 0 ≤ x2 ∧ x2 ≤ 65536 ∧ inR x3 = true ∧ 0 ≤ x4 ∧ x4 ≤ len0)) := hx
  clear hx
  by_cases c0 : len0 ≤ 1048576
  · have hd : fitsB len0 = true := fits_yes c0
    by_cases c1 : 16384 < len0
    · go_enter Try.func5, Try.ntmps5
      go_wp2_with (go_at_call 19; refine (zzBytes19 _ _ _ _ _ _ _ _ hl0).mono ?_; rintro e w' ⟨rfl, rfl⟩)
      go_ret
      exact ⟨rfl, Below.refl _ _⟩
    by_cases c2 : x1 < 0
    · go_enter Try.func5, Try.ntmps5
      go_wp2_with (go_at_call 19; refine (zzBytes19 _ _ _ _ _ _ _ _ hl0).mono ?_; rintro e w' ⟨rfl, rfl⟩)
      go_ret
      exact ⟨rfl, Below.refl _ _⟩
    by_cases c3 : 65536 < x1
    · go_enter Try.func5, Try.ntmps5
      go_wp2_with (go_at_call 19; refine (zzBytes19 _ _ _ _ _ _ _ _ hl0).mono ?_; rintro e w' ⟨rfl, rfl⟩)
      go_ret
      exact ⟨rfl, Below.refl _ _⟩
    by_cases c4 : x2 < 0
    · go_enter Try.func5, Try.ntmps5
      go_wp2_with (go_at_call 19; refine (zzBytes19 _ _ _ _ _ _ _ _ hl0).mono ?_; rintro e w' ⟨rfl, rfl⟩)
      go_ret
      exact ⟨rfl, Below.refl _ _⟩
    by_cases c5 : 65536 < x2
    · go_enter Try.func5, Try.ntmps5
      go_wp2_with (go_at_call 19; refine (zzBytes19 _ _ _ _ _ _ _ _ hl0).mono ?_; rintro e w' ⟨rfl, rfl⟩)
      go_ret
      exact ⟨rfl, Below.refl _ _⟩
    by_cases c6 : inR x3 = true
    · by_cases c7 : x4 < 0
      · go_enter Try.func5, Try.ntmps5
        go_wp2_with (first | (go_at_call 19; refine (zzBytes19 _ _ _ _ _ _ _ _ hl0).mono ?_; rintro e w' ⟨rfl, rfl⟩) | (go_at_call 20; refine (inr20 _ _).mono ?_; rintro e w' ⟨rfl, rfl⟩))
        go_ret
        exact ⟨rfl, Below.refl _ _⟩
      have c8 : (len0 : Int) < x4 := by
        have := Hx.out
        by_cases h : x4 ≤ len0
        · exact absurd ⟨by omega, by omega, by omega, by omega, by omega, c6, by omega, h⟩ this
        · omega
      go_enter Try.func5, Try.ntmps5
      go_wp2_with (first | (go_at_call 19; refine (zzBytes19 _ _ _ _ _ _ _ _ hl0).mono ?_; rintro e w' ⟨rfl, rfl⟩) | (go_at_call 20; refine (inr20 _ _).mono ?_; rintro e w' ⟨rfl, rfl⟩))
      go_ret
      exact ⟨rfl, Below.refl _ _⟩
    · have c6' : inR x3 = false := by simpa using c6
      clear c6
      go_enter Try.func5, Try.ntmps5
      go_wp2_with (first | (go_at_call 19; refine (zzBytes19 _ _ _ _ _ _ _ _ hl0).mono ?_; rintro e w' ⟨rfl, rfl⟩) | (go_at_call 20; refine (inr20 _ _).mono ?_; rintro e w' ⟨rfl, rfl⟩))
      go_ret
      exact ⟨rfl, Below.refl _ _⟩
  · have hd : fitsB len0 = false := fits_no c0
    go_enter Try.func5, Try.ntmps5
    go_wp2_with (go_at_call 19; refine (zzBytes19 _ _ _ _ _ _ _ _ hl0).mono ?_; rintro e w' ⟨rfl, rfl⟩)
    go_ret
    exact ⟨rfl, Below.refl _ _⟩

end Go.Proofs.Qxb6600114a
