import Derived.Test.Qxb6600114aClone
import Derived.Test.Qxb6600114aClose
import Derived.OpenShut
namespace Go.Proofs.Qxb6600114a
open Go.RowKit
set_option linter.unusedVariables false

set_option maxRecDepth 100000 in
set_option maxHeartbeats 400000 in
/-- The ways on which the law returns ahead of its first look at memory. -/
theorem law3_early (a0 : Option Addr) (len0 cap0 : Nat) (a1 : Option Addr) (len1 cap1 : Nat) (a2 a3 a4 a5 : Int) (w : World) (hl0 : len0 ≤ maxLen) (hl1 : len1 ≤ maxLen)
    (hx : ¬ (len0 ≤ 65536 ∧ len1 ≤ 65536 ∧ 1 ≤ len1 ∧ 1 ≤ a2 ∧ a2 ≤ 8 ∧ 0 ≤ a3 ∧ a3 < a4 ∧ a4 ≤ 2305843009213693951)) :
    Calls Try.prog 3 #[.slice a0 len0 cap0, .slice a1 len1 cap1, .int .i64 a2, .int .i64 a3, .int .i64 a4, .int .i64 a5] w fun e w' => e = .returned (.bool true) ∧ Below w.heap.size w w' := by
  by_cases c0 : len0 + len1 ≤ 1048576
  · have hd : fitsB (len0 + len1) = true := fits_yes c0
    by_cases c1 : 65536 < len0
    · go_enter Try.func3, Try.ntmps3
      go_wp2_with (go_at_call 10; refine (zzBytes10 _ _ _ _ _ _ _ _ _ _ _ hl0 hl1).mono ?_; rintro e w' ⟨rfl, rfl⟩)
      go_ret
      exact ⟨rfl, Below.refl _ _⟩
    by_cases c2 : 65536 < len1
    · go_enter Try.func3, Try.ntmps3
      go_wp2_with (go_at_call 10; refine (zzBytes10 _ _ _ _ _ _ _ _ _ _ _ hl0 hl1).mono ?_; rintro e w' ⟨rfl, rfl⟩)
      go_ret
      exact ⟨rfl, Below.refl _ _⟩
    by_cases c3 : len1 = 0
    · subst c3
      have hd2 : fitsB len0 = true := fits_yes (by omega)
      go_enter Try.func3, Try.ntmps3
      go_wp2_with (go_at_call 10; refine (zzBytes10 _ _ _ _ _ _ _ _ _ _ _ hl0 hl1).mono ?_; rintro e w' ⟨rfl, rfl⟩)
      go_ret
      exact ⟨rfl, Below.refl _ _⟩
    have c3' : ((len1 : Int) == 0) = false := by rw [beq_eq_false_iff_ne]; omega
    by_cases c4 : a2 < 1
    · go_enter Try.func3, Try.ntmps3
      go_wp2_with (go_at_call 10; refine (zzBytes10 _ _ _ _ _ _ _ _ _ _ _ hl0 hl1).mono ?_; rintro e w' ⟨rfl, rfl⟩)
      go_ret
      exact ⟨rfl, Below.refl _ _⟩
    by_cases c5 : 8 < a2
    · go_enter Try.func3, Try.ntmps3
      go_wp2_with (go_at_call 10; refine (zzBytes10 _ _ _ _ _ _ _ _ _ _ _ hl0 hl1).mono ?_; rintro e w' ⟨rfl, rfl⟩)
      go_ret
      exact ⟨rfl, Below.refl _ _⟩
    by_cases c6 : a3 < 0
    · go_enter Try.func3, Try.ntmps3
      go_wp2_with (go_at_call 10; refine (zzBytes10 _ _ _ _ _ _ _ _ _ _ _ hl0 hl1).mono ?_; rintro e w' ⟨rfl, rfl⟩)
      go_ret
      exact ⟨rfl, Below.refl _ _⟩
    by_cases c7 : a4 ≤ a3
    · go_enter Try.func3, Try.ntmps3
      go_wp2_with (go_at_call 10; refine (zzBytes10 _ _ _ _ _ _ _ _ _ _ _ hl0 hl1).mono ?_; rintro e w' ⟨rfl, rfl⟩)
      go_ret
      exact ⟨rfl, Below.refl _ _⟩
    have c8 : 2305843009213693951 < a4 := by omega
    go_enter Try.func3, Try.ntmps3
    go_wp2_with (go_at_call 10; refine (zzBytes10 _ _ _ _ _ _ _ _ _ _ _ hl0 hl1).mono ?_; rintro e w' ⟨rfl, rfl⟩)
    go_ret
    exact ⟨rfl, Below.refl _ _⟩
  · have hd : fitsB (len0 + len1) = false := fits_no c0
    go_enter Try.func3, Try.ntmps3
    go_wp2_with (go_at_call 10; refine (zzBytes10 _ _ _ _ _ _ _ _ _ _ _ hl0 hl1).mono ?_; rintro e w' ⟨rfl, rfl⟩)
    go_ret
    exact ⟨rfl, Below.refl _ _⟩

end Go.Proofs.Qxb6600114a
