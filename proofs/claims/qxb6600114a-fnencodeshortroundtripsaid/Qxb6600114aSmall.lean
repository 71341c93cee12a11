import Derived.Test.Qxb6600114aBase
namespace Go.Proofs.Qxb6600114a
open Go.RowKit
set_option linter.unusedVariables false

/-- b1InRange, as a Bool behind a name. -/
def inR (x : Int) : Bool := decide (-2305843009213693951 ≤ x ∧ x ≤ 2305843009213693951)
theorem inR_yes {x : Int} (h : inR x = true) : -2305843009213693951 ≤ x ∧ x ≤ 2305843009213693951 := of_decide_eq_true h
theorem inR_no {x : Int} (h : inR x = false) : ¬ (-2305843009213693951 ≤ x ∧ x ≤ 2305843009213693951) := of_decide_eq_false h

set_option maxHeartbeats 400000 in
theorem inr20 (x : Int) (w : World) : Calls Try.prog 20 #[.int .i64 x] w fun e w' => e = .returned (.bool (inR x)) ∧ w = w' := by
  by_cases h1 : -2305843009213693951 ≤ x
  · by_cases h2 : x ≤ 2305843009213693951
    · go_enter Try.func20, Try.ntmps20
      go_wp2
      go_ret
      exact ⟨ret_bool (by unfold inR; simp [h1, h2]), rfl⟩
    · go_enter Try.func20, Try.ntmps20
      go_wp2
      go_ret
      exact ⟨ret_bool (by unfold inR; simp [h1, h2]), rfl⟩
  · go_enter Try.func20, Try.ntmps20
    go_wp2
    go_ret
    exact ⟨ret_bool (decide_eq_false (by omega)).symm, rfl⟩

set_option maxHeartbeats 400000 in
theorem zzBytes19 (a0 : Option Addr) (len0 cap0 : Nat) (x1 x2 x3 x4 : Int) (w : World) (h0 : len0 ≤ maxLen) :
    Calls Try.prog 19 #[.slice a0 len0 cap0, .int .i64 x1, .int .i64 x2, .int .i64 x3, .int .i64 x4] w fun e w' =>
      e = .returned (.bool (fitsB len0)) ∧ w = w' := by
  unfold maxLen at h0
  by_cases c0 : 1048576 < len0
  · go_enter Try.func19, Try.ntmps19
    go_wp2
    go_ret
    exact ⟨ret_bool (fits_no (by omega)).symm, rfl⟩
  · go_enter Try.func19, Try.ntmps19
    go_wp2
    go_ret
    exact ⟨ret_bool (fits_yes (by omega)).symm, rfl⟩

set_option maxHeartbeats 400000 in
theorem zzBytes23 (a0 : Option Addr) (len0 cap0 : Nat) (x1 x2 : Int) (w : World) (h0 : len0 ≤ maxLen) :
    Calls Try.prog 23 #[.slice a0 len0 cap0, .int .i64 x1, .int .i64 x2] w fun e w' =>
      e = .returned (.bool (fitsB len0)) ∧ w = w' := by
  unfold maxLen at h0
  by_cases c0 : 1048576 < len0
  · go_enter Try.func23, Try.ntmps23
    go_wp2
    go_ret
    exact ⟨ret_bool (fits_no (by omega)).symm, rfl⟩
  · go_enter Try.func23, Try.ntmps23
    go_wp2
    go_ret
    exact ⟨ret_bool (fits_yes (by omega)).symm, rfl⟩

set_option maxHeartbeats 400000 in
theorem zzBytes14 (a0 : Option Addr) (len0 cap0 : Nat) (a1 : Option Addr) (len1 cap1 : Nat) (x2 x3 x4 : Int) (w : World) (h0 : len0 ≤ maxLen) (h1 : len1 ≤ maxLen) :
    Calls Try.prog 14 #[.slice a0 len0 cap0, .slice a1 len1 cap1, .int .i64 x2, .int .i64 x3, .int .i64 x4] w fun e w' =>
      e = .returned (.bool (fitsB (len0 + len1))) ∧ w = w' := by
  unfold maxLen at h0 h1
  by_cases c0 : 1048576 < len0
  · go_enter Try.func14, Try.ntmps14
    go_wp2
    go_ret
    exact ⟨ret_bool (fits_no (by omega)).symm, rfl⟩
  · by_cases c1 : 1048576 < len1
    · go_enter Try.func14, Try.ntmps14
      go_wp2
      go_ret
      exact ⟨ret_bool (fits_no (by omega)).symm, rfl⟩
    · by_cases c2 : 1048576 < len0 + len1
      · go_enter Try.func14, Try.ntmps14
        go_wp2
        go_ret
        exact ⟨ret_bool (fits_no (by omega)).symm, rfl⟩
      · go_enter Try.func14, Try.ntmps14
        go_wp2
        go_ret
        exact ⟨ret_bool (fits_yes (by omega)).symm, rfl⟩

set_option maxHeartbeats 400000 in
theorem zzBytes22 (a0 : Option Addr) (len0 cap0 : Nat) (x1 x2 : Int) (a3 : Option Addr) (len3 cap3 : Nat) (x4 : Int) (w : World) (h0 : len0 ≤ maxLen) (h1 : len3 ≤ maxLen) :
    Calls Try.prog 22 #[.slice a0 len0 cap0, .int .i64 x1, .int .i64 x2, .slice a3 len3 cap3, .int .i64 x4] w fun e w' =>
      e = .returned (.bool (fitsB (len0 + len3))) ∧ w = w' := by
  unfold maxLen at h0 h1
  by_cases c0 : 1048576 < len0
  · go_enter Try.func22, Try.ntmps22
    go_wp2
    go_ret
    exact ⟨ret_bool (fits_no (by omega)).symm, rfl⟩
  · by_cases c1 : 1048576 < len3
    · go_enter Try.func22, Try.ntmps22
      go_wp2
      go_ret
      exact ⟨ret_bool (fits_no (by omega)).symm, rfl⟩
    · by_cases c2 : 1048576 < len0 + len3
      · go_enter Try.func22, Try.ntmps22
        go_wp2
        go_ret
        exact ⟨ret_bool (fits_no (by omega)).symm, rfl⟩
      · go_enter Try.func22, Try.ntmps22
        go_wp2
        go_ret
        exact ⟨ret_bool (fits_yes (by omega)).symm, rfl⟩

end Go.Proofs.Qxb6600114a
