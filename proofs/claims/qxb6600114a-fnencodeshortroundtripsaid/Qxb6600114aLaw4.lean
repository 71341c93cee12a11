import Derived.Test.Qxb6600114aPlain4
import Derived.Test.Qxb6600114aMore
import Derived.Test.Qxb6600114aMake
import Derived.Deep.CutBlock
import Derived.Deep.DeepCutAuto
namespace Go.Proofs.Qxb6600114a
open Go.RowKit
set_option linter.unusedVariables false

set_option maxRecDepth 100000 in
set_option maxHeartbeats 1000000 in
theorem well15 (n : Nd) (w : World) (hw : (-9223372036854775808 ≤ n.pos ∧ n.pos ≤ 9223372036854775807)) :
    Calls Try.prog 15 #[.agg #[.int .u8 n.kind, .bool n.dec, .int .i64 n.pos, .int .i64 n.st, .int .i64 n.en]] w fun e w' => e = .returned (.bool (wellB n)) ∧ Kept [] w w' := by
  by_cases c0 : 8 ≤ n.kind
  · go_enter Try.func15, Try.ntmps15
    go_wp2
    go_ret
    exact ⟨ret_bool (decide_eq_false (by omega)).symm, (Kept.refl _ _).alloc _⟩
  by_cases c1 : n.pos < 0
  · go_enter Try.func15, Try.ntmps15
    go_wp2
    go_ret
    exact ⟨ret_bool (decide_eq_false (by omega)).symm, (Kept.refl _ _).alloc _⟩
  by_cases c2 : 2305843009213693951 < n.pos
  · go_enter Try.func15, Try.ntmps15
    go_wp2
    go_ret
    exact ⟨ret_bool (decide_eq_false (by omega)).symm, (Kept.refl _ _).alloc _⟩
  by_cases c3 : n.st = n.pos
  · have c3' : (n.st != n.pos) = false := by rw [bne_eq_false_iff_eq]; exact c3
    have C3 : Hid (n.st = n.pos) := c3
    clear c3
    go_enter Try.func15, Try.ntmps15
    go_wp2_with (go_at_call 20; refine (inr20 _ _).mono ?_; rintro e w' ⟨rfl, rfl⟩)
    go_ret
    refine ⟨ret_bool ?_, (Kept.refl _ _).alloc _⟩
    unfold wellB
    have := C3.out
    by_cases h : inR n.en = true
    · rw [h]; exact (decide_eq_true ⟨by omega, by omega, by omega, .inl this, rfl⟩).symm
    · have h' : inR n.en = false := by simpa using h
      rw [h']; exact (decide_eq_false (fun q => by cases q.2.2.2.2)).symm
  · have c3' : (n.st != n.pos) = true := by rw [bne_iff_ne]; exact c3
    by_cases c4 : n.st = n.pos + 1
    · have c4' : (n.st != n.pos + 1) = false := by rw [bne_eq_false_iff_eq]; exact c4
      have C4 : Hid (n.st = n.pos + 1) := c4
      clear c4 c3
      go_enter Try.func15, Try.ntmps15
      go_wp2_with (go_at_call 20; refine (inr20 _ _).mono ?_; rintro e w' ⟨rfl, rfl⟩)
      go_ret
      refine ⟨ret_bool ?_, (Kept.refl _ _).alloc _⟩
      unfold wellB
      have := C4.out
      by_cases h : inR n.en = true
      · rw [h]; exact (decide_eq_true ⟨by omega, by omega, by omega, .inr this, rfl⟩).symm
      · have h' : inR n.en = false := by simpa using h
        rw [h']; exact (decide_eq_false (fun q => by cases q.2.2.2.2)).symm
    · have c4' : (n.st != n.pos + 1) = true := by rw [bne_iff_ne]; exact c4
      have C3 : Hid (¬ n.st = n.pos) := c3
      have C4 : Hid (¬ n.st = n.pos + 1) := c4
      clear c3 c4
      go_enter Try.func15, Try.ntmps15
      go_wp2
      go_ret
      exact ⟨ret_bool (decide_eq_false (fun q => by rcases q.2.2.2.1 with h | h; exact C3.out h; exact C4.out h)).symm, (Kept.refl _ _).alloc _⟩

set_option maxRecDepth 100000 in
set_option maxHeartbeats 1000000 in
/-- The ways on which the law returns ahead of its first look at memory. -/
theorem law4_early (a0 : Option Addr) (len0 cap0 : Nat) (a1 : Option Addr) (len1 cap1 : Nat) (x2 x3 x4 : Int) (w : World) (hl0 : len0 ≤ maxLen) (hl1 : len1 ≤ maxLen)
    (hx : ¬ (len0 ≤ 16384 ∧ len1 ≤ 65536 ∧ 0 ≤ x2 ∧ x2 ≤ 65536 ∧ 0 ≤ x3 ∧ x3 ≤ 2305843009213693951 ∧ 0 ≤ x4 ∧ x4 ≤ len0)) :
    Calls Try.prog 4 #[.slice a0 len0 cap0, .slice a1 len1 cap1, .int .i64 x2, .int .i64 x3, .int .i64 x4] w fun e w' => e = .returned (.bool true) ∧ Below w.heap.size w w' := by
  have Hx : Hid (¬ (len0 ≤ 16384 ∧ len1 ≤ 65536 ∧ 0 ≤ x2 ∧ x2 ≤ 65536 ∧ 0 ≤ x3 ∧ x3 ≤ 2305843009213693951 ∧ 0 ≤ x4 ∧ x4 ≤ len0)) := hx
  clear hx
  by_cases c0 : len0 + len1 ≤ 1048576
  · have hd : fitsB (len0 + len1) = true := fits_yes c0
    by_cases c1 : 16384 < len0
    · go_enter Try.func4, Try.ntmps4
      go_wp2_with (go_at_call 14; refine (zzBytes14 _ _ _ _ _ _ _ _ _ _ hl0 hl1).mono ?_; rintro e w' ⟨rfl, rfl⟩)
      go_ret
      exact ⟨rfl, Below.refl _ _⟩
    by_cases c2 : 65536 < len1
    · go_enter Try.func4, Try.ntmps4
      go_wp2_with (go_at_call 14; refine (zzBytes14 _ _ _ _ _ _ _ _ _ _ hl0 hl1).mono ?_; rintro e w' ⟨rfl, rfl⟩)
      go_ret
      exact ⟨rfl, Below.refl _ _⟩
    by_cases c3 : x2 < 0
    · go_enter Try.func4, Try.ntmps4
      go_wp2_with (go_at_call 14; refine (zzBytes14 _ _ _ _ _ _ _ _ _ _ hl0 hl1).mono ?_; rintro e w' ⟨rfl, rfl⟩)
      go_ret
      exact ⟨rfl, Below.refl _ _⟩
    by_cases c4 : 65536 < x2
    · go_enter Try.func4, Try.ntmps4
      go_wp2_with (go_at_call 14; refine (zzBytes14 _ _ _ _ _ _ _ _ _ _ hl0 hl1).mono ?_; rintro e w' ⟨rfl, rfl⟩)
      go_ret
      exact ⟨rfl, Below.refl _ _⟩
    by_cases c5 : x3 < 0
    · go_enter Try.func4, Try.ntmps4
      go_wp2_with (go_at_call 14; refine (zzBytes14 _ _ _ _ _ _ _ _ _ _ hl0 hl1).mono ?_; rintro e w' ⟨rfl, rfl⟩)
      go_ret
      exact ⟨rfl, Below.refl _ _⟩
    by_cases c6 : 2305843009213693951 < x3
    · go_enter Try.func4, Try.ntmps4
      go_wp2_with (go_at_call 14; refine (zzBytes14 _ _ _ _ _ _ _ _ _ _ hl0 hl1).mono ?_; rintro e w' ⟨rfl, rfl⟩)
      go_ret
      exact ⟨rfl, Below.refl _ _⟩
    by_cases c7 : x4 < 0
    · go_enter Try.func4, Try.ntmps4
      go_wp2_with (go_at_call 14; refine (zzBytes14 _ _ _ _ _ _ _ _ _ _ hl0 hl1).mono ?_; rintro e w' ⟨rfl, rfl⟩)
      go_ret
      exact ⟨rfl, Below.refl _ _⟩
    have c8 : (len0 : Int) < x4 := by
      by_cases h : x4 ≤ len0
      · exact absurd ⟨by omega, by omega, by omega, by omega, by omega, by omega, by omega, h⟩ Hx.out
      · omega
    go_enter Try.func4, Try.ntmps4
    go_wp2_with (go_at_call 14; refine (zzBytes14 _ _ _ _ _ _ _ _ _ _ hl0 hl1).mono ?_; rintro e w' ⟨rfl, rfl⟩)
    go_ret
    exact ⟨rfl, Below.refl _ _⟩
  · have hd : fitsB (len0 + len1) = false := fits_no c0
    go_enter Try.func4, Try.ntmps4
    go_wp2_with (go_at_call 14; refine (zzBytes14 _ _ _ _ _ _ _ _ _ _ hl0 hl1).mono ?_; rintro e w' ⟨rfl, rfl⟩)
    go_ret
    exact ⟨rfl, Below.refl _ _⟩

end Go.Proofs.Qxb6600114a
