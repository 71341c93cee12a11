import Derived.Test.Qxb6600114aBase
namespace Go.Proofs.Qxb6600114a
open Go.RowKit
set_option linter.unusedVariables false

/-- The bytes zs behind putSize's first k rounds, from place 'off' on. -/
def putTo (zs : List Int) (off : Nat) (size : Int) : Nat → List Int
  | 0 => zs
  | k + 1 => (putTo zs off size k).set (off + k) (size / 2 ^ (8 * k) % 256)

theorem putTo_length (zs : List Int) (off : Nat) (size : Int) (k : Nat) : (putTo zs off size k).length = zs.length := by
  induction k with
  | zero => rfl
  | succ k ih => simp [putTo, ih]

theorem putTo_other (zs : List Int) (off : Nat) (size : Int) (k j : Nat) (h : j < off ∨ off + k ≤ j) : (putTo zs off size k)[j]? = zs[j]? := by
  induction k with
  | zero => rfl
  | succ k ih =>
    rw [putTo, List.getElem?_set_ne (by omega)]
    exact ih (by omega)

theorem putTo_at (zs : List Int) (off : Nat) (size : Int) (k j : Nat) (h : j < k) (hl : off + k ≤ zs.length) : (putTo zs off size k)[off + j]? = some (size / 2 ^ (8 * j) % 256) := by
  induction k with
  | zero => omega
  | succ k ih =>
    rw [putTo]
    by_cases e : j = k
    · subst e
      rw [List.getElem?_set_self (by rw [putTo_length]; omega)]
    · rw [List.getElem?_set_ne (by omega)]
      exact ih (by omega) (by omega)

set_option maxHeartbeats 400000 in
theorem put30 (g off n cap : Nat) (zs : List Int) (size : Int) (w : World) (hB : Blk w g 5 (zs.map (Value.int .u8))) (hfit : off + n ≤ zs.length) (hn : n ≤ 8) (hs0 : -9223372036854775808 ≤ size) (hs1 : size ≤ 9223372036854775807) :
    Calls Try.prog 30 #[.slice (some ⟨g, off, none⟩) n cap, .int .i64 size] w fun e w' =>
      e = .returned (.tuple #[]) ∧ Blk w' g 5 ((putTo zs off size n).map (Value.int .u8)) ∧ Kept [g] w w' := by
  go_enter Try.func30, Try.ntmps30
  go_wp2
  go_loopw [7] (fun i wr => ∃ k : Nat, k ≤ n ∧ i = .int .i64 k ∧ Blk wr g 5 ((putTo zs off size k).map (Value.int .u8)) ∧ Kept [g] w wr) (fun i _ => n - (intOf i).toNat)
  case atStart => exact ⟨0, Nat.zero_le _, rfl, hB, Kept.refl _ _⟩
  case round =>
    obtain ⟨k, hk, rfl, hBk, hgr⟩ := hrel
    by_cases hlt : k < n
    · have hfz := hBk.frozen (off + k)
      have hlen := putTo_length zs off size k
      have hcell : ∃ v, wr.cell? ⟨g, off + k, none⟩ = some v := ⟨_, hBk.cell (List.getElem?_eq_getElem (by rw [List.length_map, hlen]; omega))⟩
      obtain ⟨v, hcell⟩ := hcell
      clear hlen
      go_wp2
      go_roundw
      case rel =>
        refine ⟨k + 1, by omega, by go_num, ?_, hgr.setCell (by simp) _⟩
        rw [putTo, List.map_set]
        exact hBk.set _ _
      case measure => simp [intOf]; omega
    · obtain rfl : k = n := by omega
      go_wp2
      go_end0
      exact ⟨rfl, hBk, hgr⟩

end Go.Proofs.Qxb6600114a
