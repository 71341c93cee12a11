import Derived.WalkKit
namespace Go.Proofs.Qxb6600114a

/-- What the law's reading loop has gathered when the bytes from b on have been read. -/
def vAt (s : Int) (sw b : Nat) : Int := s / 2 ^ (8 * b) % 2 ^ (8 * (sw - b))

theorem emod_mul_256 (x M : Int) (hM : 0 < M) : x % (256 * M) = (x / 256 % M) * 256 + x % 256 := by
  have h1 := Int.emod_add_mul_ediv x 256
  have h2 := Int.emod_add_mul_ediv (x / 256) M
  have e : x = ((x / 256 % M) * 256 + x % 256) + (256 * M) * (x / 256 / M) := by
    rw [Int.mul_assoc]; omega
  have b1 := Int.emod_nonneg (x / 256) (show M ≠ 0 by omega)
  have b2 := Int.emod_lt_of_pos (x / 256) hM
  have b3 := Int.emod_nonneg x (show (256 : Int) ≠ 0 by omega)
  have b4 := Int.emod_lt_of_pos x (show (0 : Int) < 256 by omega)
  calc x % (256 * M) = (((x / 256 % M) * 256 + x % 256) + (256 * M) * (x / 256 / M)) % (256 * M) := by rw [← e]
    _ = ((x / 256 % M) * 256 + x % 256) % (256 * M) := by rw [Int.add_mul_emod_self_left]
    _ = _ := Int.emod_eq_of_lt (by omega) (by omega)

theorem vAt_top (s : Int) (sw : Nat) : vAt s sw sw = 0 := by simp [vAt, Int.emod_one]

theorem pow_pos_int (k : Nat) : (0 : Int) < 2 ^ k := Int.pow_pos (by omega)

theorem pow_le_int (a b : Nat) (h : a ≤ b) : (2 : Int) ^ a ≤ 2 ^ b := by
  have := Nat.pow_le_pow_right (show 0 < 2 by omega) h
  have h2 : ((2 ^ a : Nat) : Int) ≤ ((2 ^ b : Nat) : Int) := Int.ofNat_le.2 this
  simpa using h2

theorem vAt_step_sum (s : Int) (sw c : Nat) (hc : c < sw) : vAt s sw c = vAt s sw (c + 1) * 256 + s / 2 ^ (8 * c) % 256 := by
  unfold vAt
  have e1 : 8 * (sw - c) = 8 + 8 * (sw - (c + 1)) := by omega
  have e2 : 8 * (c + 1) = 8 * c + 8 := by omega
  rw [e1, e2, Int.pow_add, Int.pow_add, ← Int.ediv_ediv_of_nonneg (Int.le_of_lt (pow_pos_int _))]
  exact emod_mul_256 _ _ (pow_pos_int _)

theorem wraps_u64 (n : Int) (h₀ : 0 ≤ n) (h₁ : n < 2 ^ 64) : IntKind.u64.wrap n = n := by rw [IntKind.wrap_u64]; omega

theorem vAt_bd (s : Int) (sw b : Nat) : 0 ≤ vAt s sw b ∧ vAt s sw b < 2 ^ (8 * (sw - b)) :=
  ⟨Int.emod_nonneg _ (by have := pow_pos_int (8 * (sw - b)); omega), Int.emod_lt_of_pos _ (pow_pos_int _)⟩

theorem vAt_step (s : Int) (sw c : Nat) (hc : c < sw) (h8 : sw ≤ 8) :
    bits .or .u64 (IntKind.u64.wrap (vAt s sw (c + 1) * 256)) (s / 2 ^ (8 * c) % 256) = vAt s sw c := by
  obtain ⟨b0, b1⟩ := vAt_bd s sw (c + 1)
  have b2 := pow_le_int (8 * (sw - (c + 1))) 56 (by omega)
  have b3 := Int.emod_nonneg (s / 2 ^ (8 * c)) (show (256 : Int) ≠ 0 by omega)
  have b4 := Int.emod_lt_of_pos (s / 2 ^ (8 * c)) (show (0 : Int) < 256 by omega)
  rw [vAt_step_sum s sw c hc]
  generalize vAt s sw (c + 1) = V at *
  generalize s / 2 ^ (8 * c) % 256 = y at *
  generalize (2 : Int) ^ (8 * (sw - (c + 1))) = M at *
  have b5 : V < 72057594037927936 := by have : (2 : Int) ^ 56 = 72057594037927936 := by decide
                                        omega
  rw [wraps_u64 (V * 256) (by omega) (by omega)]
  exact bits_join .u64 64 (by decide) wraps_u64 8 (V * 256) y (by omega) (by omega) (by omega) (by omega) (by omega) (by omega)

theorem vAt_full (s : Int) : vAt s 8 0 = IntKind.u64.wrap s := by
  rw [IntKind.wrap_u64]; simp [vAt]

theorem vAt_mask (s : Int) (sw : Nat) (h1 : 1 ≤ sw) (h8 : sw < 8) :
    vAt s sw 0 = bits .and .u64 (IntKind.u64.wrap s) (IntKind.u64.wrap (IntKind.u64.wrap (2 ^ (8 * sw)) - 1)) := by
  have hp := pow_pos_int (8 * sw)
  have hle := pow_le_int (8 * sw) 56 (by omega)
  have h56 : (2 : Int) ^ 56 = 72057594037927936 := by decide
  have e : vAt s sw 0 = s % 2 ^ (8 * sw) := by simp [vAt]
  rw [e, wraps_u64 (2 ^ (8 * sw)) (by omega) (by omega), wraps_u64 (2 ^ (8 * sw) - 1) (by omega) (by omega), IntKind.wrap_u64]
  have b0 := Int.emod_nonneg s (show (18446744073709551616 : Int) ≠ 0 by omega)
  have b1 := Int.emod_lt_of_pos s (show (0 : Int) < 18446744073709551616 by omega)
  rw [bits_mask .u64 64 (by decide) wraps_u64 (8 * sw) (by omega) (s % 18446744073709551616) b0 (by omega)]
  have : (2 : Int) ^ 64 = 18446744073709551616 := by decide
  rw [← this]
  exact (Int.emod_emod_of_dvd s (by
    refine ⟨2 ^ (64 - 8 * sw), ?_⟩
    rw [← Int.pow_add]; congr 1; omega)).symm

end Go.Proofs.Qxb6600114a
