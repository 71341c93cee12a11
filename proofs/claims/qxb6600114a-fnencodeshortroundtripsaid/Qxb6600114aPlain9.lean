import Derived.Test.Qxb6600114aPlain8
import Derived.Test.Qxb6600114aZero
namespace Go.Proofs.Qxb6600114a
open Go.RowKit
set_option linter.unusedVariables false

theorem nth_one (n : Nd) : nth [n] (0 + 0) = n := rfl
theorem one_none {n : Nd} {a : Int} {j : Nat} (h : FitAll [n] 0 a j) (hn : ¬ n.fits a) : j = 0 := by
  rcases Nat.eq_zero_or_pos j with h0 | h0
  · exact h0
  · exact absurd (h 0 h0) hn
theorem one_some {n : Nd} {a : Int} {j : Nat} (he : Ends [n] 0 a 0 3 j) (hj : 0 + j ≤ 1) (hn : n.fits a) : j = 1 := by
  rcases Nat.eq_zero_or_pos j with h0 | h0
  · subst h0
    rcases he with h | h | h
    · simp at h
    · exact absurd hn h
    · omega
  · omega
theorem and16 (x : Int) (h0 : 0 ≤ x) (h1 : x < 16) : isLong x = false := by
  unfold isLong
  rw [u8_and x 16 h0 (by omega) (by omega) (by omega)]
  have h2 : x.toNat &&& (16 : Int).toNat = 0 := by
    have := nat_bit 4 x.toNat
    rw [show (16 : Int).toNat = 2 ^ 4 from rfl, this, Nat.div_eq_of_lt (by omega)]
  rw [h2]; rfl
/-- The three bytes of one node. -/
theorem one_bytes (n : Nd) (a : Int) (k : Nat) (hf : n.fits a) (hk0 : 0 ≤ n.kind) : encTo (List.replicate 3 0) 0 [n] 0 a 1 = [n.hdr, n.pos - a, n.en - n.st] := rfl
theorem bytes3 {x y z : Int} (hx : 0 ≤ x ∧ x ≤ 255) (hy : 0 ≤ y ∧ y ≤ 255) (hz : 0 ≤ z ∧ z ≤ 255) : Bytes [x, y, z] := fun k => by
  match k with
  | 0 => exact hx
  | 1 => exact hy
  | 2 => exact hz
  | k + 3 => simp [byt]

theorem zdec18_00 (gc L capc N capz : Nat) (az ac : Option Addr) (a : Int) (l : List Nd) (zs : List Int) (w : World)
    (hl : l.length = N) (hS : Src w az l) (hN' : N ≤ 1048576)
    (hZ : L ≠ 0 → ac = some ⟨gc, 0, none⟩ ∧ Blk w gc 5 (zs.map (Value.int .u8))) (hzl : L ≤ zs.length) (hcl : L ≤ capc) (hL : L ≤ 1048576) (hcap : capc ≤ 1048576) (hb : Bytes zs)
    (hp3 : L % 3 = 0) (ha0 : -2305843009213693951 ≤ a) (ha1 : a ≤ 2305843009213693951) :
    Calls Try.prog 18 #[.slice ac L capc, .int .i64 0, .int .i64 a, .slice az N capz, .int .i64 0] w fun e w' => ∃ (t np : Nat) (a' : Option Addr),
      e = .returned (.tuple #[.slice a' N N, .int .i64 (t : Int), .int .i64 (np : Int), .int .i64 (atTo zs 0 a t)]) ∧ np = 0 + 3 * t ∧
      t ≤ N ∧ 0 + 3 * t ≤ L ∧ ShortAll zs 0 t ∧ Stops zs 0 L 0 N t ∧ Holds w' w.heap.size a' 42 (decTo l 0 zs 0 a t) ∧ Below w.heap.size w w' := by
  have h := zdec18_0 gc L capc N capz 0 az ac a l zs w hl hS hN' hZ hzl hcl hL hcap hb (Nat.zero_le _) hp3 ha0 ha1
  rw [show ((0 : Nat) : Int) = 0 from rfl] at h
  exact h

theorem make36_1 (w : World) : (Instr.makeSlice 36 (.int .i64 1) (.int .i64 1)).run Try.prog w = .ok (.slice (some ⟨w.heap.size, 0, none⟩) 1 1) (w.alloc (.cells #[.int .u8 0, .bool false, .int .i64 0, .int .i64 0, .int .i64 0] 42)) := by
  obtain ⟨i0, hi, hz0, hz1, hz2⟩ := info_parts Try.info42
  have h := run_make (P := Try.prog) w 36 42 i0 _ Try.underlying36 hi hz0 .i64 .i64 1 1 (by omega) (by omega) (by rw [hz2]; omega) (by omega)
  rw [hz1] at h
  rw [h]
  have e : madeCells (Value.agg #[.int .u8 0, .bool false, .int .i64 0, .int .i64 0, .int .i64 0]).cells (1 * 5) = #[.int .u8 0, .bool false, .int .i64 0, .int .i64 0, .int .i64 0] := by
    apply Array.toList_inj.1
    rw [made_nodes 1]; rfl
  rw [show Int.toNat 1 = 1 from rfl, e]

end Go.Proofs.Qxb6600114a
