import Derived.Test.Qxb6600114aNode
namespace Go.Proofs.Qxb6600114a
open Go.RowKit

/-- A new row of bytes. -/
def zrow (m : Nat) : Array Value := ((List.replicate m (0 : Int)).map (Value.int .u8)).toArray
theorem zrow_blk (w : World) (m : Nat) : Blk (w.alloc (.cells (zrow m) 5)) w.heap.size 5 ((List.replicate m (0 : Int)).map (Value.int .u8)) := heap_alloc_new w _
theorem make22 (n m : Nat) (hnm : n ≤ m) (hm : m ≤ 1048576) (L C : Int) (hL : L = (n : Int)) (hC : C = (m : Int)) (w : World) :
    (Instr.makeSlice 22 (.int .i64 L) (.int .i64 C)).run Try.prog w = .ok (.slice (some ⟨w.heap.size, 0, none⟩) n m) (w.alloc (.cells (zrow m) 5)) := by
  obtain ⟨i0, hi, hz0, hz1, hz2⟩ := info_parts Try.info5
  subst hL hC
  have h := run_make (P := Try.prog) w 22 5 i0 (.int .u8 0) Try.underlying22 hi hz0 .i64 .i64 (n : Int) (m : Int) (by omega) (by omega) (by rw [hz2]; omega) (by omega)
  rw [Int.toNat_natCast, Int.toNat_natCast, hz1] at h
  rw [h]
  have e : madeCells (Value.int .u8 0).cells (m * 1) = zrow m := by
    apply Array.toList_inj.1
    rw [made_one _ rfl]
    simp [zrow]
  rw [e]


end Go.Proofs.Qxb6600114a
