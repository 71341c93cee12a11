import Derived.Test.Qxb6600114aEnc
import Derived.Test.Qxb6600114aConv
namespace Go.Proofs.Qxb6600114a
open Go.RowKit
set_option linter.unusedVariables false

set_option maxRecDepth 100000 in
set_option maxHeartbeats 1000000 in
theorem zenc17 (gc W C len capb i : Nat) (ab : Option Addr) (a : Int) (l : List Nd) (zs : List Int) (w : World)
    (hl : l.length = len) (hS : Src w ab l) (hok : ∀ n ∈ l, n.ok) (hlen : len ≤ 1048576)
    (hZ : Blk w gc 5 (zs.map (Value.int .u8))) (hzl : zs.length = C) (hW : W ≤ C) (hC : C ≤ 1048576) (hi : i ≤ len)
    (ha0 : -4611686018427387903 ≤ a) (ha1 : a ≤ 4611686018427387903) :
    Calls Try.prog 17 #[.slice ab len capb, .slice (some ⟨gc, 0, none⟩) W C, .int .i64 a, .int .i64 i] w fun e w' => ∃ j : Nat,
      e = .returned (.tuple #[.slice (some ⟨gc, 0, none⟩) (W + 3 * j) C, .int .i64 (lastTo l i a j), .int .i64 ((i + j : Nat) : Int)]) ∧
      i + j ≤ len ∧ W + 3 * j ≤ C ∧ FitAll l i a j ∧ Ends l i a W C j ∧ Blk w' gc 5 ((encTo zs W l i a j).map (Value.int .u8)) ∧ Kept [gc] w w' := by
  have HL : Hid (l.length = len) := hl
  have HZL : Hid (zs.length = C) := hzl
  have HO : Hid (∀ n ∈ l, n.ok) := hok
  clear hl hzl hok
  go_enter Try.func17, Try.ntmps17
  go_wp2_with fail
  refine (conv26_any ab len capb l _ HL.out hlen hS).mono ?_
  rintro e w1 ⟨an, rfl, hH1, hb1⟩
  go_wp2_with fail
  refine (enc27 w1.heap.size gc W C len len i an a l zs _ _ _ _ _ _ _ _ _ _ (blk_new w1 55 [_, _, _, _, _, _, _, _, _, _, _, _]) HL.out (fun hn => by obtain ⟨g, e, _, hB⟩ := hH1 hn; exact ⟨g, e, hB.alloc _⟩) HO.out hlen ((hZ.below' hb1).alloc _) HZL.out hW hC hi ha0 ha1).mono ?_
  rintro e w2 ⟨j, rfl, hj1, hj2, hfit, hends, hT2, hZ2, hK2⟩
  have t7 : w2.cell? ⟨w1.heap.size, 7, none⟩ = some (.slice (some ⟨gc, 0, none⟩) (W + 3 * j) C) := hT2.cell rfl
  have t10 : w2.cell? ⟨w1.heap.size, 10, none⟩ = some (.int .i64 (lastTo l i a j)) := hT2.cell rfl
  go_wp2_with fail
  go_quiet (fail)
  go_wp2
  go_ret3
  refine ⟨j, ?_, hj1, hj2, hfit, hends, hZ2.drewN _, ((Kept.of_below hb1).trans (kept_new hK2)).drewN _⟩
  simp

end Go.Proofs.Qxb6600114a
