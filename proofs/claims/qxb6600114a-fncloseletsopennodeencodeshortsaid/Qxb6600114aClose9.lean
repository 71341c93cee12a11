import Derived.Test.Qxb6600114aConv
import Derived.BigRegion
namespace Go.Proofs.Qxb6600114a
open Go.RowKit
set_option linter.unusedVariables false

set_option maxRecDepth 100000 in
set_option maxHeartbeats 1000000 in
theorem close25b (T gn : Nat) (size : Int) (n : Nd) (v0 v1 v4 v5 v6 v7 v8 v9 v10 v11 : Value) (w : World)
    (hT : Blk w T 55 [v0, v1, .slice (some ⟨gn, 0, none⟩) 1 1, .int .i64 0, v4, v5, v6, v7, v8, v9, v10, v11])
    (hN : Blk w gn 68 (flat [n])) (hs0 : 0 ≤ n.st) (hs1 : n.st ≤ 2305843009213693951) (hz0 : 0 ≤ size) (hz1 : size ≤ 2305843009213693951) :
    Calls Try.prog 25 #[.pointer (some ⟨T, 0, none⟩), .int .i64 0, .int .i64 size] w fun e w' =>
      e = .returned (.tuple #[]) ∧ Blk w' T 55 [v0, v1, .slice (some ⟨gn, 0, none⟩) 1 1, .int .i64 0, v4, v5, v6, v7, v8, v9, v10, v11] ∧
      Blk w' gn 68 (flat [⟨n.kind, n.dec, n.pos, n.st, n.st + size⟩]) ∧ Kept [gn] w w' := by
  have t2 : w.cell? ⟨T, 2, none⟩ = some (.slice (some ⟨gn, 0, none⟩) 1 1) := hT.cell rfl
  have t3 : w.cell? ⟨T, 3, none⟩ = some (.int .i64 0) := hT.cell rfl
  have c3 : w.cell? ⟨gn, 3, none⟩ = some (.int .i64 n.st) := hN.cell rfl
  have c4 : w.cell? ⟨gn, 4, none⟩ = some (.int .i64 n.en) := hN.cell rfl
  have f4 := hN.frozen 4
  have hne := hN.ne hT (by decide)
  go_enter Try.func25, Try.ntmps25
  go_wp2_with fail
  go_region
  all_goals go_wp2
  all_goals refine bodyPost_ret (results_none rfl _ _ _) rfl ?_
  all_goals exact ⟨rfl, hT.setOther (a := ⟨gn, 4, none⟩) (fun e => hne e.symm) _, (hN.set 4 (.int .i64 (n.st + size))), ((Kept.refl [gn] w).setCell (p := ⟨gn, 4, none⟩) (by simp) _).drew⟩

theorem pick_one {w1 : World} {B : Nat} {an : Option Addr} {t : TypeId} {n : Nd} (h : Holds w1 B an t [n]) : ∃ g, an = some ⟨g, 0, none⟩ ∧ B ≤ g ∧ Blk w1 g t (flat [n]) := h (by simp)

set_option maxRecDepth 100000 in
set_option maxHeartbeats 1000000 in
theorem close24 (az : Option Addr) (capz : Nat) (size : Int) (n : Nd) (w : World) (hS : Src w az [n]) (hs0 : 0 ≤ n.st) (hs1 : n.st ≤ 2305843009213693951) (hz0 : 0 ≤ size) (hz1 : size ≤ 2305843009213693951) :
    Calls Try.prog 24 #[.slice az 1 capz, .int .i64 0, .int .i64 0, .int .i64 size] w fun e w' => ∃ a' : Option Addr,
      e = .returned (.slice a' 1 1) ∧ Holds w' w.heap.size a' 42 [⟨n.kind, n.dec, n.pos, n.st, n.st + size⟩] ∧ Below w.heap.size w w' := by
  go_enter Try.func24, Try.ntmps24
  go_wp2_with fail
  refine (conv26_any az 1 capz [n] _ rfl (by omega) hS).mono ?_
  rintro e w1 ⟨an, rfl, hH1, hb1⟩
  obtain ⟨gn, rfl, hgn, hB1⟩ := pick_one hH1
  go_wp2_with fail
  refine (close25b w1.heap.size gn size n _ _ _ _ _ _ _ _ _ _ _ (blk_new w1 55 [_, _, _, _, _, _, _, _, _, _, _, _]) (hB1.alloc _) hs0 hs1 hz0 hz1).mono ?_
  rintro e w2 ⟨rfl, hT2, hB2, hK2⟩
  have t2 : w2.cell? ⟨w1.heap.size, 2, none⟩ = some (.slice (some ⟨gn, 0, none⟩) 1 1) := hT2.cell rfl
  go_wp2_with fail
  refine (conv29_any _ 1 1 [⟨n.kind, n.dec, n.pos, n.st, n.st + size⟩] _ rfl (by omega) (fun _ => ⟨gn, 0, rfl, NSrc.of_blk hB2⟩)).mono ?_
  rintro e w3 ⟨a', rfl, hH3, hb3⟩
  go_wp2
  go_ret
  have hbB : Below w.heap.size w1 w2 := (((Kept.refl [gn] w1).alloc _).trans hK2).below hb1.size (by simp; exact hgn)
  refine ⟨a', rfl, hH3.mono (Nat.le_trans hb1.size hbB.size), (hb1.trans hbB).trans (hb3.mono (Nat.le_trans hb1.size hbB.size))⟩

end Go.Proofs.Qxb6600114a
