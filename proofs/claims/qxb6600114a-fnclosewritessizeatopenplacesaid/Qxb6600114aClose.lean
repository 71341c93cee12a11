import Derived.Test.Qxb6600114aPut
import Derived.Deep.RegionWith
namespace Go.Proofs.Qxb6600114a
open Go.RowKit
set_option linter.unusedVariables false

theorem tmod_small (p : Nat) (hp : p < 65536) : (p : Int).tmod 65536 = p := by
  rw [Int.tmod_eq_emod_of_nonneg (by omega)]; omega
theorem run_cut_lo (g m p : Nat) (hp : p < m) (w : World) : (Instr.slice 22 (.slice (some ⟨g, 0, none⟩) m m) (some (.int .i64 (p : Int))) none none).run Try.prog w = .ok (.slice (some ⟨g, p, none⟩) (m - p) (m - p)) w := by
  have h1 : (p : Int) ≤ (m : Int) := by omega
  have h2 : ¬ m = p := by omega
  go_simp
theorem run_cut_hi (g p m sw : Nat) (hp : sw ≤ m) (hs : 0 < m) (w : World) : (Instr.slice 22 (.slice (some ⟨g, p, none⟩) m m) none (some (.int .i64 (sw : Int))) none).run Try.prog w = .ok (.slice (some ⟨g, p, none⟩) sw m) w := by
  have h1 : (sw : Int) ≤ (m : Int) := by omega
  go_simp

set_option maxHeartbeats 400000 in
theorem close25enc (T go gc gb n capo m sw p : Nat) (enc i size : Int) (v0 v1 v2 v6 v7 v8 v10 v11 : Value) (ops : List Value) (zs : List Int) (w : World)
    (hT : Blk w T 55 [v0, v1, v2, .int .i64 enc, .slice (some ⟨go, 0, none⟩) (n + 1) capo, .slice (some ⟨gc, 0, none⟩) 1 1, v6, v7, v8, .int .i64 sw, v10, v11])
    (hO : Blk w go 3 ops) (hop : ops[n]? = some (.int .i64 p)) (hcap : n + 1 ≤ capo) (hcap' : capo ≤ 1048576)
    (hC : Blk w gc 22 [.slice (some ⟨gb, 0, none⟩) m m])
    (hZ : Blk w gb 5 (zs.map (Value.int .u8))) (hm : zs.length = m) (hm' : m ≤ 65536) (hp : p + sw ≤ m) (hsw1 : 1 ≤ sw) (hsw8 : sw ≤ 8)
    (hi0 : 0 ≤ i) (hie : i < enc) (hen : enc ≤ 2305843009213693951) (hs0 : -9223372036854775808 ≤ size) (hs1 : size ≤ 9223372036854775807) :
    Calls Try.prog 25 #[.pointer (some ⟨T, 0, none⟩), .int .i64 i, .int .i64 size] w fun e w' =>
      e = .returned (.tuple #[]) ∧
      Blk w' T 55 [v0, v1, v2, .int .i64 enc, .slice (some ⟨go, 0, none⟩) n capo, .slice (some ⟨gc, 0, none⟩) 1 1, v6, v7, v8, .int .i64 sw, v10, v11] ∧
      Blk w' gb 5 ((putTo zs p size sw).map (Value.int .u8)) ∧ Kept [T, gb] w w' := by
  have c3 : w.cell? ⟨T, 3, none⟩ = some (.int .i64 enc) := hT.cell rfl
  have c4 : w.cell? ⟨T, 4, none⟩ = some (.slice (some ⟨go, 0, none⟩) (n + 1) capo) := hT.cell rfl
  have c5 : w.cell? ⟨T, 5, none⟩ = some (.slice (some ⟨gc, 0, none⟩) 1 1) := hT.cell rfl
  have c9 : w.cell? ⟨T, 9, none⟩ = some (.int .i64 sw) := hT.cell rfl
  have f4 := hT.frozen 4
  have cO : w.cell? ⟨go, n, none⟩ = some (.int .i64 p) := hO.cell hop
  have cC : w.cell? ⟨gc, 0, none⟩ = some (.slice (some ⟨gb, 0, none⟩) m m) := hC.cell rfl
  have neC := hC.ne hT (by decide)
  have hp1 : (p : Int) / 65536 = 0 := by omega
  have hp2 : (p : Int) % 65536 = p := by omega
  have Hm : Hid (zs.length = m) := hm
  clear hm hop
  go_enter Try.func25, Try.ntmps25
  go_wp2_with fail
  have hT1 := hT.set 4 (.slice (some ⟨go, 0, none⟩) n capo)
  have hZ1 := hZ.setOther (a := ⟨T, 4, none⟩) (hZ.ne hT (by decide)) (.slice (some ⟨go, 0, none⟩) n capo)
  have hK1 := (Kept.refl [T, gb] w).setCell (p := ⟨T, 4, none⟩) (by simp) (.slice (some ⟨go, 0, none⟩) n capo)
  generalize w.setCell ⟨T, 4, none⟩ (.slice (some ⟨go, 0, none⟩) n capo) = w1 at *
  clear c3 c4 c5 c9 f4 cO cC hT hO hC
  have d9 : w1.cell? ⟨T, 9, none⟩ = some (.int .i64 sw) := hT1.cell rfl
  have neZ := hZ1.ne hT1 (by decide)
  have hmp : ¬ m = p := by omega
  have r5 := tmod_small p (by omega)
  have r6 : ∀ wx, (Instr.slice 22 (.slice (some ⟨gb, 0, none⟩) m m) (some (.int .i64 (p : Int))) none none).run Try.prog wx = .ok (.slice (some ⟨gb, p, none⟩) (m - p) (m - p)) wx := fun wx => run_cut_lo gb m p (by omega) wx
  have r11 : ∀ wx, (Instr.slice 22 (.slice (some ⟨gb, p, none⟩) (m - p) (m - p)) none (some (.int .i64 (sw : Int))) none).run Try.prog wx = .ok (.slice (some ⟨gb, p, none⟩) sw (m - p)) wx := fun wx => run_cut_hi gb p (m - p) sw (by omega) (by omega) wx
  go_region_with (go_at_call 30; refine (put30 gb p sw _ zs size _ (by exact hZ1) (by have := Hm.out; omega) hsw8 hs0 hs1).mono ?_; rintro e w2 ⟨rfl, hZ2, hK2⟩)
  all_goals go_end0
  all_goals exact ⟨rfl, hT1.kept hK2.drewBack (by simp; exact fun e => neZ e.symm), hZ2, hK1.trans (hK2.drewBack.mono (by simp))⟩

set_option maxHeartbeats 400000 in
theorem closeEnc13 (go gc gb n L capo m sw p : Nat) (enc i size : Int) (ops : List Value) (zs : List Int) (w : World) (hL : L = n + 1)
    (hO : Blk w go 3 ops) (hop : ops[n]? = some (.int .i64 p)) (hcap : n + 1 ≤ capo) (hcap' : capo ≤ 1048576)
    (hC : Blk w gc 22 [.slice (some ⟨gb, 0, none⟩) m m])
    (hZ : Blk w gb 5 (zs.map (Value.int .u8))) (hm : zs.length = m) (hm' : m ≤ 65536) (hp : p + sw ≤ m) (hsw1 : 1 ≤ sw) (hsw8 : sw ≤ 8)
    (hi0 : 0 ≤ i) (hie : i < enc) (hen : enc ≤ 2305843009213693951) (hs0 : -9223372036854775808 ≤ size) (hs1 : size ≤ 9223372036854775807) :
    Calls Try.prog 13 #[.slice (some ⟨gc, 0, none⟩) 1 1, .slice (some ⟨go, 0, none⟩) L capo, .int .i64 sw, .int .i64 enc, .int .i64 i, .int .i64 size] w fun e w' =>
      e = .returned (.slice (some ⟨go, 0, none⟩) n capo) ∧ Blk w' gb 5 ((putTo zs p size sw).map (Value.int .u8)) ∧ Kept [gb] w w' := by
  subst hL
  have Hop : Hid (ops[n]? = some (.int .i64 p)) := hop
  have Hm : Hid (zs.length = m) := hm
  clear hop hm
  go_enter Try.func13, Try.ntmps13
  go_wp2_with fail
  refine (close25enc w.heap.size go gc gb n capo m sw p enc i size _ _ _ _ _ _ _ _ ops zs _ (blk_new w 55 _) (hO.alloc _) Hop.out hcap hcap' (hC.alloc _) (hZ.alloc _) Hm.out hm' hp hsw1 hsw8 hi0 hie hen hs0 hs1).mono ?_
  rintro e w1 ⟨rfl, hT1, hZ1, hK1⟩
  have c4 : w1.cell? ⟨w.heap.size, 4, none⟩ = some (.slice (some ⟨go, 0, none⟩) n capo) := hT1.cell rfl
  go_wp2
  go_ret
  refine ⟨rfl, hZ1, ?_⟩
  exact kept_new hK1

end Go.Proofs.Qxb6600114a
