import Derived.Test.Qxb6600114aPlain9
import Derived.Test.Qxb6600114aClose9
import Derived.Test.Qxb6600114aMake
import Derived.Deep.CutBlock
import Derived.Deep.DeepCutAuto
namespace Go.Proofs.Qxb6600114a
open Go.RowKit
set_option linter.unusedVariables false

set_option maxRecDepth 100000 in
set_option maxHeartbeats 1000000 in
theorem law9_early (k at' la size : Int) (w : World) (hk0 : 0 ≤ k) (hk1 : k ≤ 255)
    (hx : ¬ (k < 8 ∧ 0 ≤ at' ∧ at' ≤ 2305843009213693951 ∧ 0 ≤ la ∧ la ≤ 2305843009213693951 ∧ 0 ≤ size ∧ size ≤ 2305843009213693951)) :
    Calls Try.prog 9 #[.int .u8 k, .int .i64 at', .int .i64 la, .int .i64 size] w fun e w' => e = .returned (.bool true) ∧ Below w.heap.size w w' := by
  by_cases c0 : 8 ≤ k
  · clear hx
    go_enter Try.func9, Try.ntmps9
    go_wp2
    go_ret
    exact ⟨rfl, Below.refl _ _⟩
  by_cases c1 : at' < 0
  · clear hx
    go_enter Try.func9, Try.ntmps9
    go_wp2
    go_ret
    exact ⟨rfl, Below.refl _ _⟩
  by_cases c2 : 2305843009213693951 < at'
  · clear hx
    go_enter Try.func9, Try.ntmps9
    go_wp2
    go_ret
    exact ⟨rfl, Below.refl _ _⟩
  by_cases c3 : la < 0
  · clear hx
    go_enter Try.func9, Try.ntmps9
    go_wp2
    go_ret
    exact ⟨rfl, Below.refl _ _⟩
  by_cases c4 : 2305843009213693951 < la
  · clear hx
    go_enter Try.func9, Try.ntmps9
    go_wp2
    go_ret
    exact ⟨rfl, Below.refl _ _⟩
  by_cases c5 : size < 0
  · clear hx
    go_enter Try.func9, Try.ntmps9
    go_wp2
    go_ret
    exact ⟨rfl, Below.refl _ _⟩
  have c6 : 2305843009213693951 < size := by
    by_cases h : size ≤ 2305843009213693951
    · exact absurd ⟨by omega, by omega, by omega, by omega, by omega, by omega, h⟩ hx
    · omega
  clear hx
  go_enter Try.func9, Try.ntmps9
  go_wp2
  go_ret
  exact ⟨rfl, Below.refl _ _⟩


end Go.Proofs.Qxb6600114a
