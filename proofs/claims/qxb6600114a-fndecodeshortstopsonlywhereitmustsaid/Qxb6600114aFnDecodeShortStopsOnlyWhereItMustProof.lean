import Derived.Test.Qxb6600114aRows
import Derived.Test.Qxb6600114aLaw7Main
import Derived.Test.Qxb6600114aOpen
import Derived.Test.Qxb6600114aOpenB
import Derived.WalkKit
import Derived.ProofKit
import Derived.OpenShut
import Derived.ShutString
import Derived.ChangeOld
import Derived.Below
namespace Go.Proofs.Qxb6600114a.fnDecodeShortStopsOnlyWhereItMust
open Go.ChangeShapes Go.WideShapes Go.ChangeAt Go.RowKit
open Go.ChangeMaps (open_string shut_string)
set_option linter.unusedVariables false

theorem own : ownKnob Try.prog.godebug = none := by kernel_rfl
theorem laidOut : laidOutB Try.prog = true := by kernel_rfl

theorem walk (a0 : Option Addr) (len0 cap0 : Nat) (zs : List Int) (a1 a2 : Int) (a3 : Option Addr) (len3 cap3 : Nat) (l : List Nd) (a4 : Int) (w : World) (hz : zs.length = len0) (hm0 : len0 ≤ maxLen) (hZ : BSrc w a0 zs) (hb : Bytes zs)
    (hl : l.length = len3) (hm3 : len3 ≤ maxLen) (hS : Src w a3 l) (w1 : (Lit.int .i64 a1).wf = true) :
    Calls Try.prog 7 #[.slice a0 len0 cap0, .int .i64 a1, .int .i64 a2, .slice a3 len3 cap3, .int .i64 a4] w fun e w' => e = .returned (.bool true) ∧ Below w.heap.size w w' := by
  by_cases hx : len0 ≤ 65536 ∧ len3 ≤ 16384 ∧ 0 ≤ a1 ∧ a1 ≤ len0 ∧ ((len0 : Int) - a1) % 3 = 0 ∧ inR a2 = true ∧ 0 ≤ a4 ∧ a4 ≤ len3
  · obtain ⟨c0, c1, c2, c3, c4, c5, c6, c7⟩ := hx
    obtain ⟨p, rfl⟩ := Int.eq_ofNat_of_zero_le c2
    obtain ⟨d, rfl⟩ := Int.eq_ofNat_of_zero_le c6
    exact law7_main a0 len0 cap0 p a2 a3 len3 cap3 d zs l w hz hZ hb hl hS c0 c1 (by omega) (by omega) c5 (by omega)
  · exact law7_early a0 len0 cap0 a1 a2 a3 len3 cap3 a4 w hm0 hm3 (bounds_i64 w1) hx

set_option maxRecDepth 100000 in
theorem lifted (os : Os) (started : os.Started) (H : Type) (enc : TypeId × Value → H) :
    ReturnsInHanded {} Try.checked os 7 .any (Rows.fnDecodeShortStopsOnlyWhereItMustSpec.pre6 enc Try.prog Try.f7 Rows.fnDecodeShortStopsOnlyWhereItMustRow.domain false) (Rows.fnDecodeShortStopsOnlyWhereItMustSpec.post enc Try.prog Try.f7 false true false false) := by
  refine returnsInHanded_of_change (C := Try.checked) own started (by kernel_rfl) Try.func7
    (ChangeSpec.witness6 (enc := enc) (C := Try.checked) false ⟨#[], #[.slice none 0 0, .int .i64 0, .int .i64 0, .slice none 0 0, .int .i64 0], []⟩ 8 (by kernel_rfl) (by kernel_rfl) (by kernel_rfl) (by kernel_rfl)) ?_
  intro W base args ds gs before hval0 hW hcnd _
  have hval : ∀ (j : Nat) t v, Try.f7.params[j]? = some t → args[j]? = some v → Value.okWide Try.prog W .any base t v := hval0
  have hW' := hW
  obtain ⟨p, q, hA0, hV, rfl, hfz, hnd⟩ := hW
  have hA : DataW.TrodAll enc Try.prog W 0 (fun _ => true) true Try.f7.params.toList args.toList ds p := hA0
  rw [Try.params7] at hA hval
  obtain ⟨v0, vs0, d0, ds0, p0, q0, hargs, rfl, rfl, h0, r0⟩ := trodAll_cons hA
  obtain ⟨v1, vs1, d1, ds1, p1, q1, rfl, rfl, rfl, h1, r1⟩ := trodAll_cons r0
  obtain ⟨v2, vs2, d2, ds2, p2, q2, rfl, rfl, rfl, h2, r2⟩ := trodAll_cons r1
  obtain ⟨v3, vs3, d3, ds3, p3, q3, rfl, rfl, rfl, h3, r3⟩ := trodAll_cons r2
  obtain ⟨v4, vs4, d4, ds4, p4, q4, rfl, rfl, rfl, h4, r4⟩ := trodAll_cons r3
  obtain ⟨rfl, rfl, rfl⟩ := trodAll_nil r4
  obtain rfl : args = #[v0, v1, v2, v3, v4] := by cases args; simp_all
  obtain ⟨rfl, rfl⟩ := trodVars_none hV
  obtain ⟨a0, len0, cap0, rfl⟩ := okWide_slice Try.underlying22 (hval 0 22 v0 rfl rfl)
  have k0 := h0
  have lt0 : ∀ x ∈ p0, x.block < W.heap.size := by obtain ⟨m, hm⟩ := k0; exact DataW.trod_lt m _ _ _ hm
  obtain ⟨l0, hl0, hm0, hS0, hwf0⟩ : ∃ zs : List Int, zs.length = len0 ∧ len0 ≤ maxLen ∧ BSrc W a0 zs ∧ Bytes zs := by
    obtain ⟨fuel, hf⟩ := h0
    exact open_bytes hf
  obtain ⟨a1, rfl, rfl, rfl, w1⟩ := open_int Try.underlying3 (hval 1 3 v1 rfl rfl) h1
  obtain ⟨a2, rfl, rfl, rfl, w2⟩ := open_int Try.underlying3 (hval 2 3 v2 rfl rfl) h2
  obtain ⟨a3, len3, cap3, rfl⟩ := okWide_slice Try.underlying31 (hval 3 31 v3 rfl rfl)
  have k3 := h3
  have lt3 : ∀ x ∈ p3, x.block < W.heap.size := by obtain ⟨m, hm⟩ := k3; exact DataW.trod_lt m _ _ _ hm
  obtain ⟨l3, hl3, hm3, hS3, hwf3⟩ : ∃ l : List Nd, l.length = len3 ∧ len3 ≤ maxLen ∧ Src W a3 l ∧ ∀ n ∈ l, n.wf := by
    obtain ⟨fuel, hf⟩ := h3
    exact open_nodes hf
  obtain ⟨a4, rfl, rfl, rfl, w4⟩ := open_int Try.underlying3 (hval 4 3 v4 rfl rfl) h4
  clear hA0 hval0
  refine (walk a0 len0 cap0 l0 a1 a2 a3 len3 cap3 l3 a4 W hl0 hm0 hS0 hwf0 hl3 hm3 hS3 w1).mono fun e W' ⟨he, bel⟩ => ?_
  subst he
  exact ⟨_, rfl, _, _, _, [], _, [], hW', trodAll_mk1 (shut_bool Try.underlying4 _), (trodAll_cons_mk (Below.trod laidOut (by kernel_rfl) (of_decide_eq_true (by kernel_rfl)) k0 bel lt0) (trodAll_cons_mk (shut_int Try.underlying3 w1) (trodAll_cons_mk (shut_int Try.underlying3 w2) (trodAll_cons_mk (Below.trod laidOut (by kernel_rfl) (of_decide_eq_true (by kernel_rfl)) k3 bel lt3) (trodAll_cons_mk (shut_int Try.underlying3 w4) trodAll_mk0))))), rfl, bel.frame _, fun h => by cases h⟩

theorem over : Rows.fnDecodeShortStopsOnlyWhereItMustRow.holds Try.pinned (OpenSpec.ofChange Rows.fnDecodeShortStopsOnlyWhereItMustSpec) :=
  OpenClaim.holds_of_wide 7 Try.f7 rfl rfl rfl rfl rfl rfl rfl ⟨rfl, rfl, rfl, rfl, rfl⟩ rfl rfl rfl rfl rfl (by kernel_rfl) Try.func7 (by kernel_rfl)
    (of_decide_eq_true (by kernel_rfl)) (by unfold Func.isWrapper; first | (rw [if_pos (by decide +kernel)]; kernel_rfl) | (rw [if_neg (by decide +kernel)]; exact ⟨rfl, rfl⟩))
    (fun os started H enc _ => lifted os started H enc)

theorem proved : Rows.FnDecodeShortStopsOnlyWhereItMustSaid := over
#print axioms proved
end Go.Proofs.Qxb6600114a.fnDecodeShortStopsOnlyWhereItMust
