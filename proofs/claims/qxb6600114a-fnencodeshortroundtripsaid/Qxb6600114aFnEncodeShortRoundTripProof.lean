import Derived.Test.Qxb6600114aRows
import Derived.Test.Qxb6600114aLaw4Main
import Derived.Test.Qxb6600114aOpen
import Derived.Test.Qxb6600114aOpenB
import Derived.WalkKit
import Derived.ProofKit
import Derived.OpenShut
import Derived.ShutString
import Derived.ChangeOld
import Derived.Below
namespace Go.Proofs.Qxb6600114a.fnEncodeShortRoundTrip
open Go.ChangeShapes Go.WideShapes Go.ChangeAt Go.RowKit
open Go.ChangeMaps (open_string shut_string)
set_option linter.unusedVariables false

theorem own : ownKnob Try.prog.godebug = none := by kernel_rfl
theorem laidOut : laidOutB Try.prog = true := by kernel_rfl

theorem walk (a0 : Option Addr) (len0 cap0 : Nat) (l : List Nd) (a1 : Option Addr) (len1 cap1 : Nat) (zs : List Int) (a2 a3 a4 : Int) (w : World) (hl : l.length = len0) (hm0 : len0 ≤ maxLen) (hS : Src w a0 l) (hwf : ∀ n ∈ l, n.wf)
    (hz : zs.length = len1) (hm1 : len1 ≤ maxLen) (hZ : BSrc w a1 zs) (hb : Bytes zs) :
    Calls Try.prog 4 #[.slice a0 len0 cap0, .slice a1 len1 cap1, .int .i64 a2, .int .i64 a3, .int .i64 a4] w fun e w' => e = .returned (.bool true) ∧ Below w.heap.size w w' := by
  by_cases hx : len0 ≤ 16384 ∧ len1 ≤ 65536 ∧ 0 ≤ a2 ∧ a2 ≤ 65536 ∧ 0 ≤ a3 ∧ a3 ≤ 2305843009213693951 ∧ 0 ≤ a4 ∧ a4 ≤ len0
  · obtain ⟨c0, c1, c2, c3, c4, c5, c6, c7⟩ := hx
    obtain ⟨R, rfl⟩ := Int.eq_ofNat_of_zero_le c2
    obtain ⟨fr, rfl⟩ := Int.eq_ofNat_of_zero_le c6
    exact law4_main a0 len0 cap0 a1 len1 cap1 R fr a3 l zs w hl hS (fun n hn => ⟨(hwf n hn).1.1, (hwf n hn).2.1⟩) hz hZ hb c0 c1 (by omega) c4 c5 (by omega)
  · exact law4_early a0 len0 cap0 a1 len1 cap1 a2 a3 a4 w hm0 hm1 hx

set_option maxRecDepth 100000 in
theorem lifted (os : Os) (started : os.Started) (H : Type) (enc : TypeId × Value → H) :
    ReturnsInHanded {} Try.checked os 4 .any (Rows.fnEncodeShortRoundTripSpec.pre6 enc Try.prog Try.f4 Rows.fnEncodeShortRoundTripRow.domain false) (Rows.fnEncodeShortRoundTripSpec.post enc Try.prog Try.f4 false true false false) := by
  refine returnsInHanded_of_change (C := Try.checked) own started (by kernel_rfl) Try.func4
    (ChangeSpec.witness6 (enc := enc) (C := Try.checked) false ⟨#[], #[.slice none 0 0, .slice none 0 0, .int .i64 0, .int .i64 0, .int .i64 0], []⟩ 8 (by kernel_rfl) (by kernel_rfl) (by kernel_rfl) (by kernel_rfl)) ?_
  intro W base args ds gs before hval0 hW hcnd _
  have hval : ∀ (j : Nat) t v, Try.f4.params[j]? = some t → args[j]? = some v → Value.okWide Try.prog W .any base t v := hval0
  have hW' := hW
  obtain ⟨p, q, hA0, hV, rfl, hfz, hnd⟩ := hW
  have hA : DataW.TrodAll enc Try.prog W 0 (fun _ => true) true Try.f4.params.toList args.toList ds p := hA0
  rw [Try.params4] at hA hval
  obtain ⟨v0, vs0, d0, ds0, p0, q0, hargs, rfl, rfl, h0, r0⟩ := trodAll_cons hA
  obtain ⟨v1, vs1, d1, ds1, p1, q1, rfl, rfl, rfl, h1, r1⟩ := trodAll_cons r0
  obtain ⟨v2, vs2, d2, ds2, p2, q2, rfl, rfl, rfl, h2, r2⟩ := trodAll_cons r1
  obtain ⟨v3, vs3, d3, ds3, p3, q3, rfl, rfl, rfl, h3, r3⟩ := trodAll_cons r2
  obtain ⟨v4, vs4, d4, ds4, p4, q4, rfl, rfl, rfl, h4, r4⟩ := trodAll_cons r3
  obtain ⟨rfl, rfl, rfl⟩ := trodAll_nil r4
  obtain rfl : args = #[v0, v1, v2, v3, v4] := by cases args; simp_all
  obtain ⟨rfl, rfl⟩ := trodVars_none hV
  obtain ⟨a0, len0, cap0, rfl⟩ := okWide_slice Try.underlying31 (hval 0 31 v0 rfl rfl)
  have k0 := h0
  have lt0 : ∀ x ∈ p0, x.block < W.heap.size := by obtain ⟨m, hm⟩ := k0; exact DataW.trod_lt m _ _ _ hm
  obtain ⟨l0, hl0, hm0, hS0, hwf0⟩ : ∃ l : List Nd, l.length = len0 ∧ len0 ≤ maxLen ∧ Src W a0 l ∧ ∀ n ∈ l, n.wf := by
    obtain ⟨fuel, hf⟩ := h0
    exact open_nodes hf
  obtain ⟨a1, len1, cap1, rfl⟩ := okWide_slice Try.underlying22 (hval 1 22 v1 rfl rfl)
  have k1 := h1
  have lt1 : ∀ x ∈ p1, x.block < W.heap.size := by obtain ⟨m, hm⟩ := k1; exact DataW.trod_lt m _ _ _ hm
  obtain ⟨l1, hl1, hm1, hS1, hwf1⟩ : ∃ zs : List Int, zs.length = len1 ∧ len1 ≤ maxLen ∧ BSrc W a1 zs ∧ Bytes zs := by
    obtain ⟨fuel, hf⟩ := h1
    exact open_bytes hf
  obtain ⟨a2, rfl, rfl, rfl, w2⟩ := open_int Try.underlying3 (hval 2 3 v2 rfl rfl) h2
  obtain ⟨a3, rfl, rfl, rfl, w3⟩ := open_int Try.underlying3 (hval 3 3 v3 rfl rfl) h3
  obtain ⟨a4, rfl, rfl, rfl, w4⟩ := open_int Try.underlying3 (hval 4 3 v4 rfl rfl) h4
  clear hA0 hval0
  refine (walk a0 len0 cap0 l0 a1 len1 cap1 l1 a2 a3 a4 W hl0 hm0 hS0 hwf0 hl1 hm1 hS1 hwf1).mono fun e W' ⟨he, bel⟩ => ?_
  subst he
  exact ⟨_, rfl, _, _, _, [], _, [], hW', trodAll_mk1 (shut_bool Try.underlying4 _), (trodAll_cons_mk (Below.trod laidOut (by kernel_rfl) (of_decide_eq_true (by kernel_rfl)) k0 bel lt0) (trodAll_cons_mk (Below.trod laidOut (by kernel_rfl) (of_decide_eq_true (by kernel_rfl)) k1 bel lt1) (trodAll_cons_mk (shut_int Try.underlying3 w2) (trodAll_cons_mk (shut_int Try.underlying3 w3) (trodAll_cons_mk (shut_int Try.underlying3 w4) trodAll_mk0))))), rfl, bel.frame _, fun h => by cases h⟩

theorem over : Rows.fnEncodeShortRoundTripRow.holds Try.pinned (OpenSpec.ofChange Rows.fnEncodeShortRoundTripSpec) :=
  OpenClaim.holds_of_wide 4 Try.f4 rfl rfl rfl rfl rfl rfl rfl ⟨rfl, rfl, rfl, rfl, rfl⟩ rfl rfl rfl rfl rfl (by kernel_rfl) Try.func4 (by kernel_rfl)
    (of_decide_eq_true (by kernel_rfl)) (by unfold Func.isWrapper; first | (rw [if_pos (by decide +kernel)]; kernel_rfl) | (rw [if_neg (by decide +kernel)]; exact ⟨rfl, rfl⟩))
    (fun os started H enc _ => lifted os started H enc)

theorem proved : Rows.FnEncodeShortRoundTripSaid := over
#print axioms proved
end Go.Proofs.Qxb6600114a.fnEncodeShortRoundTrip
