import Derived.Test.Qxb6600114aClone
import Derived.Test.Qxb6600114aDec
namespace Go.Proofs.Qxb6600114a
open Go.RowKit
set_option linter.unusedVariables false

/-- The slice value at a holds the bytes zs. -/
def BSrc (w : World) (a : Option Addr) (zs : List Int) : Prop := zs ≠ [] → ∃ b o, a = some ⟨b, o, none⟩ ∧ ∀ j, j < zs.length → w.cell? ⟨b, o + j, none⟩ = some (.int .u8 (byt zs j))
theorem BSrc.below {w w' : World} {a : Option Addr} {zs : List Int} (h : BSrc w a zs) (hb : Below w.heap.size w w') : BSrc w' a zs := fun hn => by
  obtain ⟨b, o, e, hs⟩ := h hn
  refine ⟨b, o, e, fun j hj => ?_⟩
  have := hs j hj
  rw [← this]; exact hb.cell (World.block_lt_of_cell? _ _ this)

set_option maxHeartbeats 400000 in
theorem clone11_nil (n c : Nat) (w : World) : Calls Try.prog 11 #[.slice none n c] w fun e w' => e = .returned (.slice none 0 0) ∧ w = w' := by
  have hnil := nil22
  go_enter Try.func11, Try.ntmps11
  go_wp2
  go_ret
  exact ⟨rfl, rfl⟩

theorem clone11_any (a : Option Addr) (len cap : Nat) (zs : List Int) (w : World) (hl : zs.length = len) (hm : len ≤ 1048576) (hs : BSrc w a zs) :
    Calls Try.prog 11 #[.slice a len cap] w fun e w' => ∃ (a' : Option Addr) (g : Nat), e = .returned (.slice a' len len) ∧ (len ≠ 0 → a' = some ⟨g, 0, none⟩ ∧ Blk w' g 5 (zs.map (Value.int .u8))) ∧ Below w.heap.size w w' := by
  cases a with
  | none =>
    have hnil : zs = [] := by
      by_cases h : zs = []
      · exact h
      · obtain ⟨b, o, e, _⟩ := hs h; cases e
    subst hnil
    simp at hl; subst hl
    refine (clone11_nil 0 cap w).mono ?_
    rintro e w' ⟨rfl, rfl⟩
    exact ⟨none, 0, rfl, fun h => absurd rfl h, Below.refl _ _⟩
  | some ad =>
    have hc : ∀ j v, (zs.map (Value.int .u8))[j]? = some v → w.cell? (ad.add j) = some v := fun j v hv => by
      have hj : j < zs.length := by have := (List.getElem?_eq_some_iff.1 hv).1; simpa using this
      obtain ⟨b, o, e, h2⟩ := hs (by intro e; subst e; simp at hj)
      have e2 : ad = ⟨b, o, none⟩ := by injection e
      subst e2
      rw [byt_get zs j hj] at hv
      injection hv with hv
      subst hv
      rw [Go.WideShapes.add_plain]
      exact h2 j hj
    refine (clone11 ad len cap (zs.map (Value.int .u8)) w (by simpa using hl) hm hc (fun v hv => by obtain ⟨z, _, rfl⟩ := List.mem_map.1 hv; rfl)).mono ?_
    rintro e w' ⟨g, rfl, hg, hB, hb⟩
    exact ⟨_, g, rfl, fun _ => ⟨rfl, hB⟩, hb⟩

theorem neq42 (k p s e : Int) (d : Bool) (w : World) :
    (binOp .neq 42 (.agg #[.int .u8 k, .bool d, .int .i64 p, .int .i64 s, .int .i64 e]) (.agg #[.int .u8 k, .bool d, .int .i64 p, .int .i64 s, .int .i64 e])).run Try.prog w = .ok (.bool false) w := by
  go_simp

end Go.Proofs.Qxb6600114a
