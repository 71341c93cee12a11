import Derived.Test.Qxb6600114aNode
import Derived.ProofKit
import Derived.OpenShut
import Derived.Deep.Slices
namespace Go.Proofs.Qxb6600114a
open Go.RowKit Go.ChangeShapes Go.WideShapes
set_option linter.unusedVariables false

theorem Try.cells35 : Try.prog.cellsOf 35 = 5 := by kernel_rfl
theorem Try.cells5 : Try.prog.cellsOf 5 = 1 := by kernel_rfl
theorem Try.cells4 : Try.prog.cellsOf 4 = 1 := by kernel_rfl
theorem Try.cells3 : Try.prog.cellsOf 3 = 1 := by kernel_rfl

/-- Each number of a node fits its kind. -/
def Nd.wf (n : Nd) : Prop := (0 ≤ n.kind ∧ n.kind ≤ 255) ∧ (-9223372036854775808 ≤ n.pos ∧ n.pos ≤ 9223372036854775807) ∧ (-9223372036854775808 ≤ n.st ∧ n.st ≤ 9223372036854775807) ∧ (-9223372036854775808 ≤ n.en ∧ n.en ≤ 9223372036854775807)

section
variable {H : Type} {enc : TypeId × Value → H} {w : World} {base : Nat} {spare : Nat → Bool} {held : Bool}

theorem open_node {n : Nat} {cs : List Value} {x : DataW H × List MemPlace} (h : DataW.trod enc Try.prog w base spare held n 35 cs = some x) : ∃ nd : Nd, cs = nd.cells ∧ nd.wf := by
  obtain ⟨xs, k, hk, hxy, hcl, hxl, hf⟩ := DataW.trod_struct Try.underlying35 h
  rw [Try.cells35] at hcl
  match xs, hxl, cs, hcl with
  | [y0, y1, y2, y3, y4], _, [v0, v1, v2, v3, v4], _ =>
    have g0 := hf 0 _ rfl
    have g1 := hf 1 _ rfl
    have g2 := hf 2 _ rfl
    have g3 := hf 3 _ rfl
    have g4 := hf 4 _ rfl
    simp [Try.cells5, Try.cells4, Try.cells3] at g0 g1 g2 g3 g4
    obtain ⟨a0, e0, _, w0⟩ := DataW.trod_int Try.underlying5 g0
    obtain ⟨a1, e1, _⟩ := DataW.trod_bool Try.underlying4 g1
    obtain ⟨a2, e2, _, w2⟩ := DataW.trod_int Try.underlying3 g2
    obtain ⟨a3, e3, _, w3⟩ := DataW.trod_int Try.underlying3 g3
    obtain ⟨a4, e4, _, w4⟩ := DataW.trod_int Try.underlying3 g4
    simp at e0 e1 e2 e3 e4
    subst e0 e1 e2 e3 e4
    exact ⟨⟨a0, a1, a2, a3, a4⟩, rfl, bounds_u8 w0, bounds_i64 w2, bounds_i64 w3, bounds_i64 w4⟩

theorem nodes_upto (n : Nat) (p : Nat → Nd → Prop) (h : ∀ i, i < n → ∃ d, p i d) : ∃ l : List Nd, l.length = n ∧ ∀ i d, l[i]? = some d → p i d := by
  induction n with
  | zero => exact ⟨[], rfl, fun i d hd => by simp at hd⟩
  | succ n ih =>
    obtain ⟨l, hl, hp⟩ := ih (fun i hi => h i (by omega))
    obtain ⟨d, hd⟩ := h n (by omega)
    refine ⟨l ++ [d], by simp [hl], fun i e he => ?_⟩
    by_cases hi : i < n
    · rw [List.getElem?_append_left (by omega)] at he
      exact hp i e he
    · have hlt := (List.getElem?_eq_some_iff.1 he).1
      simp at hlt
      obtain rfl : i = n := by omega
      rw [List.getElem?_append_right (by omega), hl] at he
      simp at he
      subst he
      exact hd

theorem open_nodes {fuel : Nat} {a : Option Addr} {len cap : Nat} {x : DataW H × List MemPlace} (h : DataW.trod enc Try.prog w base spare held fuel 31 [.slice a len cap] = some x) :
    ∃ l : List Nd, l.length = len ∧ len ≤ maxLen ∧ Src w a l ∧ ∀ n ∈ l, n.wf := by
  rcases Go.Deep.open_slice Try.underlying31 h with ⟨e, _⟩ | ⟨ad, len', cap', m, n, D, Pl, e, hb, hl, hm, hmm, _, hx⟩
  · simp at e
    obtain ⟨rfl, rfl, rfl⟩ := e
    exact ⟨[], rfl, Nat.zero_le _, fun hn => absurd rfl hn, fun n hn => by simp at hn⟩
  · simp at e
    obtain ⟨rfl, rfl, rfl⟩ := e
    have hle : len ≤ m := by rw [hmm]; split <;> omega
    have each : ∀ i, i < len → ∃ d : Nd, d.wf ∧ ∀ j, j < 5 → w.cell? (ad.add (i * 5 + j)) = d.cells[j]? := fun i hi => by
      obtain ⟨cs', h1, h2⟩ := hx i (by omega)
      obtain ⟨d, rfl, hw⟩ := open_node h2
      rw [Try.cells35] at h1
      obtain ⟨_, hlen, hcell⟩ := World.cells?_some h1
      refine ⟨d, hw, fun j hj => ?_⟩
      rw [← hcell j hj, Go.Deep.add_add]
    obtain ⟨l, hll, hp⟩ := nodes_upto len _ each
    refine ⟨l, hll, Nat.le_trans hl hm, fun hn => ?_, fun d hd => ?_⟩
    · obtain ⟨d0, hd0⟩ : ∃ d0, l[0]? = some d0 := by
        cases l with
        | nil => exact absurd rfl hn
        | cons d r => exact ⟨d, rfl⟩
      obtain ⟨b, off, spot⟩ := ad
      have hs : spot = none := by
        have := (hp 0 d0 hd0).2 0 (by omega)
        simpa [Addr.add] using World.cell?_spot (this.trans rfl)
      subst hs
      refine ⟨b, off, rfl, fun j v hv => ?_⟩
      have hj : j < 5 * l.length := by rw [← flat_length]; exact (List.getElem?_eq_some_iff.1 hv).1
      have hd : l[j / 5]? = some (l[j / 5]'(by omega)) := List.getElem?_eq_getElem (by omega)
      have hc := (hp (j / 5) _ hd).2 (j % 5) (by omega)
      have hg := flat_get l (j / 5) _ hd (j % 5) (by omega)
      rw [show j / 5 * 5 + j % 5 = j by omega] at hc hg
      rw [← Go.WideShapes.add_plain, hc, ← hg, hv]
    · obtain ⟨i, hi⟩ := List.getElem?_of_mem hd
      exact (hp i d hi).1
end

end Go.Proofs.Qxb6600114a
