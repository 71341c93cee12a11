import Derived.Test.Qxb6600114aPlain8
import Derived.Test.Qxb6600114aPlain9
import Derived.Test.Qxb6600114aSmall
namespace Go.Proofs.Qxb6600114a
open Go.RowKit
set_option linter.unusedVariables false

/-- b1WellFormed, as a Bool behind a name. -/
def wellB (n : Nd) : Bool := decide (n.kind < 8 ∧ 0 ≤ n.pos ∧ n.pos ≤ 2305843009213693951 ∧ (n.st = n.pos ∨ n.st = n.pos + 1) ∧ inR n.en = true)
theorem wellB_yes {n : Nd} (h : wellB n = true) : n.kind < 8 ∧ 0 ≤ n.pos ∧ n.pos ≤ 2305843009213693951 ∧ (n.st = n.pos ∨ n.st = n.pos + 1) ∧ inR n.en = true := of_decide_eq_true h

theorem hdr_well {n : Nd} (h : wellB n = true) (h0 : 0 ≤ n.kind) : 0 ≤ n.hdr ∧ n.hdr < 16 ∧ n.hdr / 2 = n.kind ∧ n.pos + n.hdr % 2 = n.st := by
  obtain ⟨h1, _, _, h4, _⟩ := wellB_yes h
  unfold Nd.hdr
  rcases h4 with h4 | h4
  · rw [if_neg (by omega)]; omega
  · rw [if_pos (by omega)]; omega

section
variable {zs : List Int} {P : Nat} {l : List Nd} {fr : Nat} {a : Int} {j : Nat}

theorem enc_at (hl : P + 3 * j ≤ zs.length) {s : Nat} (hs : s < j) : byt (encTo zs P l fr a j) (P + 3 * s) = (nth l (fr + s)).hdr ∧ byt (encTo zs P l fr a j) (P + 3 * s + 1) = (nth l (fr + s)).pos - lastTo l fr a s ∧ byt (encTo zs P l fr a j) (P + 3 * s + 2) = (nth l (fr + s)).en - (nth l (fr + s)).st := by
  obtain ⟨g1, g2, g3⟩ := encTo_at zs P l fr a j s hs hl
  exact ⟨byt_of g1, byt_of g2, byt_of g3⟩

theorem at_last (hl : P + 3 * j ≤ zs.length) (s : Nat) (hs : s ≤ j) : atTo (encTo zs P l fr a j) P a s = lastTo l fr a s := by
  induction s with
  | zero => rfl
  | succ s ih =>
    rw [atTo, ih (by omega), (enc_at hl (show s < j by omega)).2.1, lastTo]
    omega

theorem dec_enc (hl : P + 3 * j ≤ zs.length) {s : Nat} (hs : s < j) (hw : wellB (nth l (fr + s)) = true) (hk : 0 ≤ (nth l (fr + s)).kind) (hf : (nth l (fr + s)).fits (lastTo l fr a s)) : decNode (encTo zs P l fr a j) P a s = nth l (fr + s) := by
  obtain ⟨e1, e2, e3⟩ := enc_at (a := a) hl hs
  obtain ⟨_, _, q3, q4⟩ := hdr_well hw hk
  have hat := at_last (zs := zs) (P := P) (l := l) (fr := fr) (a := a) (j := j) hl (s + 1) (by omega)
  rw [decNode, hat, e1, e3, lastTo, q3, q4]
  generalize nth l (fr + s) = n at *
  have hd := hf.2.2.2.2.1
  cases n
  simp at hd ⊢
  exact ⟨hd, by omega⟩

theorem enc_bytes (hl : P + 3 * j ≤ zs.length) (hb : Bytes zs) (hw : ∀ s, s < j → wellB (nth l (fr + s)) = true ∧ 0 ≤ (nth l (fr + s)).kind) (hf : FitAll l fr a j) : Bytes (encTo zs P l fr a j) := by
  intro k
  by_cases h : k < P ∨ P + 3 * j ≤ k
  · have e : byt (encTo zs P l fr a j) k = byt zs k := by
      rw [byt, byt, List.getD_eq_getElem?_getD, List.getD_eq_getElem?_getD, encTo_other zs P l fr a j k h]
    rw [e]; exact hb k
  · obtain ⟨s, hs⟩ : ∃ s, s = (k - P) / 3 := ⟨_, rfl⟩
    have hsj : s < j := by omega
    obtain ⟨e1, e2, e3⟩ := enc_at (zs := zs) (P := P) (l := l) (fr := fr) (a := a) hl hsj
    obtain ⟨q1, q2, _, _⟩ := hdr_well (hw s hsj).1 (hw s hsj).2
    obtain ⟨f1, f2, f3, f4, _, _⟩ := hf s hsj
    rcases (show k = P + 3 * s ∨ k = P + 3 * s + 1 ∨ k = P + 3 * s + 2 by omega) with rfl | rfl | rfl
    · rw [e1]; omega
    · rw [e2]; exact ⟨f1, f2⟩
    · rw [e3]; exact ⟨f3, f4⟩

theorem dec_count (hl : P + 3 * j ≤ zs.length) (hw : ∀ s, s < j → wellB (nth l (fr + s)) = true ∧ 0 ≤ (nth l (fr + s)).kind) {N t : Nat} (hjN : fr + j ≤ N) (ht : P + 3 * t ≤ P + 3 * j) (hst : Stops (encTo zs P l fr a j) P (P + 3 * j) 0 N t) : t = j := by
  rcases Nat.lt_or_ge t j with h | h
  · rcases hst with h1 | h1 | h1
    · omega
    · omega
    · obtain ⟨e1, _, _⟩ := enc_at (zs := zs) (P := P) (l := l) (fr := fr) (a := a) hl h
      obtain ⟨q1, q2, _, _⟩ := hdr_well (hw t h).1 (hw t h).2
      rw [e1, and16 _ q1 q2] at h1
      cases h1
  · omega
end

theorem ok_well {n : Nd} (h : wellB n = true) (h0 : 0 ≤ n.kind) : n.ok := by
  obtain ⟨h1, h2, h3, h4, h5⟩ := wellB_yes h
  obtain ⟨e0, e1⟩ := inR_yes h5
  exact ⟨h0, by omega, by omega, by omega, by rcases h4 with h4 | h4 <;> omega, by rcases h4 with h4 | h4 <;> omega, by omega, by omega⟩

theorem splice_pre (ps : List Int) (P R : Nat) (hP : ps.length = P) : splice (List.replicate (P + R) (Value.int .u8 0)) 0 (ps.map (Value.int .u8)) = (ps ++ List.replicate R 0).map (Value.int .u8) := by
  unfold splice
  rw [List.take_zero, List.nil_append, List.length_map, hP, Nat.zero_add, List.drop_replicate, show P + R - P = R by omega, List.map_append, List.map_replicate]
theorem pre_bytes {ps : List Int} (R : Nat) (h : Bytes ps) : Bytes (ps ++ List.replicate R 0) := by
  intro k
  by_cases hk : k < ps.length
  · have e : byt (ps ++ List.replicate R 0) k = byt ps k := by
      rw [byt, byt, List.getD_eq_getElem?_getD, List.getD_eq_getElem?_getD, List.getElem?_append_left hk]
    rw [e]; exact h k
  · have e : byt (ps ++ List.replicate R 0) k = 0 := by
      rw [byt, List.getD_eq_getElem?_getD, List.getElem?_append_right (by omega), List.getElem?_replicate]
      split <;> rfl
    rw [e]; omega
theorem pre_keep {ps : List Int} {P R : Nat} {l : List Nd} {fr : Nat} {a : Int} {j k : Nat} (hP : ps.length = P) (hk : k < P) : byt (encTo (ps ++ List.replicate R 0) P l fr a j) k = byt ps k := by
  rw [byt, byt, List.getD_eq_getElem?_getD, List.getD_eq_getElem?_getD, encTo_other _ P l fr a j k (.inl hk), List.getElem?_append_left (by omega)]

end Go.Proofs.Qxb6600114a
