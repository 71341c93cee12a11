import Derived.Test.Qxb6600114aEnc
import Derived.Test.Qxb6600114aDec
namespace Go.Proofs.Qxb6600114a
open Go.RowKit
set_option linter.unusedVariables false

/-! ### What encodeShort leaves in the chunk -/
theorem encTo_other (zs : List Int) (W : Nat) (l : List Nd) (i : Nat) (a : Int) (j k : Nat) (h : k < W ∨ W + 3 * j ≤ k) : (encTo zs W l i a j)[k]? = zs[k]? := by
  induction j with
  | zero => rfl
  | succ j ih =>
    rw [encTo_succ, List.getElem?_set_ne (by omega), List.getElem?_set_ne (by omega), List.getElem?_set_ne (by omega)]
    exact ih (by omega)
theorem encTo_at (zs : List Int) (W : Nat) (l : List Nd) (i : Nat) (a : Int) (j s : Nat) (h : s < j) (hl : W + 3 * j ≤ zs.length) :
    (encTo zs W l i a j)[W + 3 * s]? = some (nth l (i + s)).hdr ∧ (encTo zs W l i a j)[W + 3 * s + 1]? = some ((nth l (i + s)).pos - lastTo l i a s) ∧ (encTo zs W l i a j)[W + 3 * s + 2]? = some ((nth l (i + s)).en - (nth l (i + s)).st) := by
  induction j with
  | zero => omega
  | succ j ih =>
    have hlen : (encTo zs W l i a j).length = zs.length := encTo_length _ _ _ _ _ _
    rw [encTo_succ]
    by_cases e : s = j
    · subst e
      refine ⟨?_, ?_, ?_⟩
      · rw [List.getElem?_set_ne (by omega), List.getElem?_set_ne (by omega), List.getElem?_set_self (by omega)]
      · rw [List.getElem?_set_ne (by omega), List.getElem?_set_self (by rw [List.length_set]; omega)]
      · rw [List.getElem?_set_self (by rw [List.length_set, List.length_set]; omega)]
    · obtain ⟨h1, h2, h3⟩ := ih (by omega) (by omega)
      refine ⟨?_, ?_, ?_⟩
      · rw [List.getElem?_set_ne (by omega), List.getElem?_set_ne (by omega), List.getElem?_set_ne (by omega)]; exact h1
      · rw [List.getElem?_set_ne (by omega), List.getElem?_set_ne (by omega), List.getElem?_set_ne (by omega)]; exact h2
      · rw [List.getElem?_set_ne (by omega), List.getElem?_set_ne (by omega), List.getElem?_set_ne (by omega)]; exact h3
theorem byt_of {zs : List Int} {k : Nat} {v : Int} (h : zs[k]? = some v) : byt zs k = v := by
  rw [byt, List.getD_eq_getElem?_getD, h]; rfl

/-! ### Decoded, then encoded again -/
/-- The nodes that were read. -/
def got (N : Nat) (zs : List Int) (p : Nat) (a : Int) (t : Nat) : List Nd := (decTo (List.replicate N Nd.zero) 0 zs p a t).take t
theorem decTo_at0 (l : List Nd) (zs : List Int) (p : Nat) (a : Int) (t s : Nat) (h : s < t) (hl : t ≤ l.length) : (decTo l 0 zs p a t)[s]? = some (decNode zs p a s) := by
  induction t with
  | zero => omega
  | succ t ih =>
    rw [decTo]
    by_cases e : s = t
    · subst e
      rw [Nat.zero_add, List.getElem?_set_self (by rw [decTo_length]; omega)]
    · rw [List.getElem?_set_ne (by omega)]
      exact ih (by omega) (by omega)
theorem got_length {N : Nat} {zs : List Int} {p : Nat} {a : Int} {t : Nat} (ht : t ≤ N) : (got N zs p a t).length = t := by
  rw [got, List.length_take, decTo_length, List.length_replicate]; omega
theorem got_nth {N : Nat} {zs : List Int} {p : Nat} {a : Int} {t s : Nat} (ht : t ≤ N) (hs : s < t) : nth (got N zs p a t) s = decNode zs p a s := by
  have h : (got N zs p a t)[s]? = some (decNode zs p a s) := by
    rw [got, List.getElem?_take, if_pos hs]
    exact decTo_at0 _ zs p a t s hs (by rw [List.length_replicate]; exact ht)
  rw [nth, List.getD_eq_getElem?_getD, h]; rfl
theorem got_last {N : Nat} {zs : List Int} {p : Nat} {a : Int} {t s : Nat} (ht : t ≤ N) (hs : s ≤ t) : lastTo (got N zs p a t) 0 a s = atTo zs p a s := by
  cases s with
  | zero => rfl
  | succ s =>
    rw [lastTo, Nat.zero_add, got_nth ht (by omega)]; rfl
theorem got_fits {N : Nat} {zs : List Int} {p : Nat} {a : Int} {t s : Nat} (hb : Bytes zs) (ha : 0 ≤ a) (ht : t ≤ N) (hs : s < t) : (nth (got N zs p a t) (0 + s)).fits (lastTo (got N zs p a t) 0 a s) := by
  rw [Nat.zero_add, got_nth ht hs, got_last ht (by omega)]
  have h1 := hb (p + 3 * s + 1)
  have h2 := hb (p + 3 * s + 2)
  have h3 := hb (p + 3 * s)
  have h4 := atTo_bd zs p a s hb
  simp only [Nd.fits, decNode, atTo]
  exact ⟨by omega, by omega, by omega, by omega, trivial, by omega⟩
theorem got_ok {N : Nat} {zs : List Int} {p : Nat} {a : Int} {t : Nat} (hb : Bytes zs) (ha : 0 ≤ a) (ha1 : a ≤ 2305843009213693951) (ht : t ≤ N) (hN : N ≤ 1048576) : ∀ n ∈ got N zs p a t, n.ok := by
  intro n hn
  obtain ⟨s, hs, e⟩ := List.mem_iff_getElem.1 hn
  rw [got_length ht] at hs
  have e2 : nth (got N zs p a t) s = n := by
    rw [nth, List.getD_eq_getElem?_getD, List.getElem?_eq_getElem (by rw [got_length ht]; exact hs), e]; rfl
  rw [← e2, got_nth ht hs]
  have h1 := hb (p + 3 * s + 1)
  have h2 := hb (p + 3 * s + 2)
  have h3 := hb (p + 3 * s)
  have h4 := atTo_bd zs p a s hb
  simp only [Nd.ok, decNode, atTo]
  exact ⟨by omega, by omega, by omega, by omega, by omega, by omega, by omega, by omega⟩
theorem got_count {N : Nat} {zs : List Int} {p : Nat} {a : Int} {t j : Nat} (hb : Bytes zs) (ha : 0 ≤ a) (ht : t ≤ N) (hj : 0 + j ≤ t) (he : Ends (got N zs p a t) 0 a 0 (3 * t) j) : j = t := by
  rcases Nat.lt_or_ge j t with h | h
  · rcases he with he | he | he
    · rw [got_length ht] at he; omega
    · exact absurd (got_fits hb ha ht h) he
    · omega
  · omega
theorem hdr_back (y P e : Int) (h0 : 0 ≤ y) (h1 : y ≤ 255) : (⟨y / 2, false, P, P + y % 2, e⟩ : Nd).hdr = y := by
  simp only [Nd.hdr]; split <;> omega
theorem got_bytes {N : Nat} {zs : List Int} {p : Nat} {a : Int} {t k : Nat} (hb : Bytes zs) (ht : t ≤ N) (hk : k < 3 * t) : byt (encTo (List.replicate (3 * t) 0) 0 (got N zs p a t) 0 a t) k = byt zs (p + k) := by
  obtain ⟨s, hs⟩ : ∃ s, s = k / 3 := ⟨_, rfl⟩
  have hst : s < t := by omega
  obtain ⟨g1, g2, g3⟩ := encTo_at (List.replicate (3 * t) 0) 0 (got N zs p a t) 0 a t s hst (by simp)
  rw [Nat.zero_add, Nat.zero_add, got_nth ht hst] at g1 g2 g3
  rw [got_last ht (by omega)] at g2
  have h3 := hb (p + 3 * s)
  rcases (show k = 3 * s ∨ k = 3 * s + 1 ∨ k = 3 * s + 2 by omega) with rfl | rfl | rfl
  · rw [byt_of g1]; exact hdr_back _ _ _ h3.1 h3.2
  · rw [byt_of g2]; simp only [decNode, atTo]; rw [show p + (3 * s + 1) = p + 3 * s + 1 by omega]; omega
  · rw [byt_of g3]; simp only [decNode, atTo]; rw [show p + (3 * s + 2) = p + 3 * s + 2 by omega]; omega

end Go.Proofs.Qxb6600114a
