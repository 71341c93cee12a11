import Derived.Test.Qxb6600114aMore
import Derived.ProofKit
import Derived.OpenShut
namespace Go.Proofs.Qxb6600114a
open Go.RowKit Go.ChangeShapes Go.WideShapes
set_option linter.unusedVariables false

section
variable {H : Type} {enc : TypeId × Value → H} {w : World} {base : Nat} {spare : Nat → Bool} {held : Bool}

theorem take_byt (z : List Int) (n j : Nat) (h : j < n) : byt (z.take n) j = z.getD j 0 := by
  simp [byt, List.getD_eq_getElem?_getD, h]

theorem open_bytes {fuel : Nat} {a : Option Addr} {len cap : Nat} {x : DataW H × List MemPlace} (h : DataW.trod enc Try.prog w base (fun _ => true) held fuel 22 [.slice a len cap] = some x) :
    ∃ zs : List Int, zs.length = len ∧ len ≤ maxLen ∧ BSrc w a zs ∧ Bytes zs := by
  rcases open_ints Try.underlying22 Try.underlying5 (by kernel_rfl) h with ⟨hcs, _⟩ | ⟨ad, l, c, z, hcs, _, hl, hm, hz, _, hcell, hwz⟩
  · simp at hcs
    obtain ⟨rfl, rfl, rfl⟩ := hcs
    exact ⟨[], rfl, Nat.zero_le _, fun hn => absurd rfl hn, fun k => by simp [byt]⟩
  · simp at hcs
    obtain ⟨rfl, rfl, rfl⟩ := hcs
    have hz' : z.length = cap := by simpa using hz
    refine ⟨z.take len, by simp; omega, Nat.le_trans hl hm, fun hn => ?_, fun k => ?_⟩
    · have hpos : 0 < z.length := by
        have : 0 < (z.take len).length := List.length_pos_iff.2 hn
        rw [List.length_take] at this
        omega
      obtain ⟨b, o, rfl, hc⟩ := ints_at hcell hpos
      refine ⟨b, o, rfl, fun j hj => ?_⟩
      have hj' : j < len := by simp at hj; omega
      rw [take_byt z len j hj', hc j (by simp at hj; omega)]
    · by_cases hk : k < (z.take len).length
      · have hm2 : byt (z.take len) k ∈ z := by
          rw [List.length_take] at hk
          rw [take_byt z len k (by omega), List.getD_eq_getElem?_getD, List.getElem?_eq_getElem (show k < z.length by omega)]
          exact List.getElem_mem _
        exact bounds_u8 (hwz _ hm2)
      · have : byt (z.take len) k = 0 := by
          rw [byt, List.getD_eq_getElem?_getD, List.getElem?_eq_none (by omega)]; rfl
        rw [this]; omega
end

end Go.Proofs.Qxb6600114a
