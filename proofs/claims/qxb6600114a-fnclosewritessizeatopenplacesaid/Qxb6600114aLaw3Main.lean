import Derived.Test.Qxb6600114aLaw3
import Derived.Test.Qxb6600114aLaw3Plain
namespace Go.Proofs.Qxb6600114a
open Go.RowKit
set_option linter.unusedVariables false

theorem cells_of {w : World} {k : IntKind} {b o : Nat} {zs : List Int} (hc : ∀ j, j < zs.length → w.cell? ⟨b, o + j, none⟩ = some (.int k (zs.getD j 0))) :
    ∀ j v, (zs.map (Value.int k))[j]? = some v → w.cell? ((⟨b, o, none⟩ : Addr).add j) = some v := by
  intro j v hv
  rw [Go.WideShapes.add_plain]
  rw [List.getElem?_map] at hv
  cases hz : zs[j]? with
  | none => rw [hz] at hv; cases hv
  | some z =>
    rw [hz] at hv
    simp at hv
    subst hv
    have hj : j < zs.length := (List.getElem?_eq_some_iff.1 hz).1
    rw [hc j hj]
    simp [List.getD_eq_getElem?_getD, hz]
theorem one_of {k : IntKind} {zs : List Int} : ∀ v ∈ zs.map (Value.int k), v.oneCell' = true := by
  intro v hv
  obtain ⟨z, _, rfl⟩ := List.mem_map.1 hv
  rfl

set_option maxRecDepth 100000 in
set_option maxHeartbeats 400000 in
theorem law3_place (a0 : Option Addr) (len0 cap0 : Nat) (b1 o1 n len1 cap1 : Nat) (a2 a3 a4 a5 pl : Int) (w : World) (hl0 : len0 ≤ 65536) (hn1 : n < len1) (hn2 : len1 ≤ n + 1) (hl1 : len1 ≤ 65536)
    (h2 : 1 ≤ a2) (h2' : a2 ≤ 8) (h3 : 0 ≤ a3) (h3' : a3 < a4) (h4 : a4 ≤ 2305843009213693951)
    (hc1 : w.cell? ⟨b1, o1 + (len1 - 1), none⟩ = some (.int .i64 pl)) (hpl : pl < 0 ∨ (len0 : Int) - a2 < pl) :
    Calls Try.prog 3 #[.slice a0 len0 cap0, .slice (some ⟨b1, o1, none⟩) len1 cap1, .int .i64 a2, .int .i64 a3, .int .i64 a4, .int .i64 a5] w fun e w' => e = .returned (.bool true) ∧ Below w.heap.size w w' := by
  have hd : fitsB (len0 + len1) = true := fits_yes (by omega)
  have m0 : Hid (len0 ≤ maxLen) := by unfold Hid maxLen; omega
  have m1 : Hid (len1 ≤ maxLen) := by unfold Hid maxLen; omega
  by_cases c : pl < 0
  · go_enter Try.func3, Try.ntmps3
    go_wp2_with (go_at_call 10; refine (zzBytes10 _ _ _ _ _ _ _ _ _ _ _ m0.out m1.out).mono ?_; rintro e w' ⟨rfl, rfl⟩)
    go_ret
    exact ⟨rfl, Below.refl _ _⟩
  · have c' : (len0 : Int) - a2 < pl := by omega
    clear hpl
    go_enter Try.func3, Try.ntmps3
    go_wp2_with (go_at_call 10; refine (zzBytes10 _ _ _ _ _ _ _ _ _ _ _ m0.out m1.out).mono ?_; rintro e w' ⟨rfl, rfl⟩)
    go_ret
    exact ⟨rfl, Below.refl _ _⟩

theorem getElem?_of_getD (l : List Int) (n : Nat) (h : n < l.length) : l[n]? = some (l.getD n 0) := by
  simp [List.getD_eq_getElem?_getD, List.getElem?_eq_getElem h]

set_option maxRecDepth 100000 in
set_option maxHeartbeats 400000 in
theorem law3_main (b0 o0 cap0 : Nat) (b1 o1 n len1 cap1 : Nat) (sw p : Nat) (a3 a4 a5 : Int) (zs os : List Int) (len0 : Nat) (w : World) (hz : zs.length = len0) (hos : os.length = len1) (hl0 : len0 ≤ 65536) (hn1 : n < len1) (hn2 : len1 ≤ n + 1) (hl1 : len1 ≤ 65536)
    (h2 : 1 ≤ sw) (h2' : sw ≤ 8) (h3 : 0 ≤ a3) (h3' : a3 < a4) (h4 : a4 ≤ 2305843009213693951) (h5 : -9223372036854775808 ≤ a5) (h5' : a5 ≤ 9223372036854775807)
    (hc0 : ∀ j, j < zs.length → w.cell? ⟨b0, o0 + j, none⟩ = some (.int .u8 (zs.getD j 0)))
    (hc1 : ∀ j, j < os.length → w.cell? ⟨b1, o1 + j, none⟩ = some (.int .i64 (os.getD j 0))) (hp : os.getD n 0 = p) (hpl : p + sw ≤ len0) :
    Calls Try.prog 3 #[.slice (some ⟨b0, o0, none⟩) len0 cap0, .slice (some ⟨b1, o1, none⟩) len1 cap1, .int .i64 sw, .int .i64 a3, .int .i64 a4, .int .i64 a5] w fun e w' => e = .returned (.bool true) ∧ Below w.heap.size w w' := by
  have hd : fitsB (len0 + len1) = true := fits_yes (by omega)
  have m0 : Hid (len0 ≤ maxLen) := by unfold Hid maxLen; omega
  have m1 : Hid (len1 ≤ maxLen) := by unfold Hid maxLen; omega
  have c1 : w.cell? ⟨b1, o1 + (len1 - 1), none⟩ = some (.int .i64 (p : Int)) := by rw [show len1 - 1 = n by omega, hc1 n (by omega), hp]
  have Hz : Hid (zs.length = len0) := hz
  have Hos : Hid (os.length = len1) := hos
  have Hc0 : Hid (∀ j, j < zs.length → w.cell? ⟨b0, o0 + j, none⟩ = some (.int .u8 (zs.getD j 0))) := hc0
  have Hc1 : Hid (∀ j, j < os.length → w.cell? ⟨b1, o1 + j, none⟩ = some (.int .i64 (os.getD j 0))) := hc1
  have Hp : Hid (os.getD n 0 = p) := hp
  clear hz hos hc0 hc1 hp
  have hlt0 : b0 < w.heap.size := World.block_lt_of_cell? _ _ (Hc0.out 0 (by have := Hz.out; omega))
  have hlt1 : b1 < w.heap.size := World.block_lt_of_cell? _ _ c1
  go_enter Try.func3, Try.ntmps3
  go_wp2_with (go_at_call 10; refine (zzBytes10 _ _ _ _ _ _ _ _ _ _ _ m0.out m1.out).mono ?_; rintro e w' ⟨rfl, rfl⟩)
  refine (clone11 ⟨b0, o0, none⟩ len0 cap0 (zs.map (Value.int .u8)) _ (by rw [List.length_map]; exact Hz.out) (by omega) (cells_of Hc0.out) one_of).mono ?_
  rintro e w1 ⟨gb, rfl, hgb, hZ1, hbel1⟩
  go_wp2_with fail
  have Hc1' : Hid (∀ j, j < os.length → w1.cell? ⟨b1, o1 + j, none⟩ = some (.int .i64 (os.getD j 0))) := fun j hj => by rw [← Hc1.out j hj]; exact hbel1.cell hlt1
  refine (clone12 ⟨b1, o1, none⟩ len1 cap1 (os.map (Value.int .i64)) _ (by rw [List.length_map]; exact Hos.out) (by omega) (cells_of Hc1'.out) one_of).mono ?_
  rintro e w2 ⟨go, rfl, hgo, hO2, hbel2⟩
  go_wp2_with fail
  refine (closeEnc13 go w2.heap.size gb n len1 len1 len0 sw p a4 a3 a5 (os.map (Value.int .i64)) zs _ (by omega) (hO2.alloc _) (by rw [List.getElem?_map, getElem?_of_getD os n (by have := Hos.out; omega), Hp.out]; rfl) hn1 (by omega) (blk_new w2 22 [_]) ((hZ1.below' hbel2).alloc _) Hz.out hl0 hpl h2 h2' h3 h3' h4 h5 h5').mono ?_
  rintro e w3 ⟨rfl, hZ3, hK3⟩
  have hO3 : Blk w3 go 3 (os.map (Value.int .i64)) := (hO2.alloc _).kept hK3 (by have := hZ1.lt; simp; omega)
  have hbel3 : Below w.heap.size w w3 := (hbel1.trans (hbel2.mono hbel1.size)).trans ((((Kept.refl [gb] w2).alloc _).trans hK3).below (by have := hbel1.size; have := hbel2.size; omega) (by simp; omega))
  have Hc0' : Hid (∀ j, j < zs.length → w3.cell? ⟨b0, o0 + j, none⟩ = some (.int .u8 (zs.getD j 0))) := fun j hj => by rw [← Hc0.out j hj]; exact hbel3.cell hlt0
  have Hc1'' : Hid (∀ j, j < os.length → w3.cell? ⟨b1, o1 + j, none⟩ = some (.int .i64 (os.getD j 0))) := fun j hj => by rw [← Hc1.out j hj]; exact hbel3.cell hlt1
  clear hK3 hO2 hZ1 hbel1 hbel2 Hc1' c1 Hc0 Hc1 hgo
  have hlt0' : b0 < w3.heap.size := by have := hbel3.size; omega
  have hlt1' : b1 < w3.heap.size := by have := hbel3.size; omega
  clear hlt0 hlt1
  go_wp2_with fail
  go_loopw [18] (fun i wr => ∃ k : Nat, k ≤ n ∧ i = .int .i64 k ∧ Kept [] w3 wr) (fun i _ => n - (intOf i).toNat)
  case atStart => exact ⟨0, Nat.zero_le _, rfl, Kept.refl _ _⟩
  case round =>
    obtain ⟨k, hk, rfl, hKr⟩ := hrel
    by_cases hlt : k < n
    · obtain ⟨x, hx⟩ : ∃ x, x = os.getD k 0 := ⟨_, rfl⟩
      have d1 : wr.cell? ⟨go, k, none⟩ = some (.int .i64 x) := (hO3.kept hKr (by simp)).cell (by rw [List.getElem?_map, getElem?_of_getD os k (by have := Hos.out; omega), ← hx]; rfl)
      have d2 : wr.cell? ⟨b1, o1 + k, none⟩ = some (.int .i64 x) := by
        rw [hx, ← Hc1''.out k (by have := Hos.out; omega)]
        exact (hKr.below (Nat.le_refl _) (by simp)).cell hlt1'
      have HX : Hid (x = os.getD k 0) := hx
      clear hx
      have i1 : (k : Int) < (n : Int) := by omega
      have i2 : (k : Int) < (len1 : Int) := by omega
      go_wp2_with fail
      go_quiet (fail)
      go_wp2
      go_roundw
      case rel => exact ⟨k + 1, by omega, by go_num, by first | exact hKr.drewN _ | exact hKr⟩
      case measure => simp [intOf]; omega
    · go_wp2_with fail
      clear hO3 Hc1'' hk hlt
      go_loopw [19] (fun i wr => ∃ k : Nat, k ≤ len0 ∧ i = .int .i64 k ∧ Kept [] w3 wr) (fun i _ => len0 - (intOf i).toNat)
      case atStart => exact ⟨0, Nat.zero_le _, rfl, hKr⟩
      case round =>
        clear hKr
        obtain ⟨k, hk, rfl, hKr⟩ := hrel
        by_cases hlt : k < len0
        · obtain ⟨x, hx⟩ : ∃ x, x = zs.getD k 0 := ⟨_, rfl⟩
          have d2 : wr.cell? ⟨b0, o0 + k, none⟩ = some (.int .u8 x) := by
            rw [hx, ← Hc0'.out k (by have := Hz.out; omega)]
            exact (hKr.below (Nat.le_refl _) (by simp)).cell hlt0'
          have d1 : k < p ∨ p + sw ≤ k → wr.cell? ⟨gb, k, none⟩ = some (.int .u8 x) := fun hor => (hZ3.kept hKr (by simp)).cell (by rw [List.getElem?_map, putTo_other zs p a5 sw k hor, getElem?_of_getD zs k (by have := Hz.out; omega), ← hx]; rfl)
          clear hx
          have i1 : (k : Int) < (len0 : Int) := by omega
          by_cases c1 : k < p
          · have e1 := d1 (.inl c1)
            clear d1
            have g1 : decide ((k : Int) < (p : Int)) = true := by simp; omega
            go_wp2_with fail
            go_quiet (fail)
            go_wp2
            go_roundw
            case rel => exact ⟨k + 1, by omega, by go_num, by first | exact hKr.drewN _ | exact hKr⟩
            case measure => simp [intOf]; omega
          · have g1 : decide ((k : Int) < (p : Int)) = false := by simp; omega
            by_cases c2 : p + sw ≤ k
            · have e1 := d1 (.inr c2)
              clear d1
              have g2 : decide ((p : Int) + (sw : Int) ≤ (k : Int)) = true := by simp; omega
              go_wp2_with fail
              go_quiet (fail)
              go_wp2
              go_roundw
              case rel => exact ⟨k + 1, by omega, by go_num, by first | exact hKr.drewN _ | exact hKr⟩
              case measure => simp [intOf]; omega
            · clear d1
              have g2 : decide ((p : Int) + (sw : Int) ≤ (k : Int)) = false := by simp; omega
              go_wp2_with fail
              go_quiet (fail)
              go_wp2
              go_roundw
              case rel => exact ⟨k + 1, by omega, by go_num, by first | exact hKr.drewN _ | exact hKr⟩
              case measure => simp [intOf]; omega
        · go_wp2_with fail
          clear Hc0' hk hlt
          go_loopw [20, 21] (fun v i wr => ∃ b : Nat, b ≤ sw ∧ i = .int .i64 ((b : Int) - 1) ∧ v = .int .u64 (vAt a5 sw b) ∧ Kept [] w3 wr) (fun _ i _ => (intOf i + 1).toNat)
          case atStart => exact ⟨sw, Nat.le_refl _, rfl, by rw [vAt_top], hKr⟩
          case round =>
            clear hKr
            obtain ⟨b, hb, rfl, rfl, hKr⟩ := hrel
            by_cases hb0 : b = 0
            · subst hb0
              have hbelr : Below w.heap.size w wr := hbel3.trans (hKr.below hbel3.size (by simp))
              by_cases h8 : sw < 8
              · have hm := vAt_mask a5 sw h2 h8
                have Hm : Hid (vAt a5 sw 0 = bits .and .u64 (IntKind.u64.wrap a5) (IntKind.u64.wrap (IntKind.u64.wrap (2 ^ (8 * sw)) - 1))) := hm
                clear hm
                go_wp2
                go_ret
                exact ⟨ret_bool (by rw [Hm.out]; exact beq_self_eq_true _), hbelr⟩
              · obtain rfl : sw = 8 := by omega
                have hm : Hid (vAt a5 8 0 = IntKind.u64.wrap a5) := vAt_full a5
                go_wp2
                go_ret
                exact ⟨ret_bool (by rw [hm.out]; exact beq_self_eq_true _), hbelr⟩
            · obtain ⟨c, rfl⟩ : ∃ c, b = c + 1 := ⟨b - 1, by omega⟩
              have d1 : wr.cell? ⟨gb, p + c, none⟩ = some (.int .u8 (a5 / 2 ^ (8 * c) % 256)) := (hZ3.kept hKr (by simp)).cell (by rw [List.getElem?_map, putTo_at zs p a5 sw c (by omega) (by have := Hz.out; omega)]; rfl)
              have Hst : Hid (bits .or .u64 (IntKind.u64.wrap (vAt a5 sw (c + 1) * 256)) (a5 / 2 ^ (8 * c) % 256) = vAt a5 sw c) := vAt_step a5 sw c (by omega) h2'
              go_wp2
              go_roundw
              case rel => exact ⟨c, by omega, rfl, by rw [Hst.out], hKr⟩
              case measure => simp [intOf]

end Go.Proofs.Qxb6600114a
