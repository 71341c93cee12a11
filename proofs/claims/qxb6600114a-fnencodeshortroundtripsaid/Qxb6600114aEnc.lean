import Derived.Test.Qxb6600114aNode
import Derived.BigRegion
namespace Go.Proofs.Qxb6600114a
open Go.RowKit
set_option linter.unusedVariables false

def Nd.hdr (n : Nd) : Int := if n.pos < n.st then n.kind * 2 % 256 + 1 else n.kind * 2 % 256
/-- The node n takes the short form behind one at a. -/
def Nd.fits (n : Nd) (a : Int) : Prop := 0 ≤ n.pos - a ∧ n.pos - a ≤ 255 ∧ 0 ≤ n.en - n.st ∧ n.en - n.st ≤ 255 ∧ n.dec = false ∧ n.en ≠ -1
/-- Each number of a node lies where differences do not wrap. -/
def Nd.ok (n : Nd) : Prop := 0 ≤ n.kind ∧ n.kind ≤ 255 ∧ -4611686018427387903 ≤ n.pos ∧ n.pos ≤ 4611686018427387903 ∧ -4611686018427387903 ≤ n.st ∧ n.st ≤ 4611686018427387903 ∧ -4611686018427387903 ≤ n.en ∧ n.en ≤ 4611686018427387903

def nth (l : List Nd) (i : Nat) : Nd := l.getD i Nd.zero
/-- The place of the last node behind j rounds from index i on. -/
def lastTo (l : List Nd) (i : Nat) (a : Int) : Nat → Int
  | 0 => a
  | j + 1 => (nth l (i + j)).pos
/-- The chunk's bytes behind j rounds. -/
def encTo (zs : List Int) (W : Nat) (l : List Nd) (i : Nat) (a : Int) : Nat → List Int
  | 0 => zs
  | j + 1 => (((encTo zs W l i a j).set (W + 3 * j) (nth l (i + j)).hdr).set (W + 3 * j + 1) ((nth l (i + j)).pos - lastTo l i a j)).set (W + 3 * j + 2) ((nth l (i + j)).en - (nth l (i + j)).st)
theorem encTo_length (zs : List Int) (W : Nat) (l : List Nd) (i : Nat) (a : Int) (j : Nat) : (encTo zs W l i a j).length = zs.length := by
  induction j with
  | zero => rfl
  | succ j ih => simp [encTo, ih]
def FitAll (l : List Nd) (i : Nat) (a : Int) (j : Nat) : Prop := ∀ t, t < j → (nth l (i + t)).fits (lastTo l i a t)
def Ends (l : List Nd) (i : Nat) (a : Int) (W C j : Nat) : Prop := i + j = l.length ∨ ¬ (nth l (i + j)).fits (lastTo l i a j) ∨ C - (W + 3 * j) < 3

theorem or_small (x y : Int) (hx0 : 0 ≤ x) (hx1 : x ≤ 255) (hy0 : 0 ≤ y) (hy1 : y ≤ 255) : bits .or .u64 x y ≤ 255 := by
  rw [u64_or x y hx0 (by omega) hy0 (by omega)]
  have := Nat.or_lt_two_pow (x := x.toNat) (y := y.toNat) (n := 8) (by omega) (by omega)
  omega
theorem hdr_yes (n : Nd) (h : n.pos < n.st) : bits .or .u8 (n.kind * 2 % 256) 1 = n.hdr := by
  unfold Nd.hdr; rw [if_pos h]
  exact bits_join .u8 8 (by decide) wraps_u8 1 _ _ (by omega) (by omega) (by omega) (by omega) (by omega) (by omega)
theorem hdr_no (n : Nd) (h : ¬ n.pos < n.st) : n.kind * 2 % 256 = n.hdr := by
  unfold Nd.hdr; rw [if_neg h]
theorem fitAll_succ {l : List Nd} {i : Nat} {a : Int} {j : Nat} (h : FitAll l i a j) (hn : (nth l (i + j)).fits (lastTo l i a j)) : FitAll l i a (j + 1) := fun t ht => by
  by_cases e : t = j
  · subst e; exact hn
  · exact h t (by omega)
theorem encTo_succ (zs : List Int) (W : Nat) (l : List Nd) (i : Nat) (a : Int) (j : Nat) : encTo zs W l i a (j + 1) =
    (((encTo zs W l i a j).set (W + 3 * j) (nth l (i + j)).hdr).set (W + 3 * j + 1) ((nth l (i + j)).pos - lastTo l i a j)).set (W + 3 * j + 2) ((nth l (i + j)).en - (nth l (i + j)).st) := rfl
theorem nth_get (l : List Nd) (k : Nat) (h : k < l.length) : l[k]? = some (nth l k) := by
  simp [nth, List.getD_eq_getElem?_getD, List.getElem?_eq_getElem h]
theorem lastTo_bd (l : List Nd) (i : Nat) (a : Int) (j : Nat) (hok : ∀ n ∈ l, n.ok) (hj : i + j ≤ l.length) (h0 : -4611686018427387903 ≤ a) (h1 : a ≤ 4611686018427387903) :
    -4611686018427387903 ≤ lastTo l i a j ∧ lastTo l i a j ≤ 4611686018427387903 := by
  cases j with
  | zero => exact ⟨h0, h1⟩
  | succ j =>
    have := hok _ (List.mem_of_getElem? (nth_get l (i + j) (by omega)))
    exact ⟨this.2.2.1, this.2.2.2.1⟩

theorem kept_set3 {g : Nat} {w wr : World} (h : Kept [g] w wr) (i j k : Nat) (x y z : Value) : Kept [g] w (((wr.setCell ⟨g, i, none⟩ x).setCell ⟨g, j, none⟩ y).setCell ⟨g, k, none⟩ z) :=
  ((h.setCell (by simp) _).setCell (by simp) _).setCell (by simp) _
theorem or_big (x y : Int) (hx0 : -9223372036854775808 ≤ x) (hx1 : x ≤ 9223372036854775807) (hy0 : -9223372036854775808 ≤ y) (hy1 : y ≤ 9223372036854775807) (h : ¬ (0 ≤ x ∧ x ≤ 255 ∧ 0 ≤ y ∧ y ≤ 255)) :
    256 ≤ bits .or .u64 (IntKind.u64.wrap x) (IntKind.u64.wrap y) := by
  rw [IntKind.wrap_u64, IntKind.wrap_u64, u64_or _ _ (by omega) (by omega) (by omega) (by omega)]
  have h1 := Nat.left_le_or (n := (x % 18446744073709551616).toNat) (m := (y % 18446744073709551616).toNat)
  have h2 := Nat.right_le_or (n := (x % 18446744073709551616).toNat) (m := (y % 18446744073709551616).toNat)
  omega

theorem enc_exit {T gc W C len capb i j X U : Nat} {ab : Option Addr} {a q : Int} {l : List Nd} {zs : List Int} {v0 v1 v3 v4 v5 v6 v8 v9 v11 : Value} {w wr : World}
    (hT : Blk w T 55 [v0, v1, .slice ab len capb, v3, v4, v5, v6, .slice (some ⟨gc, 0, none⟩) W C, v8, v9, .int .i64 a, v11])
    (hZ : Blk w gc 5 (zs.map (Value.int .u8)))
    (hTr : Blk wr T 55 [v0, v1, .slice ab len capb, v3, v4, v5, v6, .slice (some ⟨gc, 0, none⟩) W C, v8, v9, .int .i64 a, v11])
    (hBj : Blk wr gc 5 ((encTo zs W l i a j).map (Value.int .u8))) (hKj : Kept [gc] w wr) (hX : X = i + j) (hU : U = W + 3 * j) (hQ : q = lastTo l i a j) (hj1 : X ≤ len) (hj2 : U ≤ C) (hl : l.length = len)
    (hfit : FitAll l i a j) (he : Ends l i a W C j) (m : Nat) :
    ∃ j : Nat, Ending.returned (.int .i64 (X : Int)) = .returned (.int .i64 ((i + j : Nat) : Int)) ∧ i + j ≤ len ∧ W + 3 * j ≤ C ∧ FitAll l i a j ∧ Ends l i a W C j ∧
      Blk (((wr.drewN m).setCell ⟨T, 7, none⟩ (.slice (some ⟨gc, 0, none⟩) U C)).setCell ⟨T, 10, none⟩ (.int .i64 q)) T 55 [v0, v1, .slice ab len capb, v3, v4, v5, v6, .slice (some ⟨gc, 0, none⟩) (W + 3 * j) C, v8, v9, .int .i64 (lastTo l i a j), v11] ∧
      Blk (((wr.drewN m).setCell ⟨T, 7, none⟩ (.slice (some ⟨gc, 0, none⟩) U C)).setCell ⟨T, 10, none⟩ (.int .i64 q)) gc 5 ((encTo zs W l i a j).map (Value.int .u8)) ∧
      Kept [T, gc] w (((wr.drewN m).setCell ⟨T, 7, none⟩ (.slice (some ⟨gc, 0, none⟩) U C)).setCell ⟨T, 10, none⟩ (.int .i64 q)) := by
  subst hX hU hQ
  have hne := hZ.ne hT (by decide)
  exact ⟨j, rfl, hj1, hj2, hfit, he, ((hTr.drewN m).set 7 _).set 10 _, ((hBj.drewN m).setOther (a := ⟨T, 7, none⟩) hne _).setOther (a := ⟨T, 10, none⟩) hne _,
    (((hKj.drewN m).mono (by simp)).setCell (by simp) _).setCell (by simp) _⟩

set_option maxRecDepth 100000 in
set_option maxHeartbeats 4000000 in
theorem enc27 (T gc W C len capb i : Nat) (ab : Option Addr) (a : Int) (l : List Nd) (zs : List Int) (v0 v1 v3 v4 v5 v6 v8 v9 v11 : Value) (w : World)
    (hT : Blk w T 55 [v0, v1, .slice ab len capb, v3, v4, v5, v6, .slice (some ⟨gc, 0, none⟩) W C, v8, v9, .int .i64 a, v11])
    (hl : l.length = len) (hN : l ≠ [] → ∃ gn, ab = some ⟨gn, 0, none⟩ ∧ Blk w gn 68 (flat l)) (hok : ∀ n ∈ l, n.ok) (hlen : len ≤ 1048576)
    (hZ : Blk w gc 5 (zs.map (Value.int .u8))) (hzl : zs.length = C) (hW : W ≤ C) (hC : C ≤ 1048576) (hi : i ≤ len)
    (ha0 : -4611686018427387903 ≤ a) (ha1 : a ≤ 4611686018427387903) :
    Calls Try.prog 27 #[.pointer (some ⟨T, 0, none⟩), .int .i64 i] w fun e w' => ∃ j : Nat,
      e = .returned (.int .i64 ((i + j : Nat) : Int)) ∧ i + j ≤ len ∧ W + 3 * j ≤ C ∧ FitAll l i a j ∧ Ends l i a W C j ∧
      Blk w' T 55 [v0, v1, .slice ab len capb, v3, v4, v5, v6, .slice (some ⟨gc, 0, none⟩) (W + 3 * j) C, v8, v9, .int .i64 (lastTo l i a j), v11] ∧
      Blk w' gc 5 ((encTo zs W l i a j).map (Value.int .u8)) ∧ Kept [T, gc] w w' := by
  have t2 : w.cell? ⟨T, 2, none⟩ = some (.slice ab len capb) := hT.cell rfl
  have t7 : w.cell? ⟨T, 7, none⟩ = some (.slice (some ⟨gc, 0, none⟩) W C) := hT.cell rfl
  have t10 : w.cell? ⟨T, 10, none⟩ = some (.int .i64 a) := hT.cell rfl
  have HL : Hid (l.length = len) := hl
  have HZL : Hid (zs.length = C) := hzl
  have HN : Hid (l ≠ [] → ∃ gn, ab = some ⟨gn, 0, none⟩ ∧ Blk w gn 68 (flat l)) := hN
  have HO : Hid (∀ n ∈ l, n.ok) := hok
  clear hl hzl hN hok
  go_enter Try.func27, Try.ntmps27
  go_wp2_with fail
  go_quiet (fail)
  go_wp2_with fail
  clear t2 t7 t10
  go_loopw [1, 6, 7] (fun x c p wr => ∃ j X U : Nat, ∃ q : Int, Hid (X = i + j) ∧ Hid (U = W + 3 * j) ∧ Hid (q = lastTo l i a j) ∧ X ≤ len ∧ U ≤ C ∧ x = .int .i64 (X : Int) ∧ c = .slice (some ⟨gc, 0, none⟩) U C ∧ p = .int .i64 q ∧ FitAll l i a j ∧
      Blk wr gc 5 ((encTo zs W l i a j).map (Value.int .u8)) ∧ Kept [gc] w wr) (fun x _ _ _ => len - (intOf x).toNat)
  case atStart => exact ⟨0, i, W, a, rfl, rfl, rfl, hi, hW, rfl, rfl, rfl, fun t ht => by omega, hZ.drewN _, (Kept.refl _ _).drewN _⟩
  case round =>
    obtain ⟨j, X, U, q, HX, HU, HQ, hj1, hj2, rfl, rfl, rfl, hfit, hBj, hKj⟩ := hrel
    have hTr := hT.kept hKj (by simp; exact hT.ne hZ (by decide))
    have t7 : wr.cell? ⟨T, 7, none⟩ = some (.slice (some ⟨gc, 0, none⟩) W C) := hTr.cell rfl
    have t10 : wr.cell? ⟨T, 10, none⟩ = some (.int .i64 a) := hTr.cell rfl
    have f7 := hTr.frozen 7
    have f10 := hTr.frozen 10
    by_cases hlt : X < len
    · have hne : l ≠ [] := by intro e; have h := HL.out; rw [e] at h; simp at h; omega
      obtain ⟨gn, hab, hNb⟩ := HN.out hne
      subst hab
      clear hne HN
      have hNr := hNb.kept hKj (by simp; exact hNb.ne hZ (by decide))
      have neN := hNr.ne hBj (by decide)
      have hxl : X < l.length := by have := HL.out; omega
      have Hn : Hid (l[X]? = some (nth l X)) := nth_get l X hxl
      obtain ⟨c0, c1, c2, c3, c4⟩ := hNr.node Hn.out
      obtain ⟨k0, k1, p0, p1, s0, s1, e0, e1⟩ := HO.out _ (List.mem_of_getElem? Hn.out)
      have lb := lastTo_bd l i a j HO.out (by have := HX.out; omega) ha0 ha1
      obtain ⟨n, En⟩ : ∃ n, n = nth l X := ⟨_, rfl⟩
      rw [← En] at c0 c1 c2 c3 c4 k0 k1 p0 p1 s0 s1 e0 e1
      rw [← HQ.out] at lb
      obtain ⟨q0, q1⟩ := lb
      have HE : Hid (n = nth l X) := En
      clear En hxl
      by_cases hf : n.fits q
      · obtain ⟨g0, g1, g2, g3, g4, g5⟩ := hf
        have hor := or_small (n.pos - q) (n.en - n.st) g0 g1 g2 g3
        have hen : (n.en == -1) = false := beq_eq_false_iff_ne.2 g5
        by_cases hrm : U + 3 ≤ C
        · clear t7 t10 f7 f10
          have hel := encTo_length zs W l i a j
          obtain ⟨y0, d0⟩ : ∃ y, wr.cell? ⟨gc, U, none⟩ = some y := ⟨_, hBj.cell (List.getElem?_eq_getElem (by rw [List.length_map, hel, HZL.out]; omega))⟩
          obtain ⟨y1, d1⟩ : ∃ y, wr.cell? ⟨gc, U + 1, none⟩ = some y := ⟨_, hBj.cell (List.getElem?_eq_getElem (by rw [List.length_map, hel, HZL.out]; omega))⟩
          obtain ⟨y2, d2⟩ : ∃ y, wr.cell? ⟨gc, U + 2, none⟩ = some y := ⟨_, hBj.cell (List.getElem?_eq_getElem (by rw [List.length_map, hel, HZL.out]; omega))⟩
          clear hel
          have z0 := hBj.frozen U
          have z1 := hBj.frozen (U + 1)
          have z2 := hBj.frozen (U + 2)
          have hcu : ¬ C = U := by omega
          by_cases hst : n.pos < n.st
          · have hh : bits .or .u8 (n.kind * 2 % 256) 1 = n.hdr := hdr_yes n hst
            go_wp2_with fail
            go_quiet (fail)
            go_wp2_with fail
            go_quiet (fail)
            go_wp2_with fail
            go_quiet (fail)
            go_wp2
            go_roundw
            case rel =>
              refine ⟨j + 1, X + 1, U + 3, n.pos, ?_, ?_, ?_, by omega, by omega, by go_num, ?_, rfl, ?_, ?_, ?_⟩
              · have := HX.out; show _ = _; omega
              · have := HU.out; show _ = _; omega
              · show _ = _; rw [HE.out, HX.out]; rfl
              · rfl
              · exact fitAll_succ hfit (by rw [← HX.out, ← HE.out, ← HQ.out]; exact ⟨g0, g1, g2, g3, g4, g5⟩)
              · rw [encTo_succ, ← HX.out, ← HU.out, ← HE.out, ← HQ.out, List.map_set, List.map_set, List.map_set]
                exact ((hBj.set _ _).set _ _).set _ _
              · exact (kept_set3 (hKj.drewN _) _ _ _ _ _ _).drewN _
            case measure => simp [intOf]; omega
          · have hh : n.kind * 2 % 256 = n.hdr := hdr_no n hst
            go_wp2_with fail
            go_quiet (fail)
            go_wp2_with fail
            go_quiet (fail)
            go_wp2_with fail
            go_quiet (fail)
            go_wp2
            go_roundw
            case rel =>
              refine ⟨j + 1, X + 1, U + 3, n.pos, ?_, ?_, ?_, by omega, by omega, by go_num, ?_, rfl, ?_, ?_, ?_⟩
              · have := HX.out; show _ = _; omega
              · have := HU.out; show _ = _; omega
              · show _ = _; rw [HE.out, HX.out]; rfl
              · rfl
              · exact fitAll_succ hfit (by rw [← HX.out, ← HE.out, ← HQ.out]; exact ⟨g0, g1, g2, g3, g4, g5⟩)
              · rw [encTo_succ, ← HX.out, ← HU.out, ← HE.out, ← HQ.out, List.map_set, List.map_set, List.map_set]
                exact ((hBj.set _ _).set _ _).set _ _
              · exact (kept_set3 (hKj.drewN _) _ _ _ _ _ _).drewN _
            case measure => simp [intOf]; omega
        · have hrm2 : (C : Int) - (U : Int) < 3 := by omega
          by_cases hst : n.pos < n.st
          · go_wp2_with fail
            go_quiet (fail)
            go_wp2_with fail
            go_quiet (fail)
            go_wp2
            go_ret
            refine enc_exit hT hZ hTr hBj hKj HX.out HU.out HQ.out hj1 hj2 HL.out hfit (.inr (.inr (by have := HU.out; omega))) _
          · go_wp2_with fail
            go_quiet (fail)
            go_wp2_with fail
            go_quiet (fail)
            go_wp2
            go_ret
            refine enc_exit hT hZ hTr hBj hKj HX.out HU.out HQ.out hj1 hj2 HL.out hfit (.inr (.inr (by have := HU.out; omega))) _
      · have HF : Hid (¬ n.fits q) := hf
        clear hf
        have he : Ends l i a W C j := .inr (.inl (by rw [← HX.out, ← HE.out, ← HQ.out]; exact HF.out))
        by_cases hr : 0 ≤ n.pos - q ∧ n.pos - q ≤ 255 ∧ 0 ≤ n.en - n.st ∧ n.en - n.st ≤ 255
        · obtain ⟨g0, g1, g2, g3⟩ := hr
          have hor := or_small (n.pos - q) (n.en - n.st) g0 g1 g2 g3
          by_cases hd : n.dec = true
          · by_cases hst : n.pos < n.st
            · go_wp2_with fail
              go_quiet (fail)
              go_wp2_with fail
              go_quiet (fail)
              go_wp2
              go_ret
              refine enc_exit hT hZ hTr hBj hKj HX.out HU.out HQ.out hj1 hj2 HL.out hfit he _
            · go_wp2_with fail
              go_quiet (fail)
              go_wp2_with fail
              go_quiet (fail)
              go_wp2
              go_ret
              refine enc_exit hT hZ hTr hBj hKj HX.out HU.out HQ.out hj1 hj2 HL.out hfit he _
          · have hd' : n.dec = false := by simpa using hd
            clear hd
            have hen : (n.en == -1) = true := by
              rw [beq_iff_eq]
              by_cases h : n.en = -1
              · exact h
              · exact absurd ⟨g0, g1, g2, g3, hd', h⟩ HF.out
            by_cases hst : n.pos < n.st
            · go_wp2_with fail
              go_quiet (fail)
              go_wp2_with fail
              go_quiet (fail)
              go_wp2
              go_ret
              refine enc_exit hT hZ hTr hBj hKj HX.out HU.out HQ.out hj1 hj2 HL.out hfit he _
            · go_wp2_with fail
              go_quiet (fail)
              go_wp2_with fail
              go_quiet (fail)
              go_wp2
              go_ret
              refine enc_exit hT hZ hTr hBj hKj HX.out HU.out HQ.out hj1 hj2 HL.out hfit he _
        · have hor := or_big (n.pos - q) (n.en - n.st) (by omega) (by omega) (by omega) (by omega) hr
          clear hr
          by_cases hst : n.pos < n.st
          · go_wp2_with fail
            go_quiet (fail)
            go_wp2_with fail
            go_quiet (fail)
            go_wp2
            go_ret
            refine enc_exit hT hZ hTr hBj hKj HX.out HU.out HQ.out hj1 hj2 HL.out hfit he _
          · go_wp2_with fail
            go_quiet (fail)
            go_wp2_with fail
            go_quiet (fail)
            go_wp2
            go_ret
            refine enc_exit hT hZ hTr hBj hKj HX.out HU.out HQ.out hj1 hj2 HL.out hfit he _
    · go_wp2
      go_ret
      exact enc_exit hT hZ hTr hBj hKj HX.out HU.out HQ.out hj1 hj2 HL.out hfit (.inl (by have := HL.out; have := HX.out; omega)) 0

end Go.Proofs.Qxb6600114a
