import Derived.Test.Qxb6600114aNode
import Derived.BigRegion
namespace Go.Proofs.Qxb6600114a
open Go.RowKit
set_option linter.unusedVariables false

/-- Byte k. -/
def byt (zs : List Int) (k : Nat) : Int := zs.getD k 0
/-- The mark of the long form. -/
def isLong (x : Int) : Bool := bits .and .u8 x 16 != 0
/-- The place behind t nodes. -/
def atTo (zs : List Int) (p : Nat) (a : Int) : Nat → Int
  | 0 => a
  | t + 1 => atTo zs p a t + byt zs (p + 3 * t + 1)
def decNode (zs : List Int) (p : Nat) (a : Int) (t : Nat) : Nd :=
  ⟨byt zs (p + 3 * t) / 2, false, atTo zs p a (t + 1), atTo zs p a (t + 1) + byt zs (p + 3 * t) % 2, atTo zs p a (t + 1) + byt zs (p + 3 * t) % 2 + byt zs (p + 3 * t + 2)⟩
def decTo (l : List Nd) (d : Nat) (zs : List Int) (p : Nat) (a : Int) : Nat → List Nd
  | 0 => l
  | t + 1 => (decTo l d zs p a t).set (d + t) (decNode zs p a t)
def ShortAll (zs : List Int) (p t : Nat) : Prop := ∀ s, s < t → isLong (byt zs (p + 3 * s)) = false
def Stops (zs : List Int) (p L d N t : Nat) : Prop := d + t = N ∨ p + 3 * t = L ∨ isLong (byt zs (p + 3 * t)) = true
def Bytes (zs : List Int) : Prop := ∀ k, 0 ≤ byt zs k ∧ byt zs k ≤ 255

theorem decTo_length (l : List Nd) (d : Nat) (zs : List Int) (p : Nat) (a : Int) (t : Nat) : (decTo l d zs p a t).length = l.length := by
  induction t with
  | zero => rfl
  | succ t ih => simp [decTo, ih]
theorem atTo_bd (zs : List Int) (p : Nat) (a : Int) (t : Nat) (hb : Bytes zs) : a ≤ atTo zs p a t ∧ atTo zs p a t ≤ a + 255 * t := by
  induction t with
  | zero => simp [atTo]
  | succ t ih =>
    have := hb (p + 3 * t + 1)
    rw [atTo]; omega
theorem byt_get (zs : List Int) (k : Nat) (h : k < zs.length) : (zs.map (Value.int .u8))[k]? = some (.int .u8 (byt zs k)) := by
  rw [List.getElem?_map, byt, List.getD_eq_getElem?_getD, List.getElem?_eq_getElem h]; rfl
theorem and_one_u8 (x : Int) (h0 : 0 ≤ x) (h1 : x ≤ 255) : bits .and .u8 x 1 = x % 2 := by
  have := bits_mask .u8 8 (by decide) wraps_u8 1 (by decide) x h0 (by omega)
  simpa using this
theorem shortAll_succ {zs : List Int} {p t : Nat} (h : ShortAll zs p t) (ht : isLong (byt zs (p + 3 * t)) = false) : ShortAll zs p (t + 1) := fun s hs => by
  by_cases e : s = t
  · subst e; exact ht
  · exact h s (by omega)

theorem dec_exit {T gn L capc N d p t X Y : Nat} {ac : Option Addr} {a A : Int} {l : List Nd} {zs : List Int} {v0 v1 v2 v5 v7 : Value} {w wr : World}
    (hTr : Blk wr T 61 [v0, v1, v2, .slice ac L capc, .int .i64 p, v5, .int .i64 a, v7])
    (hBt : Hid (l ≠ [] → Blk wr gn 68 (flat (decTo l d zs p a t)))) (hKt : Kept [gn] w wr) (hX : X = d + t) (hY : Y = p + 3 * t) (hA : A = atTo zs p a t) (h1 : X ≤ N) (h2 : Y ≤ L)
    (hsh : ShortAll zs p t) (hst : Stops zs p L d N t) :
    ∃ t : Nat, Ending.returned (.int .i64 (X : Int)) = .returned (.int .i64 ((d + t : Nat) : Int)) ∧ d + t ≤ N ∧ p + 3 * t ≤ L ∧ ShortAll zs p t ∧ Stops zs p L d N t ∧
      Blk ((wr.setCell ⟨T, 4, none⟩ (.int .i64 (Y : Int))).setCell ⟨T, 6, none⟩ (.int .i64 A)) T 61 [v0, v1, v2, .slice ac L capc, .int .i64 ((p + 3 * t : Nat) : Int), v5, .int .i64 (atTo zs p a t), v7] ∧
      (l ≠ [] → Blk ((wr.setCell ⟨T, 4, none⟩ (.int .i64 (Y : Int))).setCell ⟨T, 6, none⟩ (.int .i64 A)) gn 68 (flat (decTo l d zs p a t))) ∧
      Kept [T, gn] w ((wr.setCell ⟨T, 4, none⟩ (.int .i64 (Y : Int))).setCell ⟨T, 6, none⟩ (.int .i64 A)) := by
  subst hX hY hA
  refine ⟨t, rfl, h1, h2, hsh, hst, (hTr.set 4 _).set 6 _, fun hn => ?_, ((hKt.mono (by simp)).setCell (by simp) _).setCell (by simp) _⟩
  have hB := hBt.out hn
  have hne : gn ≠ T := hB.ne hTr (by decide)
  exact (hB.setOther (a := ⟨T, 4, none⟩) hne _).setOther (a := ⟨T, 6, none⟩) hne _

set_option maxRecDepth 100000 in
set_option maxHeartbeats 4000000 in
theorem dec28 (T gn gc L capc N capn d p : Nat) (an ac : Option Addr) (a : Int) (l : List Nd) (zs : List Int) (v0 v1 v2 v5 v7 : Value) (w : World)
    (hT : Blk w T 61 [v0, v1, v2, .slice ac L capc, .int .i64 p, v5, .int .i64 a, v7])
    (hl : l.length = N) (hN : l ≠ [] → an = some ⟨gn, 0, none⟩ ∧ Blk w gn 68 (flat l)) (hN' : N ≤ 1048576)
    (hZ : L ≠ 0 → ac = some ⟨gc, 0, none⟩ ∧ Blk w gc 5 (zs.map (Value.int .u8))) (hzl : L ≤ zs.length) (hcl : L ≤ capc) (hL : L ≤ 1048576) (hcap : capc ≤ 1048576) (hb : Bytes zs)
    (hTg : T ≠ gn) (hd : d ≤ N) (hp : p ≤ L) (hp3 : (L - p) % 3 = 0) (ha0 : -2305843009213693951 ≤ a) (ha1 : a ≤ 2305843009213693951) :
    Calls Try.prog 28 #[.pointer (some ⟨T, 0, none⟩), .slice an N capn, .int .i64 d] w fun e w' => ∃ t : Nat,
      e = .returned (.int .i64 ((d + t : Nat) : Int)) ∧ d + t ≤ N ∧ p + 3 * t ≤ L ∧ ShortAll zs p t ∧ Stops zs p L d N t ∧
      Blk w' T 61 [v0, v1, v2, .slice ac L capc, .int .i64 ((p + 3 * t : Nat) : Int), v5, .int .i64 (atTo zs p a t), v7] ∧
      (l ≠ [] → Blk w' gn 68 (flat (decTo l d zs p a t))) ∧ Kept [T, gn] w w' := by
  have t3 : w.cell? ⟨T, 3, none⟩ = some (.slice ac L capc) := hT.cell rfl
  have t4 : w.cell? ⟨T, 4, none⟩ = some (.int .i64 p) := hT.cell rfl
  have t6 : w.cell? ⟨T, 6, none⟩ = some (.int .i64 a) := hT.cell rfl
  have HL : Hid (l.length = N) := hl
  have HN : Hid (l ≠ [] → an = some ⟨gn, 0, none⟩ ∧ Blk w gn 68 (flat l)) := hN
  have HZ : Hid (L ≠ 0 → ac = some ⟨gc, 0, none⟩ ∧ Blk w gc 5 (zs.map (Value.int .u8))) := hZ
  have H3 : Hid ((L - p) % 3 = 0) := hp3
  have HB : Hid (Bytes zs) := hb
  clear hl hN hZ hp3 hb
  go_enter Try.func28, Try.ntmps28
  go_wp2_with fail
  go_quiet (fail)
  go_wp2_with fail
  clear t3 t4 t6
  go_loopw [2, 8, 9] (fun x c q wr => ∃ t X Y : Nat, ∃ A : Int, Hid (X = d + t) ∧ Hid (Y = p + 3 * t) ∧ Hid (A = atTo zs p a t) ∧ X ≤ N ∧ Y ≤ L ∧ x = .int .i64 (X : Int) ∧ c = .int .i64 (Y : Int) ∧ q = .int .i64 A ∧ ShortAll zs p t ∧
      Hid (l ≠ [] → Blk wr gn 68 (flat (decTo l d zs p a t))) ∧ Kept [gn] w wr) (fun x _ _ _ => N - (intOf x).toNat)
  case atStart => exact ⟨0, d, p, a, rfl, rfl, rfl, hd, hp, rfl, rfl, rfl, fun s hs => by omega, fun hn => (HN.out hn).2.drewN _, (Kept.refl _ _).drewN _⟩
  case round =>
    obtain ⟨t, X, Y, A, HX, HY, HA, hX, hY, rfl, rfl, rfl, hsh, hBt, hKt⟩ := hrel
    have hTr := hT.kept hKt (by simp; exact hTg)
    have t4 : wr.cell? ⟨T, 4, none⟩ = some (.int .i64 p) := hTr.cell rfl
    have t6 : wr.cell? ⟨T, 6, none⟩ = some (.int .i64 a) := hTr.cell rfl
    have f4 := hTr.frozen 4
    have f6 := hTr.frozen 6
    by_cases hxn : X < N
    · by_cases hyl : Y < L
      · have hne : l ≠ [] := by intro e; have h := HL.out; rw [e] at h; simp at h; omega
        obtain ⟨han, hNb⟩ := HN.out hne
        obtain ⟨hac, hZb⟩ := HZ.out (by omega)
        subst han hac
        have hNr := hBt.out hne
        have Hne : Hid (l ≠ []) := hne
        clear hne
        have neN := hNr.ne (hZb.kept hKt (by simp; exact hZb.ne hNb (by decide))) (by decide)
        have hZr := hZb.kept hKt (by simp; exact hZb.ne hNb (by decide))
        have x0 := hZr.cell (byt_get zs Y (by omega))
        obtain ⟨b0, b1⟩ := HB.out Y
        have hab := atTo_bd zs p a t HB.out
        rw [← HA.out] at hab
        obtain ⟨A0, A1⟩ := hab
        have ht : (t : Int) ≤ 1048576 := by have := HY.out; omega
        by_cases hlg : isLong (byt zs Y) = true
        · have hst : Stops zs p L d N t := .inr (.inr (by rw [← HY.out]; exact hlg))
          have hlg' : (bits .and .u8 (byt zs Y) 16 != 0) = true := hlg
          clear hlg
          go_wp2
          go_ret
          exact dec_exit hTr hBt hKt HX.out HY.out HA.out hX hY hsh hst
        · have hsx : ShortAll zs p (t + 1) := shortAll_succ hsh (by rw [← HY.out]; simpa using hlg)
          have hlg' : (bits .and .u8 (byt zs Y) 16 != 0) = false := by simpa [isLong] using hlg
          clear hlg t4 t6 f4 f6
          have hY3 : Y + 3 ≤ L := by have := HY.out; have := H3.out; omega
          have x1 := hZr.cell (byt_get zs (Y + 1) (by omega))
          have x2 := hZr.cell (byt_get zs (Y + 2) (by omega))
          obtain ⟨b2, b3⟩ := HB.out (Y + 1)
          obtain ⟨b4, b5⟩ := HB.out (Y + 2)
          have hand := and_one_u8 (byt zs Y) b0 b1
          have Hlen : Hid ((decTo l d zs p a t).length = N) := (decTo_length l d zs p a t).trans HL.out
          obtain ⟨n0, hn0⟩ : ∃ n0, (decTo l d zs p a t)[X]? = some n0 := ⟨_, List.getElem?_eq_getElem (by have := Hlen.out; omega)⟩
          obtain ⟨d0, d1, d2, d3, d4⟩ := hNr.node hn0
          clear hn0
          have z0 := hNr.frozen (X * 5)
          have z1 := hNr.frozen (X * 5 + 1)
          have z2 := hNr.frozen (X * 5 + 2)
          have z3 := hNr.frozen (X * 5 + 3)
          have z4 := hNr.frozen (X * 5 + 4)
          have hcy : ¬ capc = Y := by omega
          generalize hy0 : byt zs Y = y0 at *
          generalize hy1 : byt zs (Y + 1) = y1 at *
          generalize hy2 : byt zs (Y + 2) = y2 at *
          have E0 : Hid (byt zs Y = y0) := hy0
          have E1 : Hid (byt zs (Y + 1) = y1) := hy1
          have E2 : Hid (byt zs (Y + 2) = y2) := hy2
          clear hy0 hy1 hy2
          go_wp2_with fail
          go_region
          all_goals go_wp2
          all_goals go_roundw
          case rel =>
            refine ⟨t + 1, X + 1, Y + 3, A + y1, ?_, ?_, ?_, by omega, by omega, by go_num, by go_num, rfl, hsx, ?_, ?_⟩
            · have := HX.out; show _ = _; omega
            · have := HY.out; show _ = _; omega
            · show _ = _; rw [atTo, ← HY.out, E1.out, HA.out]
            · intro _
              have hnode : decNode zs p a t = ⟨y0 / 2, false, A + y1, A + y1 + y0 % 2, A + y1 + y0 % 2 + y2⟩ := by
                simp only [decNode, atTo]
                rw [← HY.out, E0.out, E1.out, E2.out, ← HA.out]
              rw [decTo, hnode, ← HX.out]
              have hs := hNr.drew.storeNode X ⟨y0 / 2, false, A + y1, A + y1 + y0 % 2, A + y1 + y0 % 2 + y2⟩ (by have := Hlen.out; omega)
              exact hs
            · exact (hKt.drew.storeNode (by simp) X ⟨y0 / 2, false, A + y1, A + y1 + y0 % 2, A + y1 + y0 % 2 + y2⟩)
          case measure => simp [intOf]; omega
      · have hst : Stops zs p L d N t := .inr (.inl (by have := HY.out; omega))
        go_wp2
        go_ret
        exact dec_exit hTr hBt hKt HX.out HY.out HA.out hX hY hsh hst
    · have hst : Stops zs p L d N t := .inl (by have := HX.out; omega)
      go_wp2
      go_ret
      exact dec_exit hTr hBt hKt HX.out HY.out HA.out hX hY hsh hst

end Go.Proofs.Qxb6600114a
