import Derived.Test.Qxb6600114aLaw7
namespace Go.Proofs.Qxb6600114a
open Go.RowKit
set_option linter.unusedVariables false

theorem decTo_other (l : List Nd) (d : Nat) (zs : List Int) (p : Nat) (a : Int) (t k : Nat) (h : k < d ∨ d + t ≤ k) : (decTo l d zs p a t)[k]? = l[k]? := by
  induction t with
  | zero => rfl
  | succ t ih =>
    rw [decTo, List.getElem?_set_ne (by omega)]
    exact ih (by omega)
theorem decTo_at (l : List Nd) (d : Nat) (zs : List Int) (p : Nat) (a : Int) (t s : Nat) (h : s < t) (hl : d + t ≤ l.length) : (decTo l d zs p a t)[d + s]? = some (decNode zs p a s) := by
  induction t with
  | zero => omega
  | succ t ih =>
    rw [decTo]
    by_cases e : s = t
    · subst e
      rw [List.getElem?_set_self (by rw [decTo_length]; omega)]
    · rw [List.getElem?_set_ne (by omega)]
      exact ih (by omega) (by omega)
theorem ne_of_get {l : List Nd} {k : Nat} {n : Nd} (h : l[k]? = some n) : l ≠ [] := fun e => by subst e; simp at h
theorem Holds.kept0 {w w' : World} {B : Nat} {a : Option Addr} {t : TypeId} {l : List Nd} (h : Holds w B a t l) (hk : Kept [] w w') : Holds w' B a t l := fun hn => by
  obtain ⟨g, e, hg, hB⟩ := h hn
  exact ⟨g, e, hg, hB.kept hk (by simp)⟩

set_option maxRecDepth 100000 in
set_option maxHeartbeats 4000000 in
theorem law7_main (a0 : Option Addr) (L cap0 : Nat) (p : Nat) (a : Int) (a3 : Option Addr) (N cap3 : Nat) (d : Nat) (zs : List Int) (l : List Nd) (w : World)
    (hz : zs.length = L) (hZ : BSrc w a0 zs) (hbz : Bytes zs) (hl : l.length = N) (hS : Src w a3 l) (hL : L ≤ 65536) (hN : N ≤ 16384) (hp : p ≤ L) (hp3 : (L - p) % 3 = 0) (ha : inR a = true) (hd : d ≤ N) :
    Calls Try.prog 7 #[.slice a0 L cap0, .int .i64 p, .int .i64 a, .slice a3 N cap3, .int .i64 d] w fun e w' => e = .returned (.bool true) ∧ Below w.heap.size w w' := by
  have hfb : fitsB (L + N) = true := fits_yes (by omega)
  have m0 : Hid (L ≤ maxLen) := by unfold Hid maxLen; omega
  have m1 : Hid (N ≤ maxLen) := by unfold Hid maxLen; omega
  have HZ : Hid (zs.length = L) := hz
  have HL : Hid (l.length = N) := hl
  have HB : Hid (Bytes zs) := hbz
  have H3 : Hid ((L - p) % 3 = 0) := hp3
  have c5' : (((L : Int) - (p : Int)) % 3 != 0) = false := by rw [bne_eq_false_iff_eq]; omega
  have hlp : ¬ L < p := by omega
  have hlp' : decide (L < p) = false := by simp; omega
  have hnd : ¬ N < d := by omega
  have hnd' : decide (N < d) = false := by simp; omega
  obtain ⟨ha0, ha1⟩ := inR_yes ha
  clear hz hl hbz hp3
  go_enter Try.func7, Try.ntmps7
  go_wp2_with (first | (go_at_call 22; refine (zzBytes22 _ _ _ _ _ _ _ _ _ _ m0.out m1.out).mono ?_; rintro e w' ⟨rfl, rfl⟩) | (go_at_call 20; refine (inr20 _ _).mono ?_; rintro e w' ⟨rfl, rfl⟩))
  refine (clone11_any a0 L cap0 zs _ HZ.out (by omega) hZ).mono ?_
  rintro e w1 ⟨ac, gc, rfl, hZ1, hb1⟩
  have HZ1 : Hid (L ≠ 0 → ac = some ⟨gc, 0, none⟩ ∧ Blk w1 gc 5 (zs.map (Value.int .u8))) := hZ1
  clear hZ1
  go_wp2_with fail
  refine (conv16_any a3 N cap3 l _ HL.out (by omega) (hS.below hb1)).mono ?_
  rintro e w2 ⟨ai, rfl, hHi, hb2⟩
  go_wp2_with fail
  refine (zdec18 gc L L N N d p ai ac a l zs w2 HL.out hHi.src (by omega) (fun hn => by obtain ⟨e, hB⟩ := HZ1.out hn; exact ⟨e, hB.below' hb2⟩) (by have := HZ.out; omega) (Nat.le_refl _) (by omega) (by omega) HB.out hd hp H3.out ha0 ha1).mono ?_
  rintro e w3 ⟨t, ao, rfl, ht1, ht2, hsh, hst, hHo, hb3⟩
  obtain ⟨r, hr⟩ : ∃ r, r = d + t := ⟨_, rfl⟩
  obtain ⟨np, hnp⟩ : ∃ np, np = p + 3 * t := ⟨_, rfl⟩
  rw [← hr, ← hnp]
  have HR : Hid (r = d + t) := hr
  have HP : Hid (np = p + 3 * t) := hnp
  have r0 : d ≤ r := by omega
  have r1 : r ≤ N := by omega
  have hrt : (r : Int) - (d : Int) = (t : Int) := by omega
  have n0 : ((np : Int) != (p : Int) + 3 * (t : Int)) = false := by rw [bne_eq_false_iff_eq]; omega
  have n2 : np ≤ L := by omega
  clear hr hnp ht1 ht2
  have HZ3 : Hid (L ≠ 0 → ac = some ⟨gc, 0, none⟩ ∧ Blk w3 gc 5 (zs.map (Value.int .u8))) := fun hn => by obtain ⟨e, hB⟩ := HZ1.out hn; exact ⟨e, (hB.below' hb2).below' hb3⟩
  have hHi3 := hHi.below hb3
  have hb : Below w.heap.size w w3 := (hb1.trans (hb2.mono hb1.size)).trans (hb3.mono (Nat.le_trans hb1.size hb2.size))
  have Hst : Hid (Stops zs p L d N t) := hst
  clear HZ1 hHi hb1 hb2 hb3 hst hZ hS
  go_upto_block 0 with fail
  go_cut [16] (fun _ wc => Kept [] w3 wc)
  case first =>
    go_wp2_with fail
    go_loopw [16] (fun i wr => ∃ k : Nat, k ≤ d ∧ i = .int .i64 k ∧ Kept [] w3 wr) (fun i _ => d - (intOf i).toNat)
    case atStart => exact ⟨0, Nat.zero_le _, rfl, Kept.refl _ _⟩
    case round =>
      obtain ⟨k, hk, rfl, hKr⟩ := hrel
      by_cases hlt : k < d
      · obtain ⟨n, hn⟩ : ∃ n, l[k]? = some n := ⟨_, List.getElem?_eq_getElem (by have := HL.out; omega)⟩
        have hn2 : (decTo l d zs p a t)[k]? = some n := by rw [decTo_other l d zs p a t k (.inl hlt)]; exact hn
        obtain ⟨gi, rfl, _, hBi⟩ := hHi3 (ne_of_get hn)
        obtain ⟨go, rfl, _, hBo⟩ := hHo (ne_of_get hn2)
        obtain ⟨c0, c1, c2, c3, c4⟩ := (hBi.kept hKr (by simp)).node hn
        obtain ⟨d0, d1, d2, d3, d4⟩ := (hBo.kept hKr (by simp)).node hn2
        clear hn hn2
        have i1 : (k : Int) < (N : Int) := by omega
        go_wp2_with fail
        go_quiet (fail)
        go_wp2
        go_roundw
        case rel => exact ⟨k + 1, by omega, by go_num, by first | exact hKr.drewN _ | exact hKr⟩
        case measure => simp [intOf]; omega
      · go_wp2_with fail
        go_meet
        case rel => exact hKr
  case rest =>
    go_upto_block 2 with fail
    go_cut [17] (fun _ wc => Kept [] w3 wc)
    case first =>
      go_wp2_with fail
      go_loopw [17] (fun i wr => ∃ k : Nat, r ≤ k ∧ k ≤ N ∧ i = .int .i64 k ∧ Kept [] w3 wr) (fun i _ => N - (intOf i).toNat)
      case atStart => exact ⟨r, Nat.le_refl _, r1, rfl, hcut⟩
      case round =>
        obtain ⟨k, hrk, hk, rfl, hKr⟩ := hrel
        by_cases hlt : k < N
        · obtain ⟨n, hn⟩ : ∃ n, l[k]? = some n := ⟨_, List.getElem?_eq_getElem (by have := HL.out; omega)⟩
          have hn2 : (decTo l d zs p a t)[k]? = some n := by rw [decTo_other l d zs p a t k (.inr (by have := HR.out; omega))]; exact hn
          obtain ⟨gi, rfl, _, hBi⟩ := hHi3 (ne_of_get hn)
          obtain ⟨go, rfl, _, hBo⟩ := hHo (ne_of_get hn2)
          obtain ⟨c0, c1, c2, c3, c4⟩ := (hBi.kept hKr (by simp)).node hn
          obtain ⟨d0, d1, d2, d3, d4⟩ := (hBo.kept hKr (by simp)).node hn2
          clear hn hn2
          have i1 : (k : Int) < (N : Int) := by omega
          go_wp2_with fail
          go_quiet (fail)
          go_wp2
          go_roundw
          case rel => exact ⟨k + 1, by omega, by omega, by go_num, by first | exact hKr.drewN _ | exact hKr⟩
          case measure => simp [intOf]; omega
        · go_wp2_with fail
          go_meet
          case rel => exact hKr
    case rest =>
      have hK2 := hcut
      clear hcut
      go_upto_block 4 with fail
      go_cut [18] (fun q wc => q = .int .i64 (atTo zs p a t) ∧ Kept [] w3 wc)
      case first =>
        go_wp2_with fail
        go_loopw [18, 19] (fun q i wr => ∃ s X : Nat, ∃ A : Int, Hid (X = d + s) ∧ Hid (A = atTo zs p a s) ∧ d ≤ X ∧ X ≤ r ∧ q = .int .i64 A ∧ i = .int .i64 (X : Int) ∧ Kept [] w3 wr) (fun _ i _ => r - (intOf i).toNat)
        case atStart => exact ⟨0, d, a, rfl, rfl, Nat.le_refl _, r0, rfl, rfl, hK2⟩
        case round =>
          obtain ⟨s, X, A, HX, HA, hdX, hX, rfl, rfl, hKr⟩ := hrel
          by_cases hlt : X < r
          · have hst2 : s < t := by have := HX.out; have := HR.out; omega
            have hn2 : (decTo l d zs p a t)[X]? = some (decNode zs p a s) := by rw [HX.out]; exact decTo_at l d zs p a t s hst2 (by have := HL.out; have := HR.out; omega)
            obtain ⟨go, rfl, _, hBo⟩ := hHo (ne_of_get hn2)
            obtain ⟨d0, d1, d2, d3, d4⟩ := (hBo.kept hKr (by simp)).node hn2
            obtain ⟨hac, hBc⟩ := HZ3.out (by have := HP.out; have := HX.out; omega)
            subst hac
            have hY : p + 3 * s < zs.length := by have := HZ.out; have := HX.out; have := HP.out; omega
            have y0c := (hBc.kept hKr (by simp)).cell (byt_get zs (p + 3 * s) hY)
            have hgl := (hBc.kept hKr (by simp)).lt
            have hXs : (X : Int) - (d : Int) = (s : Int) := by have := HX.out; omega
            have hlong : (bits .and .u8 (byt zs (p + 3 * s)) 16 != 0) = false := hsh s hst2
            obtain ⟨b0, b1⟩ := HB.out (p + 3 * s)
            obtain ⟨b2, b3⟩ := HB.out (p + 3 * s + 1)
            obtain ⟨b4, b5⟩ := HB.out (p + 3 * s + 2)
            have hab := atTo_bd zs p a s HB.out
            rw [← HA.out] at hab
            obtain ⟨A0, A1⟩ := hab
            have hs16 : (s : Int) ≤ 16384 := by have := HX.out; omega
            have hsl : p + 3 * s < L := by have := HZ.out; omega
            have e1 : (decNode zs p a s).pos = A + byt zs (p + 3 * s + 1) := by simp only [decNode, atTo]; rw [HA.out]
            have e2 : (decNode zs p a s).st = A + byt zs (p + 3 * s + 1) + byt zs (p + 3 * s) % 2 := by simp only [decNode, atTo]; rw [HA.out]
            have e3 : (decNode zs p a s).en = A + byt zs (p + 3 * s + 1) + byt zs (p + 3 * s) % 2 + byt zs (p + 3 * s + 2) := by simp only [decNode, atTo]; rw [HA.out]
            have e4 : (decNode zs p a s).dec = false := rfl
            rw [e1] at d2
            rw [e2] at d3
            rw [e3] at d4
            rw [e4] at d1
            have HN1 : Hid (atTo zs p a (s + 1) = A + byt zs (p + 3 * s + 1)) := by show _ = _; rw [atTo, HA.out]
            generalize (decNode zs p a s).kind = kd at d0
            generalize hy0 : byt zs (p + 3 * s) = y0 at y0c hlong b0 b1 d3 d4
            generalize hy1 : byt zs (p + 3 * s + 1) = y1 at b2 b3 d2 d3 d4 HN1
            generalize hy2 : byt zs (p + 3 * s + 2) = y2 at b4 b5 d4
            have z0 : 0 ≤ y0 % 2 := by omega
            have z1 : y0 % 2 ≤ 1 := by omega
            generalize hz : y0 % 2 = z at z0 z1 d3 d4
            clear e1 e2 e3 e4 hn2 hY hy0 hy1 hy2 hz
            by_cases hz0 : z = 0
            · subst hz0
              go_wp2
              have H1 : Hid (X + 1 = d + (s + 1)) := by have := HX.out; show _ = _; omega
              exact ⟨⟨_, _, _, ⟨s + 1, X + 1, H1, A + y1, HN1.out.symm, by omega, by omega, rfl, rfl, hKr.alloc _⟩, rfl, rfl, rfl⟩, by simp [intOf]; omega⟩
            · obtain rfl : z = 1 := by omega
              go_wp2
              have H1 : Hid (X + 1 = d + (s + 1)) := by have := HX.out; show _ = _; omega
              exact ⟨⟨_, _, _, ⟨s + 1, X + 1, H1, A + y1, HN1.out.symm, by omega, by omega, rfl, rfl, hKr.alloc _⟩, rfl, rfl, rfl⟩, by simp [intOf]; omega⟩
          · go_wp2_with fail
            go_meet
            case rel => exact ⟨by rw [HA.out, show s = t by have := HX.out; have := HR.out; omega], hKr⟩
      case rest =>
        obtain ⟨rfl, hKc⟩ := hcut
        have hbc : Below w.heap.size w wc := hb.trans (hKc.below hb.size (by simp))
        by_cases q1 : r = N
        · have q1' : ((r : Int) == (N : Int)) = true := by rw [beq_iff_eq]; omega
          clear q1
          go_wp2
          go_ret
          exact ⟨rfl, hbc⟩
        · have q1' : ((r : Int) == (N : Int)) = false := by rw [beq_eq_false_iff_ne]; omega
          by_cases q2 : np = L
          · have q2' : ((np : Int) == (L : Int)) = true := by rw [beq_iff_eq]; omega
            clear q2
            go_wp2
            go_ret
            exact ⟨rfl, hbc⟩
          · have q2' : ((np : Int) == (L : Int)) = false := by rw [beq_eq_false_iff_ne]; omega
            have hlg : isLong (byt zs np) = true := by
              rcases Hst.out with h | h | h
              · exact absurd (HR.out.trans h) q1
              · exact absurd (HP.out.trans h) q2
              · rw [HP.out]; exact h
            have hlg' : (bits .and .u8 (byt zs np) 16 != 0) = true := hlg
            obtain ⟨hac, hBc⟩ := HZ3.out (by omega)
            subst hac
            have yc := (hBc.kept hKc (by simp)).cell (byt_get zs np (by have := HZ.out; omega))
            clear hlg
            go_wp2
            go_ret
            exact ⟨rfl, hbc⟩

end Go.Proofs.Qxb6600114a
