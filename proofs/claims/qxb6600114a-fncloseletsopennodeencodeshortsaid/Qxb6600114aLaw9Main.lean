import Derived.Test.Qxb6600114aLaw9
namespace Go.Proofs.Qxb6600114a
open Go.RowKit
set_option linter.unusedVariables false

set_option maxRecDepth 100000 in
set_option maxHeartbeats 400000 in
theorem law9_main (k at' la size : Int) (w : World) (hk0 : 0 ≤ k) (hk1 : k < 8) (h0 : 0 ≤ at') (h1 : at' ≤ 2305843009213693951) (h2 : 0 ≤ la) (h3 : la ≤ 2305843009213693951) (h4 : 0 ≤ size) (h5 : size ≤ 2305843009213693951) :
    Calls Try.prog 9 #[.int .u8 k, .int .i64 at', .int .i64 la, .int .i64 size] w fun e w' => e = .returned (.bool true) ∧ Below w.heap.size w w' := by
  have hmk := fun wx => make22 0 3 (by omega) (by omega) 0 3 rfl rfl wx
  go_enter Try.func9, Try.ntmps9
  go_wp2_with fail
  have hsz : (w.alloc (.cells #[.int .u8 k, .bool false, .int .i64 at', .int .i64 at', .int .i64 (-1)] 42)).heap.size = w.heap.size + 1 := by simp
  have hBo : Blk ((w.alloc (.cells #[.int .u8 k, .bool false, .int .i64 at', .int .i64 at', .int .i64 (-1)] 42)).alloc (.cells (zrow 3) 5)) w.heap.size 42 (flat [⟨k, false, at', at', -1⟩]) := (blk_new w 42 [.int .u8 k, .bool false, .int .i64 at', .int .i64 at', .int .i64 (-1)]).alloc _
  have hZo : Blk ((w.alloc (.cells #[.int .u8 k, .bool false, .int .i64 at', .int .i64 at', .int .i64 (-1)] 42)).alloc (.cells (zrow 3) 5)) (w.heap.size + 1) 5 ((List.replicate 3 (0 : Int)).map (Value.int .u8)) := by rw [← hsz]; exact zrow_blk _ 3
  have hbo : Below w.heap.size w ((w.alloc (.cells #[.int .u8 k, .bool false, .int .i64 at', .int .i64 at', .int .i64 (-1)] 42)).alloc (.cells (zrow 3) 5)) := ((Below.refl _ _).alloc (Nat.le_refl _) _).alloc (by rw [hsz]; omega) _
  generalize (w.alloc (.cells #[.int .u8 k, .bool false, .int .i64 at', .int .i64 at', .int .i64 (-1)] 42)).alloc (.cells (zrow 3) 5) = w0 at *
  clear hsz
  obtain ⟨go, hgo⟩ : ∃ go, go = w.heap.size := ⟨_, rfl⟩
  obtain ⟨g1, hg1⟩ : ∃ g1, g1 = w.heap.size + 1 := ⟨_, rfl⟩
  rw [← hg1] at hZo
  rw [← hg1, ← hgo]
  rw [← hgo] at hBo
  have Hgo : Hid (go = w.heap.size) := hgo
  have Hg1 : Hid (g1 = w.heap.size + 1) := hg1
  clear hgo hg1
  refine (zenc17_0 g1 0 3 1 1 _ la [⟨k, false, at', at', -1⟩] (List.replicate 3 0) w0 rfl (fun _ => ⟨go, 0, rfl, NSrc.of_blk hBo⟩) (by intro n hn; simp at hn; subst hn; exact ⟨by simp; omega, by simp; omega, by simp; omega, by simp; omega, by simp; omega, by simp; omega, by simp, by simp⟩) (by omega) hZo (by simp) (by omega) (by omega) (by omega) (by omega)).mono ?_
  rintro e w1 ⟨j, wl, rfl, hwl, hj1, hj2, hfit, hends, hZ1, hK1⟩
  obtain rfl : j = 0 := one_none hfit (fun h => h.2.2.2.2.2 rfl)
  obtain rfl : wl = 0 := by omega
  have hBo1 := hBo.kept hK1 (by simp; have := Hgo.out; have := Hg1.out; omega)
  have hb1 : Below w.heap.size w w1 := hbo.trans (hK1.below hbo.size (by simp; have := Hg1.out; omega))
  rw [show lastTo [⟨k, false, at', at', -1⟩] 0 la 0 = la from rfl]
  clear hfit hends hZ1 hK1 hZo hbo hBo hj1 hj2 hwl
  go_wp2_with fail
  refine (close24 _ 1 size ⟨k, false, at', at', -1⟩ w1 (fun _ => ⟨go, 0, rfl, NSrc.of_blk hBo1⟩) h0 h1 h4 h5).mono ?_
  rintro e w2 ⟨ac, rfl, hH2, hb2⟩
  obtain ⟨gx, rfl, hgx, hB2⟩ := pick_one hH2
  have hbel2 : Below w.heap.size w w2 := hb1.trans (hb2.mono hb1.size)
  have hB2' : Blk w2 gx 42 (flat [⟨k, false, at', at', at' + size⟩]) := hB2
  have hgx2 : w.heap.size ≤ gx := Nat.le_trans hb1.size hgx
  clear hB2 hH2 hb1 hb2 hgx hBo1
  have hgl := hB2'.lt
  obtain ⟨c0, c1, c2, c3, c4⟩ := hB2'.node (k := 0) rfl
  simp only [Nat.zero_mul, Nat.zero_add] at c0 c1 c2 c3 c4
  go_wp2_with fail
  go_quiet (fail)
  go_wp2_with fail
  clear c0 c1 c2 c3 c4
  have hBx3 : Blk (((w2.alloc (.cells #[.int .u8 k, .bool false, .int .i64 at', .int .i64 at', .int .i64 (at' + size)] 42)).drewN nq).alloc (.cells (zrow 3) 5)) gx 42 (flat [⟨k, false, at', at', at' + size⟩]) := ((hB2'.alloc _).drewN nq).alloc _
  have hBw3 : Blk (((w2.alloc (.cells #[.int .u8 k, .bool false, .int .i64 at', .int .i64 at', .int .i64 (at' + size)] 42)).drewN nq).alloc (.cells (zrow 3) 5)) w2.heap.size 42 (flat [⟨k, false, at', at', at' + size⟩]) := ((blk_new w2 42 [.int .u8 k, .bool false, .int .i64 at', .int .i64 at', .int .i64 (at' + size)]).drewN nq).alloc _
  have hsz : ((w2.alloc (.cells #[.int .u8 k, .bool false, .int .i64 at', .int .i64 at', .int .i64 (at' + size)] 42)).drewN nq).heap.size = w2.heap.size + 1 := by show (w2.alloc _).heap.size = _; simp
  have hZ3 : Blk (((w2.alloc (.cells #[.int .u8 k, .bool false, .int .i64 at', .int .i64 at', .int .i64 (at' + size)] 42)).drewN nq).alloc (.cells (zrow 3) 5)) (w2.heap.size + 1) 5 ((List.replicate 3 (0 : Int)).map (Value.int .u8)) := by rw [← hsz]; exact zrow_blk _ 3
  have hb3 : Below w.heap.size w (((w2.alloc (.cells #[.int .u8 k, .bool false, .int .i64 at', .int .i64 at', .int .i64 (at' + size)] 42)).drewN nq).alloc (.cells (zrow 3) 5)) := (below_drewN (hbel2.alloc hbel2.size _) nq).alloc (by rw [hsz]; have := hbel2.size; omega) _
  generalize ((w2.alloc (.cells #[.int .u8 k, .bool false, .int .i64 at', .int .i64 at', .int .i64 (at' + size)] 42)).drewN nq).alloc (.cells (zrow 3) 5) = w3 at *
  obtain ⟨gw, hgw⟩ : ∃ gw, gw = w2.heap.size := ⟨_, rfl⟩
  obtain ⟨g2, hg2⟩ : ∃ g2, g2 = w2.heap.size + 1 := ⟨_, rfl⟩
  rw [← hg2] at hZ3
  rw [← hg2, ← hgw]
  rw [← hgw] at hBw3
  have hws := hbel2.size
  have hgwB : w.heap.size ≤ g2 := by omega
  have hne1 : gx ≠ g2 := by omega
  have hne2 : gw ≠ g2 := by omega
  clear hgw hg2 hsz hB2' hgl
  refine (zenc17_0 g2 0 3 1 1 _ la [⟨k, false, at', at', at' + size⟩] (List.replicate 3 0) w3 rfl (fun _ => ⟨gx, 0, rfl, NSrc.of_blk hBx3⟩) (by intro n hn; simp at hn; subst hn; exact ⟨by simp; omega, by simp; omega, by simp; omega, by simp; omega, by simp; omega, by simp; omega, by simp; omega, by simp; omega⟩) (by omega) hZ3 (by simp) (by omega) (by omega) (by omega) (by omega)).mono ?_
  rintro e w4 ⟨j, wl, rfl, hwl, hj1, hj2, hfit, hends, hZ4, hK4⟩
  have hb4 : Below w.heap.size w w4 := hb3.trans (hK4.below hb3.size (by simp; omega))
  by_cases hsh : 0 ≤ at' - la ∧ at' - la ≤ 255 ∧ size ≤ 255
  · obtain ⟨s0, s1, s2⟩ := hsh
    have hf : (⟨k, false, at', at', at' + size⟩ : Nd).fits la := ⟨s0, s1, by simp; omega, by simp; omega, rfl, by simp; omega⟩
    obtain rfl : j = 1 := one_some hends hj1 hf
    obtain rfl : wl = 3 := by omega
    rw [show lastTo [⟨k, false, at', at', at' + size⟩] 0 la 1 = at' from rfl]
    have hBw4 := hBw3.kept hK4 (by simp; exact hne2)
    clear hfit hends hj1 hj2 hwl hBx3 hZ3 hK4 hb3 hBw3 hf
    have hmk36 := make36_1
    have hd3 : decide (at' - la < 256) = true := by simp; omega
    go_wp2_with fail
    have hE : encTo (List.replicate 3 0) 0 [⟨k, false, at', at', at' + size⟩] 0 la 1 = [k * 2 % 256, at' - la, at' + size - at'] := by
      rw [one_bytes _ _ 0 ⟨s0, s1, by simp; omega, by simp; omega, rfl, by simp; omega⟩ hk0]
      simp [Nd.hdr]
    rw [hE] at hZ4
    clear hE
    have hBz : Blk (w4.alloc (.cells #[.int .u8 0, .bool false, .int .i64 0, .int .i64 0, .int .i64 0] 42)) w4.heap.size 42 (flat [Nd.zero]) := blk_new w4 42 [.int .u8 0, .bool false, .int .i64 0, .int .i64 0, .int .i64 0]
    have hZ5 := hZ4.alloc (.cells #[.int .u8 0, .bool false, .int .i64 0, .int .i64 0, .int .i64 0] 42)
    have hBw5 := hBw4.alloc (.cells #[.int .u8 0, .bool false, .int .i64 0, .int .i64 0, .int .i64 0] 42)
    have hb5 := hb4.alloc hb4.size (.cells #[.int .u8 0, .bool false, .int .i64 0, .int .i64 0, .int .i64 0] 42)
    generalize w4.alloc (.cells #[.int .u8 0, .bool false, .int .i64 0, .int .i64 0, .int .i64 0] 42) = w5 at *
    have hby : Bytes [k * 2 % 256, at' - la, at' + size - at'] := bytes3 (by omega) (by omega) (by omega)
    refine (zdec18_00 g2 3 3 1 1 _ _ la [Nd.zero] [k * 2 % 256, at' - la, at' + size - at'] w5 rfl (fun _ => ⟨_, 0, rfl, NSrc.of_blk hBz⟩) (by omega) (fun _ => ⟨rfl, hZ5⟩) (by simp) (by omega) (by omega) (by omega) hby (by omega) (by omega) h3).mono ?_
    rintro e w6 ⟨t, np, ao, rfl, hnp, ht1, ht2, hshx, hst, hHo, hb6⟩
    have hlg : isLong (byt [k * 2 % 256, at' - la, at' + size - at'] (0 + 3 * 0)) = false := and16 (k * 2 % 256) (by omega) (by omega)
    obtain rfl : t = 1 := by
      rcases Nat.eq_zero_or_pos t with h | h
      · subst h
        rcases hst with h | h | h
        · omega
        · omega
        · rw [hlg] at h; cases h
      · omega
    obtain rfl : np = 3 := by omega
    have hat : atTo [k * 2 % 256, at' - la, at' + size - at'] 0 la 1 = at' := by
      show la + (at' - la) = at'; omega
    have hdn : decTo [Nd.zero] 0 [k * 2 % 256, at' - la, at' + size - at'] 0 la 1 = [⟨k, false, at', at', at' + size⟩] := by
      show [(⟨k * 2 % 256 / 2, false, la + (at' - la), la + (at' - la) + k * 2 % 256 % 2, la + (at' - la) + k * 2 % 256 % 2 + (at' + size - at')⟩ : Nd)] = _
      rw [show k * 2 % 256 / 2 = k by omega, show la + (at' - la) = at' by omega, show at' + k * 2 % 256 % 2 = at' by omega, show at' + (at' + size - at') = at' + size by omega]
    rw [hdn] at hHo
    rw [hat]
    obtain ⟨gy, rfl, _, hBy⟩ := pick_one hHo
    have hBw6 := hBw5.below' hb6
    have hb7 : Below w.heap.size w w6 := hb5.trans (hb6.mono hb5.size)
    obtain ⟨c0, c1, c2, c3, c4⟩ := hBy.node (k := 0) rfl
    obtain ⟨d0, d1, d2, d3, d4⟩ := hBw6.node (k := 0) rfl
    simp only [Nat.zero_mul, Nat.zero_add] at c0 c1 c2 c3 c4 d0 d1 d2 d3 d4
    clear hHo hdn hat hlg hst hshx hby hBz hZ5 hBw5 hZ4 hBw4 hb4 hb5 hBy hBw6 ht1 ht2 hnp
    go_wp2_with fail
    go_quiet (fail)
    go_wp2
    go_ret
    exact ⟨ret_bool (by simp), by first | exact below_drewN hb7 _ | exact hb7⟩
  · have hnf : ¬ (⟨k, false, at', at', at' + size⟩ : Nd).fits la := fun h => by
      obtain ⟨q0, q1, q2, q3, _, _⟩ := h
      simp at q0 q1 q2 q3
      omega
    obtain rfl : j = 0 := one_none hfit hnf
    obtain rfl : wl = 0 := by omega
    rw [show lastTo [⟨k, false, at', at', at' + size⟩] 0 la 0 = la from rfl]
    clear hfit hends hj1 hj2 hwl hnf
    by_cases e1 : size < 256
    · by_cases e2 : la ≤ at'
      · have e3 : 256 ≤ at' - la := by omega
        have e3' : decide (at' - la < 256) = false := by simp; omega
        clear hsh
        go_wp2
        go_ret
        exact ⟨ret_bool (by simp), hb4⟩
      · clear hsh
        go_wp2
        go_ret
        exact ⟨ret_bool (by simp), hb4⟩
    · clear hsh
      go_wp2
      go_ret
      exact ⟨ret_bool (by simp), hb4⟩

end Go.Proofs.Qxb6600114a
