import Derived.Test.Qxb6600114aLaw8
import Derived.Test.Qxb6600114aZero
namespace Go.Proofs.Qxb6600114a
open Go.RowKit
set_option linter.unusedVariables false

set_option maxRecDepth 100000 in
set_option maxHeartbeats 4000000 in
theorem law8_main (a0 : Option Addr) (L cap0 : Nat) (p N : Nat) (a : Int) (zs : List Int) (w : World)
    (hz : zs.length = L) (hZ : BSrc w a0 zs) (hbz : Bytes zs) (hL : L ≤ 65536) (hp : p ≤ L) (hN : L - p = 3 * N) (ha0 : 0 ≤ a) (ha1 : a ≤ 2305843009213693951) :
    Calls Try.prog 8 #[.slice a0 L cap0, .int .i64 p, .int .i64 a] w fun e w' => e = .returned (.bool true) ∧ Below w.heap.size w w' := by
  have hfb : fitsB L = true := fits_yes (by omega)
  have m0 : Hid (L ≤ maxLen) := by unfold Hid maxLen; omega
  have HZ : Hid (zs.length = L) := hz
  have HB : Hid (Bytes zs) := hbz
  have H3 : Hid (L - p = 3 * N) := hN
  have c5' : (((L : Int) - (p : Int)) % 3 != 0) = false := by rw [bne_eq_false_iff_eq]; omega
  have hlp : ¬ L < p := by omega
  have hlp' : decide (L < p) = false := by simp; omega
  have hroom : ((L : Int) - (p : Int)) / 3 = (N : Int) := by omega
  have hN1 : N ≤ 65536 := by omega
  obtain ⟨i0, hi, hz0, hz1, hz2⟩ := info_parts Try.info42
  have hbN : i0.bytes * N ≤ 281474976710656 := by rw [hz2]; omega
  clear hz hbz hN
  go_enter Try.func8, Try.ntmps8
  go_wp2_with (go_at_call 23; refine (zzBytes23 _ _ _ _ _ _ m0.out).mono ?_; rintro e w' ⟨rfl, rfl⟩)
  refine (clone11_any a0 L cap0 zs _ HZ.out (by omega) hZ).mono ?_
  rintro e w1 ⟨ac, gc, rfl, hZ1, hb1⟩
  have HZ1 : Hid (L ≠ 0 → ac = some ⟨gc, 0, none⟩ ∧ Blk w1 gc 5 (zs.map (Value.int .u8))) := hZ1
  clear hZ1
  go_wp2_with (refine wpList_make_blk _ rfl (.tmp 57) (.tmp 57) 36 rfl 42 i0 _ 5 Try.underlying36 hi hz0 hz1 .i64 .i64 _ _ N N rfl rfl (by omega) (by omega) (Nat.le_refl _) hbN (by omega) _ (made_nodes N) ?_)
  intro gz w2 hgz hBz hb2
  go_wp2_with fail
  refine (zdec18_0 gc L L N N p (some ⟨gz, 0, none⟩) ac a (List.replicate N Nd.zero) zs w2 (by simp) (fun _ => ⟨gz, 0, rfl, NSrc.of_blk hBz⟩) (by omega) (fun hn => by obtain ⟨e, hB⟩ := HZ1.out hn; exact ⟨e, hB.below' hb2⟩) (by have := HZ.out; omega) (Nat.le_refl _) (by omega) (by omega) HB.out hp (by have := H3.out; omega) (by omega) ha1).mono ?_
  rintro e w3 ⟨t, np, ao, rfl, hnp, ht1, ht2, hsh, hst, hHo, hb3⟩
  have HZ3 : Hid (L ≠ 0 → ac = some ⟨gc, 0, none⟩ ∧ Blk w3 gc 5 (zs.map (Value.int .u8))) := fun hn => by obtain ⟨e, hB⟩ := HZ1.out hn; exact ⟨e, (hB.below' hb2).below' hb3⟩
  have hb : Below w.heap.size w w3 := (hb1.trans (hb2.mono hb1.size)).trans (hb3.mono (Nat.le_trans hb1.size hb2.size))
  have hS3 : Src w3 ao (got N zs p a t) := hHo.src.take t
  have n0 : ((np : Int) != (p : Int) + 3 * (t : Int)) = false := by rw [bne_eq_false_iff_eq]; omega
  have n1 : ((N : Int) != (N : Int)) = false := by simp
  clear HZ1 hb1 hb2 hb3 hst hsh hZ hHo hBz hnp
  have hsl := fun wx => slice36 ao N t ht1 wx
  have hmk := fun wx => make22 0 (3 * t) (by omega) (by omega) 0 (IntKind.i64.wrap (3 * (t : Int))) rfl (by rw [IntKind.wrap_i64]; omega) wx
  go_upto_region 16 with fail
  go_cut [12, 13, 14] (fun s la nx wx => ∃ (g2 n3 : Nat) (E : List Int), s = .slice (some ⟨g2, 0, none⟩) n3 n3 ∧ la = .int .i64 (atTo zs p a t) ∧ nx = .int .i64 (t : Int) ∧ Hid (n3 = 3 * t) ∧ Hid (∀ k, k < 3 * t → byt E k = byt zs (p + k)) ∧ Hid (E.length = 3 * t) ∧ Blk wx g2 5 (E.map (Value.int .u8)) ∧ Kept [] w3 wx)
  case first =>
    go_region_with (go_at_call 17; refine (zenc17_0 _ 0 (3 * t) t N ao a (got N zs p a t) (List.replicate (3 * t) 0) _ (got_length ht1) (by first | exact hS3 | exact hS3.below ((Below.refl _ _).alloc (Nat.le_refl _) _) | exact hS3.below ((Below.refl _ _).alloc (Nat.le_refl _) _).drew) (got_ok HB.out ha0 ha1 ht1 (by omega)) (by omega) (by first | exact zrow_blk _ _ | exact (zrow_blk _ _).drew) (by simp) (Nat.zero_le _) (by omega) (by omega) (by omega)).mono ?_; rintro e w4 ⟨j, wl, rfl, hwl, hj1, hj2, hfit, hends, hZ4, hK4⟩)
    all_goals go_simp
    all_goals go_wp2_with fail
    all_goals go_meet
    case rel =>
      have hjt : j = t := got_count HB.out ha0 ht1 hj1 hends
      have hK3 : Kept [] w3 w4 := kept_new (S := []) (by first | exact hK4 | exact hK4.drewBack)
      subst hjt
      exact ⟨_, _, encTo (List.replicate (3 * j) 0) 0 (got N zs p a j) 0 a j, rfl, by rw [got_last ht1 (Nat.le_refl _)], rfl, rfl, fun k hk => got_bytes HB.out ht1 hk, by show _ = _; rw [encTo_length]; simp, hZ4, hK3⟩
  case rest =>
    obtain ⟨g2, n3, E, rfl, rfl, rfl, Hn3, HE, HEl, hB2, hKx⟩ := hcut
    have n3' : ((n3 : Int) != 3 * (t : Int)) = false := by rw [bne_eq_false_iff_eq]; have := Hn3.out; omega
    go_wp2_with fail
    go_loopw [15] (fun i wr => ∃ k : Nat, k ≤ n3 ∧ i = .int .i64 k ∧ Kept [] wc wr) (fun i _ => n3 - (intOf i).toNat)
    case atStart => exact ⟨0, Nat.zero_le _, rfl, Kept.refl _ _⟩
    case round =>
      obtain ⟨k, hk, rfl, hKr⟩ := hrel
      by_cases hlt : k < n3
      · have hk3 : (k : Int) < 3 * (t : Int) := by have := Hn3.out; omega
        have hkt : k < 3 * t := by have := Hn3.out; omega
        obtain ⟨hac, hBc⟩ := HZ3.out (by have := Hn3.out; omega)
        subst hac
        have y1 := ((hBc.kept hKx (by simp)).kept hKr (by simp)).cell (byt_get zs (p + k) (by have := HZ.out; omega))
        have y2 := (hB2.kept hKr (by simp)).cell (byt_get E k (by have := HEl.out; omega))
        rw [HE.out k hkt] at y2
        generalize byt zs (p + k) = y at y1 y2
        have i2 : (p : Int) + (k : Int) < (L : Int) := by omega
        go_wp2_with fail
        go_quiet (fail)
        go_wp2
        go_roundw
        case rel => exact ⟨k + 1, by omega, by go_num, by first | exact hKr.drewN _ | exact hKr⟩
        case measure => simp [intOf]; omega
      · have hk3 : ¬ (k : Int) < 3 * (t : Int) := by have := Hn3.out; omega
        have hbr : Below w.heap.size w wr := hb.trans ((hKx.trans hKr).below hb.size (by simp))
        go_wp2
        go_ret
        exact ⟨rfl, hbr⟩

end Go.Proofs.Qxb6600114a
