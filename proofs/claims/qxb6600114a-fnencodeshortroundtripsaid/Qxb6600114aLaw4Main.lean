import Derived.Test.Qxb6600114aLaw4
namespace Go.Proofs.Qxb6600114a
open Go.RowKit
set_option linter.unusedVariables false

theorem well_succ {l : List Nd} {k : Nat} (h : ∀ t, t < k → wellB (nth l t) = true) (hk : wellB (nth l k) = true) : Hid (∀ t, t < k + 1 → wellB (nth l t) = true) := fun t ht => by
  by_cases e : t = k
  · subst e; exact hk
  · exact h t (by omega)
theorem at_index4 {w : World} {a : Option Addr} {l : List Nd} (hS : Src w a l) {k : Nat} (hk : k < l.length) : ∃ b o, a = some ⟨b, o, none⟩ ∧ b < w.heap.size ∧
    w.cell? ⟨b, o + k * 5, none⟩ = some (.int .u8 (nth l k).kind) ∧ w.cell? ⟨b, o + k * 5 + 1, none⟩ = some (.bool (nth l k).dec) ∧ w.cell? ⟨b, o + k * 5 + 2, none⟩ = some (.int .i64 (nth l k).pos) ∧
    w.cell? ⟨b, o + k * 5 + 3, none⟩ = some (.int .i64 (nth l k).st) ∧ w.cell? ⟨b, o + k * 5 + 4, none⟩ = some (.int .i64 (nth l k).en) := by
  obtain ⟨b, o, e, h⟩ := hS (by intro e; subst e; simp at hk)
  have hn := nth_get l k hk
  exact ⟨b, o, e, At.lt h hn, h.cells hn⟩
theorem Holds.kept4 {w w' : World} {B : Nat} {a : Option Addr} {t : TypeId} {l : List Nd} (h : Holds w B a t l) (hk : Kept [] w w') : Holds w' B a t l := fun hn => by
  obtain ⟨g, e, hg, hB⟩ := h hn
  exact ⟨g, e, hg, hB.kept hk (by simp)⟩
theorem ne_get {l : List Nd} {k : Nat} {n : Nd} (h : l[k]? = some n) : l ≠ [] := fun e => by subst e; simp at h

set_option maxRecDepth 100000 in
set_option maxHeartbeats 4000000 in
theorem law4_main (a0 : Option Addr) (N cap0 : Nat) (a1 : Option Addr) (P cap1 : Nat) (R fr : Nat) (a : Int) (l : List Nd) (ps : List Int) (w : World)
    (hl : l.length = N) (hS : Src w a0 l) (hkind : ∀ n ∈ l, (0 ≤ n.kind) ∧ (-9223372036854775808 ≤ n.pos ∧ n.pos ≤ 9223372036854775807)) (hps : ps.length = P) (hPS : BSrc w a1 ps) (hpb : Bytes ps)
    (hN : N ≤ 16384) (hP : P ≤ 65536) (hR : R ≤ 65536) (ha0 : 0 ≤ a) (ha1 : a ≤ 2305843009213693951) (hfr : fr ≤ N) :
    Calls Try.prog 4 #[.slice a0 N cap0, .slice a1 P cap1, .int .i64 R, .int .i64 a, .int .i64 fr] w fun e w' => e = .returned (.bool true) ∧ Below w.heap.size w w' := by
  have hd : fitsB (N + P) = true := fits_yes (by omega)
  have m0 : Hid (N ≤ maxLen) := by unfold Hid maxLen; omega
  have m1 : Hid (P ≤ maxLen) := by unfold Hid maxLen; omega
  have HL : Hid (l.length = N) := hl
  have HK : Hid (∀ n ∈ l, (0 ≤ n.kind) ∧ (-9223372036854775808 ≤ n.pos ∧ n.pos ≤ 9223372036854775807)) := hkind
  have HP : Hid (ps.length = P) := hps
  have HB : Hid (Bytes ps) := hpb
  have hd54 : decide (N < fr) = false := by simp; omega
  have hd54' : ¬ N < fr := by omega
  clear hl hkind hps hpb
  go_enter Try.func4, Try.ntmps4
  go_upto_block 0 with (go_at_call 14; refine (zzBytes14 _ _ _ _ _ _ _ _ _ _ m0.out m1.out).mono ?_; rintro e w' ⟨rfl, rfl⟩)
  go_cut [11] (fun _ wc => Hid (∀ t, t < N → wellB (nth l t) = true) ∧ Kept [] w wc)
  case first =>
    go_wp2_with fail
    go_loopw [11] (fun i wr => ∃ k : Nat, k ≤ N ∧ i = .int .i64 k ∧ Hid (∀ t, t < k → wellB (nth l t) = true) ∧ Kept [] w wr) (fun i _ => N - (intOf i).toNat)
    case atStart => exact ⟨0, Nat.zero_le _, rfl, fun t ht => by omega, Kept.refl _ _⟩
    case round =>
      obtain ⟨k, hk, rfl, hin, hKr⟩ := hrel
      have hbr := hKr.below (Nat.le_refl _) (by simp)
      by_cases hlt : k < N
      · have hkl : k < l.length := by have := HL.out; omega
        obtain ⟨b, o, rfl, hbl, c0, c1, c2, c3, c4⟩ := at_index4 (hS.below hbr) (k := k) hkl
        have hpos := (HK.out _ (List.mem_of_getElem? (nth_get l k hkl))).2
        generalize hn : nth l k = n at c0 c1 c2 c3 c4 hpos
        have Hn : Hid (nth l k = n) := hn
        clear hn hkl
        by_cases d1 : wellB n = true
        · go_wp2_with (go_at_call 15; refine (well15 n _ hpos).mono ?_; rintro e w' ⟨rfl, hKw⟩)
          go_roundw
          case rel => exact ⟨k + 1, by omega, by go_num, well_succ hin.out (by rw [Hn.out]; exact d1), hKr.trans hKw⟩
          case measure => simp [intOf]; omega
        · have d1' : wellB n = false := by simpa using d1
          clear d1
          go_wp2_with (go_at_call 15; refine (well15 n _ hpos).mono ?_; rintro e w' ⟨rfl, hKw⟩)
          go_ret
          exact ⟨rfl, hbr.trans (hKw.below hbr.size (by simp))⟩
      · go_wp2_with fail
        go_meet
        case rel => exact ⟨fun t ht => hin.out t (by omega), hKr⟩
  case rest =>
    obtain ⟨hin, hKc⟩ := hcut
    have hbc := hKc.below (Nat.le_refl _) (by simp)
    have hSc := hS.below hbc
    have hPc := hPS.below hbc
    have HW : Hid (∀ s, fr + s < N → wellB (nth l (fr + s)) = true ∧ 0 ≤ (nth l (fr + s)).kind) := fun s hs => ⟨hin.out _ hs, (HK.out _ (List.mem_of_getElem? (nth_get l (fr + s) (by have := HL.out; omega)))).1⟩
    have HO : Hid (∀ n ∈ l, n.ok) := fun n hn => by
      obtain ⟨t, ht⟩ := List.getElem?_of_mem hn
      have htl := (List.getElem?_eq_some_iff.1 ht).1
      have e : nth l t = n := by have := nth_get l t htl; rw [ht] at this; injection this with this; exact this.symm
      rw [← e]
      exact ok_well (hin.out t (by have := HL.out; omega)) (by rw [e]; exact (HK.out n hn).1)
    clear hS hPS hin
    obtain ⟨i5, hi5, hy0, hy1, hy2⟩ := info_parts Try.info5
    have hb5 : i5.bytes * (P + R) ≤ 281474976710656 := by rw [hy2]; omega
    obtain ⟨i0, hi, hz0, hz1, hz2⟩ := info_parts Try.info42
    have hbN : i0.bytes * N ≤ 281474976710656 := by rw [hz2]; omega
    go_wp2_with fail
    refine (conv16_any a0 N cap0 l _ HL.out (by omega) hSc).mono ?_
    rintro e w2 ⟨ab, rfl, hHb, hb2⟩
    have hP2 := hPc.below hb2
    go_wp2_with (refine wpList_make_blk _ rfl (.tmp 72) (.tmp 76) 22 rfl 5 i5 (.int .u8 0) 1 Try.underlying22 hi5 hy0 hy1 .i64 .i64 _ _ P (P + R) rfl rfl rfl (by omega) (by omega) hb5 (by omega) _ (made_one _ rfl (P + R)) ?_)
    intro gw w3 hgw hBw hb3
    have hP3 := hP2.below hb3
    have hHb3 := hHb.below hb3
    have HP3 : Hid (BSrc w3 a1 ps) := hP3
    have Hmin : Hid ((ps.map (Value.int .u8)).length = Nat.min P P) := by show _ = _; rw [List.length_map, HP.out]; exact (Nat.min_self _).symm
    have Hfit : Hid (0 + (ps.map (Value.int .u8)).length ≤ (List.replicate (P + R) (Value.int IntKind.u8 0)).length) := by show _ ≤ _; rw [List.length_map, HP.out, List.length_replicate]; omega
    have Hone : Hid (∀ v ∈ ps.map (Value.int .u8), v.oneCell' = true) := fun v hv => by obtain ⟨z, _, rfl⟩ := List.mem_map.1 hv; rfl
    have Hsrc : Hid (0 < (ps.map (Value.int .u8)).length → (some (⟨gw, 0, none⟩ : Addr)) = some ⟨gw, 0, none⟩ ∧ ∃ ad, a1 = some ad ∧ ∀ j v, (ps.map (Value.int .u8))[j]? = some v → w3.cell? (ad.add j) = some v) := fun hpos => by
      obtain ⟨b, o, e, hc⟩ := HP3.out (by intro e; rw [e] at hpos; simp at hpos)
      refine ⟨rfl, _, e, fun j v hv => ?_⟩
      have hj : j < ps.length := by have := (List.getElem?_eq_some_iff.1 hv).1; simpa using this
      rw [byt_get ps j hj] at hv
      injection hv with hv
      subst hv
      rw [Go.WideShapes.add_plain]
      exact hc j hj
    clear hP2 hP3
    go_wp2_with (refine wpList_copy_splice rfl (.tmp 78) (.tmp 79) 22 22 rfl 5 Try.underlying22 Try.size5 _ _ _ _ _ _ rfl rfl gw 0 _ 5 hBw (ps.map (Value.int .u8)) Hmin.out Hsrc.out Hfit.out Hone.out w2.heap.size w2 hb3 hgw ?_)
    intro w4 HB4 hb4
    have hB4 : Blk w4 gw 5 ((ps ++ List.replicate R 0).map (Value.int .u8)) := by
      have := HB4.out
      rw [splice_pre ps P R HP.out] at this
      exact this
    have hHb4 := hHb.below hb4
    have hzl : (ps ++ List.replicate R (0 : Int)).length = P + R := by rw [List.length_append, HP.out, List.length_replicate]
    have HZ : Hid ((ps ++ List.replicate R (0 : Int)).length = P + R) := hzl
    have hgw2 : wc.heap.size ≤ gw := Nat.le_trans hb2.size hgw
    clear HB4 hBw hb3 Hsrc Hone Hfit Hmin HP3 hHb3 hzl hHb
    go_wp2_with fail
    refine (zenc17 gw P (P + R) N N fr ab a l (ps ++ List.replicate R 0) w4 HL.out hHb4.src HO.out (by omega) hB4 HZ.out (by omega) (by omega) hfr (by omega) (by omega)).mono ?_
    rintro e w5 ⟨j, rfl, hj1, hj2, hfit, hends, hB5, hK5⟩
    obtain ⟨nx, hnx⟩ : ∃ nx, nx = fr + j := ⟨_, rfl⟩
    obtain ⟨wl, hwl⟩ : ∃ wl, wl = P + 3 * j := ⟨_, rfl⟩
    rw [← hnx, ← hwl]
    have HNX : Hid (nx = fr + j) := hnx
    have HWL : Hid (wl = P + 3 * j) := hwl
    have hcnt : (nx : Int) - (fr : Int) = (j : Int) := by omega
    have hw0 : ((wl : Int) != (P : Int) + 3 * (j : Int)) = false := by rw [bne_eq_false_iff_eq]; omega
    have nx0 : fr ≤ nx := by omega
    have nx1 : nx ≤ N := by omega
    have wl1 : wl ≤ P + R := by omega
    have wl0 : P ≤ wl := by omega
    have hHb5 := hHb4.kept hK5 hB4 (by decide)
    have hbx : Below wc.heap.size wc w5 := (hb2.trans (hb4.mono hb2.size)).trans (hK5.below (Nat.le_trans hb2.size hb4.size) (by simp; exact hgw2))
    have hP5 := hPc.below hbx
    have hbw5 : Below w.heap.size w w5 := hbc.trans (hbx.mono hbc.size)
    have HP5 : Hid (BSrc w5 a1 ps) := hP5
    have Hjl : Hid (P + 3 * j ≤ (ps ++ List.replicate R (0 : Int)).length) := by show _ ≤ _; rw [HZ.out]; omega
    have HWj : Hid (∀ s, s < j → wellB (nth l (fr + s)) = true ∧ 0 ≤ (nth l (fr + s)).kind) := fun s hs => HW.out s (by omega)
    clear hnx hwl hends hK5 hb4 hb2 hbx hP5 hPc hSc hKc hbc hB4 hHb4 hgw2 hj1 hj2
    go_upto_block 2 with fail
    go_cut [18] (fun _ wx => Kept [] w5 wx)
    case first =>
      go_wp2_with fail
      go_loopw [18] (fun i wr => ∃ k : Nat, k ≤ P ∧ i = .int .i64 k ∧ Kept [] w5 wr) (fun i _ => P - (intOf i).toNat)
      case atStart => exact ⟨0, Nat.zero_le _, rfl, Kept.refl _ _⟩
      case round =>
        obtain ⟨k, hk, rfl, hKr⟩ := hrel
        by_cases hlt : k < P
        · obtain ⟨b1, o1, e1, hc⟩ := HP5.out (by intro e; have h := HP.out; rw [e] at h; simp at h; omega)
          subst e1
          have y2 := hc k (by have := HP.out; omega)
          have hb1l : b1 < w5.heap.size := World.block_lt_of_cell? _ _ y2
          rw [← World.cell?_of_block (hKr.block b1 hb1l (by simp))] at y2
          have y1 := (hB5.kept hKr (by simp)).cell (byt_get (encTo (ps ++ List.replicate R 0) P l fr a j) k (by rw [encTo_length, HZ.out]; omega))
          rw [pre_keep HP.out hlt] at y1
          generalize byt ps k = y at y1 y2
          clear hc
          have i1 : (k : Int) < (wl : Int) := by omega
          have i2 : (k : Int) < (P : Int) := by omega
          go_wp2_with fail
          go_quiet (fail)
          go_wp2
          go_roundw
          case rel => exact ⟨k + 1, by omega, by go_num, by first | exact hKr.drewN _ | exact hKr⟩
          case measure => simp [intOf]; omega
        · go_wp2_with fail
          go_meet
          case rel => exact hKr
    case rest =>
      go_wp2_with (refine wpList_make_blk _ rfl (.tmp 131) (.tmp 131) 36 rfl 42 i0 _ 5 Try.underlying36 hi hz0 hz1 .i64 .i64 _ _ N N rfl rfl rfl rfl (Nat.le_refl _) hbN (by omega) _ (made_nodes N) ?_)
      intro gz w6 hgz hBz hb6
      have hB6 := (hB5.kept hcut (by simp)).below' hb6
      have hHb6 := (hHb5.kept4 hcut).below hb6
      go_wp2_with fail
      refine (zdec18_0 gw wl (P + R) N N P (some ⟨gz, 0, none⟩) (some ⟨gw, 0, none⟩) a (List.replicate N Nd.zero) (encTo (ps ++ List.replicate R 0) P l fr a j) w6 (by simp) (fun _ => ⟨gz, 0, rfl, NSrc.of_blk hBz⟩) (by omega) (fun _ => ⟨rfl, hB6⟩) (by rw [encTo_length, HZ.out]; omega) (by omega) (by omega) (by omega) (enc_bytes Hjl.out (pre_bytes R HB.out) HWj.out hfit) (by omega) (by have := HWL.out; omega) (by omega) ha1).mono ?_
      rintro e w7 ⟨t, np, ao, rfl, hnp, ht1, ht2, hsh, hst, hHo, hb7⟩
      obtain rfl : j = t := (dec_count Hjl.out HWj.out (N := N) (by have := HNX.out; omega) (by have := HWL.out; omega) (by have h := HWL.out; rw [← h]; exact hst)).symm
      rw [at_last Hjl.out j (Nat.le_refl _)]
      have hnpw : ((np : Int) != (wl : Int)) = false := by rw [bne_eq_false_iff_eq]; have := HWL.out; omega
      have hHb7 := hHb6.below hb7
      have hbw7 : Below w.heap.size w w7 := (hbw5.trans (hcut.below hbw5.size (by simp))).trans ((hb6.mono (Nat.le_trans hbw5.size hcut.size)).trans (hb7.mono (Nat.le_trans (Nat.le_trans hbw5.size hcut.size) hb6.size)))
      clear hst hsh hb6 hb7 hB6 hBz hcut hB5 hHb6 hHb5 hnp ht2
      go_wp2_with fail
      go_loopw [23] (fun i wr => ∃ k : Nat, k ≤ j ∧ i = .int .i64 k ∧ Kept [] w7 wr) (fun i _ => j - (intOf i).toNat)
      case atStart => exact ⟨0, Nat.zero_le _, rfl, Kept.refl _ _⟩
      case round =>
        obtain ⟨k, hk, rfl, hKr⟩ := hrel
        by_cases hlt : k < j
        · have hn1 : (decTo (List.replicate N Nd.zero) 0 (encTo (ps ++ List.replicate R 0) P l fr a j) P a j)[k]? = some (nth l (fr + k)) := by
            rw [decTo_at0 _ _ _ _ _ _ hlt (by rw [List.length_replicate]; exact ht1)]
            rw [dec_enc Hjl.out hlt (HWj.out k hlt).1 (HWj.out k hlt).2 (hfit k hlt)]
          have hn2 : l[fr + k]? = some (nth l (fr + k)) := nth_get l (fr + k) (by have := HL.out; have := HNX.out; omega)
          obtain ⟨gi, rfl, _, hBi⟩ := hHb7 (ne_get hn2)
          obtain ⟨go, rfl, _, hBo⟩ := hHo (ne_get hn1)
          obtain ⟨c0, c1, c2, c3, c4⟩ := (hBi.kept hKr (by simp)).node hn2
          obtain ⟨d0, d1, d2, d3, d4⟩ := (hBo.kept hKr (by simp)).node hn1
          generalize nth l (fr + k) = n at c0 c1 c2 c3 c4 d0 d1 d2 d3 d4
          clear hn1 hn2
          have i1 : (k : Int) < (N : Int) := by omega
          have i2 : (fr : Int) + (k : Int) < (N : Int) := by have := HNX.out; omega
          go_wp2_with fail
          go_quiet (fail)
          go_wp2
          go_roundw
          case rel => exact ⟨k + 1, by omega, by go_num, by first | exact hKr.drewN _ | exact hKr⟩
          case measure => simp [intOf]; omega
        · have hbr : Below w.heap.size w wr := hbw7.trans (hKr.below hbw7.size (by simp))
          go_wp2
          go_ret
          exact ⟨rfl, hbr⟩

end Go.Proofs.Qxb6600114a
