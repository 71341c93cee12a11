import Derived.Test.Qxb6600114aLaw5
import Derived.Test.Qxb6600114aMake
import Derived.Deep.CutBlock
import Derived.Deep.DeepCutAuto
namespace Go.Proofs.Qxb6600114a
open Go.RowKit
set_option linter.unusedVariables false

/-- The three numbers of a node are in b1InRange's range. -/
def Nd.inR3 (n : Nd) : Prop := inR n.pos = true ∧ inR n.st = true ∧ inR n.en = true

theorem inR_succ {l : List Nd} {k : Nat} (h : ∀ t, t < k → (nth l t).inR3) (hk : (nth l k).inR3) : Hid (∀ t, t < k + 1 → (nth l t).inR3) := fun t ht => by
  by_cases e : t = k
  · subst e; exact hk
  · exact h t (by omega)
theorem lastTo_in (l : List Nd) (i : Nat) (a : Int) (j : Nat) (hin : ∀ t, t < l.length → (nth l t).inR3) (hj : i + j ≤ l.length) (h0 : -2305843009213693951 ≤ a) (h1 : a ≤ 2305843009213693951) :
    -2305843009213693951 ≤ lastTo l i a j ∧ lastTo l i a j ≤ 2305843009213693951 := by
  cases j with
  | zero => exact ⟨h0, h1⟩
  | succ j => exact inR_yes (hin (i + j) (by omega)).1
theorem ok_of_in (l : List Nd) (hin : ∀ t, t < l.length → (nth l t).inR3) (hk : ∀ n ∈ l, 0 ≤ n.kind ∧ n.kind ≤ 255) : ∀ n ∈ l, n.ok := fun n hn => by
  obtain ⟨t, ht, e⟩ := List.mem_iff_getElem.1 hn
  have h := hin t ht
  have e2 : nth l t = n := by simp [nth, List.getD_eq_getElem?_getD, List.getElem?_eq_getElem ht, e]
  rw [e2] at h
  obtain ⟨a1, a2⟩ := inR_yes h.1
  obtain ⟨b1, b2⟩ := inR_yes h.2.1
  obtain ⟨c1, c2⟩ := inR_yes h.2.2
  obtain ⟨k1, k2⟩ := hk n hn
  exact ⟨k1, k2, by omega, by omega, by omega, by omega, by omega, by omega⟩
theorem ordA {w wc w1 w2 : World} {o : Obj} (h : Below w.heap.size w wc) (h1 : Below wc.drew.heap.size wc.drew w1) (h2 : Kept [w1.heap.size] (w1.alloc o) w2) : Below w.heap.size w w2 := by
  have hA : Below wc.heap.size wc w1 := ⟨h1.os, h1.tape, h1.output, h1.size, h1.block⟩
  have hB : Below w1.heap.size w1 w2 := (kept_new h2).below (Nat.le_refl _) (by simp)
  exact h.trans ((hA.mono h.size).trans (hB.mono (Nat.le_trans h.size hA.size)))
theorem ordB {w wc w1 w2 : World} {o : Obj} (h : Below w.heap.size w wc) (h1 : Below (wc.alloc o).drew.heap.size (wc.alloc o).drew w1) (h2 : Kept [wc.heap.size] w1 w2) : Below w.heap.size w w2 := by
  have hA : Below wc.heap.size wc w1 := (((Below.refl wc.heap.size wc).alloc (Nat.le_refl _) o).drew).trans (h1.mono (by show _ ≤ (wc.heap.push o).size; simp))
  have hB : Below wc.heap.size w1 w2 := h2.below hA.size (by simp)
  exact h.trans ((hA.mono h.size).trans (hB.mono h.size))
theorem longest {l : List Nd} {fr run len P R j m : Nat} {a : Int} (hl : l.length = len) (h1 : FitAll l fr a run) (h2 : fr + run = len ∨ ¬ (nth l (fr + run)).fits (lastTo l fr a run)) (h3 : fr + run ≤ len)
    (h4 : FitAll l fr a j) (h5 : Ends l fr a P (P + R) j) (h6 : fr + j ≤ len) (h7 : P + 3 * j ≤ P + R) (hm : m = min run (R / 3)) : j = m := by
  have hjr : j ≤ run := by
    rcases Nat.lt_or_ge run j with h | h
    · rcases h2 with h2 | h2
      · omega
      · exact absurd (h4 run h) h2
    · exact h
  rcases Nat.lt_or_ge j m with h | h
  · rcases h5 with h5 | h5 | h5
    · omega
    · exact absurd (h1 j (by omega)) h5
    · omega
  · omega
theorem at_index {w : World} {a : Option Addr} {l : List Nd} (hS : Src w a l) {k : Nat} (hk : k < l.length) : ∃ b o, a = some ⟨b, o, none⟩ ∧ b < w.heap.size ∧
    w.cell? ⟨b, o + k * 5, none⟩ = some (.int .u8 (nth l k).kind) ∧ w.cell? ⟨b, o + k * 5 + 1, none⟩ = some (.bool (nth l k).dec) ∧ w.cell? ⟨b, o + k * 5 + 2, none⟩ = some (.int .i64 (nth l k).pos) ∧
    w.cell? ⟨b, o + k * 5 + 3, none⟩ = some (.int .i64 (nth l k).st) ∧ w.cell? ⟨b, o + k * 5 + 4, none⟩ = some (.int .i64 (nth l k).en) := by
  obtain ⟨b, o, e, h⟩ := hS (by intro e; subst e; simp at hk)
  have hn := nth_get l k hk
  exact ⟨b, o, e, At.lt h hn, h.cells hn⟩

set_option maxRecDepth 100000 in
set_option maxHeartbeats 4000000 in
theorem law5_main (a0 : Option Addr) (len cap : Nat) (P R fr : Nat) (a : Int) (l : List Nd) (w : World) (hl : l.length = len) (hS : Src w a0 l) (hkind : ∀ n ∈ l, 0 ≤ n.kind ∧ n.kind ≤ 255)
    (hlen : len ≤ 16384) (hP : P ≤ 65536) (hR : R ≤ 65536) (ha : inR a = true) (hfr : fr ≤ len) :
    Calls Try.prog 5 #[.slice a0 len cap, .int .i64 P, .int .i64 R, .int .i64 a, .int .i64 fr] w fun e w' => e = .returned (.bool true) ∧ Below w.heap.size w w' := by
  have hd : fitsB len = true := fits_yes (by omega)
  have hml : Hid (len ≤ maxLen) := by unfold Hid maxLen; omega
  have HL : Hid (l.length = len) := hl
  have HK : Hid (∀ n ∈ l, 0 ≤ n.kind ∧ n.kind ≤ 255) := hkind
  obtain ⟨ha0, ha1⟩ := inR_yes ha
  clear hl hkind
  have hd54 : decide (len < fr) = false := by simp; omega
  have hd54' : ¬ len < fr := by omega
  go_enter Try.func5, Try.ntmps5
  go_upto_block 0 with (first | (go_at_call 19; refine (zzBytes19 _ _ _ _ _ _ _ _ hml.out).mono ?_; rintro e w' ⟨rfl, rfl⟩) | (go_at_call 20; refine (inr20 _ _).mono ?_; rintro e w' ⟨rfl, rfl⟩))
  go_cut [11] (fun _ wc => Hid (∀ t, t < len → (nth l t).inR3) ∧ Kept [] w wc)
  case first =>
    go_wp2_with fail
    go_loopw [11] (fun i wr => ∃ k : Nat, k ≤ len ∧ i = .int .i64 k ∧ Hid (∀ t, t < k → (nth l t).inR3) ∧ Kept [] w wr) (fun i _ => len - (intOf i).toNat)
    case atStart => exact ⟨0, Nat.zero_le _, rfl, fun t ht => by omega, Kept.refl _ _⟩
    case round =>
      obtain ⟨k, hk, rfl, hin, hKr⟩ := hrel
      have hbr := hKr.below (Nat.le_refl _) (by simp)
      by_cases hlt : k < len
      · obtain ⟨b, o, rfl, hbl, c0, c1, c2, c3, c4⟩ := at_index (hS.below hbr) (k := k) (by have := HL.out; omega)
        clear c0 c1
        generalize hn : nth l k = n at c2 c3 c4
        have Hn : Hid (nth l k = n) := hn
        clear hn
        by_cases d1 : inR n.pos = true
        · by_cases d2 : inR n.st = true
          · by_cases d3 : inR n.en = true
            · go_wp2_with (go_at_call 20; refine (inr20 _ _).mono ?_; rintro e w' ⟨rfl, rfl⟩)
              go_roundw
              case rel => exact ⟨k + 1, by omega, by go_num, inR_succ hin.out (by rw [Hn.out]; exact ⟨d1, d2, d3⟩), hKr⟩
              case measure => simp [intOf]; omega
            · have d3' : inR n.en = false := by simpa using d3
              clear d3
              go_wp2_with (go_at_call 20; refine (inr20 _ _).mono ?_; rintro e w' ⟨rfl, rfl⟩)
              go_ret
              exact ⟨rfl, hbr⟩
          · have d2' : inR n.st = false := by simpa using d2
            clear d2
            go_wp2_with (go_at_call 20; refine (inr20 _ _).mono ?_; rintro e w' ⟨rfl, rfl⟩)
            go_ret
            exact ⟨rfl, hbr⟩
        · have d1' : inR n.pos = false := by simpa using d1
          clear d1
          go_wp2_with (go_at_call 20; refine (inr20 _ _).mono ?_; rintro e w' ⟨rfl, rfl⟩)
          go_ret
          exact ⟨rfl, hbr⟩
      · go_wp2_with fail
        go_meet
        case rel => exact ⟨fun t ht => hin.out t (by omega), hKr⟩
  case rest =>
    obtain ⟨hin, hKc⟩ := hcut
    have hbc := hKc.below (Nat.le_refl _) (by simp)
    have hSc := hS.below hbc
    go_upto_block 2 with fail
    go_cut [12, 13] (fun r p wc => ∃ j : Nat, ∃ q : Int, r = .int .i64 (j : Int) ∧ Hid (q = lastTo l fr a j) ∧ p = .int .i64 q ∧ fr + j ≤ len ∧ FitAll l fr a j ∧ (fr + j = len ∨ ¬ (nth l (fr + j)).fits (lastTo l fr a j)) ∧ Kept [] w wc)
    case first =>
      go_wp2_with fail
      go_loopw [12, 13, 14] (fun r p x wr => ∃ j X : Nat, ∃ q : Int, Hid (X = fr + j) ∧ Hid (q = lastTo l fr a j) ∧ X ≤ len ∧ j ≤ len ∧ r = .int .i64 (j : Int) ∧ p = .int .i64 q ∧ x = .int .i64 (X : Int) ∧ FitAll l fr a j ∧ Kept [] w wr) (fun _ _ x _ => len - (intOf x).toNat)
      case atStart => exact ⟨0, fr, a, rfl, rfl, hfr, Nat.zero_le _, rfl, rfl, rfl, fun t ht => by omega, hKc⟩
      case round =>
        obtain ⟨j, X, q, HX, HQ, hX, hj, rfl, rfl, rfl, hfit, hKr⟩ := hrel
        have hbr := hKr.below (Nat.le_refl _) (by simp)
        by_cases hlt : X < len
        · have hxl : X < l.length := by have := HL.out; omega
          obtain ⟨b, o, rfl, hbl, c0, c1, c2, c3, c4⟩ := at_index (hS.below hbr) (k := X) hxl
          obtain ⟨i1, i2, i3⟩ := hin.out X hlt
          obtain ⟨p0, p1⟩ := inR_yes i1
          obtain ⟨s0, s1⟩ := inR_yes i2
          obtain ⟨e0, e1⟩ := inR_yes i3
          have lb := lastTo_in l fr a j (fun t ht => hin.out t (by have := HL.out; omega)) (by have := HX.out; have := HL.out; omega) ha0 ha1
          rw [← HQ.out] at lb
          obtain ⟨q0, q1⟩ := lb
          generalize hn : nth l X = n at c0 c1 c2 c3 c4 p0 p1 s0 s1 e0 e1
          have Hn : Hid (nth l X = n) := hn
          clear hn i1 i2 i3 hxl
          by_cases hf : n.fits q
          · obtain ⟨g0, g1, g2, g3, g4, g5⟩ := hf
            have hen : (n.en == -1) = false := beq_eq_false_iff_ne.2 g5
            go_wp2
            go_roundw
            case rel =>
              refine ⟨j + 1, X + 1, n.pos, ?_, ?_, by omega, ?_, by go_num, rfl, by go_num, ?_, hKr.alloc _⟩
              · have := HX.out; show _ = _; omega
              · show _ = _; rw [← Hn.out, HX.out]; rfl
              · have := HX.out; omega
              · exact fitAll_succ hfit (by rw [← HX.out, Hn.out, ← HQ.out]; exact ⟨g0, g1, g2, g3, g4, g5⟩)
            case measure => simp [intOf]; omega
          · have HF : Hid (¬ (nth l (fr + j)).fits (lastTo l fr a j)) := by show ¬ _; rw [← HX.out, Hn.out, ← HQ.out]; exact hf
            have hjx : fr + j ≤ len := by have := HX.out; omega
            unfold Nd.fits at hf
            by_cases d1 : n.dec = true
            · clear hf
              go_wp2
              go_meet
              case rel => exact ⟨j, q, rfl, HQ, rfl, by omega, hfit, .inr HF.out, hKr.alloc _⟩
            have d1' : n.dec = false := by simpa using d1
            clear d1
            by_cases d2 : n.en = -1
            · have d2' : (n.en == -1) = true := beq_iff_eq.2 d2
              clear hf d2
              go_wp2
              go_meet
              case rel => exact ⟨j, q, rfl, HQ, rfl, by omega, hfit, .inr HF.out, hKr.alloc _⟩
            have d2' : (n.en == -1) = false := beq_eq_false_iff_ne.2 d2
            by_cases d3 : n.pos - q < 0
            · clear hf
              go_wp2
              go_meet
              case rel => exact ⟨j, q, rfl, HQ, rfl, by omega, hfit, .inr HF.out, hKr.alloc _⟩
            by_cases d4 : 255 < n.pos - q
            · clear hf
              go_wp2
              go_meet
              case rel => exact ⟨j, q, rfl, HQ, rfl, by omega, hfit, .inr HF.out, hKr.alloc _⟩
            by_cases d5 : n.en - n.st < 0
            · clear hf
              go_wp2
              go_meet
              case rel => exact ⟨j, q, rfl, HQ, rfl, by omega, hfit, .inr HF.out, hKr.alloc _⟩
            have d6 : 255 < n.en - n.st := by
              by_cases h : 255 < n.en - n.st
              · exact h
              · exact absurd ⟨by omega, by omega, by omega, by omega, d1', d2⟩ hf
            clear hf
            go_wp2
            go_meet
            case rel => exact ⟨j, q, rfl, HQ, rfl, by omega, hfit, .inr HF.out, hKr.alloc _⟩
        · go_wp2_with fail
          go_meet
          case rel => exact ⟨j, q, rfl, HQ, rfl, by have := HX.out; omega, hfit, .inl (by have := HX.out; omega), hKr⟩
    case rest =>
      obtain ⟨run, q, rfl, HQ, rfl, hrun, hfit, hstop, hKd⟩ := hcut
      have Hstop : Hid (fr + run = len ∨ ¬ (nth l (fr + run)).fits (lastTo l fr a run)) := hstop
      clear hstop hKc hbc hSc
      go_upto_if 139 with fail
      go_cut [18] (fun v wx => ∃ m : Nat, v = .int .i64 (m : Int) ∧ Hid (m = min run (R / 3)) ∧ Kept [] w wx)
      case first =>
        by_cases hc : R / 3 < run
        · have hc' : (R : Int) / 3 < (run : Int) := by omega
          go_wp2
          go_meet
          case rel => exact ⟨R / 3, by go_num, by show _ = _; omega, hKd⟩
        · have hc' : ¬ (R : Int) / 3 < (run : Int) := by omega
          go_wp2
          go_meet
          case rel => exact ⟨run, rfl, by show _ = _; omega, hKd⟩
      case rest =>
        clear hKd
        obtain ⟨m, rfl, Hm, hKd⟩ := hcut
        have hbd := hKd.below (Nat.le_refl _) (by simp)
        have hSd := hS.below hbd
        have HO : Hid (∀ n ∈ l, n.ok) := fun n hn => ok_of_in l (fun t ht => hin.out t (by have := HL.out; omega)) HK.out n hn
        have hmk := fun wx => make22 P (P + R) (by omega) (by omega) (P : Int) (IntKind.i64.wrap ((P : Int) + (R : Int))) rfl (by rw [IntKind.wrap_i64]; omega) wx
        go_upto_region 32 with fail
        go_cut [19, 20, 21] (fun s la nx wx => ∃ gc j : Nat, s = .slice (some ⟨gc, 0, none⟩) (P + 3 * j) (P + R) ∧ la = .int .i64 (lastTo l fr a j) ∧ nx = .int .i64 ((fr + j : Nat) : Int) ∧ fr + j ≤ len ∧ P + 3 * j ≤ P + R ∧ FitAll l fr a j ∧ Ends l fr a P (P + R) j ∧ Below w.heap.size w wx)
        case first =>
          go_region_with (first
            | (go_at_call 16; refine (conv16_any a0 len cap l _ HL.out (by omega) (by first | exact hSd | exact hSd.below ((Below.refl _ _).alloc (Nat.le_refl _) _).drew)).mono ?_; rintro e w1 ⟨az, rfl, hH1, hb1⟩)
            | (go_at_call 17; refine (zenc17 _ P (P + R) len len fr _ a l (List.replicate (P + R) 0) _ HL.out (by first | exact hH1.src | exact hH1.src.below ((Below.refl _ _).alloc (Nat.le_refl _) _)) HO.out (by omega) (by first | exact zrow_blk _ _ | exact (zrow_blk _ _).drew.below' hb1) (by simp) (by omega) (by omega) hfr (by omega) (by omega)).mono ?_; rintro e w2 ⟨j, rfl, hj1, hj2, hfit2, hends, hZ2, hK2⟩))
          · go_simp
            go_wp2_with fail
            go_meet
            case rel => exact ⟨_, j, rfl, rfl, rfl, hj1, hj2, hfit2, hends, ordA hbd hb1 hK2⟩
          · go_simp
            go_wp2_with fail
            go_meet
            case rel => exact ⟨_, j, rfl, rfl, rfl, hj1, hj2, hfit2, hends, ordB hbd hb1 hK2⟩
        case rest =>
          clear hKd hmk hSd hbd
          obtain ⟨gc, j, rfl, rfl, rfl, hj1, hj2, hfit2, hends, hbx⟩ := hcut
          have hjm : j = m := longest HL.out hfit Hstop.out hrun hfit2 hends hj1 hj2 Hm.out
          subst hjm
          have Hlast : Hid (0 < j → lastTo l fr a j = (nth l (fr + j - 1)).pos) := fun h => by
            obtain ⟨c, rfl⟩ : ∃ c, j = c + 1 := ⟨j - 1, by omega⟩
            rfl
          by_cases h0 : j = 0
          · subst h0
            go_wp2
            go_ret
            exact ⟨ret_bool (beq_self_eq_true _), hbx⟩
          · obtain ⟨b, o, rfl, hbl, c0, c1, c2, c3, c4⟩ := at_index (hS.below hbx) (k := fr + j - 1) (by have := HL.out; omega)
            clear c0 c1 c3 c4
            go_wp2
            go_ret
            exact ⟨ret_bool (by rw [Hlast.out (by omega)]; exact beq_self_eq_true _), hbx⟩

end Go.Proofs.Qxb6600114a
