import Derived.Test.Qxb6600114aBase
namespace Go.Proofs.Qxb6600114a
open Go.RowKit

set_option maxHeartbeats 400000 in
theorem zzBytes10 (a0 : Option Addr) (len0 cap0 : Nat) (a1 : Option Addr) (len1 cap1 : Nat) (x2 x3 x4 x5 : Int) (w : World) (h0 : len0 ≤ maxLen) (h1 : len1 ≤ maxLen) :
    Calls Try.prog 10 #[.slice a0 len0 cap0, .slice a1 len1 cap1, .int .i64 x2, .int .i64 x3, .int .i64 x4, .int .i64 x5] w fun e w' =>
      e = .returned (.bool (fitsB (len0 + len1))) ∧ w = w' := by
  unfold maxLen at h0 h1
  by_cases c0 : 1048576 < len0
  · go_enter Try.func10, Try.ntmps10
    go_wp2
    go_ret
    exact ⟨ret_bool (fits_no (by omega)).symm, rfl⟩
  · by_cases c1 : 1048576 < len1
    · go_enter Try.func10, Try.ntmps10
      go_wp2
      go_ret
      exact ⟨ret_bool (fits_no (by omega)).symm, rfl⟩
    · by_cases c2 : 1048576 < len0 + len1
      · go_enter Try.func10, Try.ntmps10
        go_wp2
        go_ret
        exact ⟨ret_bool (fits_no (by omega)).symm, rfl⟩
      · go_enter Try.func10, Try.ntmps10
        go_wp2
        go_ret
        exact ⟨ret_bool (fits_yes (by omega)).symm, rfl⟩

theorem splice_all {α : Type} (Z cs : List α) (h : Z.length = cs.length) : splice Z 0 cs = cs := by
  unfold splice
  rw [List.take_zero, List.nil_append, List.drop_eq_nil_of_le (by omega), List.append_nil]

set_option maxHeartbeats 400000 in
theorem clone11 (ad : Addr) (len cap : Nat) (cs : List Value) (w : World) (hl : cs.length = len) (hm : len ≤ 1048576)
    (hc : ∀ j v, cs[j]? = some v → w.cell? (ad.add j) = some v) (h1 : ∀ v ∈ cs, v.oneCell' = true) :
    Calls Try.prog 11 #[.slice (some ad) len cap] w fun e w' =>
      ∃ g, e = .returned (.slice (some ⟨g, 0, none⟩) len len) ∧ w.heap.size ≤ g ∧ Blk w' g 5 cs ∧ Below w.heap.size w w' := by
  obtain ⟨i0, hi, hz0, hz1, hz2⟩ := info_parts Try.info5
  have hb : i0.bytes * len ≤ 281474976710656 := by rw [hz2]; omega
  have hnil := nil22
  have H1 : Hid (∀ v ∈ cs, v.oneCell' = true) := h1
  have Hc : Hid (∀ j v, cs[j]? = some v → w.cell? (ad.add j) = some v) := hc
  have HL : Hid (cs.length = len) := hl
  clear h1 hc hl
  go_enter Try.func11, Try.ntmps11
  go_wp2_with (refine wpList_make_blk _ rfl (.tmp 7) (.tmp 7) 22 rfl 5 i0 (.int .u8 0) 1 Try.underlying22 hi hz0 hz1 .i64 .i64 _ _ len len rfl rfl rfl rfl (Nat.le_refl _) hb (by omega) _ (made_one _ rfl len) ?_)
  intro g w1 hg1 hB1 hbel
  have hsrc : ∀ j v, cs[j]? = some v → w1.cell? (ad.add j) = some v := fun j v hv => by
    have h := Hc.out j v hv
    rw [← h]; exact hbel.cell (World.block_lt_of_cell? _ _ h)
  have Hs : Hid (∀ j v, cs[j]? = some v → w1.cell? (ad.add j) = some v) := hsrc
  clear hsrc
  have Hmin : Hid (cs.length = Nat.min len len) := HL.out.trans (Nat.min_self _).symm
  have Hfit : Hid (0 + cs.length ≤ (List.replicate len (Value.int IntKind.u8 0)).length) := by show _ ≤ _; rw [HL.out]; simp
  go_wp2_with (refine wpList_copy_splice rfl (.tmp 9) (.tmp 10) 22 22 rfl 5 Try.underlying22 Try.size5 _ _ _ _ _ _ rfl rfl g 0 _ 5 hB1 cs Hmin.out (fun _ => ⟨rfl, ad, rfl, Hs.out⟩) Hfit.out H1.out w.heap.size w hbel hg1 ?_)
  intro w2 hB2 hbel2
  go_wp2
  go_ret
  refine ⟨g, rfl, hg1, ?_, hbel2⟩
  have := hB2.out
  rwa [splice_all _ _ (by simp [HL.out])] at this

set_option maxHeartbeats 400000 in
theorem clone12 (ad : Addr) (len cap : Nat) (cs : List Value) (w : World) (hl : cs.length = len) (hm : len ≤ 1048576)
    (hc : ∀ j v, cs[j]? = some v → w.cell? (ad.add j) = some v) (h1 : ∀ v ∈ cs, v.oneCell' = true) :
    Calls Try.prog 12 #[.slice (some ad) len cap] w fun e w' =>
      ∃ g, e = .returned (.slice (some ⟨g, 0, none⟩) len len) ∧ w.heap.size ≤ g ∧ Blk w' g 3 cs ∧ Below w.heap.size w w' := by
  obtain ⟨i0, hi, hz0, hz1, hz2⟩ := info_parts Try.info3
  have hb : i0.bytes * len ≤ 281474976710656 := by rw [hz2]; omega
  have hnil := nil23
  have H1 : Hid (∀ v ∈ cs, v.oneCell' = true) := h1
  have Hc : Hid (∀ j v, cs[j]? = some v → w.cell? (ad.add j) = some v) := hc
  have HL : Hid (cs.length = len) := hl
  clear h1 hc hl
  go_enter Try.func12, Try.ntmps12
  go_wp2_with (refine wpList_make_blk _ rfl (.tmp 7) (.tmp 7) 23 rfl 3 i0 (.int .i64 0) 1 Try.underlying23 hi hz0 hz1 .i64 .i64 _ _ len len rfl rfl rfl rfl (Nat.le_refl _) hb (by omega) _ (made_one _ rfl len) ?_)
  intro g w1 hg1 hB1 hbel
  have hsrc : ∀ j v, cs[j]? = some v → w1.cell? (ad.add j) = some v := fun j v hv => by
    have h := Hc.out j v hv
    rw [← h]; exact hbel.cell (World.block_lt_of_cell? _ _ h)
  have Hs : Hid (∀ j v, cs[j]? = some v → w1.cell? (ad.add j) = some v) := hsrc
  clear hsrc
  have Hmin : Hid (cs.length = Nat.min len len) := HL.out.trans (Nat.min_self _).symm
  have Hfit : Hid (0 + cs.length ≤ (List.replicate len (Value.int IntKind.i64 0)).length) := by show _ ≤ _; rw [HL.out]; simp
  go_wp2_with (refine wpList_copy_splice rfl (.tmp 9) (.tmp 10) 23 23 rfl 3 Try.underlying23 Try.size3 _ _ _ _ _ _ rfl rfl g 0 _ 3 hB1 cs Hmin.out (fun _ => ⟨rfl, ad, rfl, Hs.out⟩) Hfit.out H1.out w.heap.size w hbel hg1 ?_)
  intro w2 hB2 hbel2
  go_wp2
  go_ret
  refine ⟨g, rfl, hg1, ?_, hbel2⟩
  have := hB2.out
  rwa [splice_all _ _ (by simp [HL.out])] at this

end Go.Proofs.Qxb6600114a
