import Derived.Test.Qxb6600114aNode
import Derived.BigRegion
namespace Go.Proofs.Qxb6600114a
open Go.RowKit
set_option linter.unusedVariables false

set_option maxHeartbeats 400000 in
theorem conv16 (ad : Addr) (len cap : Nat) (l : List Nd) (w : World) (hl : l.length = len) (hm : len ≤ 1048576) (hs : At w ad l) :
    Calls Try.prog 16 #[.slice (some ad) len cap] w fun e w' =>
      ∃ g, e = .returned (.slice (some ⟨g, 0, none⟩) len len) ∧ w.heap.size ≤ g ∧ Blk w' g 42 (flat l) ∧ Below w.heap.size w w' := by
  obtain ⟨i0, hi, hz0, hz1, hz2⟩ := info_parts Try.info42
  have hb : i0.bytes * len ≤ 281474976710656 := by rw [hz2]; omega
  have hnil := nil31
  have HL : Hid (l.length = len) := hl
  clear hl
  go_enter Try.func16, Try.ntmps16
  go_wp2_with (refine wpList_make_blk _ rfl (.tmp 8) (.tmp 8) 36 rfl 42 i0 _ 5 Try.underlying36 hi hz0 hz1 .i64 .i64 _ _ len len rfl rfl rfl rfl (Nat.le_refl _) hb (by omega) _ (made_nodes len) ?_)
  intro g w1 hg1 hB1 hbel
  go_wp2_with fail
  go_loopw [4] (fun i wr => ∃ k : Nat, k ≤ len ∧ i = .int .i64 k ∧ Blk wr g 42 (flat (l.take k ++ List.replicate (len - k) Nd.zero)) ∧ Kept [g] w1 wr) (fun i _ => len - (intOf i).toNat)
  case atStart => exact ⟨0, Nat.zero_le _, rfl, hB1, Kept.refl _ _⟩
  case round =>
    obtain ⟨k, hk, rfl, hBk, hKr⟩ := hrel
    by_cases hlt : k < len
    · obtain ⟨n, hn⟩ : ∃ n, l[k]? = some n := ⟨_, List.getElem?_eq_getElem (by have := HL.out; omega)⟩
      obtain ⟨b, o, had, hsb⟩ := hs (by intro e; subst e; simp at hn)
      subst had
      have hbl := At.lt hsb hn
      have c := (hsb.below hbel).cells hn
      have f : ∀ o, wr.cell? ⟨b, o, none⟩ = w1.cell? ⟨b, o, none⟩ := fun o => World.cell?_of_block (hKr.block b (by have := hbel.size; omega) (by simp; omega))
      have c0 := (f _).trans c.1
      have c1 := (f _).trans c.2.1
      have c2 := (f _).trans c.2.2.1
      have c3 := (f _).trans c.2.2.2.1
      have c4 := (f _).trans c.2.2.2.2
      clear c f
      have z0 := hBk.frozen (k * 5)
      have z1 := hBk.frozen (k * 5 + 1)
      have z2 := hBk.frozen (k * 5 + 2)
      have z3 := hBk.frozen (k * 5 + 3)
      have z4 := hBk.frozen (k * 5 + 4)
      obtain ⟨n0, hn0⟩ := fill_get l len k HL.out hlt
      obtain ⟨d0, d1, d2, d3, d4⟩ := hBk.node hn0
      clear hn0
      have i1 : (k : Int) < (len : Int) := by omega
      have Hn : Hid (l[k]? = some n) := hn
      clear hn
      go_wp2_with fail
      go_region
      all_goals go_wp2
      all_goals go_roundw
      case rel =>
        refine ⟨k + 1, by omega, by go_num, ?_, ?_⟩
        · rw [← fill_set l len k n HL.out hlt Hn.out]
          exact (hBk.storeNode k n (by rw [fill_length l len k HL.out hk]; exact hlt)).drew
        · exact (hKr.storeNode (by simp) k n).drew
      case measure => simp [intOf]; omega
    · obtain rfl : k = len := by omega
      go_wp2
      go_ret
      rw [fill_all l k HL.out] at hBk
      exact ⟨g, rfl, hg1, hBk, hbel.trans (hKr.below (by have := hbel.size; omega) (by simp; omega))⟩

set_option maxHeartbeats 400000 in
theorem conv26 (ad : Addr) (len cap : Nat) (l : List Nd) (w : World) (hl : l.length = len) (hm : len ≤ 1048576) (hs : At w ad l) :
    Calls Try.prog 26 #[.slice (some ad) len cap] w fun e w' =>
      ∃ g, e = .returned (.slice (some ⟨g, 0, none⟩) len len) ∧ w.heap.size ≤ g ∧ Blk w' g 68 (flat l) ∧ Below w.heap.size w w' := by
  obtain ⟨i0, hi, hz0, hz1, hz2⟩ := info_parts Try.info68
  have hb : i0.bytes * len ≤ 281474976710656 := by rw [hz2]; omega
  have hnil := nil36
  have HL : Hid (l.length = len) := hl
  clear hl
  go_enter Try.func26, Try.ntmps26
  go_wp2_with (refine wpList_make_blk _ rfl (.tmp 8) (.tmp 8) 53 rfl 68 i0 _ 5 Try.underlying53 hi hz0 hz1 .i64 .i64 _ _ len len rfl rfl rfl rfl (Nat.le_refl _) hb (by omega) _ (made_nodes len) ?_)
  intro g w1 hg1 hB1 hbel
  go_wp2_with fail
  go_loopw [4] (fun i wr => ∃ k : Nat, k ≤ len ∧ i = .int .i64 k ∧ Blk wr g 68 (flat (l.take k ++ List.replicate (len - k) Nd.zero)) ∧ Kept [g] w1 wr) (fun i _ => len - (intOf i).toNat)
  case atStart => exact ⟨0, Nat.zero_le _, rfl, hB1, Kept.refl _ _⟩
  case round =>
    obtain ⟨k, hk, rfl, hBk, hKr⟩ := hrel
    by_cases hlt : k < len
    · obtain ⟨n, hn⟩ : ∃ n, l[k]? = some n := ⟨_, List.getElem?_eq_getElem (by have := HL.out; omega)⟩
      obtain ⟨b, o, had, hsb⟩ := hs (by intro e; subst e; simp at hn)
      subst had
      have hbl := At.lt hsb hn
      have c := (hsb.below hbel).cells hn
      have f : ∀ o, wr.cell? ⟨b, o, none⟩ = w1.cell? ⟨b, o, none⟩ := fun o => World.cell?_of_block (hKr.block b (by have := hbel.size; omega) (by simp; omega))
      have c0 := (f _).trans c.1
      have c1 := (f _).trans c.2.1
      have c2 := (f _).trans c.2.2.1
      have c3 := (f _).trans c.2.2.2.1
      have c4 := (f _).trans c.2.2.2.2
      clear c f
      have z0 := hBk.frozen (k * 5)
      have z1 := hBk.frozen (k * 5 + 1)
      have z2 := hBk.frozen (k * 5 + 2)
      have z3 := hBk.frozen (k * 5 + 3)
      have z4 := hBk.frozen (k * 5 + 4)
      obtain ⟨n0, hn0⟩ := fill_get l len k HL.out hlt
      obtain ⟨d0, d1, d2, d3, d4⟩ := hBk.node hn0
      clear hn0
      have i1 : (k : Int) < (len : Int) := by omega
      have Hn : Hid (l[k]? = some n) := hn
      clear hn
      go_wp2_with fail
      go_region
      all_goals go_wp2
      all_goals go_roundw
      case rel =>
        refine ⟨k + 1, by omega, by go_num, ?_, ?_⟩
        · rw [← fill_set l len k n HL.out hlt Hn.out]
          exact (hBk.storeNode k n (by rw [fill_length l len k HL.out hk]; exact hlt)).drew
        · exact (hKr.storeNode (by simp) k n).drew
      case measure => simp [intOf]; omega
    · obtain rfl : k = len := by omega
      go_wp2
      go_ret
      rw [fill_all l k HL.out] at hBk
      exact ⟨g, rfl, hg1, hBk, hbel.trans (hKr.below (by have := hbel.size; omega) (by simp; omega))⟩

set_option maxHeartbeats 400000 in
theorem conv29 (ad : Addr) (len cap : Nat) (l : List Nd) (w : World) (hl : l.length = len) (hm : len ≤ 1048576) (hs : At w ad l) :
    Calls Try.prog 29 #[.slice (some ad) len cap] w fun e w' =>
      ∃ g, e = .returned (.slice (some ⟨g, 0, none⟩) len len) ∧ w.heap.size ≤ g ∧ Blk w' g 42 (flat l) ∧ Below w.heap.size w w' := by
  obtain ⟨i0, hi, hz0, hz1, hz2⟩ := info_parts Try.info42
  have hb : i0.bytes * len ≤ 281474976710656 := by rw [hz2]; omega
  have hnil := nil53
  have HL : Hid (l.length = len) := hl
  clear hl
  go_enter Try.func29, Try.ntmps29
  go_wp2_with (refine wpList_make_blk _ rfl (.tmp 8) (.tmp 8) 36 rfl 42 i0 _ 5 Try.underlying36 hi hz0 hz1 .i64 .i64 _ _ len len rfl rfl rfl rfl (Nat.le_refl _) hb (by omega) _ (made_nodes len) ?_)
  intro g w1 hg1 hB1 hbel
  go_wp2_with fail
  go_loopw [4] (fun i wr => ∃ k : Nat, k ≤ len ∧ i = .int .i64 k ∧ Blk wr g 42 (flat (l.take k ++ List.replicate (len - k) Nd.zero)) ∧ Kept [g] w1 wr) (fun i _ => len - (intOf i).toNat)
  case atStart => exact ⟨0, Nat.zero_le _, rfl, hB1, Kept.refl _ _⟩
  case round =>
    obtain ⟨k, hk, rfl, hBk, hKr⟩ := hrel
    by_cases hlt : k < len
    · obtain ⟨n, hn⟩ : ∃ n, l[k]? = some n := ⟨_, List.getElem?_eq_getElem (by have := HL.out; omega)⟩
      obtain ⟨b, o, had, hsb⟩ := hs (by intro e; subst e; simp at hn)
      subst had
      have hbl := At.lt hsb hn
      have c := (hsb.below hbel).cells hn
      have f : ∀ o, wr.cell? ⟨b, o, none⟩ = w1.cell? ⟨b, o, none⟩ := fun o => World.cell?_of_block (hKr.block b (by have := hbel.size; omega) (by simp; omega))
      have c0 := (f _).trans c.1
      have c1 := (f _).trans c.2.1
      have c2 := (f _).trans c.2.2.1
      have c3 := (f _).trans c.2.2.2.1
      have c4 := (f _).trans c.2.2.2.2
      clear c f
      have z0 := hBk.frozen (k * 5)
      have z1 := hBk.frozen (k * 5 + 1)
      have z2 := hBk.frozen (k * 5 + 2)
      have z3 := hBk.frozen (k * 5 + 3)
      have z4 := hBk.frozen (k * 5 + 4)
      obtain ⟨n0, hn0⟩ := fill_get l len k HL.out hlt
      obtain ⟨d0, d1, d2, d3, d4⟩ := hBk.node hn0
      clear hn0
      have i1 : (k : Int) < (len : Int) := by omega
      have Hn : Hid (l[k]? = some n) := hn
      clear hn
      go_wp2_with fail
      go_region
      all_goals go_wp2
      all_goals go_roundw
      case rel =>
        refine ⟨k + 1, by omega, by go_num, ?_, ?_⟩
        · rw [← fill_set l len k n HL.out hlt Hn.out]
          exact (hBk.storeNode k n (by rw [fill_length l len k HL.out hk]; exact hlt)).drew
        · exact (hKr.storeNode (by simp) k n).drew
      case measure => simp [intOf]; omega
    · obtain rfl : k = len := by omega
      go_wp2
      go_ret
      rw [fill_all l k HL.out] at hBk
      exact ⟨g, rfl, hg1, hBk, hbel.trans (hKr.below (by have := hbel.size; omega) (by simp; omega))⟩


set_option maxHeartbeats 400000 in
theorem conv16_nil (n c : Nat) (w : World) : Calls Try.prog 16 #[.slice none n c] w fun e w' => e = .returned (.slice none 0 0) ∧ w = w' := by
  have hnil := nil31
  go_enter Try.func16, Try.ntmps16
  go_wp2
  go_ret
  exact ⟨rfl, rfl⟩
theorem conv16_any (a : Option Addr) (len cap : Nat) (l : List Nd) (w : World) (hl : l.length = len) (hm : len ≤ 1048576) (hs : Src w a l) :
    Calls Try.prog 16 #[.slice a len cap] w fun e w' => ∃ a', e = .returned (.slice a' len len) ∧ Holds w' w.heap.size a' 42 l ∧ Below w.heap.size w w' := by
  cases a with
  | none =>
    have hnil : l = [] := by
      by_cases h : l = []
      · exact h
      · obtain ⟨b, o, e, _⟩ := hs h; cases e
    subst hnil
    simp at hl; subst hl
    refine (conv16_nil 0 cap w).mono ?_
    rintro e w' ⟨rfl, rfl⟩
    exact ⟨none, rfl, fun h => absurd rfl h, Below.refl _ _⟩
  | some ad =>
    refine (conv16 ad len cap l w hl hm (fun h => by obtain ⟨b, o, e, h2⟩ := hs h; exact ⟨b, o, by injection e, h2⟩)).mono ?_
    rintro e w' ⟨g, rfl, hg, hB, hb⟩
    exact ⟨_, rfl, fun _ => ⟨g, rfl, hg, hB⟩, hb⟩

set_option maxHeartbeats 400000 in
theorem conv26_nil (n c : Nat) (w : World) : Calls Try.prog 26 #[.slice none n c] w fun e w' => e = .returned (.slice none 0 0) ∧ w = w' := by
  have hnil := nil36
  go_enter Try.func26, Try.ntmps26
  go_wp2
  go_ret
  exact ⟨rfl, rfl⟩
theorem conv26_any (a : Option Addr) (len cap : Nat) (l : List Nd) (w : World) (hl : l.length = len) (hm : len ≤ 1048576) (hs : Src w a l) :
    Calls Try.prog 26 #[.slice a len cap] w fun e w' => ∃ a', e = .returned (.slice a' len len) ∧ Holds w' w.heap.size a' 68 l ∧ Below w.heap.size w w' := by
  cases a with
  | none =>
    have hnil : l = [] := by
      by_cases h : l = []
      · exact h
      · obtain ⟨b, o, e, _⟩ := hs h; cases e
    subst hnil
    simp at hl; subst hl
    refine (conv26_nil 0 cap w).mono ?_
    rintro e w' ⟨rfl, rfl⟩
    exact ⟨none, rfl, fun h => absurd rfl h, Below.refl _ _⟩
  | some ad =>
    refine (conv26 ad len cap l w hl hm (fun h => by obtain ⟨b, o, e, h2⟩ := hs h; exact ⟨b, o, by injection e, h2⟩)).mono ?_
    rintro e w' ⟨g, rfl, hg, hB, hb⟩
    exact ⟨_, rfl, fun _ => ⟨g, rfl, hg, hB⟩, hb⟩

set_option maxHeartbeats 400000 in
theorem conv29_nil (n c : Nat) (w : World) : Calls Try.prog 29 #[.slice none n c] w fun e w' => e = .returned (.slice none 0 0) ∧ w = w' := by
  have hnil := nil53
  go_enter Try.func29, Try.ntmps29
  go_wp2
  go_ret
  exact ⟨rfl, rfl⟩
theorem conv29_any (a : Option Addr) (len cap : Nat) (l : List Nd) (w : World) (hl : l.length = len) (hm : len ≤ 1048576) (hs : Src w a l) :
    Calls Try.prog 29 #[.slice a len cap] w fun e w' => ∃ a', e = .returned (.slice a' len len) ∧ Holds w' w.heap.size a' 42 l ∧ Below w.heap.size w w' := by
  cases a with
  | none =>
    have hnil : l = [] := by
      by_cases h : l = []
      · exact h
      · obtain ⟨b, o, e, _⟩ := hs h; cases e
    subst hnil
    simp at hl; subst hl
    refine (conv29_nil 0 cap w).mono ?_
    rintro e w' ⟨rfl, rfl⟩
    exact ⟨none, rfl, fun h => absurd rfl h, Below.refl _ _⟩
  | some ad =>
    refine (conv29 ad len cap l w hl hm (fun h => by obtain ⟨b, o, e, h2⟩ := hs h; exact ⟨b, o, by injection e, h2⟩)).mono ?_
    rintro e w' ⟨g, rfl, hg, hB, hb⟩
    exact ⟨_, rfl, fun _ => ⟨g, rfl, hg, hB⟩, hb⟩

end Go.Proofs.Qxb6600114a
