import Derived.Test.Qxb6600114aDec
import Derived.Test.Qxb6600114aConv
import Derived.Deep.RegionWith
namespace Go.Proofs.Qxb6600114a
open Go.RowKit
set_option linter.unusedVariables false

theorem results_tmp4 {fn : Func} {t u v x : Tmp} (h : fn.results = #[.tmp t, .tmp u, .tmp v, .tmp x]) (tmps : Array Value) (P : Program) (w : World) :
    (results fn tmps).run P w = .ok (.tuple #[tmps.getD t undef, tmps.getD u undef, tmps.getD v undef, tmps.getD x undef]) w := by
  simp [results, h]

theorem pick_gn {w1 : World} {B T : Nat} {an : Option Addr} {l : List Nd} (h : Holds w1 B an 68 l) (hT : T < B) :
    ∃ gn, (l ≠ [] → an = some ⟨gn, 0, none⟩ ∧ Blk w1 gn 68 (flat l)) ∧ T ≠ gn ∧ B ≤ gn := by
  by_cases hl : l = []
  · exact ⟨B, fun hn => absurd hl hn, by omega, Nat.le_refl _⟩
  · obtain ⟨g, e, hg, hB⟩ := h hl
    exact ⟨g, fun _ => ⟨e, hB⟩, by omega, hg⟩
theorem decTo_ne {l : List Nd} {d : Nat} {zs : List Int} {p : Nat} {a : Int} {t : Nat} (h : decTo l d zs p a t ≠ []) : l ≠ [] := fun e => h (by
  apply List.eq_nil_of_length_eq_zero; rw [decTo_length, e]; rfl)
theorem below3 {w w1 w2 w3 : World} {o : Obj} {gn : Nat} (h1 : Below (w.alloc o).heap.size (w.alloc o) w1) (h2 : Kept [w.heap.size, gn] w1 w2) (hg : (w.alloc o).heap.size ≤ gn) (h3' : Below w2.drew.heap.size w2.drew w3) : Below w.heap.size w w3 := by
  have h3 : Below w2.heap.size w2 w3 := ⟨h3'.os, h3'.tape, h3'.output, h3'.size, h3'.block⟩
  have hs : w.heap.size ≤ (w.alloc o).heap.size := by show _ ≤ (w.heap.push o).size; simp
  have hA : Below w.heap.size w w1 := ((Below.refl w.heap.size w).alloc (Nat.le_refl _) o).trans (h1.mono hs)
  have hB : Below w.heap.size w1 w2 := h2.below hA.size (by simp; omega)
  exact (hA.trans hB).trans (h3.mono (Nat.le_trans hA.size hB.size))

set_option maxRecDepth 100000 in
set_option maxHeartbeats 1000000 in
theorem zdec18 (gc L capc N capz d p : Nat) (az ac : Option Addr) (a : Int) (l : List Nd) (zs : List Int) (w : World)
    (hl : l.length = N) (hS : Src w az l) (hN' : N ≤ 1048576)
    (hZ : L ≠ 0 → ac = some ⟨gc, 0, none⟩ ∧ Blk w gc 5 (zs.map (Value.int .u8))) (hzl : L ≤ zs.length) (hcl : L ≤ capc) (hL : L ≤ 1048576) (hcap : capc ≤ 1048576) (hb : Bytes zs)
    (hd : d ≤ N) (hp : p ≤ L) (hp3 : (L - p) % 3 = 0) (ha0 : -2305843009213693951 ≤ a) (ha1 : a ≤ 2305843009213693951) :
    Calls Try.prog 18 #[.slice ac L capc, .int .i64 p, .int .i64 a, .slice az N capz, .int .i64 d] w fun e w' => ∃ (t : Nat) (a' : Option Addr),
      e = .returned (.tuple #[.slice a' N N, .int .i64 ((d + t : Nat) : Int), .int .i64 ((p + 3 * t : Nat) : Int), .int .i64 (atTo zs p a t)]) ∧
      d + t ≤ N ∧ p + 3 * t ≤ L ∧ ShortAll zs p t ∧ Stops zs p L d N t ∧ Holds w' w.heap.size a' 42 (decTo l d zs p a t) ∧ Below w.heap.size w w' := by
  have HL : Hid (l.length = N) := hl
  have HZ : Hid (L ≠ 0 → ac = some ⟨gc, 0, none⟩ ∧ Blk w gc 5 (zs.map (Value.int .u8))) := hZ
  have H3 : Hid ((L - p) % 3 = 0) := hp3
  have HB : Hid (Bytes zs) := hb
  clear hl hZ hp3 hb
  go_enter Try.func18, Try.ntmps18
  go_wp2_with fail
  refine (conv26_any az N capz l _ HL.out hN' (hS.below ((Below.refl _ _).alloc (Nat.le_refl _) _))).mono ?_
  rintro e w1 ⟨an, rfl, hH1, hb1⟩
  have hTw := (blk_new w 61 [.pointer none, .slice none 0 0, .int .i64 0, .slice ac L capc, .int .i64 p, .slice none 0 0, .int .i64 a, .int .i64 0]).below' hb1
  obtain ⟨gn, hgn, hTg, hgB⟩ := pick_gn hH1 (T := w.heap.size) (by show _ < (w.heap.push _).size; simp)
  have Hgn : Hid (l ≠ [] → an = some ⟨gn, 0, none⟩ ∧ Blk w1 gn 68 (flat l)) := hgn
  clear hgn
  go_wp2_with fail
  refine (dec28 w.heap.size gn gc L capc N N d p an ac a l zs _ _ _ _ _ w1 hTw HL.out Hgn.out hN' (fun hn => by obtain ⟨e, hB⟩ := HZ.out hn; exact ⟨e, (hB.alloc _).below' hb1⟩) hzl hcl hL hcap HB.out hTg hd hp H3.out ha0 ha1).mono ?_
  rintro e w2 ⟨t, rfl, ht1, ht2, hsh, hst, hT2, hB2, hK2⟩
  have HB2 : Hid (l ≠ [] → Blk w2 gn 68 (flat (decTo l d zs p a t))) := hB2
  clear hB2
  have t4 : w2.cell? ⟨w.heap.size, 4, none⟩ = some (.int .i64 ((p + 3 * t : Nat) : Int)) := hT2.cell rfl
  have t6 : w2.cell? ⟨w.heap.size, 6, none⟩ = some (.int .i64 (atTo zs p a t)) := hT2.cell rfl
  have hS2 : Src w2 an (decTo l d zs p a t) := fun hn => ⟨gn, 0, (Hgn.out (decTo_ne hn)).1, NSrc.of_blk (HB2.out (decTo_ne hn))⟩
  go_wp2_with fail
  go_region_with (go_at_call 29; refine (conv29_any an N N (decTo l d zs p a t) _ ((decTo_length _ _ _ _ _ _).trans HL.out) hN' (by exact hS2)).mono ?_; rintro e w3 ⟨a', rfl, hH3, hb3⟩; have t4' : w3.cell? ⟨w.heap.size, 4, none⟩ = some (.int .i64 ((p + 3 * t : Nat) : Int)) := (hT2.drew.below' hb3).cell rfl; have t6' : w3.cell? ⟨w.heap.size, 6, none⟩ = some (.int .i64 (atTo zs p a t)) := (hT2.drew.below' hb3).cell rfl)
  all_goals go_simp
  all_goals go_wp2
  all_goals refine bodyPost_ret (results_tmp4 rfl _ _ _) rfl ?_
  all_goals exact ⟨t, a', rfl, ht1, ht2, hsh, hst, hH3.mono (by have h1 := hb1.size; have h2 := hK2.size; simp at h1; show _ ≤ w2.heap.size; omega), below3 hb1 hK2 hgB hb3⟩

end Go.Proofs.Qxb6600114a
