import Derived.Test.Qxb6600114aZDec
import Derived.Test.Qxb6600114aZEnc
namespace Go.Proofs.Qxb6600114a
open Go.RowKit
set_option linter.unusedVariables false

theorem zdec18_0 (gc L capc N capz p : Nat) (az ac : Option Addr) (a : Int) (l : List Nd) (zs : List Int) (w : World)
    (hl : l.length = N) (hS : Src w az l) (hN' : N ≤ 1048576)
    (hZ : L ≠ 0 → ac = some ⟨gc, 0, none⟩ ∧ Blk w gc 5 (zs.map (Value.int .u8))) (hzl : L ≤ zs.length) (hcl : L ≤ capc) (hL : L ≤ 1048576) (hcap : capc ≤ 1048576) (hb : Bytes zs)
    (hp : p ≤ L) (hp3 : (L - p) % 3 = 0) (ha0 : -2305843009213693951 ≤ a) (ha1 : a ≤ 2305843009213693951) :
    Calls Try.prog 18 #[.slice ac L capc, .int .i64 p, .int .i64 a, .slice az N capz, .int .i64 0] w fun e w' => ∃ (t np : Nat) (a' : Option Addr),
      e = .returned (.tuple #[.slice a' N N, .int .i64 (t : Int), .int .i64 (np : Int), .int .i64 (atTo zs p a t)]) ∧ np = p + 3 * t ∧
      t ≤ N ∧ p + 3 * t ≤ L ∧ ShortAll zs p t ∧ Stops zs p L 0 N t ∧ Holds w' w.heap.size a' 42 (decTo l 0 zs p a t) ∧ Below w.heap.size w w' := by
  have h := zdec18 gc L capc N capz 0 p az ac a l zs w hl hS hN' hZ hzl hcl hL hcap hb (Nat.zero_le _) hp hp3 ha0 ha1
  rw [show ((0 : Nat) : Int) = 0 from rfl] at h
  refine h.mono ?_
  rintro e w' ⟨t, a', rfl, h1, h2, h3, h4, h5, h6⟩
  rw [Nat.zero_add] at h1 ⊢
  exact ⟨t, p + 3 * t, a', rfl, rfl, h1, h2, h3, h4, h5, h6⟩

theorem zenc17_0 (gc W C len capb : Nat) (ab : Option Addr) (a : Int) (l : List Nd) (zs : List Int) (w : World)
    (hl : l.length = len) (hS : Src w ab l) (hok : ∀ n ∈ l, n.ok) (hlen : len ≤ 1048576)
    (hZ : Blk w gc 5 (zs.map (Value.int .u8))) (hzl : zs.length = C) (hW : W ≤ C) (hC : C ≤ 1048576)
    (ha0 : -4611686018427387903 ≤ a) (ha1 : a ≤ 4611686018427387903) :
    Calls Try.prog 17 #[.slice ab len capb, .slice (some ⟨gc, 0, none⟩) W C, .int .i64 a, .int .i64 0] w fun e w' => ∃ j wl : Nat,
      e = .returned (.tuple #[.slice (some ⟨gc, 0, none⟩) wl C, .int .i64 (lastTo l 0 a j), .int .i64 (j : Int)]) ∧ wl = W + 3 * j ∧
      0 + j ≤ len ∧ W + 3 * j ≤ C ∧ FitAll l 0 a j ∧ Ends l 0 a W C j ∧ Blk w' gc 5 ((encTo zs W l 0 a j).map (Value.int .u8)) ∧ Kept [gc] w w' := by
  have h := zenc17 gc W C len capb 0 ab a l zs w hl hS hok hlen hZ hzl hW hC (Nat.zero_le _) ha0 ha1
  rw [show ((0 : Nat) : Int) = 0 from rfl] at h
  refine h.mono ?_
  rintro e w' ⟨j, rfl, h1, h2, h3, h4, h5, h6⟩
  refine ⟨j, W + 3 * j, ?_, rfl, h1, h2, h3, h4, h5, h6⟩
  rw [Nat.zero_add]

theorem flat_append (a b : List Nd) : flat (a ++ b) = flat a ++ flat b := by
  induction a with
  | nil => rfl
  | cons n r ih => simp [flat, ih]
theorem Src.take {w : World} {a : Option Addr} {l : List Nd} (h : Src w a l) (n : Nat) : Src w a (l.take n) := fun hn => by
  have hl : l ≠ [] := fun e => hn (by rw [e]; simp)
  obtain ⟨b, o, e, hs⟩ := h hl
  refine ⟨b, o, e, fun j v hv => hs j v ?_⟩
  have e2 : l = l.take n ++ l.drop n := (List.take_append_drop n l).symm
  rw [e2, flat_append, List.getElem?_append_left (List.getElem?_eq_some_iff.1 hv).1]
  exact hv

theorem slice36 (a : Option Addr) (N t : Nat) (ht : t ≤ N) (w : World) : (Instr.slice 36 (.slice a N N) none (some (.int .i64 (t : Int))) none).run Try.prog w = .ok (.slice a t N) w := by
  have h1 : (t : Int) ≤ (N : Int) := by omega
  cases a with
  | none => go_simp
  | some ad =>
    go_simp

end Go.Proofs.Qxb6600114a
