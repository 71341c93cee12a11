import Derived.Test.Qxb6600114aRows
import Derived.WalkKit
import Derived.WalkSpells
import Derived.WalkLawsBesides
import Derived.Laws.CopyOwn
import Derived.BigQuiet
import Derived.Deep.QuietTactic
namespace Go.Proofs.Qxb6600114a
open Go.RowKit

theorem Try.info5 : (Try.prog.info? 5).map (fun i => (i.zero, i.size, i.bytes)) = some (some (.int .u8 0), 1, 1) := by kernel_rfl
theorem Try.info3 : (Try.prog.info? 3).map (fun i => (i.zero, i.size, i.bytes)) = some (some (.int .i64 0), 1, 8) := by kernel_rfl
theorem Try.size5 : (Try.prog.info? 5).map (·.size) = some 1 := by kernel_rfl
theorem Try.size3 : (Try.prog.info? 3).map (·.size) = some 1 := by kernel_rfl

theorem ret_bool {a b : Bool} (h : a = b) : Ending.returned (.bool a) = .returned (.bool b) := by rw [h]
/-- The lengths' sum is at most 1<<20: as a Bool behind a name. -/
def fitsB (n : Nat) : Bool := decide (n ≤ 1048576)
theorem fits_yes {n : Nat} (h : n ≤ 1048576) : fitsB n = true := decide_eq_true h
theorem fits_no {n : Nat} (h : ¬ n ≤ 1048576) : fitsB n = false := decide_eq_false h
theorem ret_int {k : IntKind} {a b : Int} (h : a = b) : Ending.returned (.int k a) = .returned (.int k b) := by rw [h]

theorem nil22 (w : World) (a : Option Addr) (n c : Nat) : (binOp .eql 22 (.slice a n c) (.slice none 0 0)).run Try.prog w = .ok (.bool a.isNone) w := Lib.run_eql_slice_nil w 22 5 a n c 0 0 Try.underlying22
theorem nil23 (w : World) (a : Option Addr) (n c : Nat) : (binOp .eql 23 (.slice a n c) (.slice none 0 0)).run Try.prog w = .ok (.bool a.isNone) w := Lib.run_eql_slice_nil w 23 3 a n c 0 0 Try.underlying23
theorem nil31 (w : World) (a : Option Addr) (n c : Nat) : (binOp .eql 31 (.slice a n c) (.slice none 0 0)).run Try.prog w = .ok (.bool a.isNone) w := Lib.run_eql_slice_nil w 31 35 a n c 0 0 Try.underlying31
theorem nil36 (w : World) (a : Option Addr) (n c : Nat) : (binOp .eql 36 (.slice a n c) (.slice none 0 0)).run Try.prog w = .ok (.bool a.isNone) w := Lib.run_eql_slice_nil w 36 42 a n c 0 0 Try.underlying36
theorem nil53 (w : World) (a : Option Addr) (n c : Nat) : (binOp .eql 53 (.slice a n c) (.slice none 0 0)).run Try.prog w = .ok (.bool a.isNone) w := Lib.run_eql_slice_nil w 53 68 a n c 0 0 Try.underlying53

/-- Block g holds just the cells l, none of them frozen. -/
def Blk (w : World) (g : Nat) (t : TypeId) (l : List Value) : Prop := w.heap[g]? = some (.cells l.toArray t (0, 0))

section
variable {w w' : World} {g : Nat} {t : TypeId} {l : List Value}

theorem Blk.cell (h : Blk w g t l) {j : Nat} {v : Value} (hv : l[j]? = some v) : w.cell? ⟨g, j, none⟩ = some v := by
  rw [cell_of_row w g j _ t (0, 0) h]; simpa using hv
theorem Blk.frozen (h : Blk w g t l) (j : Nat) : w.frozen? ⟨g, j, none⟩ = false := frozen_of_row w g j _ t h
theorem Blk.lt (h : Blk w g t l) : g < w.heap.size := lt_of_block h
theorem Blk.set (h : Blk w g t l) (i : Nat) (v : Value) : Blk (w.setCell ⟨g, i, none⟩ v) g t (l.set i v) := by
  have := heap_setCell_same w g i l.toArray t v h
  unfold Blk; rw [this]; simp
theorem Blk.setOther (h : Blk w g t l) {a : Addr} (ha : g ≠ a.block) (v : Value) : Blk (w.setCell a v) g t l := by
  unfold Blk; rw [heap_setCell_other w a g v ha]; exact h
theorem Blk.drew (h : Blk w g t l) : Blk w.drew g t l := h
theorem Blk.drewN (h : Blk w g t l) (n : Nat) : Blk (w.drewN n) g t l := h
theorem Blk.alloc (h : Blk w g t l) (o : Obj) : Blk (w.alloc o) g t l := by
  unfold Blk; rw [Below.heap_alloc w o g h.lt]; exact h
theorem Blk.below (h : Blk w g t l) {B : Nat} (hb : Below B w w') (hg : g < B) : Blk w' g t l := by
  unfold Blk; rw [hb.block g hg]; exact h
theorem Blk.below' (h : Blk w g t l) (hb : Below w.heap.size w w') : Blk w' g t l := h.below hb h.lt
theorem Blk.ne {g2 : Nat} {t2 : TypeId} {l2 : List Value} (h : Blk w g t l) (h2 : Blk w g2 t2 l2) (ht : t ≠ t2) : g ≠ g2 := by
  intro e; subst e; unfold Blk at h h2; rw [h] at h2; simp at h2; exact ht h2.2
theorem blk_new (w : World) (t : TypeId) (l : List Value) : Blk (w.alloc (.cells l.toArray t)) w.heap.size t l := heap_alloc_new w _
end

/-- 'make': a new block, of which the number is a variable. -/
theorem wpList_make_blk {P : Program} (w : World) {ops : Array Oper} {rest : List Oper} {o : Oper} {a : Act} {Q : Exit → Act → World → Prop}
    (hg : o.guard = none) (l c : Operand) (t : TypeId) (hop : o.op = Op.makeSlice t l c)
    (e : TypeId) (i : TypeInfo) (z : Value) (size : Nat) (h1 : P.underlying t = some (.slice e)) (h2 : P.info? e = some i) (h3 : i.zero = some z) (h4 : i.size = size)
    (kl kc : IntKind) (L C : Int) (n m : Nat) (hl : a.eval l = .int kl L) (hc : a.eval c = .int kc C) (hL : L = (n : Int)) (hC : C = (m : Int)) (hnm : n ≤ m) (b2 : i.bytes * m ≤ 281474976710656) (b3 : m ≤ 9223372036854775807)
    (Z : List Value) (hZ : (madeCells z.cells (m * size)).toList = Z)
    (hK : ∀ g w', w.heap.size ≤ g → Blk w' g e Z → Below w.heap.size w w' → wpList P ops Q rest (a.put o.dst (.slice (some ⟨g, 0, none⟩) n m)) w') :
    wpList P ops Q (o :: rest) a w := by
  refine wpList_plain hg fun K hK' => ?_
  subst hL
  subst hC
  subst hZ
  subst h4
  have hb' : (i.bytes : Int) * (m : Int) ≤ 281474976710656 := by
    have h : ((i.bytes * m : Nat) : Int) ≤ 281474976710656 := by omega
    rwa [Int.natCast_mul] at h
  have hrun := run_make (P := P) w t e i z h1 h2 h3 kl kc (n : Int) (m : Int) (by omega) (by omega) hb' (by omega)
  simp only [Int.toNat_natCast] at hrun
  unfold Oper.wp
  simp [execOp, hop, hl, hc, hrun, Result.andThen]
  refine hK' _ _ (hK w.heap.size _ (Nat.le_refl _) ?_ ((Below.refl _ _).alloc (Nat.le_refl _) _))
  have := blk_new w e (madeCells z.cells (m * i.size)).toList
  simpa using this

theorem made_one (z : Value) (hz : z.cells = #[z]) (n : Nat) : (madeCells z.cells (n * 1)).toList = List.replicate n z := by
  rw [hz]
  unfold madeCells
  apply List.ext_getElem
  · simp
  · intro i h1 h2
    simp [Nat.mod_one]


/-! ### Writes to the blocks of a list alone, and new blocks -/
structure Kept (S : List Nat) (w w' : World) : Prop where
  os : w'.os = w.os
  tape : w'.tape = w.tape
  output : w'.output = w.output
  size : w.heap.size ≤ w'.heap.size
  block : ∀ k, k < w.heap.size → k ∉ S → w'.heap[k]? = w.heap[k]?

theorem Kept.refl (S : List Nat) (w : World) : Kept S w w := ⟨rfl, rfl, rfl, Nat.le_refl _, fun _ _ _ => rfl⟩
theorem Kept.trans {S : List Nat} {a b c : World} (h : Kept S a b) (k : Kept S b c) : Kept S a c :=
  ⟨k.os.trans h.os, k.tape.trans h.tape, k.output.trans h.output, Nat.le_trans h.size k.size, fun i hi hS => (k.block i (Nat.lt_of_lt_of_le hi h.size) hS).trans (h.block i hi hS)⟩
theorem Kept.mono {S S' : List Nat} {a b : World} (h : Kept S a b) (hS : ∀ x ∈ S, x ∈ S') : Kept S' a b :=
  ⟨h.os, h.tape, h.output, h.size, fun i hi hn => h.block i hi (fun e => hn (hS i e))⟩
theorem Kept.setCell {S : List Nat} {a w : World} (h : Kept S a w) {p : Addr} (hp : p.block ∈ S) (u : Value) : Kept S a (w.setCell p u) :=
  ⟨h.os, h.tape, h.output, by simpa [World.setCell] using h.size, fun k hk hne => by
    rw [heap_setCell_other w _ k u (by intro e; exact hne (by rw [e]; exact hp))]
    exact h.block k hk hne⟩
theorem Kept.drewN {S : List Nat} {a w : World} (h : Kept S a w) (n : Nat) : Kept S a (w.drewN n) := ⟨h.os, h.tape, h.output, h.size, h.block⟩
theorem Kept.drew {S : List Nat} {a w : World} (h : Kept S a w) : Kept S a w.drew := ⟨h.os, h.tape, h.output, h.size, h.block⟩
theorem Kept.alloc {S : List Nat} {a w : World} (h : Kept S a w) (o : Obj) : Kept S a (w.alloc o) :=
  h.trans ⟨rfl, rfl, rfl, by simp, fun k hk _ => Below.heap_alloc _ _ _ hk⟩
theorem Kept.below {S : List Nat} {a w : World} {B : Nat} (h : Kept S a w) (hB : B ≤ a.heap.size) (hS : ∀ x ∈ S, B ≤ x) : Below B a w :=
  ⟨h.os, h.tape, h.output, h.size, fun k hk => h.block k (by omega) (fun e => by have := hS k e; omega)⟩
theorem Kept.of_below {S : List Nat} {a w : World} (h : Below a.heap.size a w) : Kept S a w :=
  ⟨h.os, h.tape, h.output, h.size, fun k hk _ => h.block k hk⟩
theorem Kept.drewBack {S : List Nat} {a w : World} (h : Kept S a.drew w) : Kept S a w := ⟨h.os, h.tape, h.output, h.size, h.block⟩
theorem Kept.drewNBack {S : List Nat} {a w : World} {n : Nat} (h : Kept S (a.drewN n) w) : Kept S a w := ⟨h.os, h.tape, h.output, h.size, h.block⟩
/-- Writes to a block that is new. -/
theorem kept_new {S : List Nat} {w w' : World} {o : Obj} (h : Kept (w.heap.size :: S) (w.alloc o) w') : Kept S w w' :=
  ⟨h.os, h.tape, h.output, by have := h.size; simp at this; omega, fun k hk hS => by
    rw [h.block k (by simp; omega) (by simp; exact ⟨by omega, hS⟩)]
    exact Below.heap_alloc _ _ _ hk⟩
theorem Blk.kept {w w' : World} {g : Nat} {t : TypeId} {l : List Value} (h : Blk w g t l) {S : List Nat} (hg : Kept S w w') (hne : g ∉ S) : Blk w' g t l := by
  unfold Blk; rw [hg.block g h.lt hne]; exact h

end Go.Proofs.Qxb6600114a
