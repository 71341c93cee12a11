import Derived.Test.Qxb6600114aBase
namespace Go.Proofs.Qxb6600114a
open Go.RowKit
set_option linter.unusedVariables false

/-- One node: its kind, whether it is decoded, where it is, where its text starts and ends. -/
structure Nd where
  kind : Int
  dec : Bool
  pos : Int
  st : Int
  en : Int

def Nd.cells (n : Nd) : List Value := [.int .u8 n.kind, .bool n.dec, .int .i64 n.pos, .int .i64 n.st, .int .i64 n.en]
def Nd.zero : Nd := ⟨0, false, 0, 0, 0⟩
def flat : List Nd → List Value
  | [] => []
  | n :: r => n.cells ++ flat r

theorem flat_length (l : List Nd) : (flat l).length = 5 * l.length := by
  induction l with
  | nil => rfl
  | cons n r ih => simp [flat, Nd.cells, ih]; omega

theorem flat_get (l : List Nd) (k : Nat) (n : Nd) (h : l[k]? = some n) (j : Nat) (hj : j < 5) : (flat l)[k * 5 + j]? = n.cells[j]? := by
  induction l generalizing k with
  | nil => simp at h
  | cons m r ih =>
    cases k with
    | zero =>
      simp at h; subst h
      rw [flat, List.getElem?_append_left (by simp [Nd.cells]; omega)]; simp
    | succ k =>
      simp at h
      rw [flat, List.getElem?_append_right (by simp [Nd.cells]; omega)]
      rw [← ih k h]
      congr 1
      simp [Nd.cells]; omega

/-- A store of one node's five cells. -/
theorem flat_set (l : List Nd) (k : Nat) (n : Nd) (hk : k < l.length) :
    (((((flat l).set (k * 5) (.int .u8 n.kind)).set (k * 5 + 1) (.bool n.dec)).set (k * 5 + 2) (.int .i64 n.pos)).set (k * 5 + 3) (.int .i64 n.st)).set (k * 5 + 4) (.int .i64 n.en) = flat (l.set k n) := by
  induction l generalizing k with
  | nil => simp at hk
  | cons m r ih =>
    cases k with
    | zero => simp [flat, Nd.cells]
    | succ k =>
      rw [List.set_cons_succ, flat, flat, ← ih k (by simpa using hk)]
      have e : ∀ i, (k + 1) * 5 + i = 5 + (k * 5 + i) := fun i => by omega
      have e0 : (k + 1) * 5 = 5 + k * 5 := by omega
      rw [e, e, e, e, e0]
      simp [Nd.cells, List.set_cons_succ, show ∀ x, 5 + x = x + 5 from fun x => by omega]

/-- The nodes l lie at block b from offset o on. -/
def NSrc (w : World) (b o : Nat) (l : List Nd) : Prop := ∀ j v, (flat l)[j]? = some v → w.cell? ⟨b, o + j, none⟩ = some v
theorem NSrc.cells {w : World} {b o : Nat} {l : List Nd} (h : NSrc w b o l) {k : Nat} {n : Nd} (hn : l[k]? = some n) :
    w.cell? ⟨b, o + k * 5, none⟩ = some (.int .u8 n.kind) ∧ w.cell? ⟨b, o + k * 5 + 1, none⟩ = some (.bool n.dec) ∧ w.cell? ⟨b, o + k * 5 + 2, none⟩ = some (.int .i64 n.pos) ∧
    w.cell? ⟨b, o + k * 5 + 3, none⟩ = some (.int .i64 n.st) ∧ w.cell? ⟨b, o + k * 5 + 4, none⟩ = some (.int .i64 n.en) := by
  have g : ∀ j v, j < 5 → n.cells[j]? = some v → w.cell? ⟨b, o + k * 5 + j, none⟩ = some v := fun j v hj hv => by
    rw [Nat.add_assoc]; exact h _ _ (by rw [flat_get l k n hn j hj]; exact hv)
  exact ⟨g 0 _ (by omega) rfl, g 1 _ (by omega) rfl, g 2 _ (by omega) rfl, g 3 _ (by omega) rfl, g 4 _ (by omega) rfl⟩
theorem NSrc.below {w w' : World} {b o : Nat} {l : List Nd} (h : NSrc w b o l) (hb : Below w.heap.size w w') : NSrc w' b o l := fun j v hv => by
  have := h j v hv
  rw [← this]; exact hb.cell (World.block_lt_of_cell? _ _ this)
theorem NSrc.of_blk {w : World} {g : Nat} {t : TypeId} {l : List Nd} (h : Blk w g t (flat l)) : NSrc w g 0 l := fun j v hv => by
  rw [Nat.zero_add]; exact h.cell hv

/-- The nodes l lie where the slice at ad begins (where there are none nothing is known of ad). -/
def At (w : World) (ad : Addr) (l : List Nd) : Prop := l ≠ [] → ∃ b o, ad = ⟨b, o, none⟩ ∧ NSrc w b o l
theorem At.below {w w' : World} {ad : Addr} {l : List Nd} (h : At w ad l) (hb : Below w.heap.size w w') : At w' ad l := fun hn => by
  obtain ⟨b, o, e, hs⟩ := h hn
  exact ⟨b, o, e, hs.below hb⟩
theorem At.of_blk {w : World} {g : Nat} {t : TypeId} {l : List Nd} (h : Blk w g t (flat l)) : At w ⟨g, 0, none⟩ l := fun _ => ⟨g, 0, rfl, NSrc.of_blk h⟩
theorem At.lt {w : World} {b o : Nat} {l : List Nd} (h : NSrc w b o l) {k : Nat} {n : Nd} (hn : l[k]? = some n) : b < w.heap.size := World.block_lt_of_cell? _ _ (h.cells hn).1

/-- The slice value at a holds the nodes l. -/
def Src (w : World) (a : Option Addr) (l : List Nd) : Prop := l ≠ [] → ∃ b o, a = some ⟨b, o, none⟩ ∧ NSrc w b o l
/-- .. and they fill a block of the call's own. -/
def Holds (w : World) (B : Nat) (a : Option Addr) (t : TypeId) (l : List Nd) : Prop := l ≠ [] → ∃ g, a = some ⟨g, 0, none⟩ ∧ B ≤ g ∧ Blk w g t (flat l)
theorem Src.below {w w' : World} {a : Option Addr} {l : List Nd} (h : Src w a l) (hb : Below w.heap.size w w') : Src w' a l := fun hn => by
  obtain ⟨b, o, e, hs⟩ := h hn
  exact ⟨b, o, e, hs.below hb⟩
theorem Holds.src {w : World} {B : Nat} {a : Option Addr} {t : TypeId} {l : List Nd} (h : Holds w B a t l) : Src w a l := fun hn => by
  obtain ⟨g, e, _, hB⟩ := h hn
  exact ⟨g, 0, e, NSrc.of_blk hB⟩
theorem Holds.below {w w' : World} {B : Nat} {a : Option Addr} {t : TypeId} {l : List Nd} (h : Holds w B a t l) (hb : Below w.heap.size w w') : Holds w' B a t l := fun hn => by
  obtain ⟨g, e, hg, hB⟩ := h hn
  exact ⟨g, e, hg, hB.below' hb⟩
theorem Holds.mono {w : World} {B B' : Nat} {a : Option Addr} {t : TypeId} {l : List Nd} (h : Holds w B a t l) (hb : B' ≤ B) : Holds w B' a t l := fun hn => by
  obtain ⟨g, e, hg, hB⟩ := h hn
  exact ⟨g, e, by omega, hB⟩
theorem Holds.kept {w w' : World} {B g5 : Nat} {a : Option Addr} {t t5 : TypeId} {l : List Nd} {l5 : List Value} (h : Holds w B a t l) (hk : Kept [g5] w w') (h5 : Blk w g5 t5 l5) (ht : t ≠ t5) : Holds w' B a t l := fun hn => by
  obtain ⟨g, e, hg, hB⟩ := h hn
  exact ⟨g, e, hg, hB.kept hk (by simp; exact hB.ne h5 ht)⟩

theorem Blk.node {w : World} {g : Nat} {t : TypeId} {l : List Nd} (h : Blk w g t (flat l)) {k : Nat} {n : Nd} (hn : l[k]? = some n) :
    w.cell? ⟨g, k * 5, none⟩ = some (.int .u8 n.kind) ∧ w.cell? ⟨g, k * 5 + 1, none⟩ = some (.bool n.dec) ∧ w.cell? ⟨g, k * 5 + 2, none⟩ = some (.int .i64 n.pos) ∧
    w.cell? ⟨g, k * 5 + 3, none⟩ = some (.int .i64 n.st) ∧ w.cell? ⟨g, k * 5 + 4, none⟩ = some (.int .i64 n.en) := by
  have := (NSrc.of_blk h).cells hn
  rw [Nat.zero_add] at this; exact this
/-- Behind the store of a node into a row of nodes. -/
theorem Blk.storeNode {w : World} {g : Nat} {t : TypeId} {l : List Nd} (h : Blk w g t (flat l)) (k : Nat) (n : Nd) (hk : k < l.length) :
    Blk (((((w.setCell ⟨g, k * 5, none⟩ (.int .u8 n.kind)).setCell ⟨g, k * 5 + 1, none⟩ (.bool n.dec)).setCell ⟨g, k * 5 + 2, none⟩ (.int .i64 n.pos)).setCell ⟨g, k * 5 + 3, none⟩ (.int .i64 n.st)).setCell ⟨g, k * 5 + 4, none⟩ (.int .i64 n.en)) g t (flat (l.set k n)) := by
  rw [← flat_set l k n hk]
  exact ((((h.set _ _).set _ _).set _ _).set _ _).set _ _
theorem Kept.storeNode {S : List Nat} {a w : World} (h : Kept S a w) {g : Nat} (hg : g ∈ S) (k : Nat) (n : Nd) :
    Kept S a (((((w.setCell ⟨g, k * 5, none⟩ (.int .u8 n.kind)).setCell ⟨g, k * 5 + 1, none⟩ (.bool n.dec)).setCell ⟨g, k * 5 + 2, none⟩ (.int .i64 n.pos)).setCell ⟨g, k * 5 + 3, none⟩ (.int .i64 n.st)).setCell ⟨g, k * 5 + 4, none⟩ (.int .i64 n.en)) :=
  ((((h.setCell hg _).setCell hg _).setCell hg _).setCell hg _).setCell hg _

theorem fill_get (l : List Nd) (len k : Nat) (hl : l.length = len) (hk : k < len) : ∃ n, (l.take k ++ List.replicate (len - k) Nd.zero)[k]? = some n :=
  ⟨_, List.getElem?_eq_getElem (by simp; omega)⟩
theorem fill_length (l : List Nd) (len k : Nat) (hl : l.length = len) (hk : k ≤ len) : (l.take k ++ List.replicate (len - k) Nd.zero).length = len := by simp; omega
theorem fill_set (l : List Nd) (len k : Nat) (n : Nd) (hl : l.length = len) (hk : k < len) (hn : l[k]? = some n) :
    (l.take k ++ List.replicate (len - k) Nd.zero).set k n = l.take (k + 1) ++ List.replicate (len - (k + 1)) Nd.zero := by
  have hkl : k < l.length := by omega
  have e : len - k = (len - (k + 1)) + 1 := by omega
  rw [List.set_append_right _ _ (by simp; omega), e, List.replicate_succ]
  have e2 : k - (l.take k).length = 0 := by simp; omega
  rw [e2, List.set_cons_zero, List.take_add_one, hn]
  simp
theorem fill_all (l : List Nd) (len : Nat) (hl : l.length = len) : l.take len ++ List.replicate (len - len) Nd.zero = l := by
  rw [Nat.sub_self, List.replicate_zero, List.append_nil, List.take_of_length_le (by omega)]

theorem Try.info42 : (Try.prog.info? 42).map (fun i => (i.zero, i.size, i.bytes)) = some (some (.agg #[.int .u8 0, .bool false, .int .i64 0, .int .i64 0, .int .i64 0]), 5, 32) := by kernel_rfl
theorem Try.info68 : (Try.prog.info? 68).map (fun i => (i.zero, i.size, i.bytes)) = some (some (.agg #[.int .u8 0, .bool false, .int .i64 0, .int .i64 0, .int .i64 0]), 5, 32) := by kernel_rfl

theorem made_nodes (n : Nat) : (madeCells (Value.agg #[.int .u8 0, .bool false, .int .i64 0, .int .i64 0, .int .i64 0]).cells (n * 5)).toList = flat (List.replicate n Nd.zero) := by
  have hz : (Value.agg #[.int .u8 0, .bool false, .int .i64 0, .int .i64 0, .int .i64 0]).cells = #[.int .u8 0, .bool false, .int .i64 0, .int .i64 0, .int .i64 0] := rfl
  rw [hz]
  apply List.ext_getElem?
  intro i
  by_cases h : i < n * 5
  · have hn : (List.replicate n Nd.zero)[i / 5]? = some Nd.zero := by rw [List.getElem?_replicate]; simp; omega
    have hg := flat_get _ (i / 5) Nd.zero hn (i % 5) (by omega)
    rw [show i / 5 * 5 + i % 5 = i by omega] at hg
    rw [hg]
    have hi : i % 5 < 5 := by omega
    simp only [madeCells, Array.getElem?_toList, Array.getElem?_map, Array.getElem?_range, h, if_true, Option.map_some, Nd.cells, Nd.zero]
    generalize i % 5 = m at hi
    match m, hi with
    | 0, _ => rfl
    | 1, _ => rfl
    | 2, _ => rfl
    | 3, _ => rfl
    | 4, _ => rfl
  · rw [List.getElem?_eq_none (by simp [size_madeCells]; omega), List.getElem?_eq_none (by rw [flat_length]; simp; omega)]

end Go.Proofs.Qxb6600114a
