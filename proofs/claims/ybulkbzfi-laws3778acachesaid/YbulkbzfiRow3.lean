/-
  Rows of instances in memory: three cells each.
-/
import Derived.Test.YbulkbzfiCmp
import Derived.Test.YbulkbzfiPlain
namespace Go.Proofs.Ybulkbzfi
open Go.RowKit

/-- The cells of a list of instances. -/
def cells3 : List In3 → List Value
  | [] => []
  | x :: d => .int .u8 x.1 :: .int .u8 x.2.1 :: .int .u64 x.2.2 :: cells3 d

theorem cells3_len (d : List In3) : (cells3 d).length = d.length * 3 := by
  induction d with
  | nil => rfl
  | cons x d ih => simp only [cells3, List.length_cons, ih]; omega

theorem cells3_append (d e : List In3) : cells3 (d ++ e) = cells3 d ++ cells3 e := by
  induction d with
  | nil => rfl
  | cons x d ih => simp only [cells3, List.cons_append, ih]

theorem cells3_at (d : List In3) : ∀ i, i < d.length → (cells3 d)[i * 3]? = some (.int .u8 (el d i).1) ∧ (cells3 d)[i * 3 + 1]? = some (.int .u8 (el d i).2.1) ∧ (cells3 d)[i * 3 + 2]? = some (.int .u64 (el d i).2.2) := by
  induction d with
  | nil => intro i h; simp at h
  | cons x d ih =>
    intro i h
    match i with
    | 0 => exact ⟨rfl, rfl, rfl⟩
    | i + 1 =>
      have h2 := ih i (by simp at h; omega)
      have e : (i + 1) * 3 = i * 3 + 3 := by omega
      rw [e]
      have h3 : el (x :: d) (i + 1) = el d i := by simp [el]
      rw [h3]
      simp only [cells3]
      exact h2

theorem cells3_set (d : List In3) (y : In3) : ∀ i, (((cells3 d).set (i * 3) (.int .u8 y.1)).set (i * 3 + 1) (.int .u8 y.2.1)).set (i * 3 + 2) (.int .u64 y.2.2) = cells3 (d.set i y) := by
  induction d with
  | nil => intro i; rfl
  | cons x d ih =>
    intro i
    match i with
    | 0 => rfl
    | i + 1 =>
      have e : (i + 1) * 3 = i * 3 + 3 := by omega
      rw [e]
      have h2 := ih i
      simp only [cells3, List.set_cons_succ]
      rw [← h2]

/-- Block g holds the instances d, then 'rest'. -/
def Row (w : World) (g : Nat) (d : List In3) (rest : List Value) : Prop := w.heap[g]? = some (.cells (cells3 d ++ rest).toArray 67 (0, 0))

section
variable {w w' : World} {g : Nat} {d : List In3} {rest : List Value}
theorem Row.lt (h : Row w g d rest) : g < w.heap.size := lt_of_block h
theorem Row.free (h : Row w g d rest) (j : Nat) : w.frozen? ⟨g, j, none⟩ = false := frozen_of_row w g j _ 67 h
theorem Row.of_block (h : Row w g d rest) (hb : w'.heap[g]? = w.heap[g]?) : Row w' g d rest := by unfold Row; rw [hb]; exact h
theorem Row.alloc (h : Row w g d rest) (o : Obj) : Row (w.alloc o) g d rest := h.of_block (Below.heap_alloc _ _ _ h.lt)
theorem Row.below {B : Nat} (h : Row w g d rest) (hb : Below B w w') (hB : g < B) : Row w' g d rest := h.of_block (hb.block g hB)
theorem Row.c0 (h : Row w g d rest) (i : Nat) (hi : i < d.length) : w.cell? ⟨g, i * 3, none⟩ = some (.int .u8 (el d i).1) := by
  rw [cell_of_row w g _ _ 67 (0, 0) h]
  simp only [List.getElem?_toArray]
  rw [List.getElem?_append_left (by rw [cells3_len]; omega)]
  exact (cells3_at d i hi).1
theorem Row.c1 (h : Row w g d rest) (i : Nat) (hi : i < d.length) : w.cell? ⟨g, i * 3 + 1, none⟩ = some (.int .u8 (el d i).2.1) := by
  rw [cell_of_row w g _ _ 67 (0, 0) h]
  simp only [List.getElem?_toArray]
  rw [List.getElem?_append_left (by rw [cells3_len]; omega)]
  exact (cells3_at d i hi).2.1
theorem Row.c2 (h : Row w g d rest) (i : Nat) (hi : i < d.length) : w.cell? ⟨g, i * 3 + 2, none⟩ = some (.int .u64 (el d i).2.2) := by
  rw [cell_of_row w g _ _ 67 (0, 0) h]
  simp only [List.getElem?_toArray]
  rw [List.getElem?_append_left (by rw [cells3_len]; omega)]
  exact (cells3_at d i hi).2.2

/-- Element i is written. -/
theorem Row.set (h : Row w g d rest) (i : Nat) (hi : i < d.length) (y : In3) :
    Row (((w.setCell ⟨g, i * 3, none⟩ (.int .u8 y.1)).setCell ⟨g, i * 3 + 1, none⟩ (.int .u8 y.2.1)).setCell ⟨g, i * 3 + 2, none⟩ (.int .u64 y.2.2)) g (d.set i y) rest := by
  unfold Row
  have h1 := heap_setCell_same w g (i * 3) _ 67 (.int .u8 y.1) h
  have h2 := heap_setCell_same _ g (i * 3 + 1) _ 67 (.int .u8 y.2.1) h1
  have h3 := heap_setCell_same _ g (i * 3 + 2) _ 67 (.int .u64 y.2.2) h2
  rw [h3]
  have hl := cells3_len d
  congr 2
  rw [← cells3_set]
  simp only [List.setIfInBounds_toArray]
  rw [List.set_append_left _ _ (by omega), List.set_append_left _ _ (by simp; omega), List.set_append_left _ _ (by simp; omega)]

/-- Two elements change places. -/
theorem Row.swap (h : Row w g d rest) (i j : Nat) (hi : i < d.length) (hj : j < d.length) :
    Row ((((((w.setCell ⟨g, i * 3, none⟩ (.int .u8 (el d j).1)).setCell ⟨g, i * 3 + 1, none⟩ (.int .u8 (el d j).2.1)).setCell ⟨g, i * 3 + 2, none⟩ (.int .u64 (el d j).2.2)).setCell ⟨g, j * 3, none⟩ (.int .u8 (el d i).1)).setCell ⟨g, j * 3 + 1, none⟩ (.int .u8 (el d i).2.1)).setCell ⟨g, j * 3 + 2, none⟩ (.int .u64 (el d i).2.2)) g (swp d i j) rest :=
  (h.set i hi (el d j)).set j (by simpa using hj) (el d i)

theorem set_grown (w : World) (g j : Nat) (u : Value) : w.grownBy (w.setCell ⟨g, j, none⟩ u) (some g) := ⟨rfl, rfl, rfl, by simp, fun k _ hk => heap_setCell_other _ _ k _ (by simpa using hk)⟩
theorem grown_two {a b c : World} {r : Option Nat} (h : a.grownBy b r) (k : b.grownBy c r) : a.grownBy c r :=
  ⟨k.os.trans h.os, k.tape.trans h.tape, k.output.trans h.output, Nat.le_trans h.size k.size, fun i hi hr => (k.block i (Nat.lt_of_lt_of_le hi h.size) hr).trans (h.block i hi hr)⟩
theorem grown_refl (w : World) (r : Option Nat) : w.grownBy w r := World.grownBy.refl w r
theorem grown_drew {a b : World} {r : Option Nat} (h : a.grownBy b r) : a.grownBy b.drew r := ⟨h.os, h.tape, h.output, h.size, h.block⟩
theorem grown_drewN {a b : World} {r : Option Nat} (h : a.grownBy b r) (n : Nat) : a.grownBy (b.drewN n) r := grown_two h ⟨rfl, rfl, rfl, Nat.le_refl _, fun _ _ _ => rfl⟩
theorem grown_alloc {a b : World} {r : Option Nat} (h : a.grownBy b r) (o : Obj) : a.grownBy (b.alloc o) r := grown_two h (World.grownBy_alloc b o r)
theorem swap_grown (w : World) (g i j : Nat) (a b c e f k : Value) : w.grownBy ((((((w.setCell ⟨g, i * 3, none⟩ a).setCell ⟨g, i * 3 + 1, none⟩ b).setCell ⟨g, i * 3 + 2, none⟩ c).setCell ⟨g, j * 3, none⟩ e).setCell ⟨g, j * 3 + 1, none⟩ f).setCell ⟨g, j * 3 + 2, none⟩ k) (some g) :=
  grown_two (grown_two (grown_two (grown_two (grown_two (set_grown _ _ _ _) (set_grown _ _ _ _)) (set_grown _ _ _ _)) (set_grown _ _ _ _)) (set_grown _ _ _ _)) (set_grown _ _ _ _)
theorem Row.drew (h : Row w g d rest) : Row w.drew g d rest := h
theorem Row.drewN (h : Row w g d rest) (n : Nat) : Row (w.drewN n) g d rest := h
end
end Go.Proofs.Ybulkbzfi
