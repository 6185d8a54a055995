/-
  The contracts of (*fields).fixed and (*fields).end.
-/
import Derived.Test.YbulkbzgyRows
import Derived.WalkKit
import Derived.WalkSpells
import Derived.WalkSmall
import Derived.WalkLawsBesides
import Derived.StillTactics
import Derived.RegionTactic
import Derived.Laws.Pointers
import Derived.Laws.CopyOwn
import Derived.Deep.QuietTactic
import Derived.BigQuiet
import Derived.LaidEql
namespace Go.Proofs.Ybulkbzgy
open Go.RowKit

theorem hide {p : Prop} (h : p) : Hid p := h
theorem unhide {p : Prop} (h : Hid p) : p := h
theorem add_block (a : Addr) (j : Nat) : (a.add j).block = a.block := by unfold Addr.add; split <;> rfl

/-- Block F is a 'fields'. -/
def FAt (w : World) (F : Nat) (b : Value) (bad : Bool) : Prop := w.heap[F]? = some (.cells #[b, .bool bad] 25 (0, 0))

section
variable {w w' : World} {F : Nat} {b : Value} {bad : Bool}
theorem FAt.c0 (h : FAt w F b bad) : w.cell? ⟨F, 0, none⟩ = some b := by rw [cell_of_row w F 0 _ 25 (0, 0) h]; rfl
theorem FAt.c1 (h : FAt w F b bad) : w.cell? ⟨F, 1, none⟩ = some (.bool bad) := by rw [cell_of_row w F 1 _ 25 (0, 0) h]; rfl
theorem FAt.free (h : FAt w F b bad) (j : Nat) : w.frozen? ⟨F, j, none⟩ = false := frozen_of_row w F j _ 25 h
theorem FAt.lt (h : FAt w F b bad) : F < w.heap.size := lt_of_block h
theorem FAt.set0 (h : FAt w F b bad) (u : Value) : FAt (w.setCell ⟨F, 0, none⟩ u) F u bad := by unfold FAt; rw [heap_setCell_same w F 0 _ 25 _ h]; rfl
theorem FAt.set1 (h : FAt w F b bad) (u : Bool) : FAt (w.setCell ⟨F, 1, none⟩ (.bool u)) F b u := by unfold FAt; rw [heap_setCell_same w F 1 _ 25 _ h]; rfl
theorem FAt.of_block (h : FAt w F b bad) (hb : w'.heap[F]? = w.heap[F]?) : FAt w' F b bad := by unfold FAt; rw [hb]; exact h
end

set_option maxHeartbeats 400000 in
set_option maxRecDepth 100000 in
theorem fixed_short (F len cap : Nat) (a : Option Addr) (k : Nat) (bad : Bool) (w : World) (h : FAt w F (.slice a len cap) bad) (hk : len < k) :
    Calls Yba.prog 5 #[.pointer (some ⟨F, 0, none⟩), .int .i64 k] w fun e w' => e = .returned (.slice none 0 0) ∧ w' = (w.setCell ⟨F, 1, none⟩ (.bool true)).setCell ⟨F, 0, none⟩ (.slice none 0 0) := by
  have c0 := h.c0
  have c1 := h.c1
  have f0 := h.free 0
  have f1 := h.free 1
  clear h
  go_enter Yba.func5, Yba.ntmps5
  go_wp2
  go_ret
  exact ⟨rfl, rfl⟩

/-- Where the rest begins: at the end of the row the slice keeps its head. -/
def nx (off k len : Nat) : Nat := if len = k then off else off + k

set_option maxHeartbeats 400000 in
set_option maxRecDepth 100000 in
theorem fixed_ok (F len g off : Nat) (k : Nat) (bad : Bool) (w : World) (h : FAt w F (.slice (some ⟨g, off, none⟩) len len) bad) (hk : k ≤ len) :
    Calls Yba.prog 5 #[.pointer (some ⟨F, 0, none⟩), .int .i64 k] w fun e w' => e = .returned (.slice (some ⟨g, off, none⟩) k k) ∧
      w' = w.setCell ⟨F, 0, none⟩ (.slice (some ⟨g, nx off k len, none⟩) (len - k) (len - k)) := by
  unfold nx
  by_cases he : len = k
  · subst he
    have c0 := h.c0
    have c1 := h.c1
    have f0 := h.free 0
    clear h
    go_enter Yba.func5, Yba.ntmps5
    go_wp2
    go_ret
    exact ⟨rfl, by simp⟩
  · have c0 := h.c0
    have c1 := h.c1
    have f0 := h.free 0
    clear h
    rw [if_neg he]
    go_enter Yba.func5, Yba.ntmps5
    go_wp2
    go_ret
    exact ⟨rfl, rfl⟩

set_option maxHeartbeats 400000 in
set_option maxRecDepth 100000 in
theorem fixed_nil (F : Nat) (bad : Bool) (w : World) (h : FAt w F (.slice none 0 0) bad) :
    Calls Yba.prog 5 #[.pointer (some ⟨F, 0, none⟩), .int .i64 0] w fun e w' => e = .returned (.slice none 0 0) ∧ w' = w.setCell ⟨F, 0, none⟩ (.slice none 0 0) := by
  have c0 := h.c0
  have c1 := h.c1
  have f0 := h.free 0
  clear h
  go_enter Yba.func5, Yba.ntmps5
  go_wp2
  go_ret
  exact ⟨rfl, rfl⟩

set_option maxHeartbeats 400000 in
set_option maxRecDepth 100000 in
theorem end_ok (F cap : Nat) (a : Option Addr) (w : World) (h : FAt w F (.slice a 0 cap) false) :
    Calls Yba.prog 6 #[.pointer (some ⟨F, 0, none⟩)] w fun e w' => e = .returned .nilIface ∧ w' = w := by
  have c0 := h.c0
  have c1 := h.c1
  clear h
  go_enter Yba.func6, Yba.ntmps6
  go_wp2
  go_ret
  exact ⟨rfl, rfl⟩

set_option maxHeartbeats 400000 in
set_option maxRecDepth 100000 in
theorem end_bad (F len cap : Nat) (a : Option Addr) (w : World) (h : FAt w F (.slice a len cap) true) :
    Calls Yba.prog 6 #[.pointer (some ⟨F, 0, none⟩)] w fun e w' => ∃ T v, e = .returned (.iface T v) ∧ Below w.heap.size w w' := by
  have c0 := h.c0
  have c1 := h.c1
  clear h
  go_enter Yba.func6, Yba.ntmps6
  go_wp2
  go_ret
  exact ⟨_, _, rfl, (Below.refl _ _).alloc (Nat.le_refl _) _⟩

set_option maxHeartbeats 400000 in
set_option maxRecDepth 100000 in
theorem end_left (F len cap : Nat) (a : Option Addr) (w : World) (h : FAt w F (.slice a len cap) false) (hl : 0 < len) :
    Calls Yba.prog 6 #[.pointer (some ⟨F, 0, none⟩)] w fun e w' => ∃ T v, e = .returned (.iface T v) ∧ Below w.heap.size w w' := by
  have c0 := h.c0
  have c1 := h.c1
  have t1 : decide (0 < len) = true := decide_eq_true hl
  clear h
  go_enter Yba.func6, Yba.ntmps6
  go_wp2
  go_ret
  exact ⟨_, _, rfl, (Below.refl _ _).alloc (Nat.le_refl _) _⟩
end Go.Proofs.Ybulkbzgy
