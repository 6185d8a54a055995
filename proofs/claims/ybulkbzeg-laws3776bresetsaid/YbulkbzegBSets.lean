/-
  The contracts of forget, newTupleSet and zzs3776bfresh.
-/
import Derived.Test.YbulkbzegRows
import Derived.WalkKit
import Derived.WalkSpells
import Derived.WalkSmall
import Derived.WalkLawsBesides
import Derived.StillTactics
import Derived.RegionTactic
import Derived.Laws.Pointers
namespace Go.Proofs.Ybulkbzeg.B
open Go.RowKit

theorem hide {p : Prop} (h : p) : Hid p := h
theorem unhide {p : Prop} (h : Hid p) : p := h

/-- The cells of a tuple set. -/
def tset (width count : Int) (bl : Value) (from_ : Int) (slots : Value) (shift : Int) : Array Value :=
  #[.int .i64 width, .int .i64 count, bl, .int .i64 from_, slots, .int .u64 shift]

def zeros16 : Array Value := #[.int .i32 0, .int .i32 0, .int .i32 0, .int .i32 0, .int .i32 0, .int .i32 0, .int .i32 0, .int .i32 0, .int .i32 0, .int .i32 0, .int .i32 0, .int .i32 0, .int .i32 0, .int .i32 0, .int .i32 0, .int .i32 0]

/-- Block S is a tuple set. -/
def SetAt (w : World) (S : Nat) (width count : Int) (bl : Value) (from_ : Int) (slots : Value) (shift : Int) : Prop := w.heap[S]? = some (.cells (tset width count bl from_ slots shift) 44 (0, 0))

section
variable {w : World} {S : Nat} {width count from_ shift : Int} {bl slots : Value}
theorem SetAt.c0 (h : SetAt w S width count bl from_ slots shift) : w.cell? ⟨S, 0, none⟩ = some (.int .i64 width) := by rw [cell_of_row w S 0 _ 44 (0, 0) h]; rfl
theorem SetAt.c1 (h : SetAt w S width count bl from_ slots shift) : w.cell? ⟨S, 1, none⟩ = some (.int .i64 count) := by rw [cell_of_row w S 1 _ 44 (0, 0) h]; rfl
theorem SetAt.c2 (h : SetAt w S width count bl from_ slots shift) : w.cell? ⟨S, 2, none⟩ = some bl := by rw [cell_of_row w S 2 _ 44 (0, 0) h]; rfl
theorem SetAt.c3 (h : SetAt w S width count bl from_ slots shift) : w.cell? ⟨S, 3, none⟩ = some (.int .i64 from_) := by rw [cell_of_row w S 3 _ 44 (0, 0) h]; rfl
theorem SetAt.c4 (h : SetAt w S width count bl from_ slots shift) : w.cell? ⟨S, 4, none⟩ = some slots := by rw [cell_of_row w S 4 _ 44 (0, 0) h]; rfl
theorem SetAt.c5 (h : SetAt w S width count bl from_ slots shift) : w.cell? ⟨S, 5, none⟩ = some (.int .u64 shift) := by rw [cell_of_row w S 5 _ 44 (0, 0) h]; rfl
theorem SetAt.free (h : SetAt w S width count bl from_ slots shift) (j : Nat) : w.frozen? ⟨S, j, none⟩ = false := frozen_of_row w S j _ 44 h
theorem SetAt.lt (h : SetAt w S width count bl from_ slots shift) : S < w.heap.size := lt_of_block h
theorem SetAt.of_block {w' : World} (h : SetAt w S width count bl from_ slots shift) (hb : w'.heap[S]? = w.heap[S]?) : SetAt w' S width count bl from_ slots shift := by unfold SetAt; rw [hb]; exact h
end

/-- What 'forget' leaves. -/
theorem forgot {w : World} {S : Nat} {width count from_ shift : Int} {bl slots : Value} (h : SetAt w S width count bl from_ slots shift) (w' : World)
    (hw : w' = ((((w.setCell ⟨S, 3, none⟩ (.int .i64 count)).setCell ⟨S, 4, none⟩ (.slice (some ⟨w.heap.size, 0, none⟩) 16 16)).setCell ⟨S, 5, none⟩ (.int .u64 60)).alloc (.cells zeros16 21))) :
    SetAt w' S width count bl count (.slice (some ⟨w.heap.size, 0, none⟩) 16 16) 60 ∧ w'.heap[w.heap.size]? = some (.cells zeros16 21 (0, 0)) ∧ w.grownBy w' (some S) ∧ w'.heap.size = w.heap.size + 1 := by
  subst hw
  have h1 := heap_setCell_same w S 3 _ 44 (.int .i64 count) h
  have h2 := heap_setCell_same _ S 4 _ 44 (.slice (some ⟨w.heap.size, 0, none⟩) 16 16) h1
  have h3 := heap_setCell_same _ S 5 _ 44 (.int .u64 60) h2
  have hlt := h.lt
  refine ⟨?_, ?_, ⟨rfl, rfl, rfl, by simp, ?_⟩, by simp⟩
  · unfold SetAt
    rw [Below.heap_alloc _ _ _ (by simpa using hlt), h3]
    rfl
  · have := heap_alloc_new (((w.setCell ⟨S, 3, none⟩ (.int .i64 count)).setCell ⟨S, 4, none⟩ (.slice (some ⟨w.heap.size, 0, none⟩) 16 16)).setCell ⟨S, 5, none⟩ (.int .u64 60)) (.cells zeros16 21)
    simpa using this
  · intro k hk hne
    have hne' : k ≠ S := fun e => hne (by rw [e])
    rw [Below.heap_alloc _ _ _ (by simpa using hk), heap_setCell_other _ _ k _ hne', heap_setCell_other _ _ k _ hne', heap_setCell_other _ _ k _ hne']

set_option maxHeartbeats 400000 in
set_option maxRecDepth 100000 in
theorem forget_any (S : Nat) (width count from_ shift : Int) (bl slots : Value) (w : World) (h : SetAt w S width count bl from_ slots shift) :
    Calls Yba.prog 17 #[.pointer (some ⟨S, 0, none⟩)] w fun e w' => e = .returned (.tuple #[]) ∧
      SetAt w' S width count bl count (.slice (some ⟨w.heap.size, 0, none⟩) 16 16) 60 ∧ w'.heap[w.heap.size]? = some (.cells zeros16 21 (0, 0)) ∧ w.grownBy w' (some S) ∧ w'.heap.size = w.heap.size + 1 := by
  have c1 := h.c1
  have c3 := h.c3
  have c4 := h.c4
  have c5 := h.c5
  have f3 := h.free 3
  have f4 := h.free 4
  have f5 := h.free 5
  have hlt := h.lt
  have hF := hide (forgot h)
  have hmk : ∀ w, (Instr.makeSlice 41 (.int .i64 16) (.int .i64 16)).run Yba.prog w = .ok (.slice (some ⟨w.heap.size, 0, none⟩) 16 16) (w.alloc (.cells zeros16 21)) := fun _ => by kernel_rfl
  clear h
  go_enter Yba.func17, Yba.ntmps17
  go_wp2
  go_end0
  exact ⟨rfl, unhide hF _ rfl⟩

set_option maxHeartbeats 400000 in
set_option maxRecDepth 100000 in
theorem new_any (width : Int) (w : World) :
    Calls Yba.prog 8 #[.int .i64 width] w fun e w' => e = .returned (.pointer (some ⟨w.heap.size, 0, none⟩)) ∧
      SetAt w' w.heap.size width 0 (.slice none 0 0) 0 (.slice (some ⟨w.heap.size + 1, 0, none⟩) 16 16) 60 ∧ w'.heap[w.heap.size + 1]? = some (.cells zeros16 21 (0, 0)) ∧ Below w.heap.size w w' ∧ w'.heap.size = w.heap.size + 2 := by
  have h0 : SetAt (w.alloc (.cells (tset width 0 (.slice none 0 0) 0 (.slice none 0 0) 0) 44)) w.heap.size width 0 (.slice none 0 0) 0 (.slice none 0 0) 0 := heap_alloc_new _ _
  go_enter Yba.func8, Yba.ntmps8
  go_wp2_with fail
  refine (forget_any w.heap.size width 0 0 0 (.slice none 0 0) (.slice none 0 0) _ h0).mono ?_
  rintro e w' ⟨rfl, h1, h2, h3, h4⟩
  have H : Hid (SetAt w' w.heap.size width 0 (.slice none 0 0) 0 (.slice (some ⟨w.heap.size + 1, 0, none⟩) 16 16) 60 ∧ w'.heap[w.heap.size + 1]? = some (.cells zeros16 21 (0, 0)) ∧ Below w.heap.size w w' ∧ w'.heap.size = w.heap.size + 2) := by
    have e1 : (w.alloc (.cells (tset width 0 (.slice none 0 0) 0 (.slice none 0 0) 0) 44)).heap.size = w.heap.size + 1 := by simp
    rw [e1] at h1 h2 h4
    exact ⟨h1, h2, ((Below.refl _ _).alloc (Nat.le_refl _) _).grown h3 (by rw [e1]; omega) (fun k hk => by cases hk; exact Nat.le_refl _), h4⟩
  clear h0 h1 h2 h3 h4
  go_wp2
  go_ret
  exact ⟨rfl, unhide H⟩

theorem zeros_at (k : Nat) (h : k < 16) : zeros16[k]? = some (.int .i32 0) := by
  match k, h with
  | 0, _ | 1, _ | 2, _ | 3, _ | 4, _ | 5, _ | 6, _ | 7, _ | 8, _ | 9, _ | 10, _ | 11, _ | 12, _ | 13, _ | 14, _ | 15, _ => rfl
  | _ + 16, h => exact absurd h (by omega)

set_option maxHeartbeats 400000 in
set_option maxRecDepth 100000 in
theorem fresh_any (S N : Nat) (width : Int) (w : World) (h : SetAt w S width 0 (.slice none 0 0) 0 (.slice (some ⟨N, 0, none⟩) 16 16) 60) (hN : w.heap[N]? = some (.cells zeros16 21 (0, 0))) :
    Calls Yba.prog 10 #[.pointer (some ⟨S, 0, none⟩), .int .i64 width] w fun e w' => e = .returned (.bool true) ∧ w' = w := by
  have c0 := h.c0
  have c1 := h.c1
  have c2 := h.c2
  have c3 := h.c3
  have c4 := h.c4
  have c5 := h.c5
  have hz : Hid (∀ k, k < 16 → w.cell? ⟨N, k, none⟩ = some (.int .i32 0)) := hide (fun k hk => by rw [cell_of_row w N k _ 21 (0, 0) hN]; exact zeros_at k hk)
  have hnil := fun (w : World) (a : Option Addr) (n c : Nat) => run_neq_slice_nil_any (P := Yba.prog) w 38 41 a n c 0 0 Yba.underlying38
  clear h hN
  go_enter Yba.func10, Yba.ntmps10
  go_wp2_with fail
  go_loop [5] (fun i => ∃ k : Nat, k ≤ 16 ∧ i = .int .i64 k) (fun i => 16 - (intOf i).toNat)
  case atStart => exact ⟨0, Nat.zero_le _, rfl⟩
  case round =>
    obtain ⟨k, hk, rfl⟩ := hrel
    by_cases hlt : k < 16
    · have q := unhide hz k hlt
      clear hz
      go_wp2
      go_round
      case rel => exact ⟨k + 1, by omega, by go_num⟩
      case measure => simp [intOf]; omega
    · go_wp2
      go_ret
      exact ⟨rfl, rfl⟩
end Go.Proofs.Ybulkbzeg.B
