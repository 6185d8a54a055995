/-
  The contract of startRound.
-/
import Derived.Test.YbulkbzegBSets
namespace Go.Proofs.Ybulkbzeg.B
open Go.RowKit

/-- The cells of an explorer. -/
def expl (width : Int) (st : Value) (count maxS : Int) (round mr : Int) (posts numbers bc sends moves targets handed : Value) : Array Value :=
  #[.int .i64 width, .int .i64 0, .int .i64 0, .nilFunc, .slice none 0 0, .slice none 0 0, .slice none 0 0, .map none, st, .int .i64 1, .int .i64 count, .slice none 0 0, .int .i64 maxS, .bool true, .int .i32 (-1), .int .i64 round,
    .int .i64 mr, posts, numbers, bc, sends, moves, targets, handed,
    .slice none 0 0, .slice none 0 0, .slice none 0 0, .slice none 0 0, .slice none 0 0, .slice none 0 0, .slice none 0 0, .slice none 0 0, .slice none 0 0, .slice none 0 0, .slice none 0 0, .slice none 0 0, .slice none 0 0]

def ExplAt (w : World) (E : Nat) (width : Int) (st : Value) (count maxS : Int) (round mr : Int) (posts numbers bc sends moves targets handed : Value) : Prop :=
  w.heap[E]? = some (.cells (expl width st count maxS round mr posts numbers bc sends moves targets handed) 76 (0, 0))

section
variable {w w' : World} {E : Nat} {width count maxS round mr : Int} {st posts numbers bc sends moves targets handed : Value}
theorem ExplAt.at_ (h : ExplAt w E width st count maxS round mr posts numbers bc sends moves targets handed) (j : Nat) : w.cell? ⟨E, j, none⟩ = (expl width st count maxS round mr posts numbers bc sends moves targets handed)[j]? := cell_of_row w E j _ 76 (0, 0) h
theorem ExplAt.free (h : ExplAt w E width st count maxS round mr posts numbers bc sends moves targets handed) (j : Nat) : w.frozen? ⟨E, j, none⟩ = false := frozen_of_row w E j _ 76 h
theorem ExplAt.lt (h : ExplAt w E width st count maxS round mr posts numbers bc sends moves targets handed) : E < w.heap.size := lt_of_block h
theorem ExplAt.of_block (h : ExplAt w E width st count maxS round mr posts numbers bc sends moves targets handed) (hb : w'.heap[E]? = w.heap[E]?) : ExplAt w' E width st count maxS round mr posts numbers bc sends moves targets handed := by unfold ExplAt; rw [hb]; exact h
theorem ExplAt.ne {S : Nat} {wi c f s : Int} {bl sl : Value} (h : ExplAt w E width st count maxS round mr posts numbers bc sends moves targets handed) (hs : SetAt w S wi c bl f sl s) : E ≠ S := by
  rintro rfl
  unfold ExplAt at h
  rw [hs] at h
  simp at h
theorem ExplAt.set15 (h : ExplAt w E width st count maxS round mr posts numbers bc sends moves targets handed) (r : Int) : ExplAt (w.setCell ⟨E, 15, none⟩ (.int .i64 r)) E width st count maxS r mr posts numbers bc sends moves targets handed := by
  unfold ExplAt; rw [heap_setCell_same w E 15 _ 76 _ h]; rfl
theorem ExplAt.set19 (h : ExplAt w E width st count maxS round mr posts numbers bc sends moves targets handed) (u : Value) : ExplAt (w.setCell ⟨E, 19, none⟩ u) E width st count maxS round mr posts numbers u sends moves targets handed := by
  unfold ExplAt; rw [heap_setCell_same w E 19 _ 76 _ h]; rfl
theorem ExplAt.set20 (h : ExplAt w E width st count maxS round mr posts numbers bc sends moves targets handed) (u : Value) : ExplAt (w.setCell ⟨E, 20, none⟩ u) E width st count maxS round mr posts numbers bc u moves targets handed := by
  unfold ExplAt; rw [heap_setCell_same w E 20 _ 76 _ h]; rfl
theorem ExplAt.set21 (h : ExplAt w E width st count maxS round mr posts numbers bc sends moves targets handed) (u : Value) : ExplAt (w.setCell ⟨E, 21, none⟩ u) E width st count maxS round mr posts numbers bc sends u targets handed := by
  unfold ExplAt; rw [heap_setCell_same w E 21 _ 76 _ h]; rfl
theorem ExplAt.set22 (h : ExplAt w E width st count maxS round mr posts numbers bc sends moves targets handed) (u : Value) : ExplAt (w.setCell ⟨E, 22, none⟩ u) E width st count maxS round mr posts numbers bc sends moves u handed := by
  unfold ExplAt; rw [heap_setCell_same w E 22 _ 76 _ h]; rfl
theorem ExplAt.set23 (h : ExplAt w E width st count maxS round mr posts numbers bc sends moves targets handed) (u : Value) : ExplAt (w.setCell ⟨E, 23, none⟩ u) E width st count maxS round mr posts numbers bc sends moves targets u := by
  unfold ExplAt; rw [heap_setCell_same w E 23 _ 76 _ h]; rfl
theorem ExplAt.set16 (h : ExplAt w E width st count maxS round mr posts numbers bc sends moves targets handed) (r : Int) : ExplAt (w.setCell ⟨E, 16, none⟩ (.int .i64 r)) E width st count maxS round r posts numbers bc sends moves targets handed := by
  unfold ExplAt; rw [heap_setCell_same w E 16 _ 76 _ h]; rfl
theorem ExplAt.set17 (h : ExplAt w E width st count maxS round mr posts numbers bc sends moves targets handed) (u : Value) : ExplAt (w.setCell ⟨E, 17, none⟩ u) E width st count maxS round mr u numbers bc sends moves targets handed := by
  unfold ExplAt; rw [heap_setCell_same w E 17 _ 76 _ h]; rfl
theorem ExplAt.set18 (h : ExplAt w E width st count maxS round mr posts numbers bc sends moves targets handed) (u : Value) : ExplAt (w.setCell ⟨E, 18, none⟩ u) E width st count maxS round mr posts u bc sends moves targets handed := by
  unfold ExplAt; rw [heap_setCell_same w E 18 _ 76 _ h]; rfl
end

/-- Block S is a tuple set whose table, block N, is sixteen zeros. -/
def SetFull (w : World) (S N : Nat) (wi c : Int) : Prop := SetAt w S wi c (.slice none 0 0) c (.slice (some ⟨N, 0, none⟩) 16 16) 60 ∧ w.heap[N]? = some (.cells zeros16 21 (0, 0))

section
variable {w w' : World} {S N E : Nat} {wi c : Int} {width count maxS round mr : Int} {st posts numbers bc sends moves targets handed : Value}
theorem SetFull.move (h : SetFull w S N wi c) (hS : w'.heap[S]? = w.heap[S]?) (hN : w'.heap[N]? = w.heap[N]?) : SetFull w' S N wi c := ⟨h.1.of_block hS, by rw [hN]; exact h.2⟩
theorem SetFull.ltS (h : SetFull w S N wi c) : S < w.heap.size := h.1.lt
theorem SetFull.ltN (h : SetFull w S N wi c) : N < w.heap.size := lt_of_block h.2
theorem SetFull.neS (h : SetFull w S N wi c) (hE : ExplAt w E width st count maxS round mr posts numbers bc sends moves targets handed) : S ≠ E := Ne.symm (hE.ne h.1)
theorem SetFull.neN (h : SetFull w S N wi c) (hE : ExplAt w E width st count maxS round mr posts numbers bc sends moves targets handed) : N ≠ E := by
  rintro rfl
  unfold ExplAt at hE
  rw [h.2] at hE
  simp at hE
theorem SetFull.set (h : SetFull w S N wi c) (hE : ExplAt w E width st count maxS round mr posts numbers bc sends moves targets handed) (j : Nat) (u : Value) : SetFull (w.setCell ⟨E, j, none⟩ u) S N wi c :=
  h.move (heap_setCell_other _ _ S _ (h.neS hE)) (heap_setCell_other _ _ N _ (h.neN hE))
theorem SetFull.alloc (h : SetFull w S N wi c) (o : Obj) : SetFull (w.alloc o) S N wi c := h.move (Below.heap_alloc _ _ _ h.ltS) (Below.heap_alloc _ _ _ h.ltN)
theorem SetFull.below (h : SetFull w S N wi c) (hb : Below w.heap.size w w') : SetFull w' S N wi c := h.move (hb.block S h.ltS) (hb.block N h.ltN)
theorem ExplAt.alloc (h : ExplAt w E width st count maxS round mr posts numbers bc sends moves targets handed) (o : Obj) : ExplAt (w.alloc o) E width st count maxS round mr posts numbers bc sends moves targets handed := h.of_block (Below.heap_alloc _ _ _ h.lt)
theorem ExplAt.below (h : ExplAt w E width st count maxS round mr posts numbers bc sends moves targets handed) (hb : Below w.heap.size w w') : ExplAt w' E width st count maxS round mr posts numbers bc sends moves targets handed := h.of_block (hb.block E h.lt)
end

/-- Nothing that was there has turned but blocks E and T. -/
structure K2 (E T : Nat) (w w' : World) : Prop where
  os : w'.os = w.os
  tape : w'.tape = w.tape
  output : w'.output = w.output
  size : w.heap.size ≤ w'.heap.size
  block : ∀ k, k < w.heap.size → k ≠ E → k ≠ T → w'.heap[k]? = w.heap[k]?

section
variable {E T B : Nat} {a b c w : World}
theorem K2.refl (E T : Nat) (w : World) : K2 E T w w := ⟨rfl, rfl, rfl, Nat.le_refl _, fun _ _ _ _ => rfl⟩
theorem K2.trans (h : K2 E T a b) (k : K2 E T b c) : K2 E T a c :=
  ⟨k.os.trans h.os, k.tape.trans h.tape, k.output.trans h.output, Nat.le_trans h.size k.size, fun i hi h1 h2 => (k.block i (Nat.lt_of_lt_of_le hi h.size) h1 h2).trans (h.block i hi h1 h2)⟩
theorem K2.setCell (h : K2 E T a b) (j : Nat) (u : Value) : K2 E T a (b.setCell ⟨E, j, none⟩ u) :=
  h.trans ⟨rfl, rfl, rfl, by simp, fun k _ h1 _ => heap_setCell_other _ _ k _ h1⟩
theorem K2.grown (h : K2 E T a b) (hg : b.grownBy c (some T)) : K2 E T a c :=
  h.trans ⟨hg.os, hg.tape, hg.output, hg.size, fun k hk _ h2 => hg.block k hk (by simpa using h2)⟩
theorem K2.below (h : K2 E T a b) (hb : Below b.heap.size b c) : K2 E T a c :=
  h.trans ⟨hb.os, hb.tape, hb.output, hb.size, fun k hk _ _ => hb.block k hk⟩
theorem K2.alloc (h : K2 E T a b) (o : Obj) : K2 E T a (b.alloc o) := h.below ((Below.refl _ _).alloc (Nat.le_refl _) o)
theorem K2.toBelow (h : K2 E T a b) (hB : B ≤ a.heap.size) (hE : B ≤ E) (hT : B ≤ T) : Below B a b := ⟨h.os, h.tape, h.output, h.size, fun k hk => h.block k (by omega) (by omega) (by omega)⟩
end

theorem maps_new (w : World) : ((w.alloc (.map #[] 0)).alloc (.map #[] 0)).heap[w.heap.size]? = some (.map #[] 0) ∧ ((w.alloc (.map #[] 0)).alloc (.map #[] 0)).heap[w.heap.size + 1]? = some (.map #[] 0) :=
  ⟨heap_alloc2_old w _ _, heap_alloc2_new w _ _⟩

set_option maxHeartbeats 1600000 in
set_option maxRecDepth 100000 in
theorem start_any (E T : Nat) (width count maxS r0 mr round wi c f sh : Int) (posts numbers bc sends moves targets handed sl : Value) (w : World)
    (hE : ExplAt w E width (.pointer (some ⟨T, 0, none⟩)) count maxS r0 mr posts numbers bc sends moves targets handed) (hT : SetAt w T wi c (.slice none 0 0) f sl sh) :
    Calls Yba.prog 9 #[.pointer (some ⟨E, 0, none⟩), .int .i64 round] w fun e w' => e = .returned (.tuple #[]) ∧ ∃ N S1 N1 S2 N2 m1 m2,
      ExplAt w' E width (.pointer (some ⟨T, 0, none⟩)) count maxS round 0 (.slice none 0 0) (.map none) (.pointer (some ⟨S1, 0, none⟩)) (.slice none 0 0) (.map (some m1)) (.map (some m2)) (.pointer (some ⟨S2, 0, none⟩)) ∧
      SetFull w' T N wi c ∧ SetFull w' S1 N1 width 0 ∧ SetFull w' S2 N2 width 0 ∧ w'.heap[m1]? = some (.map #[] 0) ∧ w'.heap[m2]? = some (.map #[] 0) ∧
      w.heap.size ≤ S1 ∧ S1 < S2 ∧ K2 E T w w' := by
  have hne := hE.ne hT
  have hlE := hE.lt
  have c0 : w.cell? ⟨E, 0, none⟩ = some (.int .i64 width) := hE.at_ 0
  have c8 : w.cell? ⟨E, 8, none⟩ = some (.pointer (some ⟨T, 0, none⟩)) := hE.at_ 8
  have c15 : w.cell? ⟨E, 15, none⟩ = some (.int .i64 r0) := hE.at_ 15
  have f15 := hE.free 15
  have hmm := @run_makeMap Yba.prog
  go_enter Yba.func9, Yba.ntmps9
  go_wp2_with fail
  have hE1 := hE.set15 round
  have hT1 : SetAt (w.setCell ⟨E, 15, none⟩ (.int .i64 round)) T wi c (.slice none 0 0) f sl sh := hT.of_block (heap_setCell_other _ _ T _ (Ne.symm hne))
  refine (forget_any T wi c f sh (.slice none 0 0) sl _ hT1).mono ?_
  rintro e w2 ⟨rfl, t1, t2, t3, t4⟩
  have hE2 := hide (hE1.of_block (t3.block E hE1.lt (by simpa using hne)))
  have hT2 : Hid (SetFull w2 T _ wi c) := hide (And.intro t1 t2)
  have hb2 : Hid (K2 E T w w2) := hide (((K2.refl E T w).setCell 15 (.int .i64 round)).grown t3)
  have hsz2 : w2.heap.size = w.heap.size + 1 := by simpa using t4
  have d16 : w2.cell? ⟨E, 16, none⟩ = some (.int .i64 mr) := (unhide hE2).at_ 16
  have d17 : w2.cell? ⟨E, 17, none⟩ = some posts := (unhide hE2).at_ 17
  have d18 : w2.cell? ⟨E, 18, none⟩ = some numbers := (unhide hE2).at_ 18
  have g16 := (unhide hE2).free 16
  have g17 := (unhide hE2).free 17
  have g18 := (unhide hE2).free 18
  have hS2 := hide hsz2
  clear t1 t2 t3 t4 hE1 hT1 c0 c8 c15 f15 hE hT hsz2
  go_wp2_with fail
  refine (new_any width _).mono ?_
  rintro e w4 ⟨rfl, s1, s2, s3, s4⟩
  have hE3 := (((unhide hE2).set16 0).set17 (.slice none 0 0)).set18 (.map none)
  have hT3 := (((unhide hT2).set (unhide hE2) 16 (.int .i64 0)).set ((unhide hE2).set16 0) 17 (.slice none 0 0)).set (((unhide hE2).set16 0).set17 (.slice none 0 0)) 18 (.map none)
  have hb3 := (((unhide hb2).setCell 16 (.int .i64 0)).setCell 17 (.slice none 0 0)).setCell 18 (.map none)
  have hz3 : (((w2.setCell ⟨E, 16, none⟩ (.int .i64 0)).setCell ⟨E, 17, none⟩ (.slice none 0 0)).setCell ⟨E, 18, none⟩ (.map none)).heap.size = w2.heap.size := by simp
  have hE4 := hide (hE3.below s3)
  have hT4 := hide (hT3.below s3)
  rw [hz3] at s1 s2 s4
  have hS4 : Hid (SetFull w4 w2.heap.size (w2.heap.size + 1) width 0) := hide ⟨s1, s2⟩
  have hb4 := hide (hb3.below s3)
  have hz4 := hide s4
  clear s1 s2 s3 s4 hE3 hT3 hb3 hz3 hE2 hT2 hb2 d16 d17 d18 g16 g17 g18
  have d19 : w4.cell? ⟨E, 19, none⟩ = some bc := (unhide hE4).at_ 19
  have d20 : w4.cell? ⟨E, 20, none⟩ = some sends := (unhide hE4).at_ 20
  have d21 : w4.cell? ⟨E, 21, none⟩ = some moves := (unhide hE4).at_ 21
  have d22 : w4.cell? ⟨E, 22, none⟩ = some targets := (unhide hE4).at_ 22
  have g19 := (unhide hE4).free 19
  have g20 := (unhide hE4).free 20
  have g21 := (unhide hE4).free 21
  have g22 := (unhide hE4).free 22
  have hl4 := (unhide hE4).lt
  go_wp2_with fail
  refine (new_any width _).mono ?_
  rintro e w6 ⟨rfl, s1, s2, s3, s4⟩
  have q1 := (unhide hE4).set19 (.pointer (some ⟨w2.heap.size, 0, none⟩))
  have q2 := q1.set20 (.slice none 0 0)
  have q3 := q2.set21 (.map (some w4.heap.size))
  have q4 := q3.set22 (.map (some (w4.heap.size + 1)))
  have hE5 := (q4.alloc (.map #[] 0)).alloc (.map #[] 0)
  have hT5 := ((((((unhide hT4).set (unhide hE4) 19 (.pointer (some ⟨w2.heap.size, 0, none⟩))).set q1 20 (.slice none 0 0)).set q2 21 (.map (some w4.heap.size))).set q3 22 (.map (some (w4.heap.size + 1)))).alloc (.map #[] 0)).alloc (.map #[] 0)
  have hS5 := ((((((unhide hS4).set (unhide hE4) 19 (.pointer (some ⟨w2.heap.size, 0, none⟩))).set q1 20 (.slice none 0 0)).set q2 21 (.map (some w4.heap.size))).set q3 22 (.map (some (w4.heap.size + 1)))).alloc (.map #[] 0)).alloc (.map #[] 0)
  have hb5 := ((((((unhide hb4).setCell 19 (.pointer (some ⟨w2.heap.size, 0, none⟩))).setCell 20 (.slice none 0 0)).setCell 21 (.map (some w4.heap.size))).setCell 22 (.map (some (w4.heap.size + 1)))).alloc (.map #[] 0)).alloc (.map #[] 0)
  have hM := maps_new ((((w4.setCell ⟨E, 19, none⟩ (.pointer (some ⟨w2.heap.size, 0, none⟩))).setCell ⟨E, 20, none⟩ (.slice none 0 0)).setCell ⟨E, 21, none⟩ (.map (some w4.heap.size))).setCell ⟨E, 22, none⟩ (.map (some (w4.heap.size + 1))))
  have hz0 : ((((w4.setCell ⟨E, 19, none⟩ (.pointer (some ⟨w2.heap.size, 0, none⟩))).setCell ⟨E, 20, none⟩ (.slice none 0 0)).setCell ⟨E, 21, none⟩ (.map (some w4.heap.size))).setCell ⟨E, 22, none⟩ (.map (some (w4.heap.size + 1)))).heap.size = w4.heap.size := by simp
  have hz5 : ((((((w4.setCell ⟨E, 19, none⟩ (.pointer (some ⟨w2.heap.size, 0, none⟩))).setCell ⟨E, 20, none⟩ (.slice none 0 0)).setCell ⟨E, 21, none⟩ (.map (some w4.heap.size))).setCell ⟨E, 22, none⟩ (.map (some (w4.heap.size + 1)))).alloc (.map #[] 0)).alloc (.map #[] 0)).heap.size = w4.heap.size + 2 := by simp
  rw [hz0] at hM
  have hE6 := hide (hE5.below s3)
  have hT6 := hide (hT5.below s3)
  have hS6 := hide (hS5.below s3)
  have hm1 : w6.heap[w4.heap.size]? = some (.map #[] 0) := (s3.block _ (by rw [hz5]; omega)).trans hM.1
  have hm2 : w6.heap[w4.heap.size + 1]? = some (.map #[] 0) := (s3.block _ (by rw [hz5]; omega)).trans hM.2
  have hb6 := hide (hb5.below s3)
  rw [hz5] at s1 s2 s4
  have hS7 : Hid (SetFull w6 (w4.heap.size + 2) (w4.heap.size + 2 + 1) width 0) := hide ⟨s1, s2⟩
  have hH1 := hide hm1
  have hH2 := hide hm2
  have d23 : w6.cell? ⟨E, 23, none⟩ = some handed := (unhide hE6).at_ 23
  have g23 := (unhide hE6).free 23
  have hmE : w4.heap.size ≠ E := by omega
  have hmE2 : w4.heap.size + 1 ≠ E := by omega
  clear s1 s2 s3 s4 q1 q2 q3 q4 hE5 hT5 hS5 hb5 hM hz0 hz5 hm1 hm2 d19 d20 d21 d22 g19 g20 g21 g22 hE4 hT4 hS4 hb4
  go_wp2
  go_end0
  refine ⟨rfl, _, _, _, _, _, _, _, (unhide hE6).set23 _, (unhide hT6).set (unhide hE6) 23 _, (unhide hS6).set (unhide hE6) 23 _, (unhide hS7).set (unhide hE6) 23 _, ?_, ?_, ?_, ?_, (unhide hb6).setCell 23 _⟩
  · rw [heap_setCell_other _ _ _ _ hmE]; exact unhide hH1
  · rw [heap_setCell_other _ _ _ _ hmE2]; exact unhide hH2
  · have := unhide hS2; omega
  · have := unhide hz4; omega
end Go.Proofs.Ybulkbzeg.B
