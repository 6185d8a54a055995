import Derived.Test.YbulkbzegRows
import Derived.WalkKit
import Derived.WalkSpells
import Derived.StillTactics
import Derived.RegionTactic
import Derived.Outline
namespace Go.Proofs.Ybulkbzeg
open Go.RowKit

theorem Yba.info3 : (Yba.prog.info? 3).map (fun i => (i.zero, i.size, i.bytes)) = some (some (.int .i64 0), 1, 8) := by kernel_rfl

theorem hide {p : Prop} (h : p) : Hid p := h
theorem unhide {p : Prop} (h : Hid p) : p := h
theorem add_block (a : Addr) (j : Nat) : (a.add j).block = a.block := by unfold Addr.add; split <;> rfl

/-- The cells of a tally. -/
def tal (r : Int) (v : Value) (s1 s2 e1 e2 : Int) : Array Value :=
  #[.nilIface, .nilIface, .slice none 0 0, .int .i64 r, v, .int .i64 s1, .int .i64 s2, .int .i64 e1, .int .i64 e2]

/-- Block T is a tally; it lies from B on. -/
structure IsTally (w : World) (B T : Nat) (r : Int) (v : Value) (s1 s2 e1 e2 : Int) : Prop where
  lo : B ≤ T
  blk : w.heap[T]? = some (.cells (tal r v s1 s2 e1 e2) 32 (0, 0))

section
variable {w w1 : World} {B T g n cap : Nat} {r s1 s2 e1 e2 : Int} {v : Value} {xs : List Value}

theorem IsTally.c3 (h : IsTally w B T r v s1 s2 e1 e2) : w.cell? ⟨T, 3, none⟩ = some (.int .i64 r) := by rw [cell_of_row w T 3 _ 32 (0, 0) h.blk]; rfl
theorem IsTally.c4 (h : IsTally w B T r v s1 s2 e1 e2) : w.cell? ⟨T, 4, none⟩ = some v := by rw [cell_of_row w T 4 _ 32 (0, 0) h.blk]; rfl
theorem IsTally.c5 (h : IsTally w B T r v s1 s2 e1 e2) : w.cell? ⟨T, 5, none⟩ = some (.int .i64 s1) := by rw [cell_of_row w T 5 _ 32 (0, 0) h.blk]; rfl
theorem IsTally.c6 (h : IsTally w B T r v s1 s2 e1 e2) : w.cell? ⟨T, 6, none⟩ = some (.int .i64 s2) := by rw [cell_of_row w T 6 _ 32 (0, 0) h.blk]; rfl
theorem IsTally.c7 (h : IsTally w B T r v s1 s2 e1 e2) : w.cell? ⟨T, 7, none⟩ = some (.int .i64 e1) := by rw [cell_of_row w T 7 _ 32 (0, 0) h.blk]; rfl
theorem IsTally.c8 (h : IsTally w B T r v s1 s2 e1 e2) : w.cell? ⟨T, 8, none⟩ = some (.int .i64 e2) := by rw [cell_of_row w T 8 _ 32 (0, 0) h.blk]; rfl
theorem IsTally.free (h : IsTally w B T r v s1 s2 e1 e2) (j : Nat) : w.frozen? ⟨T, j, none⟩ = false := frozen_of_row w T j _ 32 h.blk
theorem IsTally.lt (h : IsTally w B T r v s1 s2 e1 e2) : T < w.heap.size := lt_of_block h.blk

theorem IsTally.ne (h : IsTally w B T r v s1 s2 e1 e2) (ho : w.ownsRow B 3 1 (.slice (some ⟨g, 0, none⟩) n cap) n xs) : T ≠ g := by
  rintro rfl
  rcases ho.2 with ⟨h1, _⟩ | ⟨g', cap', cur, h1, _, h2, _⟩
  · simp at h1
  · simp only [Value.slice.injEq, Option.some.injEq, Addr.mk.injEq] at h1
    obtain ⟨⟨rfl, _⟩, _⟩ := h1
    have := h.blk
    rw [h2] at this
    simp at this

theorem IsTally.alloc (h : IsTally w B T r v s1 s2 e1 e2) (o : Obj) : IsTally (w.alloc o) B T r v s1 s2 e1 e2 :=
  ⟨h.lo, by rw [Below.heap_alloc w o T h.lt]; exact h.blk⟩

theorem IsTally.kept (h : IsTally w B T r v s1 s2 e1 e2) {row : Option Nat} (hg : w.grownBy w1 row) (hne : some T ≠ row) : IsTally w1 B T r v s1 s2 e1 e2 :=
  ⟨h.lo, by rw [hg.block T h.lt hne]; exact h.blk⟩

/-- The tally behind a store of its senders. -/
theorem IsTally.set4 (h : IsTally w B T r v s1 s2 e1 e2) (u : Value) : IsTally (w.setCell ⟨T, 4, none⟩ u) B T r u s1 s2 e1 e2 :=
  ⟨h.lo, by rw [heap_setCell_same w T 4 _ 32 u h.blk]; rfl⟩
theorem IsTally.set3 (h : IsTally w B T r v s1 s2 e1 e2) (q : Int) : IsTally (w.setCell ⟨T, 3, none⟩ (.int .i64 q)) B T q v s1 s2 e1 e2 :=
  ⟨h.lo, by rw [heap_setCell_same w T 3 _ 32 _ h.blk]; rfl⟩

theorem IsTally.drew (h : IsTally w B T r v s1 s2 e1 e2) : IsTally w.drew B T r v s1 s2 e1 e2 := ⟨h.lo, h.blk⟩

/-- 'xs[:0]' of an owned row. -/
theorem own_cut (h : w.ownsRow B 3 1 (.slice (some ⟨g, 0, none⟩) n cap) n xs) : w.ownsRow B 3 1 (.slice (some ⟨g, 0, none⟩) 0 cap) 0 [] := by
  refine ⟨by simp, ?_⟩
  rcases h.2 with ⟨h1, _⟩ | ⟨g', cap', cur, h1, h2, h3, h4, h5, h6, _⟩
  · simp at h1
  · simp only [Value.slice.injEq, Option.some.injEq, Addr.mk.injEq] at h1
    obtain ⟨⟨rfl, _⟩, _, rfl⟩ := h1
    exact .inr ⟨_, _, cur, rfl, h2, h3, Nat.zero_le _, h5, h6, by simp⟩

theorem new_cell (W : World) {b : Nat} (hb : b = W.heap.size) (u : Value) (t : TypeId) : (W.alloc (.cells #[u] t)).cell? ⟨b, 0, none⟩ = some u := by
  subst hb; rw [cell_of_row _ _ 0 #[u] t (0, 0) (heap_alloc_new W _)]; rfl

/-- An owned row that is no nil. -/
theorem own_form {v' : Value} {m : Nat} (ho : w.ownsRow B 3 1 v' (m + 1) xs) : ∃ g' cap', v' = .slice (some ⟨g', 0, none⟩) (m + 1) cap' := by
  rcases ho.2 with ⟨_, h⟩ | ⟨g', cap', _, h, _⟩
  · omega
  · exact ⟨g', cap', h⟩

theorem own_form' (ho : w.ownsRow B 3 1 v n xs) (hn : 0 < n) : ∃ g' cap', v = .slice (some ⟨g', 0, none⟩) n cap' := by
  rcases ho.2 with ⟨_, h⟩ | ⟨g', cap', _, h, _⟩
  · omega
  · exact ⟨g', cap', h⟩
end

set_option maxHeartbeats 800000 in
set_option maxRecDepth 100000 in
/-- The step's round is the tally's: the node is appended. -/
theorem sent_same (B T g n cap : Nat) (r i s1 s2 e1 e2 : Int) (xs : List Value) (w : World)
    (ht : IsTally w B T r (.slice (some ⟨g, 0, none⟩) n cap) s1 s2 e1 e2)
    (hown : w.ownsRow B 3 1 (.slice (some ⟨g, 0, none⟩) n cap) n xs) (hn : n ≤ 100000) :
    Calls Yba.prog 7 #[.pointer (some ⟨T, 0, none⟩), .int .i64 r, .int .i64 i] w fun e w' => e = .returned (.tuple #[]) ∧
      ∃ g' cap', IsTally w' B T r (.slice (some ⟨g', 0, none⟩) (n + 1) cap') s1 s2 e1 e2 ∧
        w'.ownsRow B 3 1 (.slice (some ⟨g', 0, none⟩) (n + 1) cap') (n + 1) (xs ++ [.int .i64 i]) ∧ Below B w w' := by
  obtain ⟨i0, hi, hz0, hz1, hz2⟩ := info_parts Yba.info3
  have hne := ht.ne hown
  have c3 := ht.c3
  have c4 := ht.c4
  have hlt := ht.lt
  have hlo := ht.lo
  go_enter Yba.func7, Yba.ntmps7
  go_wp2_with (at_builtin; refine wpList_append_own _ rfl (.tmp 28) (.tmp 30) 22 rfl B 3 i0 (.int .i64 0) 1 8 Yba.underlying22 hi hz0 hz1 hz2 rfl (by decide) _ _ _ rfl (hown.alloc _) ⟨w.heap.size, 0, none⟩ 1 1 [.int .i64 i] rfl rfl ?c1 ?c2 ?c3 ?c4 ?c5 ?_)
  case c1 => intro j u hj; match j, hj with | 0, hj => simp at hj; subst hj; simp [Addr.add]
  case c2 => intro u hu; simp at hu; subst hu; rfl
  case c3 => unfold maxLen; omega
  case c4 => omega
  case c5 => simp; omega
  intro v' w1 hown' hgrow _
  have ht1 : IsTally w1 B T r (.slice (some ⟨g, 0, none⟩) n cap) s1 s2 e1 e2 := (ht.alloc _).kept hgrow (by simpa [Value.ownBlock] using hne)
  have hbel : Below B w w1 := ((Below.refl _ _).alloc (by omega) _).grown hgrow (by simp; omega) (fun k hk => (hown.lt k hk).1)
  obtain ⟨g', cap', hv⟩ := own_form hown'
  subst hv
  have hne' := ht1.ne hown'
  have d4 := ht1.c4
  have f4 := ht1.free 4
  have R1 := ht1.set4 (.slice (some ⟨g', 0, none⟩) (n + 1) cap')
  have R2 := ownsRow_setCell_other hown' (a := ⟨T, 4, none⟩) (by simpa [Value.ownBlock] using Ne.symm hne') (.slice (some ⟨g', 0, none⟩) (n + 1) cap')
  have R3 := hbel.setCell (p := ⟨T, 4, none⟩) hlo (.slice (some ⟨g', 0, none⟩) (n + 1) cap')
  have H : Hid _ := And.intro R1 (And.intro R2 R3)
  clear R1 R2 R3 hown hown' hgrow ht c3 c4 hi hz0 hz1 hz2 ht1 hbel
  go_wp2
  go_end0
  exact ⟨rfl, g', cap', H.out⟩

set_option maxHeartbeats 1600000 in
set_option maxRecDepth 100000 in
/-- The step's round is another: the senders are the node alone. -/
theorem sent_other (B T g n cap : Nat) (r q i s1 s2 e1 e2 : Int) (xs : List Value) (w : World) (hq : (q != r) = true)
    (ht : IsTally w B T r (.slice (some ⟨g, 0, none⟩) n cap) s1 s2 e1 e2)
    (hown : w.ownsRow B 3 1 (.slice (some ⟨g, 0, none⟩) n cap) n xs) :
    Calls Yba.prog 7 #[.pointer (some ⟨T, 0, none⟩), .int .i64 q, .int .i64 i] w fun e w' => e = .returned (.tuple #[]) ∧
      ∃ g' cap', IsTally w' B T q (.slice (some ⟨g', 0, none⟩) 1 cap') s1 s2 e1 e2 ∧
        w'.ownsRow B 3 1 (.slice (some ⟨g', 0, none⟩) 1 cap') 1 [.int .i64 i] ∧ Below B w w' := by
  obtain ⟨i0, hi, hz0, hz1, hz2⟩ := info_parts Yba.info3
  have hne := ht.ne hown
  have c3 := ht.c3
  have c4 := ht.c4
  have f3 := ht.free 3
  have f4 := ht.free 4
  have hlt := ht.lt
  have hlo := ht.lo
  have ht2 := (ht.set3 q).set4 (.slice (some ⟨g, 0, none⟩) 0 cap)
  have hbel2 := ((Below.refl B w).setCell (p := ⟨T, 3, none⟩) hlo (.int .i64 q)).setCell (p := ⟨T, 4, none⟩) hlo (.slice (some ⟨g, 0, none⟩) 0 cap)
  have hown2 := ownsRow_setCell_other (ownsRow_setCell_other (own_cut hown) (a := ⟨T, 3, none⟩) (by simpa [Value.ownBlock] using Ne.symm hne) (.int .i64 q)) (a := ⟨T, 4, none⟩) (by simpa [Value.ownBlock] using Ne.symm hne) (.slice (some ⟨g, 0, none⟩) 0 cap)
  go_enter Yba.func7, Yba.ntmps7
  go_wp2
  go_region
  go_wp2_with (at_builtin; refine wpList_append_own _ rfl (.tmp 28) (.tmp 30) 22 rfl B 3 i0 (.int .i64 0) 1 8 Yba.underlying22 hi hz0 hz1 hz2 rfl (by decide) (.slice (some ⟨g, 0, none⟩) 0 cap) 0 [] rfl ?own ⟨w.heap.size, 0, none⟩ 1 1 [.int .i64 i] rfl rfl ?c1 ?c2 ?c3 ?c4 ?c5 ?_)
  case own => exact (hown2.alloc _).drew
  case c1 => intro j u hj; match j, hj with | 0, hj => simp at hj; subst hj; exact new_cell _ (by simp) _ _
  case c2 => intro u hu; simp at hu; subst hu; rfl
  case c3 => unfold maxLen; omega
  case c4 => omega
  case c5 => simp; omega
  intro v' w1 hown' hgrow _
  have ht1 : IsTally w1 B T q (.slice (some ⟨g, 0, none⟩) 0 cap) s1 s2 e1 e2 := ((ht2.alloc _).drew).kept hgrow (by simpa [Value.ownBlock] using hne)
  have hbel : Below B w w1 := ((hbel2.alloc (by simp; omega) _).drew).grown hgrow (by simp; omega) (fun k hk => (hown2.lt k hk).1)
  obtain ⟨g', cap', hv⟩ := own_form hown'
  subst hv
  have hne' := ht1.ne hown'
  have d4 := ht1.c4
  have g4 := ht1.free 4
  have R1 := ht1.set4 (.slice (some ⟨g', 0, none⟩) 1 cap')
  have R2 := ownsRow_setCell_other hown' (a := ⟨T, 4, none⟩) (by simpa [Value.ownBlock] using Ne.symm hne') (.slice (some ⟨g', 0, none⟩) 1 cap')
  have R3 := hbel.setCell (p := ⟨T, 4, none⟩) hlo (.slice (some ⟨g', 0, none⟩) 1 cap')
  have H : Hid _ := And.intro R1 (And.intro R2 R3)
  clear R1 R2 R3 hown hown' hgrow ht c3 c4 hi hz0 hz1 hz2 ht1 hbel hbel2 hown2 ht2 f3 f4
  go_wp2
  go_end0
  exact ⟨rfl, g', cap', H.out⟩
end Go.Proofs.Ybulkbzeg
