/-
  The contracts of zzs3778aleaf and zzs3778atree.
-/
import Derived.Test.YbulkbzfiModel
import Derived.Deep.RegionHeld3
namespace Go.Proofs.Ybulkbzfi
open Go.RowKit

/-- The cells of a node. -/
def vn (kids : List Value) (ns : List Int) : Array Value := (kids ++ ns.map (Value.int .u64)).toArray
/-- No kids. -/
def nils : List Value := List.replicate 16 (.pointer none)
/-- A node's block. -/
def Node (w : World) (V : Nat) (kids : List Value) (ns : List Int) : Prop := w.heap[V]? = some (.cells (vn kids ns) 42 (0, 0))

theorem run_b42 (w : World) : (Instr.build 42 #[]).run Yba.prog w = .ok (.agg (vn nils (List.replicate 16 0))) w := by kernel_rfl
theorem nils_len : nils.length = 16 := rfl
/-- The counts of a leaf after k rounds. -/
def upto (r : List Int) (k : Nat) : List Int := r.take k ++ List.replicate (16 - k) 0
theorem upto_len (r : List Int) (k : Nat) (hr : r.length = 16) (hk : k ≤ 16) : (upto r k).length = 16 := by
  simp only [upto, List.length_append, List.length_take, List.length_replicate]; omega
theorem upto_step (r : List Int) (k : Nat) (hr : r.length = 16) (hk : k < 16) : (upto r k).set k (r.getD k 0) = upto r (k + 1) := by
  have hl : (r.take k).length = k := by rw [List.length_take]; omega
  unfold upto
  rw [List.set_append_right _ _ (by omega), hl, Nat.sub_self, show 16 - k = (16 - (k + 1)) + 1 from by omega, List.replicate_succ, List.set_cons_zero, List.take_add_one, List.append_assoc]
  congr 1
  simp [List.getD, List.getElem?_eq_getElem (show k < r.length by omega)]
theorem upto_full (r : List Int) (hr : r.length = 16) : upto r 16 = r := by
  unfold upto
  rw [List.take_of_length_le (by omega)]
  simp
theorem vn_set (kids : List Value) (ns : List Int) (hk : kids.length = 16) (k : Nat) (x : Int) : (vn kids ns).setIfInBounds (16 + k) (.int .u64 x) = vn kids (ns.set k x) := by
  unfold vn
  rw [List.setIfInBounds_toArray, List.set_append_right _ _ (by omega), hk, show 16 + k - 16 = k from by omega, List.map_set]
theorem vn_kid (kids : List Value) (ns : List Int) (k : Nat) (hk : k < kids.length) (x : Value) : (vn kids ns).setIfInBounds k x = vn (kids.set k x) ns := by
  unfold vn
  rw [List.setIfInBounds_toArray, List.set_append_left _ _ hk]

section
variable {w w' : World} {V : Nat} {kids : List Value} {ns : List Int}
theorem Node.lt (h : Node w V kids ns) : V < w.heap.size := lt_of_block h
theorem Node.free (h : Node w V kids ns) (j : Nat) : w.frozen? ⟨V, j, none⟩ = false := frozen_of_row w V j _ 42 h
theorem Node.of_block (h : Node w V kids ns) (hb : w'.heap[V]? = w.heap[V]?) : Node w' V kids ns := by unfold Node; rw [hb]; exact h
theorem Node.n (h : Node w V kids ns) (hk : kids.length = 16) (j : Nat) (hj : j < ns.length) : w.cell? ⟨V, 16 + j, none⟩ = some (.int .u64 (ns.getD j 0)) := by
  rw [cell_of_row w V _ _ 42 (0, 0) h, vn, List.getElem?_toArray, List.getElem?_append_right (by omega), hk, show 16 + j - 16 = j from by omega]
  simp [hj, List.getD]
theorem Node.kid (h : Node w V kids ns) (j : Nat) (hj : j < kids.length) : w.cell? ⟨V, j, none⟩ = some (kids.getD j (.pointer none)) := by
  rw [cell_of_row w V _ _ 42 (0, 0) h, vn, List.getElem?_toArray, List.getElem?_append_left hj]
  simp [hj, List.getD]
theorem Node.setN (h : Node w V kids ns) (hk : kids.length = 16) (k : Nat) (x : Int) : Node (w.setCell ⟨V, 16 + k, none⟩ (.int .u64 x)) V kids (ns.set k x) := by
  unfold Node
  rw [heap_setCell_same w V (16 + k) _ 42 (.int .u64 x) h, vn_set kids ns hk]
theorem Node.setK (h : Node w V kids ns) (k : Nat) (hk : k < kids.length) (x : Value) : Node (w.setCell ⟨V, k, none⟩ x) V (kids.set k x) ns := by
  unfold Node
  rw [heap_setCell_same w V k _ 42 x h, vn_kid kids ns k hk]
theorem Node.drew (h : Node w V kids ns) : Node w.drew V kids ns := h
end

theorem below_set {B : Nat} {w w' : World} {V j : Nat} {u : Value} (h : Below B w w') (hB : B ≤ w'.heap.size) (hV : B ≤ V) : Below B w (w'.setCell ⟨V, j, none⟩ u) :=
  h.grown (set_grown w' V j u) hB (fun k hk => by cases hk; exact hV)
theorem below_drew {B : Nat} {w w' : World} (h : Below B w w') : Below B w w'.drew := ⟨h.os, h.tape, h.output, h.size, h.block⟩

set_option maxHeartbeats 1600000 in
set_option maxRecDepth 100000 in
theorem leaf_any (r : List Int) (w : World) (hr : r.length = 16) (hr8 : ∀ j, j < 16 → 0 ≤ r.getD j 0 ∧ r.getD j 0 ≤ 255) :
    Calls Yba.prog 12 #[.agg (row8 r)] w fun e w' => ∃ V, e = .returned (.pointer (some ⟨V, 0, none⟩)) ∧ w.heap.size ≤ V ∧ Node w' V nils r ∧ Below w.heap.size w w' := by
  have hrh := hide hr
  have hr8h := hide hr8
  clear hr hr8
  have hb42 := run_b42
  go_enter Yba.func12, Yba.ntmps12
  go_wp2_with fail
  have hS : Hid (∀ W, W = (w.alloc (.cells (row8 r) 23)).alloc (.cells (vn nils (List.replicate 16 0)) 42) → Below w.heap.size w W ∧ W.heap[w.heap.size]? = some (.cells (row8 r) 23 (0, 0)) ∧ Node W (w.heap.size + 1) nils (upto r 0)) := hide (by
    rintro W rfl
    refine ⟨((Below.refl _ _).alloc (Nat.le_refl _) _).alloc (by simp) _, ?_, ?_⟩
    · rw [Below.heap_alloc _ _ _ (by simp)]; exact heap_alloc_new w _
    · have := heap_alloc_new (w.alloc (.cells (row8 r) 23)) (.cells (vn nils (List.replicate 16 0)) 42)
      simpa [Node, upto] using this)
  have hc0 : ∀ (W : World) (k : Nat), W.heap[w.heap.size]? = some (.cells (row8 r) 23 (0, 0)) → k < 16 → W.cell? ⟨w.heap.size, k, none⟩ = some (.int .u8 (r.getD k 0)) := by
    intro W k hW hk
    rw [cell_of_row W _ _ _ 23 (0, 0) hW]
    exact row8_at r k (by rw [unhide hrh]; exact hk)
  replace hc0 := hide hc0
  generalize hV : w.heap.size + 1 = V at *
  go_loopw [4] (fun x wr => ∃ k : Nat, k ≤ 16 ∧ x = .int .i64 k ∧ Hid (Below w.heap.size w wr) ∧ Hid (wr.heap[w.heap.size]? = some (.cells (row8 r) 23 (0, 0))) ∧ Hid (Node wr V nils (upto r k))) (fun x _ => 16 - (intOf x).toNat)
  case atStart => exact ⟨0, Nat.zero_le _, rfl, hide (unhide hS _ rfl).1, hide (unhide hS _ rfl).2.1, hide (unhide hS _ rfl).2.2⟩
  case round =>
    obtain ⟨k, hk, rfl, hB, hb, hN⟩ := hrel
    clear hS
    by_cases hlt : k < 16
    · go_wp2_with fail
      have c0 := unhide hc0 wr k (unhide hb) hlt
      have c1 := (unhide hN).n nils_len k (by rw [upto_len r k (unhide hrh) hk]; exact hlt)
      have f1 := (unhide hN).free (16 + k)
      obtain ⟨f2, f3⟩ := unhide hr8h k hlt
      have i1 : (k : Int) < 16 := by omega
      have hR := hide (upto_step r k (unhide hrh) hlt)
      have hNn := hide (((unhide hN).setN nils_len k (r.getD k 0)).drew)
      have hbn : Hid ((wr.setCell ⟨V, 16 + k, none⟩ (.int .u64 (r.getD k 0))).drew.heap[w.heap.size]? = some (.cells (row8 r) 23 (0, 0))) := hide ((heap_setCell_other _ _ _ _ (by simp; omega)).trans (unhide hb))
      have hBn : Hid (Below w.heap.size w (wr.setCell ⟨V, 16 + k, none⟩ (.int .u64 (r.getD k 0))).drew) := hide (below_drew (below_set (unhide hB) (unhide hB).size (by omega)))
      clear hB hb hN
      generalize r.getD k 0 = R at *
      go_region
      clear c0 c1 f1
      go_wp2
      go_roundw
      case rel => exact ⟨k + 1, by omega, by go_num, hBn, hbn, by rw [← unhide hR]; exact hNn⟩
      case measure => simp [intOf]; omega
    · obtain rfl : k = 16 := by omega
      rw [upto_full r (unhide hrh)] at hN
      go_wp2
      go_ret
      exact ⟨V, rfl, by omega, unhide hN, unhide hB⟩
end Go.Proofs.Ybulkbzfi
