/-
  The contract of zzs3778atree.
-/
import Derived.Test.YbulkbzfiTree
namespace Go.Proofs.Ybulkbzfi
open Go.RowKit

/-- The cells of a grid. -/
def grid (ns : List (List Int)) : Array Value := (ns.flatMap (fun r => r.map (Value.int .u8))).toArray
/-- A grid of 16 rows of 16 counts. -/
structure Grid (ns : List (List Int)) : Prop where
  len : ns.length = 16
  row : ∀ i, i < 16 → (ns.getD i []).length = 16
  le : ∀ i, i < 16 → ∀ j, j < 16 → 0 ≤ (ns.getD i []).getD j 0 ∧ (ns.getD i []).getD j 0 ≤ 255

theorem flat_at (ns : List (List Int)) : ∀ (i j : Nat), (∀ k, k < ns.length → (ns.getD k []).length = 16) → i < ns.length → j < 16 →
    (ns.flatMap (fun r => r.map (Value.int .u8)))[i * 16 + j]? = some (.int .u8 ((ns.getD i []).getD j 0)) := by
  induction ns with
  | nil => intro i j _ h; simp at h
  | cons r ns ih =>
    intro i j hl hi hj
    have h0 : r.length = 16 := hl 0 (by simp)
    rw [List.flatMap_cons]
    match i with
    | 0 =>
      rw [Nat.zero_mul, Nat.zero_add, List.getElem?_append_left (by simpa [h0] using hj)]
      simp [List.getD, show j < r.length by omega]
    | i + 1 =>
      rw [List.getElem?_append_right (by simp [h0]; omega)]
      have e : (i + 1) * 16 + j - (r.map (Value.int .u8)).length = i * 16 + j := by simp [h0]; omega
      rw [e, ih i j (fun k hk => by have := hl (k + 1) (by simpa using hk); simpa using this) (by simpa using hi) hj]
      simp
theorem grid_at {w : World} {B : Nat} {ns : List (List Int)} (G : Grid ns) (h : w.heap[B]? = some (.cells (grid ns) 24 (0, 0))) (i j : Nat) (hi : i < 16) (hj : j < 16) :
    w.cell? ⟨B, i * 16 + j, none⟩ = some (.int .u8 ((ns.getD i []).getD j 0)) := by
  rw [cell_of_row w B _ _ 24 (0, 0) h, grid, List.getElem?_toArray]
  exact flat_at ns i j (fun k hk => G.row k (by rw [← G.len]; exact hk)) (by rw [G.len]; exact hi) hj

theorem grid_get {ns : List (List Int)} (G : Grid ns) (i j : Nat) (hi : i < 16) (hj : j < 16) : (grid ns)[i * 16 + j]? = some (.int .u8 ((ns.getD i []).getD j 0)) := by
  rw [grid, List.getElem?_toArray]
  exact flat_at ns i j (fun k hk => G.row k (by rw [← G.len]; exact hk)) (by rw [G.len]; exact hi) hj
theorem row8_lit (r : List Int) (h : r.length = 16) : row8 r = #[.int .u8 (r[0]?.getD 0), .int .u8 (r[1]?.getD 0), .int .u8 (r[2]?.getD 0), .int .u8 (r[3]?.getD 0), .int .u8 (r[4]?.getD 0), .int .u8 (r[5]?.getD 0), .int .u8 (r[6]?.getD 0), .int .u8 (r[7]?.getD 0), .int .u8 (r[8]?.getD 0), .int .u8 (r[9]?.getD 0), .int .u8 (r[10]?.getD 0), .int .u8 (r[11]?.getD 0), .int .u8 (r[12]?.getD 0), .int .u8 (r[13]?.getD 0), .int .u8 (r[14]?.getD 0), .int .u8 (r[15]?.getD 0)] := by
  match r, h with
  | [_, _, _, _, _, _, _, _, _, _, _, _, _, _, _, _], _ => rfl
/-- leaf, the row written out. -/
theorem leaf_lit (r : List Int) (w : World) (hr : r.length = 16) (hr8 : ∀ j, j < 16 → 0 ≤ r.getD j 0 ∧ r.getD j 0 ≤ 255) :
    Calls Yba.prog 12 #[.agg #[.int .u8 (r[0]?.getD 0), .int .u8 (r[1]?.getD 0), .int .u8 (r[2]?.getD 0), .int .u8 (r[3]?.getD 0), .int .u8 (r[4]?.getD 0), .int .u8 (r[5]?.getD 0), .int .u8 (r[6]?.getD 0), .int .u8 (r[7]?.getD 0), .int .u8 (r[8]?.getD 0), .int .u8 (r[9]?.getD 0), .int .u8 (r[10]?.getD 0), .int .u8 (r[11]?.getD 0), .int .u8 (r[12]?.getD 0), .int .u8 (r[13]?.getD 0), .int .u8 (r[14]?.getD 0), .int .u8 (r[15]?.getD 0)]] w fun e w' => ∃ V, e = .returned (.pointer (some ⟨V, 0, none⟩)) ∧ w.heap.size ≤ V ∧ Node w' V nils r ∧ Below w.heap.size w w' := by
  rw [← row8_lit r hr]
  exact leaf_any r w hr hr8

set_option maxHeartbeats 1600000 in
set_option maxRecDepth 100000 in
theorem tree_zero (mask : Int) (ns : List (List Int)) (w : World) (G : Grid ns) :
    Calls Yba.prog 6 #[.int .u64 0, .int .u16 mask, .agg (grid ns)] w fun e w' => ∃ V, e = .returned (.pointer (some ⟨V, 0, none⟩)) ∧ w.heap.size ≤ V ∧ Node w' V nils (ns.getD 0 []) ∧ Below w.heap.size w w' := by
  have g0 := grid_get G 0 0 (by decide) (by decide)
  have g1 := grid_get G 0 1 (by decide) (by decide)
  have g2 := grid_get G 0 2 (by decide) (by decide)
  have g3 := grid_get G 0 3 (by decide) (by decide)
  have g4 := grid_get G 0 4 (by decide) (by decide)
  have g5 := grid_get G 0 5 (by decide) (by decide)
  have g6 := grid_get G 0 6 (by decide) (by decide)
  have g7 := grid_get G 0 7 (by decide) (by decide)
  have g8 := grid_get G 0 8 (by decide) (by decide)
  have g9 := grid_get G 0 9 (by decide) (by decide)
  have g10 := grid_get G 0 10 (by decide) (by decide)
  have g11 := grid_get G 0 11 (by decide) (by decide)
  have g12 := grid_get G 0 12 (by decide) (by decide)
  have g13 := grid_get G 0 13 (by decide) (by decide)
  have g14 := grid_get G 0 14 (by decide) (by decide)
  have g15 := grid_get G 0 15 (by decide) (by decide)
  simp only [Nat.zero_mul, Nat.zero_add] at g0 g1 g2 g3 g4 g5 g6 g7 g8 g9 g10 g11 g12 g13 g14 g15
  have hr := hide (G.row 0 (by decide))
  have hr8 := hide (G.le 0 (by decide))
  clear G
  generalize ns.getD 0 [] = r at *
  go_enter Yba.func6, Yba.ntmps6
  go_wp2_with fail
  refine (leaf_lit r _ (unhide hr) (unhide hr8)).mono ?_
  rintro _ w1 ⟨V, rfl, k1, k2, k3⟩
  have hB0 : Below w.heap.size w (w.alloc (.cells (grid ns) 24)) := (Below.refl _ _).alloc (Nat.le_refl _) _
  have hN := hide k2
  have hB := hide (hB0.trans (k3.mono hB0.size))
  have hV : w.heap.size ≤ V := Nat.le_trans hB0.size k1
  clear k1 k2 k3 hB0 g0 g1 g2 g3 g4 g5 g6 g7 g8 g9 g10 g11 g12 g13 g14 g15
  go_wp2
  go_ret
  exact ⟨V, rfl, hV, unhide hN, unhide hB⟩
/-- The kids' cells. -/
def kidv (κ : List (Option Nat)) : List Value := κ.map (fun o => .pointer (o.map (fun K => ⟨K, 0, none⟩)))
/-- A node with leaves for kids. -/
structure Kids (w : World) (V : Nat) (κ : List (Option Nat)) (ns : List (List Int)) : Prop where
  len : κ.length = 16
  node : Node w V (kidv κ) (List.replicate 16 0)
  at_ : ∀ j K, κ.getD j none = some K → V < K ∧ Node w K nils (ns.getD j [])
  inj : ∀ i j K, κ.getD i none = some K → κ.getD j none = some K → i = j

theorem Kids.kept {w w' : World} {V : Nat} {κ : List (Option Nat)} {ns : List (List Int)} (h : Kids w V κ ns) (hb : Below w.heap.size w w') : Kids w' V κ ns :=
  ⟨h.len, h.node.of_block (hb.block V h.node.lt), fun j K hj => ⟨(h.at_ j K hj).1, (h.at_ j K hj).2.of_block (hb.block K (h.at_ j K hj).2.lt)⟩, h.inj⟩
theorem getD_set (κ : List (Option Nat)) (k j : Nat) (x : Option Nat) (hk : k < κ.length) : (κ.set k x).getD j none = if j = k then x else κ.getD j none := by
  by_cases h : j = k
  · subst h; simp [List.getD, hk]
  · rw [if_neg h]
    simp only [List.getD]
    rw [List.getElem?_set_ne (fun e => h e.symm)]
theorem Kids.put {w w' : World} {V K k : Nat} {κ : List (Option Nat)} {ns : List (List Int)} (h : Kids w V κ ns) (hb : Below w.heap.size w w') (hK : w.heap.size ≤ K) (hN : Node w' K nils (ns.getD k [])) (hk : k < 16) :
    Kids (w'.setCell ⟨V, k, none⟩ (.pointer (some ⟨K, 0, none⟩))) V (κ.set k (some K)) ns := by
  have h' := h.kept hb
  have hV := h.node.lt
  have hl := h.len
  refine ⟨by simpa using hl, ?_, ?_, ?_⟩
  · have := h'.node.setK k (by simp [kidv, hl, hk]) (.pointer (some ⟨K, 0, none⟩))
    have e : (kidv κ).set k (.pointer (some ⟨K, 0, none⟩)) = kidv (κ.set k (some K)) := by simp [kidv, List.map_set]
    rw [← e]; exact this
  · intro j L hj
    rw [getD_set _ _ _ _ (by omega)] at hj
    split at hj
    · rename_i e
      cases hj
      subst e
      exact ⟨by omega, hN.of_block (heap_setCell_other _ _ _ _ (by simp; omega))⟩
    · have := h'.at_ j L hj
      exact ⟨this.1, this.2.of_block (heap_setCell_other _ _ _ _ (by simp; omega))⟩
  · intro i j L hi hj
    rw [getD_set _ _ _ _ (by omega)] at hi hj
    have old : ∀ t, κ.getD t none = some K → False := fun t ht => by have := (h.at_ t K ht).2.lt; omega
    split at hi
    · split at hj
      · omega
      · cases hi; exact (old _ hj).elim
    · split at hj
      · cases hj; exact (old _ hi).elim
      · exact h.inj i j L hi hj

set_option maxHeartbeats 1600000 in
set_option maxRecDepth 100000 in
theorem tree_one (mask : Int) (ns : List (List Int)) (w : World) (G : Grid ns) :
    Calls Yba.prog 6 #[.int .u64 1, .int .u16 mask, .agg (grid ns)] w fun e w' => ∃ V κ, e = .returned (.pointer (some ⟨V, 0, none⟩)) ∧ w.heap.size ≤ V ∧ Kids w' V κ ns ∧ Below w.heap.size w w' := by
  have hG := hide G
  clear G
  have hb42 := run_b42
  go_enter Yba.func6, Yba.ntmps6
  go_wp2_with fail
  have hS : Hid (∀ W, W = (w.alloc (.cells (grid ns) 24)).alloc (.cells (vn nils (List.replicate 16 0)) 42) → Below w.heap.size w W ∧ W.heap[w.heap.size]? = some (.cells (grid ns) 24 (0, 0)) ∧ Kids W (w.heap.size + 1) (List.replicate 16 none) ns) := hide (by
    rintro W rfl
    refine ⟨((Below.refl _ _).alloc (Nat.le_refl _) _).alloc (by simp) _, ?_, ?_⟩
    · rw [Below.heap_alloc _ _ _ (by simp)]; exact heap_alloc_new w _
    · have := heap_alloc_new (w.alloc (.cells (grid ns) 24)) (.cells (vn nils (List.replicate 16 0)) 42)
      have none_ : ∀ j K, (List.replicate 16 (none : Option Nat)).getD j none ≠ some K := by
        intro j K h
        simp only [List.getD, List.getElem?_replicate] at h
        split at h <;> simp at h
      refine ⟨by simp, ?_, fun j K h => (none_ j K h).elim, fun i j K h => (none_ i K h).elim⟩
      simpa [Node, kidv, nils] using this)
  generalize hV : w.heap.size + 1 = V at *
  go_loopw [8] (fun x wr => ∃ (k : Nat) (κ : List (Option Nat)), k ≤ 16 ∧ x = .int .i64 k ∧ Hid (Below w.heap.size w wr) ∧ Hid (wr.heap[w.heap.size]? = some (.cells (grid ns) 24 (0, 0))) ∧ Hid (Kids wr V κ ns)) (fun x _ => 16 - (intOf x).toNat)
  case atStart => exact ⟨0, _, Nat.zero_le _, rfl, hide (unhide hS _ rfl).1, hide (unhide hS _ rfl).2.1, hide (unhide hS _ rfl).2.2⟩
  case round =>
    obtain ⟨k, κ, hk, rfl, hB, hb, hN⟩ := hrel
    clear hS
    by_cases hlt : k < 16
    · by_cases hbit : (bits BinOp.and IntKind.u16 (mask / 2 ^ k) 1 == 1) = true
      · go_wp2_with fail
        have g0 := grid_at (unhide hG) (unhide hb) k 0 hlt (by decide)
        have g1 := grid_at (unhide hG) (unhide hb) k 1 hlt (by decide)
        have g2 := grid_at (unhide hG) (unhide hb) k 2 hlt (by decide)
        have g3 := grid_at (unhide hG) (unhide hb) k 3 hlt (by decide)
        have g4 := grid_at (unhide hG) (unhide hb) k 4 hlt (by decide)
        have g5 := grid_at (unhide hG) (unhide hb) k 5 hlt (by decide)
        have g6 := grid_at (unhide hG) (unhide hb) k 6 hlt (by decide)
        have g7 := grid_at (unhide hG) (unhide hb) k 7 hlt (by decide)
        have g8 := grid_at (unhide hG) (unhide hb) k 8 hlt (by decide)
        have g9 := grid_at (unhide hG) (unhide hb) k 9 hlt (by decide)
        have g10 := grid_at (unhide hG) (unhide hb) k 10 hlt (by decide)
        have g11 := grid_at (unhide hG) (unhide hb) k 11 hlt (by decide)
        have g12 := grid_at (unhide hG) (unhide hb) k 12 hlt (by decide)
        have g13 := grid_at (unhide hG) (unhide hb) k 13 hlt (by decide)
        have g14 := grid_at (unhide hG) (unhide hb) k 14 hlt (by decide)
        have g15 := grid_at (unhide hG) (unhide hb) k 15 hlt (by decide)
        have hr := hide ((unhide hG).row k hlt)
        have hr8 := hide ((unhide hG).le k hlt)
        have hput : Hid (∀ w1 K, Below wr.heap.size wr w1 → wr.heap.size ≤ K → Node w1 K nils (ns.getD k []) → Kids (w1.setCell ⟨V, k, none⟩ (.pointer (some ⟨K, 0, none⟩))) V (κ.set k (some K)) ns) := hide (fun w1 K a1 a2 a3 => (unhide hN).put a1 a2 a3 hlt)
        have hcel : Hid (∀ w1, Below wr.heap.size wr w1 → w1.cell? ⟨V, k, none⟩ = some (κ.getD k none |>.elim (.pointer none) (fun K => .pointer (some ⟨K, 0, none⟩))) ∧ w1.frozen? ⟨V, k, none⟩ = false) := hide (fun w1 a1 => by
          have h' := (unhide hN).kept a1
          refine ⟨?_, h'.node.free k⟩
          rw [h'.node.kid k (by simp [kidv, h'.len, hlt])]
          simp only [kidv, List.getD, List.getElem?_map]
          cases κ[k]? with
          | none => rfl
          | some o => cases o <;> rfl)
        generalize ns.getD k [] = r at *
        simp only [Nat.add_zero] at g0
        have i1 : (k : Int) < 16 := by omega
        go_region_with ((go_at_call 12; refine (leaf_lit r _ (unhide hr) (unhide hr8)).mono ?_; rintro _ w1 ⟨K, rfl, k1, k2, k3⟩; have k4 : Below wr.heap.size wr w1 := (below_drew (Below.refl _ _)).trans k3; obtain ⟨d1, d2⟩ := unhide hcel w1 k4))
        have hKn := hide (unhide hput w1 K k4 k1 k2)
        have hBn : Hid (Below w.heap.size w (w1.setCell ⟨V, k, none⟩ (.pointer (some ⟨K, 0, none⟩)))) := hide (below_set ((unhide hB).trans (k4.mono (unhide hB).size)) (Nat.le_trans (unhide hB).size k4.size) (by omega))
        have hbn : Hid ((w1.setCell ⟨V, k, none⟩ (.pointer (some ⟨K, 0, none⟩))).heap[w.heap.size]? = some (.cells (grid ns) 24 (0, 0))) := hide ((heap_setCell_other _ _ _ _ (by simp; omega)).trans ((k4.block _ (lt_of_block (unhide hb))).trans (unhide hb)))
        clear g0 g1 g2 g3 g4 g5 g6 g7 g8 g9 g10 g11 g12 g13 g14 g15 hput hcel d1 d2 k1 k2 k3 k4 hB hb hN
        go_wp2
        go_roundw
        case rel => exact ⟨k + 1, _, by omega, by go_num, hBn, hbn, hKn⟩
        case measure => simp [intOf]; omega
      · go_wp2
        go_roundw
        case rel => exact ⟨k + 1, κ, by omega, by go_num, hB, hb, hN⟩
        case measure => simp [intOf]; omega
    · go_wp2
      go_ret
      exact ⟨V, κ, rfl, by omega, unhide hN, unhide hB⟩
end Go.Proofs.Ybulkbzfi
