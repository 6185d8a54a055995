/-
  The walk of LawS3778AModel.
-/
import Derived.Test.YbulkbzfiBuild
import Derived.Deep.MidRow
namespace Go.Proofs.Ybulkbzfi
open Go.RowKit

theorem info24 : (Yba.prog.info? 24).map (·.size) = some 256 := by kernel_rfl
theorem flat_len (ns : List (List Int)) : (∀ k, k < ns.length → (ns.getD k []).length = 16) → (ns.flatMap (fun r => r.map (Value.int .u8))).length = ns.length * 16 := by
  induction ns with
  | nil => intro _; rfl
  | cons r ns ih =>
    intro h
    have h0 : r.length = 16 := h 0 (by simp)
    rw [List.flatMap_cons, List.length_append, ih (fun k hk => by have := h (k + 1) (by simpa using hk); simpa using this)]
    simp [h0]; omega
theorem grid_len {ns : List (List Int)} (G : Grid ns) : (grid ns).toList.length = 256 := by
  have := flat_len ns (fun k hk => G.row k (by rw [← G.len]; exact hk))
  rw [G.len] at this
  simpa [grid] using this
theorem grid_range {w : World} {B : Nat} {ns : List (List Int)} (h : w.heap[B]? = some (.cells (grid ns) 24 (0, 0))) : w.rangeAt B 0 (grid ns).toList := fun j v hv => by
  rw [Nat.zero_add, cell_of_row w B _ _ 24 (0, 0) h]
  simpa using hv
theorem run_b36 (a t : Option Nat) (w : World) : (Instr.build 36 #[(1, .map a), (3, .map t)]).run Yba.prog w = .ok (.agg #[.map none, .map a, .map none, .map t]) w := by kernel_rfl

/-! ### What stands where only new blocks were made -/
theorem Nums.kept {w w' : World} {c : Nat} {cs : List Int} (h : Nums w c cs) (hb : Below w.heap.size w w') : Nums w' c cs := ⟨Nat.lt_of_lt_of_le h.lt hb.size, fun j hj => (hb.cell (p := ⟨c, j, none⟩) h.lt).trans (h.at_ j hj)⟩
theorem Sums.kept {w w' : World} {S : Nat} {cs hs : List Int} (h : Sums w S cs hs) (hb : Below w.heap.size w w') : Sums w' S cs hs := by
  obtain ⟨c, hh, capc, caph, h1, h2, h3⟩ := h.at_
  exact ⟨h.len, h.pos, c, hh, capc, caph, h1.kept hb, h2.kept hb, (hb.block S (lt_of_block h3)).trans h3⟩
theorem Asks.kept {w w' : World} {M : Nat} {F : Int → Int → Int} (h : Asks w M F) (hb : Below w.heap.size w w') : Asks w' M F := by
  obtain ⟨lA, h1, h2⟩ := h
  refine ⟨lA, h1.of_block (hb.block M h1.lt), fun g => ?_⟩
  rcases h2 g with h | ⟨S, cs, hs, a1, a2, a3⟩
  · exact .inl h
  · exact .inr ⟨S, cs, hs, a1, a2.kept hb, a3⟩
theorem IsObj.kept {w w' : World} {K : Nat} (h : IsObj w K) (hb : Below w.heap.size w w') : IsObj w' K := by
  obtain ⟨c, t, hc⟩ := h
  exact ⟨c, t, (hb.block K (lt_of_block hc)).trans hc⟩
theorem TMap.kept {w w' : World} {T : Nat} {l : List (Nat × Int)} (h : TMap w T l) (hb : Below w.heap.size w w') : TMap w' T l := by
  obtain ⟨es, ck, h1, h2⟩ := h.at_
  exact ⟨⟨es, ck, (hb.block T (lt_of_block h1)).trans h1, h2⟩, fun p hp => (h.obj p hp).kept hb⟩
theorem TMap.len {w : World} {T : Nat} {l : List (Nat × Int)} (h : TMap w T l) : ∃ es ck, w.heap[T]? = some (.map es ck) ∧ es.size = l.length := by
  obtain ⟨es, ck, h1, h2⟩ := h.at_
  refine ⟨es, ck, h1, ?_⟩
  have := congrArg List.length h2
  simpa using this
theorem TMap.lenRun {w : World} {T : Nat} {l : List (Nat × Int)} (h : TMap w T l) : (Builtin.len_ #[33] 3 #[.map (some T)]).run Yba.prog w = .ok (.int .i64 (l.length : Nat)) w := by
  obtain ⟨es, ck, h1, h2⟩ := h.len
  simp [Builtin.len_, run_underlying Yba.underlying33, MapKept.run_getObj_map h1, h2]
  rfl
theorem XObj.kept {w w' : World} {X M T : Nat} (h : XObj w X M T) (hX : X < w.heap.size) (hb : Below w.heap.size w w') : XObj w' X M T :=
  ⟨(hb.cell (p := ⟨X, 1, none⟩) hX).trans h.asks, (hb.cell (p := ⟨X, 3, none⟩) hX).trans h.terms⟩
/-- The index is laid. -/
theorem setup {w2 W : World} {M : Nat} {F : Int → Int → Int} (hM : Asks w2 M F) (hW : W = (w2.alloc (.map #[] 0)).alloc (.cells #[.map none, .map (some M), .map none, .map (some w2.heap.size)] 36)) :
    XObj W (w2.heap.size + 1) M w2.heap.size ∧ TMap W w2.heap.size [] ∧ Asks W M F ∧ M ≠ w2.heap.size ∧ Below w2.heap.size w2 W ∧ w2.heap.size + 1 < W.heap.size := by
  have hB : Below w2.heap.size w2 W := by rw [hW]; exact ((Below.refl _ _).alloc (Nat.le_refl _) _).alloc (by simp) _
  have hX : W.heap[w2.heap.size + 1]? = some (.cells #[.map none, .map (some M), .map none, .map (some w2.heap.size)] 36 (0, 0)) := by
    rw [hW]
    have := heap_alloc_new (w2.alloc (.map #[] 0)) (.cells #[.map none, .map (some M), .map none, .map (some w2.heap.size)] 36)
    simpa using this
  refine ⟨⟨by rw [cell_of_row W _ _ _ 36 (0, 0) hX]; rfl, by rw [cell_of_row W _ _ _ 36 (0, 0) hX]; rfl⟩, ⟨⟨#[], 0, by rw [hW, Below.heap_alloc _ _ _ (by simp)]; exact heap_alloc_new w2 _, rfl⟩, fun p hp => by cases hp⟩, hM.kept hB, ?_, hB, lt_of_block hX⟩
  obtain ⟨lA, h1, _⟩ := hM
  have := h1.lt
  omega
/-- leafsum, the row written out. -/
theorem leafsum_lit (a : Option Addr) (n cap : Nat) (d : List In3) (r : List Int) (p : Int) (w : World) (h : Arg w a n cap d) (hn : n ≤ 2000) (hr : r.length = 16) (hr8 : ∀ j, j < 16 → 0 ≤ r.getD j 0 ∧ r.getD j 0 ≤ 255) (hp0 : 0 ≤ p) (hp : p ≤ 100) :
    Calls Yba.prog 9 #[.slice a n cap, .agg #[.int .u8 (r[0]?.getD 0), .int .u8 (r[1]?.getD 0), .int .u8 (r[2]?.getD 0), .int .u8 (r[3]?.getD 0), .int .u8 (r[4]?.getD 0), .int .u8 (r[5]?.getD 0), .int .u8 (r[6]?.getD 0), .int .u8 (r[7]?.getD 0), .int .u8 (r[8]?.getD 0), .int .u8 (r[9]?.getD 0), .int .u8 (r[10]?.getD 0), .int .u8 (r[11]?.getD 0), .int .u8 (r[12]?.getD 0), .int .u8 (r[13]?.getD 0), .int .u8 (r[14]?.getD 0), .int .u8 (r[15]?.getD 0)], .int .u64 p] w fun e w' => e = .returned (.int .u64 (lsum d r p 16)) ∧ Below w.heap.size w w' := by
  rw [← row8_lit r hr]
  exact leafsum_any a n cap d r p w h hn hr hr8 hp0 hp
theorem Arg.pos {w : World} {a : Option Addr} {n cap : Nat} {d : List In3} (h : Arg w a n cap d) : ∀ x ∈ d, 0 ≤ x.2.1 := by
  intro x hx
  obtain ⟨i, hi, rfl⟩ := List.getElem_of_mem hx
  have := (h.wf i (by rw [← h.len]; exact hi)).2.2.1
  simpa [el, List.getD, hi] using this

set_option maxHeartbeats 3200000 in
set_option maxRecDepth 100000 in
theorem lawA_long (lv pf mask : Int) (ns : List (List Int)) (a : Option Addr) (n cap : Nat) (w : World) (hn : 1024 < n) (hn2 : n ≤ 9223372036854775807) :
    Calls Yba.prog 3 #[.int .u8 lv, .int .u8 pf, .int .u16 mask, .agg (grid ns), .slice a n cap] w fun e w' => e = .returned (.bool true) ∧ Below w.heap.size w w' := by
  have hB : Hid (Below w.heap.size w (w.alloc (.cells (grid ns) 24))) := hide ((Below.refl _ _).alloc (Nat.le_refl _) _)
  have t1 : decide ((1024 : Int) < (n : Int)) = true := decide_eq_true (by omega)
  go_enter Yba.func3, Yba.ntmps3
  go_wp2
  go_ret
  exact ⟨rfl, unhide hB⟩

set_option maxHeartbeats 3200000 in
set_option maxRecDepth 100000 in
theorem lawA_zero (lv pf mask : Int) (ns : List (List Int)) (a : Option Addr) (n cap : Nat) (d : List In3) (w : World) (G : Grid ns) (h : Arg w a n cap d) (hn : n ≤ 1024) (hlv0 : 0 ≤ lv) (hlv : lv ≤ 255) (hpf0 : 0 ≤ pf) (hpf : pf ≤ 255) (hl : lv % 2 = 0) :
    Calls Yba.prog 3 #[.int .u8 lv, .int .u8 pf, .int .u16 mask, .agg (grid ns), .slice a n cap] w fun e w' => e = .returned (.bool true) ∧ Below w.heap.size w w' := by
  have hB0 : Hid (Below w.heap.size w (w.alloc (.cells (grid ns) 24))) := hide ((Below.refl _ _).alloc (Nat.le_refl _) _)
  have hb0 : Hid ((w.alloc (.cells (grid ns) 24)).heap[w.heap.size]? = some (.cells (grid ns) 24 (0, 0))) := hide (heap_alloc_new w _)
  have t1 : decide ((1024 : Int) < (n : Int)) = false := decide_eq_false (by omega)
  have hG := hide G
  have hA := hide h
  clear G h
  go_enter Yba.func3, Yba.ntmps3
  go_wp2_with (refine wpList_load_mid (by rfl) 24 _ (by rfl) w.heap.size 0 (by rfl) (grid ns).toList (.array 16 23) (grid_range (unhide hb0)) Yba.underlying24 rfl (by rw [grid_len (unhide hG)]; exact info24) ?_)
  refine (tree_zero mask ns _ (unhide hG)).mono ?_
  rintro _ w1 ⟨V, rfl, k1, k2, k3⟩
  have hB1 : Hid (Below w.heap.size w w1) := hide ((unhide hB0).trans (k3.mono (unhide hB0).size))
  have hb1 : Hid (w1.heap[w.heap.size]? = some (.cells (grid ns) 24 (0, 0))) := hide ((k3.block _ (lt_of_block (unhide hb0))).trans (unhide hb0))
  have hN1 := hide k2
  clear k1 k2 k3 hB0 hb0
  go_wp2_with fail
  refine (build_any a n cap d w1 ((unhide hA).below (unhide hB1)) hn).mono ?_
  rintro _ w2 ⟨M, rfl, k1, k2, k3⟩
  have hB2 : Hid (Below w.heap.size w w2) := hide ((unhide hB1).trans (k3.mono (unhide hB1).size))
  have hb2 : Hid (w2.heap[w.heap.size]? = some (.cells (grid ns) 24 (0, 0))) := hide ((k3.block _ (lt_of_block (unhide hb1))).trans (unhide hb1))
  have hN2 : Hid (Node w2 V nils (ns.getD 0 [])) := hide ((unhide hN1).of_block (k3.block V (unhide hN1).lt))
  have hM2 := hide k2
  clear k1 k2 k3 hB1 hb1 hN1
  have hmm := @run_makeMap Yba.prog
  have hb36 := run_b36
  go_wp2_with fail
  obtain ⟨W, hW⟩ : ∃ W, W = (w2.alloc (.map #[] 0)).alloc (.cells #[.map none, .map (some M), .map none, .map (some w2.heap.size)] 36) := ⟨_, rfl⟩
  obtain ⟨q1, q2, q3, q4, q5, q6⟩ := setup (unhide hM2) hW
  rw [← hW]
  have hBW : Hid (Below w.heap.size w W) := hide ((unhide hB2).trans (q5.mono (unhide hB2).size))
  have hbW : Hid (W.heap[w.heap.size]? = some (.cells (grid ns) 24 (0, 0))) := hide ((q5.block _ (lt_of_block (unhide hb2))).trans (unhide hb2))
  have hNW : Hid (Node W V nils (ns.getD 0 [])) := hide ((unhide hN2).of_block (q5.block V (unhide hN2).lt))
  have hp0 : 0 ≤ pf % 16 := by omega
  have hp1 : pf % 16 ≤ 100 := by omega
  have hX := hide q1
  have hXl := hide q6
  have hTg : w.heap.size ≤ w2.heap.size := (unhide hB2).size
  refine (term_leaf _ M _ V [] d (ns.getD 0 []) (pf % 16) W q1 q2 (unhide hNW) ((unhide hG).row 0 (by decide)) ((unhide hG).le 0 (by decide)) q3 (unhide hA).pos hp0 hp1 rfl).mono ?_
  rintro _ w3 ⟨rfl, ⟨o, rfl⟩, hT3⟩
  have hne : w.heap.size ≠ w2.heap.size := by have := lt_of_block (unhide hb2); omega
  have hT3h := hide hT3
  have hX3 := hide (q1.grown (turned_grown W w2.heap.size o) (by omega))
  have hXl3 : Hid (w2.heap.size + 1 < (turned W w2.heap.size o).heap.size) := hide (by simpa [turned] using q6)
  have hB3 : Hid (Below w.heap.size w (turned W w2.heap.size o)) := hide ((unhide hBW).grown (turned_grown _ _ _) (unhide hBW).size (fun k hk => by cases hk; exact hTg))
  have hb3 : Hid ((turned W w2.heap.size o).heap[w.heap.size]? = some (.cells (grid ns) 24 (0, 0))) := hide (((turned_grown W w2.heap.size o).block _ (lt_of_block (unhide hbW)) (by simpa using hne)).trans (unhide hbW))
  have hVo : Hid (IsObj (turned W w2.heap.size o) V) := hide (hT3.obj (V, lsum d (ns.getD 0 []) (pf % 16) 16) (by simp))
  clear q1 q2 q3 q4 q5 q6 hT3 hW hX hXl hBW hbW hNW hB2 hb2 hN2 hM2
  generalize turned W w2.heap.size o = W3 at *
  generalize w2.heap.size = T at *
  have g0 := grid_at (unhide hG) (unhide hb3) 0 0 (by decide) (by decide)
  have g1 := grid_at (unhide hG) (unhide hb3) 0 1 (by decide) (by decide)
  have g2 := grid_at (unhide hG) (unhide hb3) 0 2 (by decide) (by decide)
  have g3 := grid_at (unhide hG) (unhide hb3) 0 3 (by decide) (by decide)
  have g4 := grid_at (unhide hG) (unhide hb3) 0 4 (by decide) (by decide)
  have g5 := grid_at (unhide hG) (unhide hb3) 0 5 (by decide) (by decide)
  have g6 := grid_at (unhide hG) (unhide hb3) 0 6 (by decide) (by decide)
  have g7 := grid_at (unhide hG) (unhide hb3) 0 7 (by decide) (by decide)
  have g8 := grid_at (unhide hG) (unhide hb3) 0 8 (by decide) (by decide)
  have g9 := grid_at (unhide hG) (unhide hb3) 0 9 (by decide) (by decide)
  have g10 := grid_at (unhide hG) (unhide hb3) 0 10 (by decide) (by decide)
  have g11 := grid_at (unhide hG) (unhide hb3) 0 11 (by decide) (by decide)
  have g12 := grid_at (unhide hG) (unhide hb3) 0 12 (by decide) (by decide)
  have g13 := grid_at (unhide hG) (unhide hb3) 0 13 (by decide) (by decide)
  have g14 := grid_at (unhide hG) (unhide hb3) 0 14 (by decide) (by decide)
  have g15 := grid_at (unhide hG) (unhide hb3) 0 15 (by decide) (by decide)
  simp only [Nat.zero_mul, Nat.zero_add] at g0 g1 g2 g3 g4 g5 g6 g7 g8 g9 g10 g11 g12 g13 g14 g15
  have hr := hide ((unhide hG).row 0 (by decide))
  have hr8 := hide ((unhide hG).le 0 (by decide))
  generalize ns.getD 0 [] = r at *
  go_wp2_with fail
  refine (leafsum_lit a n cap d r (pf % 16) W3 ((unhide hA).below (unhide hB3)) (by omega) (unhide hr) (unhide hr8) hp0 hp1).mono ?_
  rintro _ w4 ⟨rfl, k1⟩
  have hT4 := (unhide hT3h).kept k1
  have hlk := hT4.look ((unhide hVo).kept k1)
  have hln := hT4.lenRun
  have c3 := ((unhide hX3).kept (unhide hXl3) k1).terms
  have hB4 : Hid (Below w.heap.size w w4) := hide ((unhide hB3).trans (k1.mono (unhide hB3).size))
  simp only [tkey, List.nil_append, asc, if_true, Option.getD_some, Option.isSome_some] at hlk
  simp only [List.nil_append, List.length_cons, List.length_nil, Nat.zero_add] at hln
  generalize lsum d r (pf % 16) 16 = R at *
  clear g0 g1 g2 g3 g4 g5 g6 g7 g8 g9 g10 g11 g12 g13 g14 g15 k1 hT4 hT3h
  go_wp2
  go_ret
  exact ⟨rfl, unhide hB4⟩
end Go.Proofs.Ybulkbzfi
