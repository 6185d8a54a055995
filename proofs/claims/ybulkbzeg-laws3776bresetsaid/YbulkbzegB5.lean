/-
  REGION 5 of LawS3776BReset: the literal of the explorer: 31 operations in whatever order: by an invariant (YbulkbzegInv).
-/
import Derived.Test.YbulkbzegBRound
import Derived.Test.YbulkbzegInv
namespace Go.Proofs.Ybulkbzeg.B
open Go.RowKit

def msgv : Value := .agg #[.int .u8 1, .int .i64 2]

theorem run_b40 (c : Int) (w : World) : (Instr.build 40 #[(0, .int .i64 1), (1, .int .i64 c)]).run Yba.prog w = .ok (.agg #[.int .i64 1, .int .i64 c, .slice none 0 0]) w := by kernel_rfl
theorem run_b53 (m b r : Value) (w : World) (hm : ∃ x, m = .int .i64 x) (hb : ∃ x y z, b = .slice x y z) (hr : ∃ x, r = .map x) : (Instr.build 53 #[(0, m), (1, b), (2, r)]).run Yba.prog w = .ok (.agg #[m, b, r]) w := by
  obtain ⟨_, rfl⟩ := hm; obtain ⟨_, _, _, rfl⟩ := hb; obtain ⟨_, rfl⟩ := hr; kernel_rfl
theorem run_b58 (w : World) : (Instr.build 58 #[(1, .int .i32 3)]).run Yba.prog w = .ok (.agg #[.slice none 0 0, .int .i32 3]) w := by kernel_rfl
theorem run_bs50 (w : World) : (Instr.buildSlice 50 1 #[(0, msgv)]).run Yba.prog w = .ok (.slice (some ⟨w.heap.size, 0, none⟩) 1 1) (w.alloc (.cells #[.int .u8 1, .int .i64 2] 48)) := by kernel_rfl
theorem run_conv (n : Int) (h0 : 0 ≤ n) (h1 : n ≤ 255) (w : World) : (convert 5 3 (.int .u8 n)).run Yba.prog w = .ok (.int .i64 n) w := by
  simp [go_sem, Yba.underlying5, Yba.underlying3]
  rw [IntKind.wrap_i64]
  omega
theorem run_box76 (cs : Array Value) (w : World) : (Instr.box 76 (.agg cs)).run Yba.prog w = .ok (.pointer (some ⟨w.heap.size, 0, none⟩)) (w.alloc (.cells cs 76)) := by
  simp [go_sem]
theorem run_b76 (width count maxS mr mr' : Int) (T oB oH pl pc sl sc : Nat) (pa sa : Option Addr) (nu mo ta : Option Nat) (w : World) :
    (Instr.build 76 #[(0, .int .i64 width), (7, .pointer (some ⟨T, 0, none⟩)), (8, .agg #[.int .i64 1, .int .i64 count, .slice none 0 0]), (9, .int .i64 maxS), (10, .bool true), (11, .int .i32 (-1)), (12, .int .i64 mr),
      (13, .agg #[.int .i64 mr', .slice pa pl pc, .map nu]), (14, .pointer (some ⟨oB, 0, none⟩)), (15, .slice sa sl sc), (16, .map mo), (17, .map ta), (18, .pointer (some ⟨oH, 0, none⟩))]).run Yba.prog w =
      .ok (.agg (expl width (.pointer (some ⟨T, 0, none⟩)) count maxS mr mr' (.slice pa pl pc) (.map nu) (.pointer (some ⟨oB, 0, none⟩)) (.slice sa sl sc) (.map mo) (.map ta) (.pointer (some ⟨oH, 0, none⟩)))) w := by kernel_rfl
theorem run_load48 (M : Nat) (w : World) (h0 : w.cell? ⟨M, 0, none⟩ = some (.int .u8 1)) (h1 : w.cell? ⟨M, 1, none⟩ = some (.int .i64 2)) : (Instr.loadAt 48 (.pointer (some ⟨M, 0, none⟩))).run Yba.prog w = .ok msgv w := by
  simp [go_sem, h0, h1, msgv]
theorem run_rem (n : Int) (h0 : 0 ≤ n) (w : World) : (binOp .rem 3 (.int .i64 n) (.int .i64 8)).run Yba.prog w = .ok (.int .i64 (n % 8)) w := by
  simp [go_sem]
  rw [Int.tmod_eq_emod_of_nonneg h0]
theorem run_add (n : Int) (h0 : 0 ≤ n) (h1 : n ≤ 255) (w : World) : (binOp .add 3 (.int .i64 n) (.int .i64 1)).run Yba.prog w = .ok (.int .i64 (n + 1)) w := by
  simp [go_sem]
  rw [IntKind.wrap_i64]
  omega

/-- A map's block turned. -/
def turned (w : World) (r : Nat) (o : Obj) : World := { w with heap := w.heap.setIfInBounds r o }

theorem run_ins (t k e : TypeId) (key val : Value) (r : Nat) (w : World) (ht : Yba.prog.underlying t = some (.map k e)) (hk : (Instr.checkKey false 10000 k key).run Yba.prog w = .ok () w) (hf : (Instr.findKey k key []).run Yba.prog w = .ok none w)
    (h : w.heap[r]? = some (.map #[] 0)) : ∃ o, (Instr.mapUpdate t (.map (some r)) key val).run Yba.prog w = .ok () (turned w r o) := by
  refine ⟨.map #[{ key := key, val := val, born := 0 }] 1, ?_⟩
  simp [Instr.mapUpdate, run_underlying ht, MapKept.run_getObj_map h, hk, hf, MapKept.run_setObj_map _ h, turned]
theorem run_ins51 (r : Nat) (w : World) (h : w.heap[r]? = some (.map #[] 0)) : ∃ o, (Instr.mapUpdate 51 (.map (some r)) msgv (.int .i64 0)).run Yba.prog w = .ok () (turned w r o) :=
  run_ins 51 48 3 _ _ r w Yba.underlying51 (by kernel_rfl) (by kernel_rfl) h
theorem run_ins59 (r : Nat) (v : Value) (w : World) (h : w.heap[r]? = some (.map #[] 0)) : ∃ o, (Instr.mapUpdate 59 (.map (some r)) (.int .u64 1) v).run Yba.prog w = .ok () (turned w r o) :=
  run_ins 59 55 58 _ _ r w Yba.underlying59 (by kernel_rfl) (by kernel_rfl) h
theorem run_ins60 (r : Nat) (v : Value) (w : World) (h : w.heap[r]? = some (.map #[] 0)) : ∃ o, (Instr.mapUpdate 60 (.map (some r)) (.string ⟨#[97]⟩) v).run Yba.prog w = .ok () (turned w r o) :=
  run_ins 60 9 21 _ _ r w Yba.underlying60 (by kernel_rfl) (by kernel_rfl) h
theorem info113 : (Yba.prog.info? 113).map (fun i => (i.zero, i.size, i.bytes)) = some (some (.agg #[.nilIface, .int .u8 0, .int .i64 0, .int .i32 0, .bool false]), 5, 40) := by kernel_rfl
theorem run_mk54 (n : Int) (h0 : 0 ≤ n) (hn : n ≤ 100) (w : World) : ∃ o c, (Instr.makeSlice 54 (.int .i64 n) (.int .i64 n)).run Yba.prog w = .ok (.slice (some ⟨w.heap.size, 0, none⟩) c c) (w.alloc o) := by
  obtain ⟨i0, hi, hz0, hz1, hz2⟩ := info_parts info113
  exact ⟨_, _, run_make w 54 113 i0 _ Yba.underlying54 hi hz0 .i64 .i64 n n h0 (Int.le_refl _) (by rw [hz2]; omega) (by omega)⟩

/-- The slot that operation j writes (three write none). -/
def dst : Nat → Nat
  | 0 => 33
  | 1 => 34
  | 2 => 35
  | 3 => 36
  | 4 => 37
  | 5 => 38
  | 6 => 39
  | 7 => 40
  | 8 => 41
  | 9 => 42
  | 10 => 43
  | 11 => 1011
  | 12 => 44
  | 13 => 45
  | 14 => 46
  | 15 => 47
  | 16 => 48
  | 17 => 49
  | 18 => 50
  | 19 => 51
  | 20 => 52
  | 21 => 53
  | 22 => 1022
  | 23 => 54
  | 24 => 55
  | 25 => 1025
  | 26 => 56
  | 27 => 57
  | 28 => 58
  | 29 => 59
  | 30 => 19
  | j => 2000 + j

theorem dst_inj' : ∀ i, i < 31 → ∀ j, j < 31 → dst i = dst j → i = j := by decide
theorem dst_inj {i j : Nat} (hi : i < 31) (hj : j < 31) (h : i ≠ j) : dst i ≠ dst j := fun e => h (dst_inj' i hi j hj e)
theorem dst_far (j : Nat) (h : ¬ j < 31) : dst j = 2000 + j := by
  obtain ⟨k, rfl⟩ : ∃ k, j = k + 31 := ⟨j - 31, by omega⟩
  rfl

theorem mark_false {L : Array Bool} {i : Nat} (hi : i < L.size) (j : Nat) : (L.setIfInBounds i true).getD j false = if j = i then true else L.getD j false := by
  by_cases h : j = i
  · subst h; simp [Array.getD, hi]
  · rw [if_neg h, getD_set_ne false (Ne.symm h)]
theorem mark_true {L : Array Bool} {i : Nat} (hi : i < L.size) (j : Nat) : (L.setIfInBounds i true).getD j true = if j = i then true else L.getD j true := by
  by_cases h : j = i
  · subst h; simp [Array.getD, hi]
  · rw [if_neg h, getD_set_ne true (Ne.symm h)]
theorem slot_put {t : Array Value} {d : Nat} (hd : d < t.size) (v : Value) (k : Nat) : (t.setIfInBounds d v).getD k undef = if k = d then v else t.getD k undef := by
  by_cases h : k = d
  · subst h; simp [Array.getD, hd]
  · rw [if_neg h]
    simp only [Array.getD_eq_getD_getElem?, Array.getElem?_setIfInBounds, if_neg (Ne.symm h)]

section
variable (width count maxS mr nS : Int) (T oB oH M B0 : Nat) (t0 : Array Value) (W0 : World)

/-- What operation j has left in its slot. -/
def G (j : Nat) (v : Value) (w : World) : Prop :=
  match j with
  | 0 => v = .int .i64 width
  | 1 => v = .pointer (some ⟨T, 0, none⟩)
  | 2 => v = .int .i64 count
  | 3 => v = .agg #[.int .i64 1, .int .i64 count, .slice none 0 0]
  | 4 => v = .int .i64 maxS
  | 5 => v = .int .i64 mr
  | 6 => v = .int .i64 mr
  | 7 => v = msgv
  | 8 => ∃ b, v = .slice (some ⟨b, 0, none⟩) 1 1
  | 9 => ∃ r, v = .map (some r) ∧ B0 ≤ r ∧ r < w.heap.size
  | 10 => v = msgv
  | 12 => ∃ r, v = .map (some r)
  | 13 => ∃ b r, v = .agg #[.int .i64 mr, .slice (some ⟨b, 0, none⟩) 1 1, .map (some r)]
  | 14 => v = .pointer (some ⟨oB, 0, none⟩)
  | 15 => v = .int .u8 nS
  | 16 => v = .int .i64 nS
  | 17 => v = .int .i64 (nS % 8)
  | 18 => v = .int .i64 (nS % 8 + 1)
  | 19 => ∃ b c, v = .slice (some ⟨b, 0, none⟩) c c
  | 20 => ∃ r, v = .map (some r) ∧ B0 ≤ r ∧ r < w.heap.size
  | 21 => v = .agg #[.slice none 0 0, .int .i32 3]
  | 23 => ∃ r, v = .map (some r)
  | 24 => ∃ r, v = .map (some r) ∧ B0 ≤ r ∧ r < w.heap.size
  | 26 => ∃ r, v = .map (some r)
  | 27 => v = .pointer (some ⟨oH, 0, none⟩)
  | 28 => ∃ ps nu se mo ta, v = .agg (expl width (.pointer (some ⟨T, 0, none⟩)) count maxS mr mr ps nu (.pointer (some ⟨oB, 0, none⟩)) se mo ta (.pointer (some ⟨oH, 0, none⟩)))
  | 29 => ∃ E ps nu se mo ta, v = .pointer (some ⟨E, 0, none⟩) ∧ B0 ≤ E ∧ ExplAt w E width (.pointer (some ⟨T, 0, none⟩)) count maxS mr mr ps nu (.pointer (some ⟨oB, 0, none⟩)) se mo ta (.pointer (some ⟨oH, 0, none⟩))
  | 30 => ∃ E ps nu se mo ta, v = .pointer (some ⟨E, 0, none⟩) ∧ B0 ≤ E ∧ ExplAt w E width (.pointer (some ⟨T, 0, none⟩)) count maxS mr mr ps nu (.pointer (some ⟨oB, 0, none⟩)) se mo ta (.pointer (some ⟨oH, 0, none⟩))
  | _ => True

theorem G_mono {w w' : World} (hs : w.heap.size ≤ w'.heap.size) (hE : ∀ (E : Nat) (c : Array Value) (t : TypeId), w.heap[E]? = some (Obj.cells c t (0, 0)) → w'.heap[E]? = some (Obj.cells c t (0, 0))) (j : Nat) (v : Value)
    (h : G width count maxS mr nS T oB oH B0 j v w) : G width count maxS mr nS T oB oH B0 j v w' := by
  unfold G at h ⊢
  split at h <;> try exact h
  all_goals first
    | (obtain ⟨r, h1, h2, h3⟩ := h; exact ⟨r, h1, h2, Nat.lt_of_lt_of_le h3 hs⟩)
    | (obtain ⟨E, ps, nu, se, mo, ta, h1, h2, h3⟩ := h; exact ⟨E, ps, nu, se, mo, ta, h1, h2, hE _ _ _ h3⟩)

/-- A map that was made and not yet filled is empty. -/
def Empty (L : Array Bool) (a : Act) (w : World) (m i d : Nat) : Prop :=
  L.getD m false = true → L.getD i true = false → ∃ r, a.tmps.getD d undef = .map (some r) ∧ w.heap[r]? = some (.map #[] 0)

/-- THE INVARIANT. -/
structure Inv (L : Array Bool) (a : Act) (w : World) : Prop where
  defers : a.defers = []
  size : a.tmps.size = t0.size
  old : ∀ k, (∀ j, j < 31 → dst j ≠ k) → a.tmps.getD k undef = t0.getD k undef
  good : ∀ j, L.getD j false = true → G width count maxS mr nS T oB oH B0 j (a.tmps.getD (dst j) undef) w
  below : Below B0 W0 w
  top : B0 ≤ w.heap.size
  e9 : Empty L a w 9 11 42
  e20 : Empty L a w 20 22 52
  e24 : Empty L a w 24 25 55
  d1 : L.getD 9 false = true → L.getD 20 false = true → a.tmps.getD 42 undef ≠ a.tmps.getD 52 undef
  d2 : L.getD 9 false = true → L.getD 24 false = true → a.tmps.getD 42 undef ≠ a.tmps.getD 55 undef
  d3 : L.getD 20 false = true → L.getD 24 false = true → a.tmps.getD 52 undef ≠ a.tmps.getD 55 undef

variable {width count maxS mr nS T oB oH B0 t0 W0}
variable {L : Array Bool} {a : Act} {w w' : World}

/-- The good slots behind a put. -/
theorem Inv.good_put (h : Inv width count maxS mr nS T oB oH B0 t0 W0 L a w) (hL : L.size = 31) (i : Nat) (hi : i < 31) (hd : dst i < t0.size) (h0 : t0.size < 1000) (v : Value) (hg : G width count maxS mr nS T oB oH B0 i v w')
    (hs : w.heap.size ≤ w'.heap.size) (hE : ∀ (E : Nat) (c : Array Value) (t : TypeId), w.heap[E]? = some (Obj.cells c t (0, 0)) → w'.heap[E]? = some (Obj.cells c t (0, 0))) :
    ∀ j, (L.setIfInBounds i true).getD j false = true → G width count maxS mr nS T oB oH B0 j ((a.put (some (dst i)) v).tmps.getD (dst j) undef) w' := by
  intro j hj
  rw [mark_false (by omega)] at hj
  show G width count maxS mr nS T oB oH B0 j ((a.tmps.setIfInBounds (dst i) v).getD (dst j) undef) w'
  rw [slot_put (by rw [h.size]; exact hd)]
  by_cases hji : j = i
  · subst hji
    rw [if_pos rfl]
    exact hg
  · rw [if_neg hji] at hj
    have hne : dst j ≠ dst i := by
      by_cases hj31 : j < 31
      · exact dst_inj hj31 hi hji
      · rw [dst_far j hj31]; omega
    rw [if_neg hne]
    exact G_mono _ _ _ _ _ _ _ _ _ hs hE j _ (h.good j hj)

theorem Inv.old_put (h : Inv width count maxS mr nS T oB oH B0 t0 W0 L a w) (i : Nat) (hi : i < 31) (hd : dst i < t0.size) (v : Value) :
    ∀ k, (∀ j, j < 31 → dst j ≠ k) → (a.put (some (dst i)) v).tmps.getD k undef = t0.getD k undef := by
  intro k hk
  show (a.tmps.setIfInBounds (dst i) v).getD k undef = _
  rw [slot_put (by rw [h.size]; exact hd), if_neg (fun e => hk i hi e.symm)]
  exact h.old k hk

theorem slot_other (a : Act) {d k : Nat} (v : Value) (hd : d < a.tmps.size) (hk : k ≠ d) : (a.put (some d) v).tmps.getD k undef = a.tmps.getD k undef := by
  show (a.tmps.setIfInBounds d v).getD k undef = _
  rw [slot_put hd, if_neg hk]

theorem Empty.other {m j d i : Nat} {a' : Act} (he : Empty L a w m j d) (hi : i < L.size) (him : m ≠ i) (hij : j ≠ i) (hd : a'.tmps.getD d undef = a.tmps.getD d undef) (hM : ∀ r : Nat, w.heap[r]? = some (Obj.map #[] 0) → a.tmps.getD d undef = .map (some r) → w'.heap[r]? = some (Obj.map #[] 0)) :
    Empty (L.setIfInBounds i true) a' w' m j d := by
  intro h1 h2
  rw [mark_false hi, if_neg him] at h1
  rw [mark_true hi, if_neg hij] at h2
  obtain ⟨r, h3, h4⟩ := he h1 h2
  exact ⟨r, by rw [hd]; exact h3, hM r h4 h3⟩

/-- A step that makes no map and fills none. -/
theorem Inv.put (h : Inv width count maxS mr nS T oB oH B0 t0 W0 L a w) (hL : L.size = 31) (i : Nat) (hi : i < 31) (hd : dst i < t0.size) (h0 : t0.size < 1000) (hn : i ≠ 9 ∧ i ≠ 20 ∧ i ≠ 24 ∧ i ≠ 11 ∧ i ≠ 22 ∧ i ≠ 25)
    (v : Value) (hg : G width count maxS mr nS T oB oH B0 i v w') (hb : Below w.heap.size w w') :
    Inv width count maxS mr nS T oB oH B0 t0 W0 (L.setIfInBounds i true) (a.put (some (dst i)) v) w' := by
  obtain ⟨n1, n2, n3, n4, n5, n6⟩ := hn
  have hsz : dst i < a.tmps.size := by rw [h.size]; exact hd
  have k1 : (42 : Nat) ≠ dst i := fun e => n1 (dst_inj' i hi 9 (by decide) e.symm)
  have k2 : (52 : Nat) ≠ dst i := fun e => n2 (dst_inj' i hi 20 (by decide) e.symm)
  have k3 : (55 : Nat) ≠ dst i := fun e => n3 (dst_inj' i hi 24 (by decide) e.symm)
  have hM : ∀ r : Nat, w.heap[r]? = some (Obj.map #[] 0) → w'.heap[r]? = some (Obj.map #[] 0) := fun r hr => by rw [hb.block r (lt_of_block hr)]; exact hr
  have hE : ∀ (E : Nat) (c : Array Value) (t : TypeId), w.heap[E]? = some (Obj.cells c t (0, 0)) → w'.heap[E]? = some (Obj.cells c t (0, 0)) := fun E c t hr => by rw [hb.block E (lt_of_block hr)]; exact hr
  refine ⟨h.defers, by simpa [Act.put] using h.size, h.old_put i hi hd v, h.good_put hL i hi hd h0 v hg hb.size hE, h.below.trans (hb.mono h.top), Nat.le_trans h.top hb.size, ?_, ?_, ?_, ?_, ?_, ?_⟩
  · exact h.e9.other (by omega) (Ne.symm n1) (Ne.symm n4) (slot_other a v hsz k1) (fun r hr _ => hM r hr)
  · exact h.e20.other (by omega) (Ne.symm n2) (Ne.symm n5) (slot_other a v hsz k2) (fun r hr _ => hM r hr)
  · exact h.e24.other (by omega) (Ne.symm n3) (Ne.symm n6) (slot_other a v hsz k3) (fun r hr _ => hM r hr)
  · intro h1 h2
    rw [mark_false (by omega), if_neg (Ne.symm n1)] at h1
    rw [mark_false (by omega), if_neg (Ne.symm n2)] at h2
    rw [slot_other a v hsz k1, slot_other a v hsz k2]
    exact h.d1 h1 h2
  · intro h1 h2
    rw [mark_false (by omega), if_neg (Ne.symm n1)] at h1
    rw [mark_false (by omega), if_neg (Ne.symm n3)] at h2
    rw [slot_other a v hsz k1, slot_other a v hsz k3]
    exact h.d2 h1 h2
  · intro h1 h2
    rw [mark_false (by omega), if_neg (Ne.symm n2)] at h1
    rw [mark_false (by omega), if_neg (Ne.symm n3)] at h2
    rw [slot_other a v hsz k2, slot_other a v hsz k3]
    exact h.d3 h1 h2

theorem Inv.map_lt (h : Inv width count maxS mr nS T oB oH B0 t0 W0 L a w) (m : Nat) (hm : m = 9 ∨ m = 20 ∨ m = 24) (hl : L.getD m false = true) : ∃ r, a.tmps.getD (dst m) undef = .map (some r) ∧ r < w.heap.size := by
  have hg := h.good m hl
  rcases hm with rfl | rfl | rfl
  all_goals
    obtain ⟨r, h1, _, h3⟩ := hg
    exact ⟨r, h1, h3⟩

/-- A map is made. -/
theorem Inv.map (h : Inv width count maxS mr nS T oB oH B0 t0 W0 L a w) (hL : L.size = 31) (i : Nat) (hi : i = 9 ∨ i = 20 ∨ i = 24) (hd : dst i < t0.size) (h0 : t0.size < 1000) :
    Inv width count maxS mr nS T oB oH B0 t0 W0 (L.setIfInBounds i true) (a.put (some (dst i)) (.map (some w.heap.size))) (w.alloc (.map #[] 0)) := by
  have hi31 : i < 31 := by omega
  have hb : Below w.heap.size w (w.alloc (.map #[] 0)) := (Below.refl _ _).alloc (Nat.le_refl _) _
  have hsz : dst i < a.tmps.size := by rw [h.size]; exact hd
  have hg : G width count maxS mr nS T oB oH B0 i (.map (some w.heap.size)) (w.alloc (.map #[] 0)) := by
    rcases hi with rfl | rfl | rfl <;> exact ⟨_, rfl, h.top, by simp⟩
  have hM : ∀ r : Nat, w.heap[r]? = some (Obj.map #[] 0) → (w.alloc (.map #[] 0)).heap[r]? = some (.map #[] 0) := fun r hr => by rw [hb.block r (lt_of_block hr)]; exact hr
  have hE : ∀ (E : Nat) (c : Array Value) (t : TypeId), w.heap[E]? = some (Obj.cells c t (0, 0)) → (w.alloc (.map #[] 0)).heap[E]? = some (Obj.cells c t (0, 0)) := fun E c t hr => by rw [hb.block E (lt_of_block hr)]; exact hr
  have hnew : (a.put (some (dst i)) (.map (some w.heap.size))).tmps.getD (dst i) undef = .map (some w.heap.size) := by
    show (a.tmps.setIfInBounds (dst i) _).getD _ undef = _
    rw [slot_put hsz, if_pos rfl]
  -- an empty map, new or old
  have hemp : ∀ m j, (m = 9 ∨ m = 20 ∨ m = 24) → j ≠ i → Empty L a w m j (dst m) → Empty (L.setIfInBounds i true) (a.put (some (dst i)) (.map (some w.heap.size))) (w.alloc (.map #[] 0)) m j (dst m) := by
    intro m j hm hji he
    by_cases hmi : m = i
    · subst hmi
      intro _ _
      exact ⟨w.heap.size, hnew, heap_alloc_new w _⟩
    · exact he.other (by omega) hmi hji (slot_other a _ hsz (dst_inj (by omega) hi31 hmi)) (fun r hr _ => hM r hr)
  -- two maps are two
  have htwo : ∀ m n, (m = 9 ∨ m = 20 ∨ m = 24) → (n = 9 ∨ n = 20 ∨ n = 24) → m ≠ n → (L.getD m false = true → L.getD n false = true → a.tmps.getD (dst m) undef ≠ a.tmps.getD (dst n) undef) →
      (L.setIfInBounds i true).getD m false = true → (L.setIfInBounds i true).getD n false = true →
      (a.put (some (dst i)) (.map (some w.heap.size))).tmps.getD (dst m) undef ≠ (a.put (some (dst i)) (.map (some w.heap.size))).tmps.getD (dst n) undef := by
    intro m n hm hn hmn hold h1 h2
    rw [mark_false (by omega)] at h1 h2
    by_cases hmi : m = i
    · subst hmi
      rw [if_neg (Ne.symm hmn)] at h2
      rw [hnew, slot_other a _ hsz (dst_inj (by omega) hi31 (Ne.symm hmn))]
      obtain ⟨r, hr, hlt⟩ := h.map_lt n hn h2
      rw [hr]
      simp only [ne_eq, Value.map.injEq, Option.some.injEq]
      omega
    · rw [if_neg hmi] at h1
      rw [slot_other a _ hsz (dst_inj (by omega) hi31 hmi)]
      by_cases hni : n = i
      · subst hni
        rw [hnew]
        obtain ⟨r, hr, hlt⟩ := h.map_lt m hm h1
        rw [hr]
        simp only [ne_eq, Value.map.injEq, Option.some.injEq]
        omega
      · rw [if_neg hni] at h2
        rw [slot_other a _ hsz (dst_inj (by omega) hi31 hni)]
        exact hold h1 h2
  exact ⟨h.defers, by simpa [Act.put] using h.size, h.old_put i hi31 hd _, h.good_put hL i hi31 hd h0 _ hg hb.size hE, h.below.trans (hb.mono h.top), Nat.le_trans h.top hb.size,
    hemp 9 11 (.inl rfl) (by omega) h.e9, hemp 20 22 (.inr (.inl rfl)) (by omega) h.e20, hemp 24 25 (.inr (.inr rfl)) (by omega) h.e24,
    htwo 9 20 (.inl rfl) (.inr (.inl rfl)) (by decide) h.d1, htwo 9 24 (.inl rfl) (.inr (.inr rfl)) (by decide) h.d2, htwo 20 24 (.inr (.inl rfl)) (.inr (.inr rfl)) (by decide) h.d3⟩

theorem turned_other (w : World) (r k : Nat) (o : Obj) (h : k ≠ r) : (turned w r o).heap[k]? = w.heap[k]? := by
  simp only [turned, Array.getElem?_setIfInBounds, if_neg (Ne.symm h)]

/-- A map is filled. -/
theorem Inv.fill (h : Inv width count maxS mr nS T oB oH B0 t0 W0 L a w) (hL : L.size = 31) (i m : Nat) (hi : (m = 9 ∧ i = 11) ∨ (m = 20 ∧ i = 22) ∨ (m = 24 ∧ i = 25)) (hm : L.getD m false = true)
    (r : Nat) (hr : a.tmps.getD (dst m) undef = .map (some r)) (hemp : w.heap[r]? = some (.map #[] 0)) (o : Obj) :
    Inv width count maxS mr nS T oB oH B0 t0 W0 (L.setIfInBounds i true) a (turned w r o) := by
  have hs : (turned w r o).heap.size = w.heap.size := by simp [turned]
  have hE : ∀ (E : Nat) (c : Array Value) (t : TypeId), w.heap[E]? = some (Obj.cells c t (0, 0)) → (turned w r o).heap[E]? = some (Obj.cells c t (0, 0)) := by
    intro E c t hc
    rw [turned_other w r E o (fun e => by rw [e, hemp] at hc; simp at hc)]
    exact hc
  have hBr : B0 ≤ r := by
    have hg := h.good m hm
    rcases hi with ⟨rfl, _⟩ | ⟨rfl, _⟩ | ⟨rfl, _⟩
    all_goals
      obtain ⟨r', h1, h2, _⟩ := hg
      rw [hr] at h1
      simp only [Value.map.injEq, Option.some.injEq] at h1
      omega
  have hb : Below B0 w (turned w r o) := ⟨rfl, rfl, rfl, by rw [hs]; exact Nat.le_refl _, fun k hk => turned_other w r k o (by omega)⟩
  have hmark : ∀ n, n ≠ i → (L.setIfInBounds i true).getD n false = L.getD n false := fun n hn => by rw [mark_false (by omega), if_neg hn]
  have hgood : ∀ j, (L.setIfInBounds i true).getD j false = true → G width count maxS mr nS T oB oH B0 j (a.tmps.getD (dst j) undef) (turned w r o) := by
    intro j hj
    by_cases hji : j = i
    · subst hji
      rcases hi with ⟨_, rfl⟩ | ⟨_, rfl⟩ | ⟨_, rfl⟩ <;> trivial
    · rw [hmark j hji] at hj
      exact G_mono _ _ _ _ _ _ _ _ _ (by rw [hs]; exact Nat.le_refl _) hE j _ (h.good j hj)
  have hdist : ∀ n, (n = 9 ∨ n = 20 ∨ n = 24) → n ≠ m → L.getD n false = true → a.tmps.getD (dst n) undef ≠ .map (some r) := by
    intro n hn hnm hl
    rw [← hr]
    rcases hi with ⟨rfl, _⟩ | ⟨rfl, _⟩ | ⟨rfl, _⟩ <;> rcases hn with rfl | rfl | rfl <;> first
      | exact absurd rfl hnm
      | exact h.d1 hl hm
      | exact h.d2 hl hm
      | exact h.d3 hl hm
      | exact Ne.symm (h.d1 hm hl)
      | exact Ne.symm (h.d2 hm hl)
      | exact Ne.symm (h.d3 hm hl)
  have hem : ∀ n j, (n = 9 ∧ j = 11) ∨ (n = 20 ∧ j = 22) ∨ (n = 24 ∧ j = 25) → Empty L a w n j (dst n) → Empty (L.setIfInBounds i true) a (turned w r o) n j (dst n) := by
    intro n j hnj he h1 h2
    by_cases hji : j = i
    · subst hji
      rw [mark_true (by omega), if_pos rfl] at h2
      cases h2
    · have hni : n ≠ i := by omega
      have hnm : n ≠ m := by omega
      rw [mark_true (by omega), if_neg hji] at h2
      rw [hmark n hni] at h1
      obtain ⟨r', h3, h4⟩ := he h1 h2
      refine ⟨r', h3, ?_⟩
      rw [turned_other w r r' o (fun e => hdist n (by omega) hnm h1 (by rw [h3, e]))]
      exact h4
  exact ⟨h.defers, h.size, h.old, hgood, h.below.trans hb, by rw [hs]; exact h.top, hem 9 11 (.inl ⟨rfl, rfl⟩) h.e9, hem 20 22 (.inr (.inl ⟨rfl, rfl⟩)) h.e20, hem 24 25 (.inr (.inr ⟨rfl, rfl⟩)) h.e24,
    by rw [hmark 9 (by omega), hmark 20 (by omega)]; exact h.d1, by rw [hmark 9 (by omega), hmark 24 (by omega)]; exact h.d2, by rw [hmark 20 (by omega), hmark 24 (by omega)]; exact h.d3⟩
end
end Go.Proofs.Ybulkbzeg.B
