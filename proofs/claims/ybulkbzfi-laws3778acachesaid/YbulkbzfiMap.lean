/-
  The two maps of the law as they lie in memory: map[*vnode]uint64 (terms) and map[uint64]*sums (asks).
-/
import Derived.Test.YbulkbzfiUpTo
import Derived.LaidEql
import Derived.MapKept
namespace Go.Proofs.Ybulkbzfi
open Go.RowKit

/-- The value at a key. -/
def asc : List (Nat × Int) → Nat → Option Int
  | [], _ => none
  | p :: l, K => if p.1 = K then some p.2 else asc l K

/-- A node's pointer. -/
def tkey (K : Nat) : Value := .pointer (some ⟨K, 0, none⟩)
/-- Block K is an object. -/
def IsObj (w : World) (K : Nat) : Prop := ∃ c t, w.heap[K]? = some (.cells c t (0, 0))
/-- Block T is the map of these entries. -/
structure TMap (w : World) (T : Nat) (l : List (Nat × Int)) : Prop where
  at_ : ∃ es ck, w.heap[T]? = some (.map es ck) ∧ es.toList.map (fun e => (e.key, e.val)) = l.map (fun p => (tkey p.1, Value.int .u64 p.2))
  obj : ∀ p ∈ l, IsObj w p.1

theorem info42 : (Yba.prog.info? 42).map (fun i => i.size) = some 32 := by kernel_rfl
theorem eq_same (K : Nat) (w : World) : (Op.equal 28 (tkey K) (tkey K)).run Yba.prog w = .ok true w := by
  obtain ⟨i0, hi, _⟩ : ∃ i, Yba.prog.info? 42 = some i ∧ i.size = 32 := by
    have := info42
    cases h : Yba.prog.info? 42 with
    | none => rw [h] at this; simp at this
    | some i => rw [h] at this; exact ⟨i, rfl, by simpa using this⟩
  have h : ∀ d : Nat, (Op.equalIn (d + 1) 28 (tkey K) (tkey K)).run Yba.prog w = .ok true w := fun d => by
    simp [Op.equalIn, tkey, run_underlying Yba.underlying28, sizeOf, typeInfo, hi, run_sameAddr_same]
  exact h 9999
theorem eq_other (K L : Nat) (w : World) (hne : K ≠ L) (hK : IsObj w K) (hL : IsObj w L) : (Op.equal 28 (tkey K) (tkey L)).run Yba.prog w = .ok false w := by
  obtain ⟨i0, hi, hs⟩ : ∃ i, Yba.prog.info? 42 = some i ∧ i.size = 32 := by
    have := info42
    cases h : Yba.prog.info? 42 with
    | none => rw [h] at this; simp at this
    | some i => rw [h] at this; exact ⟨i, rfl, by simpa using this⟩
  obtain ⟨c, t, h1⟩ := hK
  obtain ⟨c', t', h2⟩ := hL
  have hsame := run_sameAddr_other (P := Yba.prog) (w := w) (a := ⟨K, 0, none⟩) (b := ⟨L, 0, none⟩) (fun e => hne (congrArg Addr.block e)) h1 h2
  have h : ∀ d : Nat, (Op.equalIn (d + 1) 28 (tkey K) (tkey L)).run Yba.prog w = .ok false w := fun d => by
    simp [Op.equalIn, tkey, run_underlying Yba.underlying28, sizeOf, typeInfo, hi, hs, hsame]
  exact h 9999

theorem ask_run (K : Nat) (w : World) (hK : IsObj w K) : ∀ (es : List MapEntry) (l : List (Nat × Int)) (i : Nat), es.map (fun e => (e.key, e.val)) = l.map (fun p => (tkey p.1, Value.int .u64 p.2)) → (∀ p ∈ l, IsObj w p.1) →
    ∃ r, (Instr.findAsking 28 (tkey K) es i).run Yba.prog w = .ok r w ∧ ((asc l K = none ∧ r = none) ∨ ∃ j x, asc l K = some x ∧ r = some (j, .int .u64 x)) := by
  intro es
  induction es with
  | nil =>
    intro l i hl _
    cases l with
    | nil => exact ⟨none, by simp [Instr.findAsking], .inl ⟨rfl, rfl⟩⟩
    | cons p l => simp at hl
  | cons e es ih =>
    intro l i hl hobj
    cases l with
    | nil => simp at hl
    | cons p l =>
      simp only [List.map_cons, List.cons.injEq, Prod.mk.injEq] at hl
      obtain ⟨⟨hk, hv⟩, hl⟩ := hl
      by_cases hp : p.1 = K
      · refine ⟨some (i, e.val), ?_, .inr ⟨i, p.2, by simp [asc, hp], by rw [hv]⟩⟩
        simp [Instr.findAsking, hk, hp, eq_same]
      · obtain ⟨r, h1, h2⟩ := ih l (i + 1) hl (fun q hq => hobj q (by simp [hq]))
        refine ⟨r, ?_, ?_⟩
        · simp [Instr.findAsking, hk, eq_other K p.1 w (fun e => hp e.symm) hK (hobj p (by simp)), h1]
        · simpa [asc, hp] using h2
theorem find_run (K : Nat) (w : World) (hK : IsObj w K) (es : List MapEntry) (l : List (Nat × Int)) (hl : es.map (fun e => (e.key, e.val)) = l.map (fun p => (tkey p.1, Value.int .u64 p.2))) (ho : ∀ p ∈ l, IsObj w p.1) :
    ∃ r, (Instr.findKey 28 (tkey K) es).run Yba.prog w = .ok r w ∧ ((asc l K = none ∧ r = none) ∨ ∃ j x, asc l K = some x ∧ r = some (j, .int .u64 x)) := by
  cases es with
  | nil =>
    cases l with
    | nil => exact ⟨none, MapKept.run_findKey Yba.underlying28 rfl, .inl ⟨rfl, rfl⟩⟩
    | cons p l => simp at hl
  | cons e es =>
    obtain ⟨r, h1, h2⟩ := ask_run K w hK (e :: es) l 0 hl ho
    refine ⟨r, ?_, h2⟩
    have hk : ∃ L, e.key = tkey L := by
      cases l with
      | nil => simp at hl
      | cons p l =>
        simp only [List.map_cons, List.cons.injEq, Prod.mk.injEq] at hl
        exact ⟨_, hl.1.1⟩
    obtain ⟨L, hk⟩ := hk
    simp only [Instr.findKey, Sem.run_bind, run_underlying Yba.underlying28, Result.andThen, Instr.findNow, hk, Instr.sameNow, tkey]
    exact h1
theorem check_run (b : Bool) (K : Nat) (w : World) : (Instr.checkKey b 10000 28 (tkey K)).run Yba.prog w = .ok () w := by
  have h : ∀ d : Nat, (Instr.checkKey b (d + 1) 28 (tkey K)).run Yba.prog w = .ok () w := fun d => by
    simp [Instr.checkKey, run_underlying Yba.underlying28, tkey]
  exact h 9999

/-- 'v, ok := terms[nd]'. -/
theorem TMap.look {w : World} {T K : Nat} {l : List (Nat × Int)} (h : TMap w T l) (hK : IsObj w K) :
    (Instr.lookup 33 (.map (some T)) (tkey K) true).run Yba.prog w = .ok (.tuple #[.int .u64 ((asc l K).getD 0), .bool (asc l K).isSome]) w := by
  obtain ⟨es, ck, hb, he⟩ := h.at_
  obtain ⟨r, h1, h2⟩ := find_run K w hK es.toList l he h.obj
  rcases h2 with ⟨h2, rfl⟩ | ⟨j, x, h2, rfl⟩
  · simp [Instr.lookup, run_underlying Yba.underlying33, MapKept.run_getObj_map hb, check_run, h1, h2]
  · simp [Instr.lookup, run_underlying Yba.underlying33, MapKept.run_getObj_map hb, check_run, h1, h2]
/-- 'terms[nd]'. -/
theorem TMap.look1 {w : World} {T K : Nat} {l : List (Nat × Int)} (h : TMap w T l) (hK : IsObj w K) :
    (Instr.lookup 33 (.map (some T)) (tkey K) false).run Yba.prog w = .ok (.int .u64 ((asc l K).getD 0)) w := by
  obtain ⟨es, ck, hb, he⟩ := h.at_
  obtain ⟨r, h1, h2⟩ := find_run K w hK es.toList l he h.obj
  rcases h2 with ⟨h2, rfl⟩ | ⟨j, x, h2, rfl⟩
  · simp [Instr.lookup, run_underlying Yba.underlying33, MapKept.run_getObj_map hb, check_run, h1, h2]
  · simp [Instr.lookup, run_underlying Yba.underlying33, MapKept.run_getObj_map hb, check_run, h1, h2]

/-- A map's block turned. -/
def turned (w : World) (r : Nat) (o : Obj) : World := { w with heap := w.heap.setIfInBounds r o }
theorem turned_grown (w : World) (r : Nat) (o : Obj) : w.grownBy (turned w r o) (some r) :=
  ⟨rfl, rfl, rfl, by simp [turned], fun k _ hk => by simp [turned]; rw [Array.getElem?_setIfInBounds_ne (fun e => hk (by rw [e]))]⟩

/-- 'terms[nd] = x' at a node that is not there. -/
theorem TMap.put {w : World} {T K : Nat} {l : List (Nat × Int)} {x : Int} (h : TMap w T l) (hK : IsObj w K) (ha : asc l K = none) :
    ∃ o, (Instr.mapUpdate 33 (.map (some T)) (tkey K) (.int .u64 x)).run Yba.prog w = .ok () (turned w T o) ∧ TMap (turned w T o) T (l ++ [(K, x)]) := by
  obtain ⟨es, ck, hb, he⟩ := h.at_
  obtain ⟨r, h1, h2⟩ := find_run K w hK es.toList l he h.obj
  have hr : r = none := by
    rcases h2 with ⟨_, h2⟩ | ⟨j, y, h2, _⟩
    · exact h2
    · rw [ha] at h2; cases h2
  subst hr
  have hlt : T < w.heap.size := lt_of_block hb
  refine ⟨.map (es.push { key := tkey K, val := .int .u64 x, born := ck }) (ck + 1), ?_, ⟨⟨es.push { key := tkey K, val := .int .u64 x, born := ck }, ck + 1, by simp [turned, hlt], by simp [he]⟩, ?_⟩⟩
  · simp [Instr.mapUpdate, run_underlying Yba.underlying33, MapKept.run_getObj_map hb, check_run, h1, MapKept.run_setObj_map _ hb, turned]
  · have keep : ∀ L, IsObj w L → IsObj (turned w T (.map (es.push { key := tkey K, val := .int .u64 x, born := ck }) (ck + 1))) L := by
      rintro L ⟨c, t, hc⟩
      refine ⟨c, t, ?_⟩
      have hne : T ≠ L := by
        rintro rfl
        rw [hb] at hc; cases hc
      simp only [turned]
      rw [Array.getElem?_setIfInBounds_ne hne]
      exact hc
    intro p hp
    rcases List.mem_append.1 hp with hp | hp
    · exact keep _ (h.obj p hp)
    · simp at hp; subst hp; exact keep _ hK

/-! ### map[uint64]*sums -/
/-- The block at a key. -/
def ascA : List (Int × Nat) → Int → Option Nat
  | [], _ => none
  | p :: l, K => if p.1 = K then some p.2 else ascA l K
/-- Block M is the map of these entries. -/
def AMap (w : World) (M : Nat) (l : List (Int × Nat)) : Prop := ∃ es ck, w.heap[M]? = some (.map es ck) ∧ es.toList.map (fun e => (e.key, e.val)) = l.map (fun p => (Value.int .u64 p.1, tkey p.2))

theorem findA (K : Int) : ∀ (es : List MapEntry) (l : List (Int × Nat)) (i : Nat), es.map (fun e => (e.key, e.val)) = l.map (fun p => (Value.int .u64 p.1, tkey p.2)) →
    ∃ r, Instr.findNow (.int .u64) (.int .u64 K) es i = some r ∧ ((ascA l K = none ∧ r = none) ∨ ∃ j x, ascA l K = some x ∧ r = some (j, tkey x)) := by
  intro es
  induction es with
  | nil =>
    intro l i hl
    cases l with
    | nil => exact ⟨none, rfl, .inl ⟨rfl, rfl⟩⟩
    | cons p l => simp at hl
  | cons e es ih =>
    intro l i hl
    cases l with
    | nil => simp at hl
    | cons p l =>
      simp only [List.map_cons, List.cons.injEq, Prod.mk.injEq] at hl
      obtain ⟨⟨hk, hv⟩, hl⟩ := hl
      by_cases hp : p.1 = K
      · refine ⟨some (i, e.val), ?_, .inr ⟨i, p.2, by simp [ascA, hp], by rw [hv]⟩⟩
        simp [Instr.findNow, Instr.sameNow, hk, hp]
      · obtain ⟨r, h1, h2⟩ := ih l (i + 1) hl
        have hne : (K == p.1) = false := beq_eq_false_iff_ne.2 (fun e => hp e.symm)
        refine ⟨r, ?_, ?_⟩
        · simp [Instr.findNow, Instr.sameNow, hk, hne, h1]
        · simpa [ascA, hp] using h2
theorem checkA (b : Bool) (K : Int) (w : World) : (Instr.checkKey b 10000 27 (.int .u64 K)).run Yba.prog w = .ok () w := by
  have h : ∀ d : Nat, (Instr.checkKey b (d + 1) 27 (.int .u64 K)).run Yba.prog w = .ok () w := fun d => by
    simp [Instr.checkKey, run_underlying Yba.underlying27]
  exact h 9999
/-- 'asks[g]'. -/
theorem AMap.look {w : World} {M : Nat} {l : List (Int × Nat)} (K : Int) (h : AMap w M l) :
    (Instr.lookup 31 (.map (some M)) (.int .u64 K) false).run Yba.prog w = .ok (.pointer ((ascA l K).map (fun S => ⟨S, 0, none⟩))) w := by
  obtain ⟨es, ck, hb, he⟩ := h
  obtain ⟨r, h1, h2⟩ := findA K es.toList l 0 he
  have h3 := MapKept.run_findKey (P := Yba.prog) (w := w) Yba.underlying27 h1
  rcases h2 with ⟨h2, rfl⟩ | ⟨j, x, h2, rfl⟩
  · simp [Instr.lookup, run_underlying Yba.underlying31, MapKept.run_getObj_map hb, checkA, h3, h2]
  · simp [Instr.lookup, run_underlying Yba.underlying31, MapKept.run_getObj_map hb, checkA, h3, h2, tkey]
/-- 'asks[g] = ss' at a key that is not there. -/
theorem AMap.put {w : World} {M : Nat} {l : List (Int × Nat)} (K : Int) (S : Nat) (h : AMap w M l) (ha : ascA l K = none) :
    ∃ o, (Instr.mapUpdate 31 (.map (some M)) (.int .u64 K) (tkey S)).run Yba.prog w = .ok () (turned w M o) ∧ AMap (turned w M o) M (l ++ [(K, S)]) := by
  obtain ⟨es, ck, hb, he⟩ := h
  obtain ⟨r, h1, h2⟩ := findA K es.toList l 0 he
  have hr : r = none := by
    rcases h2 with ⟨_, h2⟩ | ⟨j, y, h2, _⟩
    · exact h2
    · rw [ha] at h2; cases h2
  subst hr
  have h3 := MapKept.run_findKey (P := Yba.prog) (w := w) Yba.underlying27 h1
  have hlt : M < w.heap.size := lt_of_block hb
  refine ⟨.map (es.push { key := .int .u64 K, val := tkey S, born := ck }) (ck + 1), ?_, ⟨es.push { key := .int .u64 K, val := tkey S, born := ck }, ck + 1, by simp [turned, hlt], by simp [he]⟩⟩
  simp [Instr.mapUpdate, run_underlying Yba.underlying31, MapKept.run_getObj_map hb, checkA, h3, MapKept.run_setObj_map _ hb, turned]
theorem AMap.lt {w : World} {M : Nat} {l : List (Int × Nat)} (h : AMap w M l) : M < w.heap.size := by
  obtain ⟨es, ck, hb, he⟩ := h
  exact lt_of_block hb
theorem AMap.of_block {w w' : World} {M : Nat} {l : List (Int × Nat)} (h : AMap w M l) (hb : w'.heap[M]? = w.heap[M]?) : AMap w' M l := by
  obtain ⟨es, ck, h1, he⟩ := h
  exact ⟨es, ck, hb.trans h1, he⟩
theorem ascA_snoc (l : List (Int × Nat)) (K J : Int) (S : Nat) (ha : ascA l K = none) : ascA (l ++ [(K, S)]) J = if J = K then some S else ascA l J := by
  induction l with
  | nil => simp only [List.nil_append, ascA]; split <;> split <;> first | rfl | omega
  | cons p l ih =>
    simp only [List.cons_append, ascA] at ha ⊢
    split at ha
    · cases ha
    · rename_i hp
      rw [ih ha]
      split
      · rename_i e
        rw [if_neg (fun e2 => hp (e.trans e2))]
      · rfl
theorem asc_snoc (l : List (Nat × Int)) (K J : Nat) (x : Int) (ha : asc l K = none) : asc (l ++ [(K, x)]) J = if J = K then some x else asc l J := by
  induction l with
  | nil => simp only [List.nil_append, asc]; split <;> split <;> first | rfl | omega
  | cons p l ih =>
    simp only [List.cons_append, asc] at ha ⊢
    split at ha
    · cases ha
    · rename_i hp
      rw [ih ha]
      split
      · rename_i e
        rw [if_neg (fun e2 => hp (e.trans e2))]
      · rfl
end Go.Proofs.Ybulkbzfi
