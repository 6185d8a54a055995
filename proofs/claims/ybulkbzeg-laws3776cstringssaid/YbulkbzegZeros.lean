/-
  'append(s, make([]T, m)...)', s the call's own row, T of one cell: a law that the kit lacks: the translation makes it ONE operation, an append whose second argument is the number m.
-/
import Derived.WalkKit
namespace Go.Proofs.Ybulkbzeg
open Go.RowKit

theorem zeroCells_one (z : Value) (n : Nat) : Builtin.zeroCells #[z] n = (List.replicate n z).toArray := by
  apply Array.ext
  · simp [Builtin.zeroCells]
  · intro i h1 h2
    simp [Builtin.zeroCells, Nat.mod_one]

theorem run_append_zeros_own {P : Program} (w : World) (base : Nat) (t tx ty e : TypeId) (i : TypeInfo) (z : Value) (k k' : IntKind) (bytes : Nat) (ht : P.underlying t = some (.slice e)) (hx : P.underlying tx = some (.int k))
    (hi : P.info? e = some i) (hz : i.zero = some z) (hsize : i.size = 1) (hby : i.bytes = bytes) (hzc : z.cells = #[z]) (hz1 : z.oneCell' = true)
    (v : Value) (n : Nat) (xs : List Value) (hown : w.ownsRow base e 1 v n xs) (m : Nat) (hm0 : 0 < m) (hb0 : 0 < bytes)
    (hbytes : (n + m) * bytes ≤ 140737488355328) (hbase : base ≤ w.heap.size) :
    ∃ v' w', (Builtin.append_ #[t, tx] ty #[v, .int k' m]).run P w = .ok v' w' ∧ w'.ownsRow base e 1 v' (n + m) (xs ++ List.replicate m z) ∧ w.grownBy w' v.ownBlock ∧ w'.ownsRow base e 1 v n xs := by
  subst hby
  have hnm : n + m ≤ 140737488355328 := Nat.le_trans (Nat.le_mul_of_pos_right _ hb0) hbytes
  have h63 : n + m ≤ maxLen := by unfold maxLen; omega
  have hlen : (xs ++ List.replicate m z).length = (n + m) * 1 := by rw [List.length_append, hown.1]; simp
  have hwrap : IntKind.i64.wrap (m : Int) = (m : Int) := by rw [IntKind.wrap_i64]; omega
  have hneg : ¬ ((m : Int) < 0) := by omega
  have hbm : m * i.bytes ≤ 140737488355328 := Nat.le_trans (Nat.mul_le_mul_right _ (Nat.le_add_left m n)) hbytes
  have hbig : ¬ ((281474976710656 : Int) < (m : Int) * (i.bytes : Int)) := by
    rw [← Int.natCast_mul]; omega
  have hm1 : ¬ (m = 0) := by omega
  have grown : ∀ (old : Nat), old < n + m → ∀ (row : Option Nat),
      (w.drew.alloc (.cells (xs.toArray ++ (List.replicate m z).toArray ++ Builtin.zeroCells z.cells (grownCap w (n + m) old e - (n + m))) e)).ownsRow base e 1
        (.slice (some ⟨w.heap.size, 0, none⟩) (n + m) (grownCap w (n + m) old e)) (n + m) (xs ++ List.replicate m z) ∧
      w.grownBy (w.drew.alloc (.cells (xs.toArray ++ (List.replicate m z).toArray ++ Builtin.zeroCells z.cells (grownCap w (n + m) old e - (n + m))) e)) row := by
    intro old ho row
    have hge := grownCap_ge w (n + m) old e
    have hcm : grownCap w (n + m) old e ≤ maxLen := grownCap_le_maxLen w (n + m) old e h63
    refine ⟨⟨hlen, .inr ⟨w.heap.size, _, _, rfl, hbase, heap_alloc_new w.drew _, hge, hcm, ?_, ?_⟩⟩, ⟨rfl, rfl, rfl, by simp, fun k hk _ => Below.heap_alloc w.drew _ k hk⟩⟩
    · have := hown.1
      simp only [hzc, zeroCells_one, Array.size_append, List.size_toArray, List.length_replicate]
      omega
    · simp only [Array.toList_append, List.append_assoc]
      rw [← List.append_assoc, ← hlen]
      exact List.take_left
  rcases hown.2 with ⟨rfl, rfl⟩ | ⟨g, cap, cur, rfl, hbg, hg, hnc, hcm, hcs, htake⟩
  · have hxs : xs = [] := List.eq_nil_of_length_eq_zero (by simpa using hown.1)
    subst hxs
    have hgr := grown 0 (by omega) (Value.ownBlock (.slice none 0 0))
    simp only [Nat.zero_add, List.nil_append] at hgr ⊢
    have h63' : ¬ (9223372036854775807 < (m : Int)) := by omega
    have h48' : ¬ (281474976710656 < Builtin.nextslicecap m 0 * i.bytes) := by rw [nextslicecap_zero hm0]; omega
    refine ⟨_, _, ?_, hgr.1, hgr.2, hown.kept hgr.2 (.inl rfl)⟩
    simp [Builtin.append_, run_underlying ht, run_underlying hx, sizeOf, typeInfo, zeroValue, hi, hz, hsize, hwrap, hneg, hbig, hm1, h63', h48', Question.forced, run_firstCells_none, newRow, grownCap, hzc, zeroCells_one, asInt, asIntOf]
  · by_cases hroom : n + m ≤ cap
    · have hfit : n * 1 + (List.replicate m z).length ≤ cur.size := by simp; omega
      have hst := run_storeCells_at P g (n * 1) e (List.replicate m z) 0 cur w hg (by simpa using hfit) (by intro u hu; rw [List.eq_of_mem_replicate hu]; exact hz1)
      simp only [Nat.add_zero] at hst
      refine ⟨.slice (some ⟨g, 0, none⟩) (n + m) cap, w.setRow g (cur.toList.take (n * 1) ++ List.replicate m z ++ cur.toList.drop (n * 1 + (List.replicate m z).length)).toArray, ?_, ⟨hlen, .inr ⟨g, cap, _, rfl, hbg, setRow_heap w g cur _ e _ hg, hroom, hcm, ?_, ?_⟩⟩,
        ⟨rfl, rfl, rfl, by simp, fun k _ hk => setRow_other w g k _ (fun e => hk (by simp [Value.ownBlock, e]))⟩,
        ⟨hown.1, .inr ⟨g, cap, _, rfl, hbg, setRow_heap w g cur _ e _ hg, hnc, hcm, ?_, ?_⟩⟩⟩
      · simp [Builtin.append_, run_underlying ht, run_underlying hx, sizeOf, typeInfo, zeroValue, hi, hz, hsize, hwrap, hneg, hbig, hm1, hroom, Addr.add_lit, hzc, zeroCells_one, asInt, asIntOf]
        have hst2 : Sem.run P (storeCells ⟨g, n, none⟩ (List.replicate m z)) w = Result.ok () (w.setRow g (List.take n cur.toList ++ (List.replicate m z ++ List.drop (n + m) cur.toList)).toArray) := by simpa using hst
        rw [hst2]; rfl
      · simp only [List.size_toArray, List.length_append, List.length_take, List.length_drop, Array.length_toList, List.length_replicate]
        omega
      · rw [htake, ← hlen]
        exact List.take_left
      · simp only [List.size_toArray, List.length_append, List.length_take, List.length_drop, Array.length_toList, List.length_replicate]
        omega
      · have hx1 := hown.1
        rw [htake, List.append_assoc, ← hx1]
        exact List.take_left
    · have holds : ∀ j u, xs[j]? = some u → w.cell? ((⟨g, 0, none⟩ : Addr).add j) = some u := hown.cells (g := g) rfl
      have hgr := grown cap (by omega) (Value.ownBlock (.slice (some ⟨g, 0, none⟩) n cap))
      refine ⟨_, _, ?_, hgr.1, hgr.2, hown.kept (grown cap (by omega) none).2 (.inr (by simp [Value.ownBlock]))⟩
      have h63' : ¬ (9223372036854775807 < ((n : Int) + (m : Int))) := by omega
      have h48' : ¬ (281474976710656 < Builtin.nextslicecap (n + m) cap * i.bytes) := by have := growslice_fits (need := n + m) (old := cap) (by omega) hbytes; omega
      have hfo := run_firstCells_some (P := P) w.drew 1 n ⟨g, 0, none⟩ n cap xs hown.1 (by simpa using holds)
      simp [Builtin.append_, run_underlying ht, run_underlying hx, sizeOf, typeInfo, zeroValue, hi, hz, hsize, hwrap, hneg, hbig, hm1, hroom, h63', h48', Question.forced, hfo, newRow, grownCap, hzc, zeroCells_one, asInt, asIntOf]

/-- The same as a law for the walk: 'append(s, make([]T, m)...)'. -/
theorem wpList_append_zeros_own {P : Program} (w : World) {ops : Array Oper} {rest : List Oper} {o : Oper} {a : Act} {Q : Exit → Act → World → Prop} (hgd : o.guard = none) (s x : Operand) (t tx : TypeId)
    (ho : o.op = .call { callee := .builtin .append, args := #[s, x], argTypes := #[t, tx] })
    (base : Nat) (e : TypeId) (i : TypeInfo) (z : Value) (k k' : IntKind) (bytes : Nat) (ht : P.underlying t = some (.slice e)) (hx : P.underlying tx = some (.int k))
    (hi : P.info? e = some i) (hz : i.zero = some z) (hsize : i.size = 1) (hby : i.bytes = bytes) (hzc : z.cells = #[z]) (hz1 : z.oneCell' = true)
    (v : Value) (n : Nat) (xs : List Value) (hs : a.eval s = v) (hown : w.ownsRow base e 1 v n xs) (M : Int) (m : Nat) (hxv : a.eval x = .int k' M) (hM : M = (m : Int)) (hm0 : 0 < m) (hb0 : 0 < bytes)
    (hbytes : (n + m) * bytes ≤ 140737488355328) (hbase : base ≤ w.heap.size)
    (h : ∀ v' w', w'.ownsRow base e 1 v' (n + m) (xs ++ List.replicate m z) → w.grownBy w' v.ownBlock → w'.ownsRow base e 1 v n xs → wpList P ops Q rest (a.put o.dst v') w') : wpList P ops Q (o :: rest) a w := by
  refine wpList_plain hgd fun K hK => ?_
  subst hM
  obtain ⟨v', w', hr, h2, h3, h4⟩ := run_append_zeros_own (P := P) w base t tx o.type e i z k k' bytes ht hx hi hz hsize hby hzc hz1 v n xs hown m hm0 hb0 hbytes hbase
  unfold Oper.wp execOp
  simp only [ho, resolve, invoke, builtin, Sem.run_bind, Sem.run_pure, Result.andThen_ok, List.map_toArray, List.map_cons, List.map_nil, hs, hxv, hr]
  exact hK _ _ (h v' w' h2 h3 h4)
end Go.Proofs.Ybulkbzeg
