/-
  What the walks are told of the arguments: a grid by value, a slice of instances.
-/
import Derived.Test.YbulkbzfiLawA1
import Derived.ProofKit
import Derived.OpenShut
import Derived.ShutString
import Derived.ChangeOld
import Derived.Below
import Derived.Deep.Slices
import Derived.Deep.Strs
import Derived.Deep.SlicePairs
namespace Go.Proofs.Ybulkbzfi
open Go.ChangeShapes Go.WideShapes Go.ChangeAt Go.RowKit

theorem okWide_grid {W : World} {r : Reach} {base : Nat} {v : Value} (h : Value.okWide Yba.prog W r base 24 v) : ∃ cs : Array Value, v = .agg cs := by
  simp only [Value.okWide, Yba.underlying24] at h
  obtain ⟨cs, h1, _⟩ := h
  exact ⟨cs, h1⟩
theorem cells24 : Yba.prog.cellsOf 24 = 256 := by kernel_rfl
theorem cells23 : Yba.prog.cellsOf 23 = 16 := by kernel_rfl
theorem cells5 : Yba.prog.cellsOf 5 = 1 := by kernel_rfl
theorem cells67 : Yba.prog.cellsOf 67 = 3 := by kernel_rfl
theorem cells27 : Yba.prog.cellsOf 27 = 1 := by kernel_rfl

theorem open_grid {H : Type} {enc : TypeId × Value → H} {W : World} {fuel base : Nat} {sp : Nat → Bool} {held : Bool} {cs : List Value} {x : DataW H × List MemPlace}
    (hf : DataW.trod enc Yba.prog W base sp held fuel 24 cs = some x) : ∃ ns : List (List Int), cs = ns.flatMap (fun r => r.map (Value.int .u8)) ∧ Grid ns := by
  obtain ⟨xs, m, _, _, hl, hxl, hrow⟩ := DataW.trod_array Yba.underlying24 hf
  rw [cells24] at hl
  rw [cells23] at hrow
  have hcell : ∀ k, k < 256 → ∃ z : Int, cs[k]? = some (.int .u8 z) ∧ 0 ≤ z ∧ z ≤ 255 := by
    intro k hk
    have h1 := hrow (k / 16) (by omega)
    rw [List.getElem?_eq_getElem (by omega)] at h1
    obtain ⟨ys, m2, _, _, hl2, hyl, hint⟩ := DataW.trod_array Yba.underlying23 h1
    have h2 := hint (k % 16) (by omega)
    rw [List.getElem?_eq_getElem (by omega), cells5] at h2
    obtain ⟨z, hz, hw⟩ := DataW.trod_int Yba.underlying5 h2
    refine ⟨z, ?_, ?_⟩
    · have h3 := congrArg (fun l => l[0]?) hz
      simp only [List.getElem?_take, List.getElem?_drop, List.getElem?_cons_zero] at h3
      have e : k / 16 * 16 + (k % 16 * 1 + 0) = k := by omega
      simp only [e] at h3
      have h4 : k % 16 < 16 ∧ cs[k]? = some (Value.int .u8 z) := by simpa using h3
      exact h4.2
    · exact bounds_u8 hw.2
  obtain ⟨f, hf'⟩ := Deep.choose_lt hcell
  refine ⟨(List.range 16).map (fun i => (List.range 16).map (fun j => f (i * 16 + j))), ?_, ?_⟩
  · have hg : ∀ i, i < 16 → ((List.range 16).map (fun i => (List.range 16).map (fun j => f (i * 16 + j)))).getD i [] = (List.range 16).map (fun j => f (i * 16 + j)) := by intro i hi; simp [List.getD, hi]
    have hrowl : ∀ k, k < ((List.range 16).map (fun i => (List.range 16).map (fun j => f (i * 16 + j)))).length → (((List.range 16).map (fun i => (List.range 16).map (fun j => f (i * 16 + j)))).getD k []).length = 16 := by
      intro k hk
      rw [hg k (by simpa using hk)]; simp
    apply List.ext_getElem?
    intro k
    by_cases hk : k < 256
    · have h1 := flat_at ((List.range 16).map (fun i => (List.range 16).map (fun j => f (i * 16 + j)))) (k / 16) (k % 16) hrowl (by simp; omega) (by omega)
      have e : k / 16 * 16 + k % 16 = k := by omega
      rw [e] at h1
      rw [(hf' k hk).1, h1, hg _ (by omega)]
      simp [List.getD, show k % 16 < 16 by omega, e]
    · rw [List.getElem?_eq_none (by omega), List.getElem?_eq_none]
      rw [flat_len _ hrowl]
      simp; omega
  · have hg : ∀ i, i < 16 → ((List.range 16).map (fun i => (List.range 16).map (fun j => f (i * 16 + j)))).getD i [] = (List.range 16).map (fun j => f (i * 16 + j)) := by intro i hi; simp [List.getD, hi]
    refine ⟨by simp, fun i hi => by rw [hg i hi]; simp, fun i hi j hj => ?_⟩
    rw [hg i hi]
    have := (hf' (i * 16 + j) (by omega)).2
    simpa [List.getD, hj] using this

theorem cells3_get (d : List In3) (j : Nat) (u : Value) (h : (cells3 d)[j]? = some u) : ∃ i, i < d.length ∧ ((j = i * 3 ∧ u = .int .u8 (el d i).1) ∨ (j = i * 3 + 1 ∧ u = .int .u8 (el d i).2.1) ∨ (j = i * 3 + 2 ∧ u = .int .u64 (el d i).2.2)) := by
  have hj := (List.getElem?_eq_some_iff.1 h).1
  rw [cells3_len] at hj
  have hi : j / 3 < d.length := by omega
  obtain ⟨h0, h1, h2⟩ := cells3_at d (j / 3) hi
  refine ⟨j / 3, hi, ?_⟩
  have hm : j = j / 3 * 3 ∨ j = j / 3 * 3 + 1 ∨ j = j / 3 * 3 + 2 := by omega
  rcases hm with e | e | e
  · left; refine ⟨e, ?_⟩
    rw [← e, h] at h0; simpa using h0
  · right; left; refine ⟨e, ?_⟩
    rw [← e, h] at h1; simpa using h1
  · right; right; refine ⟨e, ?_⟩
    rw [← e, h] at h2; simpa using h2

theorem open_insts {H : Type} {enc : TypeId × Value → H} {W : World} {fuel : Nat} {a : Option Addr} {len cap : Nat} {x : DataW H × List MemPlace}
    (hf : DataW.trod enc Yba.prog W 0 (fun _ => true) true fuel 25 [.slice a len cap] = some x) : len ≤ maxLen ∧ ∃ d : List In3, Arg W a len cap d := by
  rcases Deep.open_slice Yba.underlying25 hf with ⟨hcs, _⟩ | ⟨y, l, c, m, n, D, Pl, hcs, _, hl, hm, hmm, _, hcell⟩
  · simp at hcs
    obtain ⟨rfl, rfl, rfl⟩ := hcs
    exact ⟨by unfold maxLen; omega, [], rfl, fun _ => ⟨rfl, rfl⟩, fun _ h => (by cases h), fun h => (by omega), fun j h => (by omega)⟩
  · simp at hcs
    obtain ⟨rfl, rfl, rfl⟩ := hcs
    simp only [if_true] at hmm
    subst hmm
    have each : ∀ i, i < m → ∃ q : In3, W.cell? (y.add (i * 3)) = some (.int .u8 q.1) ∧ W.cell? (y.add (i * 3 + 1)) = some (.int .u8 q.2.1) ∧ W.cell? (y.add (i * 3 + 2)) = some (.int .u64 q.2.2) ∧
        (0 ≤ q.1 ∧ q.1 ≤ 255) ∧ (0 ≤ q.2.1 ∧ q.2.1 ≤ 255) ∧ (0 ≤ q.2.2 ∧ q.2.2 ≤ 18446744073709551615) := by
      intro i hi
      obtain ⟨cs', h1, h2⟩ := hcell i hi
      rw [cells67] at h1
      obtain ⟨_, hlen, hc⟩ := World.cells?_some h1
      obtain ⟨y0, y1, y2, k, _, _, g0, g1, g2⟩ := Deep.trod_struct3 Yba.underlying67 h2
      match cs', hlen with
      | [v0, v1, v2], _ =>
        simp only [cells5, cells27, List.drop_zero, List.drop_succ_cons, List.take_succ_cons, List.take_zero] at g0 g1 g2
        obtain ⟨n0, e0, _, w0⟩ := DataW.trod_int Yba.underlying5 g0
        obtain ⟨n1, e1, _, w1⟩ := DataW.trod_int Yba.underlying5 g1
        obtain ⟨n2, e2, _, w2⟩ := DataW.trod_int Yba.underlying27 g2
        simp only [List.cons.injEq, and_true] at e0 e1 e2
        have c0 := hc 0 (by omega)
        have c1 := hc 1 (by omega)
        have c2 := hc 2 (by omega)
        rw [Deep.add_add] at c0 c1 c2
        refine ⟨(n0, n1, n2), ?_, ?_, ?_, bounds_u8 w0, bounds_u8 w1, bounds_u64 w2⟩
        · rw [← e0]; simpa using c0
        · rw [← e1]; simpa using c1
        · rw [← e2]; simpa using c2
    obtain ⟨f, hf'⟩ := Deep.choose_lt each
    have hel : ∀ j, j < len → el ((List.range len).map f) j = f j := by intro j hj; simp [el, List.getD, hj]
    refine ⟨by omega, (List.range len).map f, by simp, fun h => (by cases h), fun ad had j u hu => ?_, fun hp => ?_, fun j hj => ?_⟩
    · cases had
      obtain ⟨i, hi, h⟩ := cells3_get _ _ _ hu
      simp only [List.length_map, List.length_range] at hi
      rw [hel i hi] at h
      rcases h with ⟨rfl, rfl⟩ | ⟨rfl, rfl⟩ | ⟨rfl, rfl⟩
      · exact (hf' i (by omega)).1
      · exact (hf' i (by omega)).2.1
      · exact (hf' i (by omega)).2.2.1
    · obtain ⟨b, off, spot⟩ := y
      have h0 := (hf' 0 (by omega)).1
      have hspot : spot = none := by simpa [Addr.add] using World.cell?_spot h0
      subst hspot
      refine ⟨b, off, rfl, ?_, fun j hj => ?_⟩
      · have := block_lt_of_cell h0
        rwa [add_block] at this
      · rw [hel j hj]
        obtain ⟨a0, a1, a2, _⟩ := hf' j (by omega)
        rw [add_plain] at a0 a1 a2
        exact ⟨a0, by rw [Nat.add_assoc]; exact a1, by rw [Nat.add_assoc]; exact a2⟩
    · rw [hel j hj]
      obtain ⟨_, _, _, a3, a4, a5⟩ := hf' j (by omega)
      exact ⟨a3.1, a3.2, a4.1, a4.2, a5.1, by omega⟩
end Go.Proofs.Ybulkbzfi
