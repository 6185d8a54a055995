/-
  PLAIN: the running sums of a group against the model's sum. No Go but the wrap.
-/
import Derived.Test.YbulkbzfiRoot
namespace Go.Proofs.Ybulkbzfi
open Go.RowKit

/-- The instances of goroutine g. -/
def grp (g : Int) (q : List In3) : List In3 := q.filter (fun x => decide (x.1 = g))
def wadd (a h : Int) : Int := IntKind.u64.wrap (a + h)
/-- Running sums from a on. -/
def psum (a : Int) : List Int → List Int
  | [] => []
  | h :: t => wadd a h :: psum (wadd a h) t
def csOf (l : List In3) : List Int := l.map (fun x => x.2.1)
def hsOf (l : List In3) : List Int := psum 0 (l.map (fun x => x.2.2))

theorem psum_len (a : Int) (l : List Int) : (psum a l).length = l.length := by
  induction l generalizing a with
  | nil => rfl
  | cons h t ih => simp only [psum, List.length_cons, ih]
theorem psum_snoc (a : Int) (l : List Int) (h : Int) : psum a (l ++ [h]) = psum a l ++ [wadd (l.foldl wadd a) h] := by
  induction l generalizing a with
  | nil => rfl
  | cons y t ih => simp only [List.cons_append, psum, ih, List.foldl_cons]
theorem psum_at (a : Int) (l : List Int) : ∀ i, i ≤ l.length → (if i = 0 then a else (psum a l).getD (i - 1) 0) = (l.take i).foldl wadd a := by
  induction l generalizing a with
  | nil => intro i hi; simp at hi; subst hi; rfl
  | cons h t ih =>
    intro i hi
    cases i with
    | zero => rfl
    | succ i =>
      have := ih (wadd a h) i (by simpa using hi)
      rw [if_neg (by omega), List.take_succ_cons, List.foldl_cons, ← this]
      simp only [psum, Nat.add_sub_cancel]
      cases i with
      | zero => rfl
      | succ i => simp [List.getD]
theorem hs_len (l : List In3) : (hsOf l).length = l.length := by simp [hsOf, psum_len]
theorem cs_len (l : List In3) : (csOf l).length = l.length := by simp [csOf]
theorem hs_pre (l : List In3) (i : Nat) (hi : i ≤ l.length) : pre (hsOf l) i = (l.take i).foldl (fun a x => wadd a x.2.2) 0 := by
  have := psum_at 0 (l.map (fun x => x.2.2)) i (by simpa using hi)
  unfold pre hsOf
  rw [this, ← List.map_take, List.foldl_map]
theorem hs_snoc (l : List In3) (x : In3) : hsOf (l ++ [x]) = hsOf l ++ [wadd (pre (hsOf l) l.length) x.2.2] := by
  rw [hs_pre l l.length (Nat.le_refl _), List.take_length]
  unfold hsOf
  rw [List.map_append, List.map_cons, List.map_nil, psum_snoc, List.foldl_map]
theorem cs_snoc (l : List In3) (x : In3) : csOf (l ++ [x]) = csOf l ++ [x.2.1] := by simp [csOf]
theorem grp_snoc_same (q : List In3) (x : In3) : grp x.1 (q ++ [x]) = grp x.1 q ++ [x] := by simp [grp, List.filter_append]
theorem grp_snoc_other (q : List In3) (x : In3) (g : Int) (h : g ≠ x.1) : grp g (q ++ [x]) = grp g q := by
  simp [grp, List.filter_append, show ¬ x.1 = g from fun e => h e.symm]

theorem fold_grp (g n : Int) (q : List In3) : ∀ a, q.foldl (mdStep g n) a = (grp g q).foldl (mdStep g n) a := by
  induction q with
  | nil => intro a; rfl
  | cons x q ih =>
    intro a
    by_cases h : x.1 = g
    · simp only [grp, List.filter_cons, h, decide_true, if_true, List.foldl_cons]
      exact ih _
    · have e : mdStep g n a x = a := by unfold mdStep; rw [if_neg (fun e => h e.1)]
      simp only [grp, List.filter_cons, h, decide_false, List.foldl_cons, e]
      exact ih a
theorem fold_skip (g n : Int) (l : List In3) (h : ∀ x ∈ l, n ≤ x.2.1) : ∀ a, l.foldl (mdStep g n) a = a := by
  induction l with
  | nil => intro a; rfl
  | cons x l ih =>
    intro a
    have e : mdStep g n a x = a := by unfold mdStep; rw [if_neg (by have := h x (by simp); omega)]
    rw [List.foldl_cons, e]
    exact ih (fun y hy => h y (by simp [hy])) a
theorem fold_take (g n : Int) (l : List In3) (h : ∀ x ∈ l, x.1 = g ∧ x.2.1 < n) : ∀ a, l.foldl (mdStep g n) a = l.foldl (fun a x => wadd a x.2.2) a := by
  induction l with
  | nil => intro a; rfl
  | cons x l ih =>
    intro a
    have e : mdStep g n a x = wadd a x.2.2 := by unfold mdStep wadd; rw [if_pos (h x (by simp))]
    rw [List.foldl_cons, List.foldl_cons, e]
    exact ih (fun y hy => h y (by simp [hy])) _
/-- What upTo answers. -/
theorem up_md (g n : Int) (q : List In3) (i : Nat) (h : Place (csOf (grp g q)) n i) : pre (hsOf (grp g q)) i = md g n q := by
  have hle : i ≤ (grp g q).length := by have := h.le; rwa [cs_len] at this
  rw [hs_pre _ i hle, md, fold_grp]
  have e := List.take_append_drop i (grp g q)
  generalize hl : grp g q = l at *
  have hg : ∀ x ∈ l, x.1 = g := by
    intro x hx
    rw [← hl] at hx
    simpa using (List.mem_filter.1 hx).2
  have at_ : ∀ j (hj : j < l.length), (csOf l).getD j 0 = (l[j]).2.1 := by intro j hj; simp [csOf, List.getD, hj]
  rw [← e, List.foldl_append, e, fold_take g n (l.take i), fold_skip g n (l.drop i)]
  · intro x hx
    obtain ⟨j, hj, rfl⟩ := List.getElem_of_mem hx
    rw [List.getElem_drop]
    rw [List.length_drop] at hj
    rw [← at_ (i + j) (by omega)]
    exact h.hi (i + j) (by omega) (by rw [cs_len]; omega)
  · intro x hx
    refine ⟨hg x (List.mem_of_mem_take hx), ?_⟩
    obtain ⟨j, hj, rfl⟩ := List.getElem_of_mem hx
    rw [List.getElem_take]
    rw [List.length_take] at hj
    rw [← at_ j (by omega)]
    exact h.lo j (by omega)
/-- The order does not count. -/
theorem md_perm (g n : Int) {d d' : List In3} (h : d'.Perm d) : md g n d' = md g n d := by
  unfold md
  refine h.foldl_eq' ?_ 0
  intro x _ y _ z
  unfold mdStep
  by_cases h1 : x.1 = g ∧ x.2.1 < n
  · by_cases h2 : y.1 = g ∧ y.2.1 < n
    · simp only [if_pos h1, if_pos h2, IntKind.wrap_u64]; omega
    · simp only [if_pos h1, if_neg h2]
  · by_cases h2 : y.1 = g ∧ y.2.1 < n
    · simp only [if_neg h1, if_pos h2]
    · simp only [if_neg h1, if_neg h2]
/-- A sorted list's groups rise. -/
theorem grp_rise (d : List In3) (g : Int) (h : Srt d 0 d.length) : Rise (csOf (grp g d)) := by
  have hp : d.Pairwise (fun x y => x.2.1 ≤ y.2.1) := by
    rw [List.pairwise_iff_getElem]
    intro i j hi hj hij
    have := h i j (Nat.zero_le _) (by omega) hj
    simpa [ct, el, List.getD, hi, hj] using this
  have hq : (grp g d).Pairwise (fun x y => x.2.1 ≤ y.2.1) := hp.filter _
  intro i j hij hj
  rw [cs_len] at hj
  by_cases e : i = j
  · subst e; exact Int.le_refl _
  · have := List.pairwise_iff_getElem.1 hq i j (by omega) hj (by omega)
    simpa [csOf, List.getD, hj, show i < (grp g d).length by omega] using this
end Go.Proofs.Ybulkbzfi
