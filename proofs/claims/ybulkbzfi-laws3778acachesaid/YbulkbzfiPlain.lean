/-
  PLAIN FACTS on lists of instances (G, Count, Hash): swaps, rotation, sorted ranges. No Go in sight.
-/
namespace Go.Proofs.Ybulkbzfi

abbrev In3 := Int × Int × Int

/-- Element t. -/
def el (d : List In3) (t : Nat) : In3 := d.getD t (0, 0, 0)
/-- Its count. -/
def ct (d : List In3) (t : Nat) : Int := (el d t).2.1

/-- 'd[i], d[j] = d[j], d[i]'. -/
def swp (d : List In3) (i j : Nat) : List In3 := (d.set i (el d j)).set j (el d i)

theorem swp_len (d : List In3) (i j : Nat) : (swp d i j).length = d.length := by simp [swp]
theorem el_set (d : List In3) (i : Nat) (x : In3) (hi : i < d.length) (t : Nat) : el (d.set i x) t = if t = i then x else el d t := by
  unfold el
  by_cases h : t = i
  · subst h; simp [List.getD, hi]
  · rw [if_neg h]
    simp only [List.getD]
    rw [List.getElem?_set_ne (fun e => h e.symm)]
theorem el_swp (d : List In3) (i j t : Nat) (hi : i < d.length) (hj : j < d.length) : el (swp d i j) t = if t = j then el d i else if t = i then el d j else el d t := by
  unfold swp
  rw [el_set _ _ _ (by simpa using hj), el_set _ _ _ hi]
theorem swp_perm (d : List In3) (i j : Nat) (hi : i < d.length) (hj : j < d.length) : (swp d i j).Perm d := by
  have h := List.set_set_perm (as := d) (i := i) (j := j) hi hj
  have e1 : el d i = d[i] := by simp [el, List.getD, hi]
  have e2 : el d j = d[j] := by simp [el, List.getD, hj]
  unfold swp
  rw [e1, e2]
  exact h

/-- Sorted by count from a up to b. -/
def Srt (d : List In3) (a b : Nat) : Prop := ∀ i j, a ≤ i → i ≤ j → j < b → ct d i ≤ ct d j

/-- d' is d with the elements of [a, b) among themselves moved. -/
structure Step (d d' : List In3) (a b : Nat) : Prop where
  len : d'.length = d.length
  perm : d'.Perm d
  out : ∀ t, ¬ (a ≤ t ∧ t < b) → el d' t = el d t
  fr : ∀ t, a ≤ t → t < b → ∃ s, a ≤ s ∧ s < b ∧ el d' t = el d s

theorem Step.refl (d : List In3) (a b : Nat) : Step d d a b := ⟨rfl, List.Perm.refl _, fun _ _ => rfl, fun t h1 h2 => ⟨t, h1, h2, rfl⟩⟩
theorem Step.trans {d e f : List In3} {a b : Nat} (h : Step d e a b) (k : Step e f a b) : Step d f a b :=
  ⟨k.len.trans h.len, k.perm.trans h.perm, fun t ht => (k.out t ht).trans (h.out t ht), fun t h1 h2 => by
    obtain ⟨s, s1, s2, e1⟩ := k.fr t h1 h2
    obtain ⟨r, r1, r2, e2⟩ := h.fr s s1 s2
    exact ⟨r, r1, r2, e1.trans e2⟩⟩
theorem Step.mono {d e : List In3} {a b a' b' : Nat} (h : Step d e a b) (ha : a' ≤ a) (hb : b ≤ b') : Step d e a' b' :=
  ⟨h.len, h.perm, fun t ht => h.out t (by omega), fun t h1 h2 => by
    by_cases hin : a ≤ t ∧ t < b
    · obtain ⟨s, s1, s2, e1⟩ := h.fr t hin.1 hin.2
      exact ⟨s, by omega, by omega, e1⟩
    · exact ⟨t, h1, h2, h.out t hin⟩⟩
theorem Step.swap (d : List In3) (i j a b : Nat) (hi : a ≤ i ∧ i < b) (hj : a ≤ j ∧ j < b) (hb : b ≤ d.length) : Step d (swp d i j) a b :=
  ⟨swp_len d i j, swp_perm d i j (by omega) (by omega), fun t ht => by rw [el_swp d i j t (by omega) (by omega), if_neg (by omega), if_neg (by omega)], fun t h1 h2 => by
    rw [el_swp d i j t (by omega) (by omega)]
    split
    · exact ⟨i, hi.1, hi.2, rfl⟩
    · split
      · exact ⟨j, hj.1, hj.2, rfl⟩
      · exact ⟨t, h1, h2, rfl⟩⟩
/-- What lies outside stays sorted. -/
theorem Step.srt {d e : List In3} {a b x y : Nat} (h : Step d e a b) (hs : Srt d x y) (hap : y ≤ a ∨ b ≤ x) : Srt e x y := by
  intro i j h1 h2 h3
  unfold ct
  rw [h.out i (by omega), h.out j (by omega)]
  exact hs i j h1 h2 h3

/-! ### swapRange -/
def swapN (d : List In3) (a b : Nat) : Nat → List In3
  | 0 => d
  | k + 1 => swp (swapN d a b k) (a + k) (b + k)

theorem swapN_len (d : List In3) (a b k : Nat) : (swapN d a b k).length = d.length := by
  induction k with
  | zero => rfl
  | succ k ih => simp only [swapN, swp_len, ih]

theorem el_swapN (d : List In3) (a b k : Nat) (hab : a + k ≤ b) (hb : b + k ≤ d.length) (t : Nat) :
    el (swapN d a b k) t = if a ≤ t ∧ t < a + k then el d (b + (t - a)) else if b ≤ t ∧ t < b + k then el d (a + (t - b)) else el d t := by
  induction k generalizing t with
  | zero => rw [if_neg (by omega), if_neg (by omega)]; rfl
  | succ k ih =>
    have hl := swapN_len d a b k
    simp only [swapN]
    rw [el_swp _ _ _ _ (by omega) (by omega)]
    have ih' := ih (by omega) (by omega)
    by_cases h1 : t = b + k
    · rw [if_pos h1, ih', if_neg (by omega), if_neg (by omega), if_neg (by omega), if_pos (by omega)]
      congr 1; omega
    · rw [if_neg h1]
      by_cases h2 : t = a + k
      · rw [if_pos h2, ih', if_neg (by omega), if_neg (by omega), if_pos (by omega)]
        congr 1; omega
      · rw [if_neg h2, ih']
        repeat' split
        all_goals first
          | rfl
          | omega
          | (congr 1; omega)

theorem swapN_step (d : List In3) (a b k x y : Nat) (hab : a + k ≤ b) (hx : x ≤ a) (hy : b + k ≤ y) (hd : y ≤ d.length) : Step d (swapN d a b k) x y := by
  induction k with
  | zero => exact Step.refl _ _ _
  | succ k ih =>
    refine (ih (by omega) (by omega)).trans ?_
    have hl := swapN_len d a b k
    exact Step.swap _ _ _ _ _ (by omega) (by omega) (by omega)

/-! ### rotate -/
/-- Element t behind a rotation of [a, m) and [m, b). -/
def rotAt (d : List In3) (a m b t : Nat) : In3 := if a ≤ t ∧ t < a + (b - m) then el d (t - a + m) else if a + (b - m) ≤ t ∧ t < b then el d (t - (b - m)) else el d t

/-- One round with i > j. -/
theorem rot_gt (d : List In3) (m i j t : Nat) (hi : i ≤ m) (hj : 0 < j) (hij : j < i) (hb : m + j ≤ d.length) :
    rotAt (swapN d (m - i) m j) (m - (i - j)) m (m + j) t = rotAt d (m - i) m (m + j) t := by
  have hs := fun t => el_swapN d (m - i) m j (by omega) (by omega) t
  unfold rotAt
  simp only [hs]
  repeat' split
  all_goals first
    | rfl
    | omega
    | (congr 1; omega)

/-- One round with i < j. -/
theorem rot_lt (d : List In3) (m i j t : Nat) (hi : i ≤ m) (hi0 : 0 < i) (hij : i < j) (hb : m + j ≤ d.length) :
    rotAt (swapN d (m - i) (m + j - i) i) (m - i) m (m + (j - i)) t = rotAt d (m - i) m (m + j) t := by
  have hs := fun t => el_swapN d (m - i) (m + j - i) i (by omega) (by omega) t
  unfold rotAt
  simp only [hs]
  repeat' split
  all_goals first
    | rfl
    | omega
    | (congr 1; omega)

/-- The last. -/
theorem rot_eq (d : List In3) (m i t : Nat) (hi : i ≤ m) (hb : m + i ≤ d.length) : el (swapN d (m - i) m i) t = rotAt d (m - i) m (m + i) t := by
  rw [el_swapN d (m - i) m i (by omega) (by omega) t]
  unfold rotAt
  repeat' split
  all_goals first
    | rfl
    | omega
    | (congr 1; omega)

/-! ### insertion sort -/
/-- Sorted from a up to i (i included) but for the element at j, which is below all behind it. -/
structure Hole (d : List In3) (a i j : Nat) : Prop where
  rest : ∀ p q, a ≤ p → p ≤ q → q ≤ i → p ≠ j → q ≠ j → ct d p ≤ ct d q
  low : ∀ q, j < q → q ≤ i → ct d j ≤ ct d q

theorem hole_start {d : List In3} {a i : Nat} (h : Srt d a i) : Hole d a i i :=
  ⟨fun p q h1 h2 h3 h4 h5 => h p q h1 h2 (by omega), fun q h1 h2 => by omega⟩
theorem hole_next {d : List In3} {a i j : Nat} (h : Hole d a i j) (ha : a < j) (hj : j ≤ i) (hi : i < d.length) (hlt : ct d j < ct d (j - 1)) : Hole (swp d j (j - 1)) a i (j - 1) := by
  have he := fun t => el_swp d j (j - 1) t (by omega) (by omega)
  have hc : ∀ t, ct (swp d j (j - 1)) t = if t = j - 1 then ct d j else if t = j then ct d (j - 1) else ct d t := by
    intro t
    unfold ct
    rw [he]
    split
    · rfl
    · split <;> rfl
  refine ⟨fun p q h1 h2 h3 h4 h5 => ?_, fun q h1 h2 => ?_⟩
  · rw [hc, hc, if_neg h4, if_neg h5]
    by_cases e1 : p = j
    · rw [if_pos e1]
      by_cases e2 : q = j
      · rw [if_pos e2]; exact Int.le_refl _
      · rw [if_neg e2]; exact h.rest (j - 1) q (by omega) (by omega) h3 (by omega) e2
    · rw [if_neg e1]
      by_cases e2 : q = j
      · rw [if_pos e2]; exact h.rest p (j - 1) h1 (by omega) (by omega) e1 (by omega)
      · rw [if_neg e2]; exact h.rest p q h1 h2 h3 e1 e2
  · rw [hc, hc, if_pos rfl, if_neg (by omega)]
    by_cases e2 : q = j
    · rw [if_pos e2]; omega
    · rw [if_neg e2]; exact h.low q (by omega) h2
theorem hole_end {d : List In3} {a i j : Nat} (h : Hole d a i j) (ha : a ≤ j) (hj : j ≤ i) (he : j = a ∨ ¬ ct d j < ct d (j - 1)) : Srt d a (i + 1) := by
  intro p q h1 h2 h3
  by_cases e1 : p = j
  · subst e1
    by_cases e2 : q = p
    · subst e2; exact Int.le_refl _
    · exact h.low q (by omega) (by omega)
  · by_cases e2 : q = j
    · subst e2
      rcases he with he | he
      · omega
      · have := h.rest p (q - 1) h1 (by omega) (by omega) e1 (by omega)
        omega
    · exact h.rest p q h1 h2 (by omega) e1 e2

/-! ### symMerge -/
/-- One element put into its place from the left: [a] then [a+1, b) sorted: the first i-1-a of the run move down. -/
structure HoleUp (d : List In3) (a b k : Nat) : Prop where
  rest : ∀ p q, a ≤ p → p ≤ q → q < b → p ≠ k → q ≠ k → ct d p ≤ ct d q

theorem up_start {d : List In3} {a m b : Nat} (h : Srt d m b) (hm : m = a + 1) : HoleUp d a b a := ⟨fun p q h1 h2 h3 h4 h5 => h p q (by omega) h2 h3⟩
theorem up_next {d : List In3} {a b k : Nat} (h : HoleUp d a b k) (ha : a ≤ k) (hk : k + 1 < b) (hb : b ≤ d.length) : HoleUp (swp d k (k + 1)) a b (k + 1) := by
  have hc : ∀ t, ct (swp d k (k + 1)) t = if t = k + 1 then ct d k else if t = k then ct d (k + 1) else ct d t := by
    intro t
    unfold ct
    rw [el_swp d k (k + 1) t (by omega) (by omega)]
    split
    · rfl
    · split <;> rfl
  refine ⟨fun p q h1 h2 h3 h4 h5 => ?_⟩
  rw [hc, hc, if_neg h4, if_neg h5]
  by_cases e1 : p = k
  · rw [if_pos e1]
    by_cases e2 : q = k
    · rw [if_pos e2]; exact Int.le_refl _
    · rw [if_neg e2]; exact h.rest (k + 1) q (by omega) (by omega) h3 (by omega) e2
  · rw [if_neg e1]
    by_cases e2 : q = k
    · rw [if_pos e2]; exact h.rest p (k + 1) h1 (by omega) (by omega) e1 (by omega)
    · rw [if_neg e2]; exact h.rest p q h1 h2 h3 e1 e2
end Go.Proofs.Ybulkbzfi
