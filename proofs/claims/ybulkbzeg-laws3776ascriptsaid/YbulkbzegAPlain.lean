/-
  THE PLAIN LAW of LawS3776AScript: no Go in sight. A tally is (round, senders); a step is (round, node).
-/
namespace Go.Proofs.Ybulkbzeg.APlain

/-- One call of 'sent'. -/
def tally1 (s : Int × List Int) (x : Int × Int) : Int × List Int := if x.1 = s.1 then (s.1, s.2 ++ [x.2]) else (x.1, [x.2])

/-- The tally behind a script. -/
def tallied (s : Int × List Int) (l : List (Int × Int)) : Int × List Int := l.foldl tally1 s

theorem tally1_fst (s : Int × List Int) (x : Int × Int) : (tally1 s x).1 = x.1 := by
  unfold tally1; split <;> simp_all

theorem tally1_len (s : Int × List Int) (x : Int × Int) : (tally1 s x).2.length ≤ s.2.length + 1 := by
  unfold tally1; split <;> simp

theorem tallied_len (l : List (Int × Int)) : ∀ s, (tallied s l).2.length ≤ s.2.length + l.length := by
  induction l with
  | nil => intro s; simp [tallied]
  | cons x l ih =>
    intro s
    have h := ih (tally1 s x)
    have h2 := tally1_len s x
    simp only [tallied, List.foldl_cons, List.length_cons] at h ⊢
    omega

theorem tallied_snoc (s : Int × List Int) (l : List (Int × Int)) (x : Int × Int) : tallied s (l ++ [x]) = tally1 (tallied s l) x := by
  simp [tallied]

theorem tallied_take (s : Int × List Int) (l : List (Int × Int)) (k : Nat) (h : k < l.length) : tallied s (l.take (k + 1)) = tally1 (tallied s (l.take k)) (l.getD k (0, 0)) := by
  rw [List.take_succ_eq_append_getElem h, tallied_snoc]
  simp [List.getD, h]

/-- A run of steps in the tally's own round. -/
theorem tallied_same (q : Int) (l : List (Int × Int)) : ∀ xs, (∀ x ∈ l, x.1 = q) → tallied (q, xs) l = (q, xs ++ l.map Prod.snd) := by
  induction l with
  | nil => intro xs _; simp [tallied]
  | cons x l ih =>
    intro xs h
    have hx := h x (by simp)
    have h2 := ih (xs ++ [x.2]) (fun y hy => h y (by simp [hy]))
    simp only [tallied] at h2
    simp [tallied, tally1, hx, h2]

/-- A run of steps in another round. -/
theorem tallied_other (q r : Int) (l : List (Int × Int)) (xs : List Int) (h : ∀ x ∈ l, x.1 = q) (hne : q ≠ r) (hl : l ≠ []) : tallied (r, xs) l = (q, l.map Prod.snd) := by
  cases l with
  | nil => exact absurd rfl hl
  | cons x l =>
    have hx := h x (by simp)
    have h2 := tallied_same q l [x.2] (fun y hy => h y (by simp [hy]))
    simp only [tallied] at h2
    have hne' : ¬ x.1 = r := by rw [hx]; exact hne
    simp only [tallied, List.foldl_cons, tally1, if_neg hne']
    rw [hx, h2]
    simp

/-- THE LAW: k is where the trailing run of steps in the last step's round begins. -/
theorem law (r0 : Int) (xs : List Int) (l : List (Int × Int)) (q : Int) (k : Nat) (hk : k < l.length) (hrun : ∀ j, k ≤ j → j < l.length → (l.getD j (0, 0)).1 = q)
    (hend : k = 0 ∨ (l.getD (k - 1) (0, 0)).1 ≠ q) :
    tallied (r0, xs) l = (q, (if k = 0 ∧ q = r0 then xs else []) ++ (l.drop k).map Prod.snd) := by
  have hall : ∀ x ∈ l.drop k, x.1 = q := by
    intro x hx
    obtain ⟨j, hj, rfl⟩ := List.getElem_of_mem hx
    have hj2 : k + j < l.length := by simp at hj; omega
    have := hrun (k + j) (by omega) hj2
    simpa [List.getD, hj2] using this
  have hne : l.drop k ≠ [] := by intro h; have := congrArg List.length h; simp at this; omega
  have hsplit : tallied (r0, xs) l = tallied (tallied (r0, xs) (l.take k)) (l.drop k) := by
    simp only [tallied]; rw [← List.foldl_append, List.take_append_drop]
  rw [hsplit]
  by_cases h0 : k = 0
  · subst h0
    by_cases hq : q = r0
    · subst hq
      have h := tallied_same q l xs (by simpa using hall)
      simpa [tallied] using h
    · have h := tallied_other q r0 l xs (by simpa using hall) hq (by simpa using hne)
      simpa [tallied, hq] using h
  · have hq : (l.getD (k - 1) (0, 0)).1 ≠ q := by rcases hend with h | h; exact absurd h h0; exact h
    have hst := tallied_take (r0, xs) l (k - 1) (by omega)
    have hk1 : k - 1 + 1 = k := by omega
    rw [hk1] at hst
    have hf : (tallied (r0, xs) (l.take k)).1 = (l.getD (k - 1) (0, 0)).1 := by rw [hst, tally1_fst]
    have h := tallied_other q (tallied (r0, xs) (l.take k)).1 (l.drop k) (tallied (r0, xs) (l.take k)).2 hall (by rw [hf]; exact fun e => hq e.symm) hne
    rw [show tallied (r0, xs) (l.take k) = ((tallied (r0, xs) (l.take k)).1, (tallied (r0, xs) (l.take k)).2) from rfl, h]
    simp [h0]

end Go.Proofs.Ybulkbzeg.APlain
