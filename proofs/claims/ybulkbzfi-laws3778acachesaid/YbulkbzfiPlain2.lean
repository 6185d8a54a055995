/-
  PLAIN FACTS for symMerge: one element moved up or down; the cut of two sorted ranges. No Go in sight.
-/
import Derived.Test.YbulkbzfiPlain
namespace Go.Proofs.Ybulkbzfi

/-- d' is d with element a moved up to place k. -/
def Up (d d' : List In3) (a k : Nat) : Prop := ∀ t, el d' t = if a ≤ t ∧ t < k then el d (t + 1) else if t = k then el d a else el d t
/-- d' is d with element m moved down to place k. -/
def Down (d d' : List In3) (m k : Nat) : Prop := ∀ t, el d' t = if k < t ∧ t ≤ m then el d (t - 1) else if t = k then el d m else el d t

theorem up_zero (d : List In3) (a : Nat) : Up d d a a := by
  intro t
  rw [if_neg (by omega)]
  split
  · rename_i h; rw [h]
  · rfl
theorem down_zero (d : List In3) (a : Nat) : Down d d a a := by
  intro t
  rw [if_neg (by omega)]
  split
  · rename_i h; rw [h]
  · rfl
theorem up_swp {d d' : List In3} {a k : Nat} (h : Up d d' a k) (ha : a ≤ k) (hk : k + 1 < d'.length) : Up d (swp d' k (k + 1)) a (k + 1) := by
  intro t
  rw [el_swp d' k (k + 1) t (by omega) hk, h k, h (k + 1), h t]
  repeat' split
  all_goals first
    | rfl
    | omega
    | (congr 1; omega)
theorem down_swp {d d' : List In3} {m k : Nat} (h : Down d d' m k) (hm : k ≤ m) (hk0 : 0 < k) (hk : k < d'.length) : Down d (swp d' k (k - 1)) m (k - 1) := by
  intro t
  rw [el_swp d' k (k - 1) t hk (by omega), h k, h (k - 1), h t]
  repeat' split
  all_goals first
    | rfl
    | omega
    | (congr 1; omega)

theorem up_done {d d' : List In3} {a m b i : Nat} (h : Up d d' a (i - 1)) (hm : m = a + 1) (hmi : m ≤ i) (hib : i ≤ b) (hs : Srt d m b) (h1 : i = m ∨ ct d (i - 1) < ct d a) (h2 : i = b ∨ ct d a ≤ ct d i) : Srt d' a b := by
  have hc : ∀ t, ct d' t = if a ≤ t ∧ t < i - 1 then ct d (t + 1) else if t = i - 1 then ct d a else ct d t := by
    intro t
    unfold ct
    rw [h t]
    split
    · rfl
    · split <;> rfl
  have lo : ∀ t, m ≤ t → t < i → ct d t ≤ ct d a := by
    intro t g1 g2
    rcases h1 with h1 | h1
    · omega
    · have := hs t (i - 1) g1 (by omega) (by omega)
      omega
  have hi : ∀ t, i ≤ t → t < b → ct d a ≤ ct d t := by
    intro t g1 g2
    rcases h2 with h2 | h2
    · omega
    · have := hs i t hmi g1 g2
      omega
  intro p q g1 g2 g3
  rw [hc p, hc q]
  by_cases e1 : p < i - 1
  · rw [if_pos ⟨g1, e1⟩]
    by_cases e2 : q < i - 1
    · rw [if_pos ⟨by omega, e2⟩]; exact hs _ _ (by omega) (by omega) (by omega)
    · rw [if_neg (by omega)]
      by_cases e3 : q = i - 1
      · rw [if_pos e3]; exact lo _ (by omega) (by omega)
      · rw [if_neg e3]; exact hs _ _ (by omega) (by omega) (by omega)
  · rw [if_neg (show ¬ (a ≤ p ∧ p < i - 1) by omega), if_neg (show ¬ (a ≤ q ∧ q < i - 1) by omega)]
    by_cases e3 : p = i - 1
    · rw [if_pos e3]
      by_cases e4 : q = i - 1
      · rw [if_pos e4]; exact Int.le_refl _
      · rw [if_neg e4]; exact hi _ (by omega) g3
    · rw [if_neg e3, if_neg (by omega)]
      exact hs _ _ (by omega) g2 g3

theorem down_done {d d' : List In3} {a m b i : Nat} (h : Down d d' m i) (hm : b = m + 1) (hai : a ≤ i) (him : i ≤ m) (hs : Srt d a m) (h1 : i = a ∨ ct d (i - 1) ≤ ct d m) (h2 : i = m ∨ ct d m < ct d i) : Srt d' a b := by
  have hc : ∀ t, ct d' t = if i < t ∧ t ≤ m then ct d (t - 1) else if t = i then ct d m else ct d t := by
    intro t
    unfold ct
    rw [h t]
    split
    · rfl
    · split <;> rfl
  have lo : ∀ t, a ≤ t → t < i → ct d t ≤ ct d m := by
    intro t g1 g2
    rcases h1 with h1 | h1
    · omega
    · have := hs t (i - 1) g1 (by omega) (by omega)
      omega
  have hi : ∀ t, i ≤ t → t < m → ct d m ≤ ct d t := by
    intro t g1 g2
    rcases h2 with h2 | h2
    · omega
    · have := hs i t hai g1 g2
      omega
  intro p q g1 g2 g3
  rw [hc p, hc q]
  by_cases e1 : i < q
  · rw [if_pos (show i < q ∧ q ≤ m from ⟨e1, by omega⟩)]
    by_cases e2 : i < p
    · rw [if_pos ⟨e2, by omega⟩]; exact hs _ _ (by omega) (by omega) (by omega)
    · rw [if_neg (by omega)]
      by_cases e3 : p = i
      · rw [if_pos e3]; exact hi _ (by omega) (by omega)
      · rw [if_neg e3]; exact hs _ _ (by omega) (by omega) (by omega)
  · rw [if_neg (show ¬ (i < p ∧ p ≤ m) by omega), if_neg (show ¬ (i < q ∧ q ≤ m) by omega)]
    by_cases e3 : q = i
    · rw [if_pos e3]
      by_cases e4 : p = i
      · rw [if_pos e4]; exact Int.le_refl _
      · rw [if_neg e4]; exact lo _ g1 (by omega)
    · rw [if_neg e3, if_neg (by omega)]
      exact hs _ _ g1 g2 (by omega)

/-! ### The cut -/
/-- d rotated at (s, m, n - s), d sorted in [a, m) and [m, b), s the cut about mid: what lies behind. -/
structure Cut (d : List In3) (a mid b s e : Nat) : Prop where
  one : Srt d a s
  two : Srt d s mid
  three : Srt d mid e
  four : Srt d e b
  le : ∀ p q, a ≤ p → p < mid → mid ≤ q → q < b → ct d p ≤ ct d q

theorem cut_done {d d1 d2 : List In3} {a mid b s e : Nat} (h : Cut d a mid b s e) (h1 : Step d d1 a mid) (g1 : Srt d1 a mid) (h2 : Step d1 d2 mid b) (g2 : Srt d2 mid b) : Srt d2 a b := by
  have c1 : ∀ t, a ≤ t → t < mid → ∃ s, a ≤ s ∧ s < mid ∧ ct d2 t = ct d s := by
    intro t k1 k2
    obtain ⟨s, s1, s2, e1⟩ := h1.fr t k1 k2
    refine ⟨s, s1, s2, ?_⟩
    unfold ct
    rw [h2.out t (by omega), e1]
  have c2 : ∀ t, mid ≤ t → t < b → ∃ s, mid ≤ s ∧ s < b ∧ ct d2 t = ct d s := by
    intro t k1 k2
    obtain ⟨s, s1, s2, e1⟩ := h2.fr t k1 k2
    refine ⟨s, s1, s2, ?_⟩
    unfold ct
    rw [e1, h1.out s (by omega)]
  intro p q k1 k2 k3
  by_cases e1 : q < mid
  · have x1 := g1 p q k1 k2 e1
    unfold ct at x1 ⊢
    rw [h2.out p (by omega), h2.out q (by omega)]
    exact x1
  · by_cases e2 : mid ≤ p
    · exact g2 p q e2 k2 k3
    · obtain ⟨s, s1, s2, e3⟩ := c1 p k1 (by omega)
      obtain ⟨t, t1, t2, e4⟩ := c2 q (by omega) k3
      rw [e3, e4]
      exact h.le s t s1 s2 t1 t2

theorem cut_of {d d' : List In3} {a m b mid s e : Nat} (hr : ∀ t, el d' t = rotAt d s m e t) (h1 : Srt d a m) (h2 : Srt d m b) (b1 : a ≤ s) (b2 : s ≤ m) (b4 : m ≤ e) (b6 : e ≤ b) (b7 : s + e = mid + m)
    (lo : s = a ∨ e = b ∨ ct d (s - 1) ≤ ct d e) (hi : s = mid ∨ s = m ∨ ct d (e - 1) ≤ ct d s) : Cut d' a mid b s e := by
  have p1 : ∀ t, a ≤ t → t < s → ct d' t = ct d t := by
    intro t k1 k2
    unfold ct
    rw [hr t, rotAt, if_neg (by omega), if_neg (by omega)]
  have p2 : ∀ t, s ≤ t → t < mid → ct d' t = ct d (t - s + m) := by
    intro t k1 k2
    unfold ct
    rw [hr t, rotAt, if_pos (by omega)]
  have p3 : ∀ t, mid ≤ t → t < e → ct d' t = ct d (t - (e - m)) := by
    intro t k1 k2
    unfold ct
    rw [hr t, rotAt, if_neg (by omega), if_pos (by omega)]
  have p4 : ∀ t, e ≤ t → ct d' t = ct d t := by
    intro t k1
    unfold ct
    rw [hr t, rotAt, if_neg (by omega), if_neg (by omega)]
  refine ⟨?_, ?_, ?_, ?_, ?_⟩
  · intro p q k1 k2 k3
    rw [p1 p k1 (by omega), p1 q (by omega) k3]; exact h1 _ _ k1 k2 (by omega)
  · intro p q k1 k2 k3
    rw [p2 p k1 (by omega), p2 q (by omega) k3]; exact h2 _ _ (by omega) (by omega) (by omega)
  · intro p q k1 k2 k3
    rw [p3 p k1 (by omega), p3 q (by omega) k3]; exact h1 _ _ (by omega) (by omega) (by omega)
  · intro p q k1 k2 k3
    rw [p4 p k1, p4 q (by omega)]; exact h2 _ _ (by omega) (by omega) (by omega)
  · intro p q k1 k2 k3 k4
    by_cases c1 : p < s
    · rw [p1 p k1 c1]
      by_cases c2 : q < e
      · rw [p3 q k3 c2]; exact h1 _ _ (by omega) (by omega) (by omega)
      · rw [p4 q (by omega)]
        have x1 := h1 p (s - 1) (by omega) (by omega) (by omega)
        have x2 := h2 e q (by omega) (by omega) (by omega)
        omega
    · rw [p2 p (by omega) k2]
      by_cases c2 : q < e
      · rw [p3 q k3 c2]
        have x1 := h2 (p - s + m) (e - 1) (by omega) (by omega) (by omega)
        have x2 := h1 s (q - (e - m)) (by omega) (by omega) (by omega)
        omega
      · rw [p4 q (by omega)]; exact h2 _ _ (by omega) (by omega) (by omega)

theorem rot_id_left (d : List In3) (m e t : Nat) : rotAt d m m e t = el d t := by
  unfold rotAt
  repeat' split
  all_goals first
    | rfl
    | (congr 1; omega)
theorem rot_id_right (d : List In3) (s m t : Nat) : rotAt d s m m t = el d t := by
  unfold rotAt
  repeat' split
  all_goals first
    | rfl
    | (congr 1; omega)
end Go.Proofs.Ybulkbzfi
