/-
  The contracts of slices.BinarySearch, (*sums).before and (*sums).upTo.
-/
import Derived.Test.YbulkbzfiTree
namespace Go.Proofs.Ybulkbzfi
open Go.RowKit

set_option maxHeartbeats 400000 in
theorem nan_any (x : Int) (w : World) : Calls Yba.prog 30 #[.int .u64 x] w fun e w' => e = .returned (.bool false) ∧ w' = w := by
  go_enter Yba.func30, Yba.ntmps30
  go_wp2
  go_ret
  exact ⟨rfl, rfl⟩
set_option maxHeartbeats 400000 in
theorem less_any (x y : Int) (w : World) : Calls Yba.prog 29 #[.int .u64 x, .int .u64 y] w fun e w' => e = .returned (.bool (decide (x < y))) ∧ w' = w := by
  go_enter Yba.func29, Yba.ntmps29
  go_wp2
  go_ret
  exact ⟨rfl, rfl⟩

/-- A slice of numbers as it is read. -/
structure Nums (w : World) (c : Nat) (cs : List Int) : Prop where
  lt : c < w.heap.size
  at_ : ∀ j, j < cs.length → w.cell? ⟨c, j, none⟩ = some (.int .u64 (cs.getD j 0))
/-- Rising. -/
def Rise (cs : List Int) : Prop := ∀ i j, i ≤ j → j < cs.length → cs.getD i 0 ≤ cs.getD j 0
/-- i is the first place whose number is not below t. -/
structure Place (cs : List Int) (t : Int) (i : Nat) : Prop where
  le : i ≤ cs.length
  lo : ∀ j, j < i → cs.getD j 0 < t
  hi : ∀ j, i ≤ j → j < cs.length → t ≤ cs.getD j 0

set_option maxHeartbeats 1600000 in
set_option maxRecDepth 100000 in
theorem search_any (c n cap : Nat) (cs : List Int) (t : Int) (w : World) (h : Nums w c cs) (hl : cs.length = n) (hn : n ≤ 2000) (hr : Rise cs) :
    Calls Yba.prog 23 #[.slice (some ⟨c, 0, none⟩) n cap, .int .u64 t] w fun e w' => w' = w ∧ ∃ (i : Nat) (f : Value), e = .returned (.tuple #[.int .i64 i, f]) ∧ Place cs t i := by
  have hA := hide h
  have hlh := hide hl
  have hrh := hide hr
  clear h hl hr
  go_enter Yba.func23, Yba.ntmps23
  go_wp2_with fail
  go_loopw [7, 8] (fun x y wr => ∃ (i j : Nat), i ≤ j ∧ j ≤ n ∧ x = .int .i64 i ∧ y = .int .i64 j ∧ Hid (i = 0 ∨ cs.getD (i - 1) 0 < t) ∧ Hid (j = n ∨ t ≤ cs.getD j 0) ∧ Hid (wr = w)) (fun x y _ => (intOf y).toNat - (intOf x).toNat)
  case atStart => exact ⟨0, n, Nat.zero_le _, Nat.le_refl _, rfl, rfl, hide (.inl rfl), hide (.inl rfl), hide rfl⟩
  case round =>
    obtain ⟨i, j, hij, hj, rfl, rfl, hi1, hj1, hw⟩ := hrel
    have hw' := unhide hw
    subst hw'
    by_cases hlt : i < j
    · obtain ⟨m, hm⟩ : ∃ m : Nat, m = (i + j) / 2 := ⟨_, rfl⟩
      have e1 : ((i : Int) + (j : Int)) / 2 = (m : Int) := by omega
      have him : i ≤ m := by omega
      have hmj : m < j := by omega
      clear hm
      have x0 := (unhide hA).at_ m (by rw [unhide hlh]; omega)
      by_cases hc : cs.getD m 0 < t
      · have hc' := hide hc
        generalize cs.getD m 0 = X at x0 hc
        go_wp2_with (first | (go_at_call 29; refine (less_any _ _ _).mono ?_; rintro _ _ ⟨rfl, rfl⟩))
        go_roundw
        case rel => exact ⟨m + 1, j, by omega, hj, by go_num, rfl, hide (.inr (by simpa using unhide hc')), hj1, by first | exact hide rfl | exact hide trivial⟩
        case measure => simp [intOf]; omega
      · have hc' : Hid (t ≤ cs.getD m 0) := hide (Int.not_lt.1 hc)
        generalize cs.getD m 0 = X at x0 hc
        go_wp2_with (first | (go_at_call 29; refine (less_any _ _ _).mono ?_; rintro _ _ ⟨rfl, rfl⟩))
        go_roundw
        case rel => exact ⟨i, m, by omega, by omega, rfl, rfl, hi1, hide (.inr (unhide hc')), by first | exact hide rfl | exact hide trivial⟩
        case measure => simp [intOf]; omega
    · obtain rfl : i = j := by omega
      have hP : Hid (Place cs t i) := hide ⟨by rw [unhide hlh]; exact hj, fun k hk => by
          have := unhide hrh k (i - 1) (by omega) (by rw [unhide hlh]; omega)
          rcases unhide hi1 with h | h
          · omega
          · omega, fun k hk1 hk2 => by
          rw [unhide hlh] at hk2
          have := unhide hrh i k hk1 (by rw [unhide hlh]; exact hk2)
          rcases unhide hj1 with h | h
          · omega
          · omega⟩
      by_cases hin : i < n
      · have x0 := (unhide hA).at_ i (by rw [unhide hlh]; exact hin)
        generalize cs.getD i 0 = X at x0
        by_cases he : X = t
        · subst he
          go_wp2
          go_ret2
          exact ⟨rfl, i, ⟨_, rfl⟩, unhide hP⟩
        · go_wp2
          go_ret2
          exact ⟨rfl, i, ⟨_, rfl⟩, unhide hP⟩
      · go_wp2
        go_ret2
        exact ⟨rfl, i, ⟨_, rfl⟩, unhide hP⟩

/-- What a sums holds. -/
structure Sums (w : World) (S : Nat) (cs hs : List Int) : Prop where
  len : hs.length = cs.length
  pos : 0 < cs.length
  at_ : ∃ c h capc caph, Nums w c cs ∧ Nums w h hs ∧ w.heap[S]? = some (.cells #[.slice (some ⟨c, 0, none⟩) cs.length capc, .slice (some ⟨h, 0, none⟩) cs.length caph] 73 (0, 0))

/-- The sum of the first i. -/
def pre (hs : List Int) (i : Nat) : Int := if i = 0 then 0 else hs.getD (i - 1) 0

set_option maxHeartbeats 400000 in
theorem before_any (S : Nat) (cs hs : List Int) (i : Nat) (w : World) (h : Sums w S cs hs) (hi : i ≤ cs.length) (hn : cs.length ≤ 2000) :
    Calls Yba.prog 24 #[.pointer (some ⟨S, 0, none⟩), .int .i64 i] w fun e w' => w' = w ∧ e = .returned (.int .u64 (pre hs i)) := by
  obtain ⟨c, hb, capc, caph, h1, h2, h3⟩ := h.at_
  have c1 : w.cell? ⟨S, 1, none⟩ = some (.slice (some ⟨hb, 0, none⟩) cs.length caph) := by rw [cell_of_row w S _ _ 73 (0, 0) h3]; rfl
  by_cases h0 : i = 0
  · subst h0
    have t : ((0 : Nat) : Int) = 0 := rfl
    go_enter Yba.func24, Yba.ntmps24
    go_wp2
    go_ret
    exact ⟨rfl, rfl⟩
  · have t : ((i : Int) == 0) = false := beq_eq_false_iff_ne.2 (by omega)
    have x0 := h2.at_ (i - 1) (by rw [h.len]; omega)
    have e1 : Hid (pre hs i = hs.getD (i - 1) 0) := hide (by rw [pre, if_neg h0])
    have i1 : (0 : Int) ≤ (i : Int) - 1 := by omega
    have i2 : (i : Int) - 1 < (cs.length : Int) := by omega
    generalize hs.getD (i - 1) 0 = X at *
    clear h h1 h2 h3
    go_enter Yba.func24, Yba.ntmps24
    go_wp2
    go_ret
    rw [unhide e1]
    exact ⟨rfl, rfl⟩

set_option maxHeartbeats 400000 in
theorem upto_nil (t : Int) (w : World) : Calls Yba.prog 17 #[.pointer none, .int .u64 t] w fun e w' => w' = w ∧ e = .returned (.int .u64 0) := by
  go_enter Yba.func17, Yba.ntmps17
  go_wp2
  go_ret
  exact ⟨rfl, rfl⟩

set_option maxHeartbeats 400000 in
theorem upto_any (S : Nat) (cs hs : List Int) (t : Int) (w : World) (h : Sums w S cs hs) (hn : cs.length ≤ 2000) (hr : Rise cs) :
    Calls Yba.prog 17 #[.pointer (some ⟨S, 0, none⟩), .int .u64 t] w fun e w' => w' = w ∧ ∃ i, Place cs t i ∧ e = .returned (.int .u64 (pre hs i)) := by
  obtain ⟨c, hb, capc, caph, h1, h2, h3⟩ := h.at_
  have c1 : w.cell? ⟨S, 0, none⟩ = some (.slice (some ⟨c, 0, none⟩) cs.length capc) := by rw [cell_of_row w S _ _ 73 (0, 0) h3]; rfl
  have hh := hide h
  have hh1 := hide h1
  have hrh := hide hr
  clear h h1 h2 h3 hr
  go_enter Yba.func17, Yba.ntmps17
  go_wp2_with fail
  refine (search_any c _ capc cs t w (unhide hh1) rfl hn (unhide hrh)).mono ?_
  rintro _ _ ⟨rfl, i, f, rfl, hP⟩
  have hPh := hide hP
  have hle := hP.le
  clear hP
  go_wp2_with fail
  refine (before_any S cs hs i _ (unhide hh) hle hn).mono ?_
  rintro _ _ ⟨rfl, rfl⟩
  go_wp2
  go_ret
  exact ⟨rfl, i, unhide hPh, rfl⟩
end Go.Proofs.Ybulkbzfi
