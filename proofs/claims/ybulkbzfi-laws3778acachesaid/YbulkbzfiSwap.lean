/-
  The contracts of swapRangeCmpFunc and rotateCmpFunc.
-/
import Derived.Test.YbulkbzfiRow3
namespace Go.Proofs.Ybulkbzfi
open Go.RowKit

set_option maxHeartbeats 1600000 in
set_option maxRecDepth 100000 in
theorem swapRange_any (g cap a b n : Nat) (d : List In3) (rest : List Value) (f : Value) (w : World) (h : Row w g d rest) (hab : a + n ≤ b) (hb : b + n ≤ d.length) (hd : d.length ≤ 2000) :
    Calls Yba.prog 34 #[.slice (some ⟨g, 0, none⟩) d.length cap, .int .i64 a, .int .i64 b, .int .i64 n, f] w fun e w' => e = .returned (.tuple #[]) ∧ Row w' g (swapN d a b n) rest ∧ w.grownBy w' (some g) := by
  have hR := hide h
  clear h
  go_enter Yba.func34, Yba.ntmps34
  go_wp2_with fail
  go_loopw [10] (fun i wr => ∃ (k : Nat), k ≤ n ∧ i = .int .i64 k ∧ Hid (Row wr g (swapN d a b k) rest) ∧ Hid (w.grownBy wr (some g))) (fun i _ => n - (intOf i).toNat)
  case atStart => exact ⟨0, Nat.zero_le _, rfl, hR, hide (grown_refl _ _)⟩
  case round =>
    obtain ⟨k, hk, rfl, hRr, hGr⟩ := hrel
    by_cases hlt : k < n
    · have hl := swapN_len d a b k
      have hRn := ((unhide hRr).swap (a + k) (b + k) (by omega) (by omega)).drew
      have hGn := grown_drew (grown_two (unhide hGr) (swap_grown wr g (a + k) (b + k) (.int .u8 (el (swapN d a b k) (b + k)).1) (.int .u8 (el (swapN d a b k) (b + k)).2.1) (.int .u64 (el (swapN d a b k) (b + k)).2.2) (.int .u8 (el (swapN d a b k) (a + k)).1) (.int .u8 (el (swapN d a b k) (a + k)).2.1) (.int .u64 (el (swapN d a b k) (a + k)).2.2)))
      have x0 := (unhide hRr).c0 (a + k) (by omega)
      have x1 := (unhide hRr).c1 (a + k) (by omega)
      have x2 := (unhide hRr).c2 (a + k) (by omega)
      have y0 := (unhide hRr).c0 (b + k) (by omega)
      have y1 := (unhide hRr).c1 (b + k) (by omega)
      have y2 := (unhide hRr).c2 (b + k) (by omega)
      have f0 := (unhide hRr).free ((a + k) * 3)
      have f1 := (unhide hRr).free ((a + k) * 3 + 1)
      have f2 := (unhide hRr).free ((a + k) * 3 + 2)
      have f3 := (unhide hRr).free ((b + k) * 3)
      have f4 := (unhide hRr).free ((b + k) * 3 + 1)
      have f5 := (unhide hRr).free ((b + k) * 3 + 2)
      rw [show swp (swapN d a b k) (a + k) (b + k) = swapN d a b (k + 1) from rfl] at hRn
      clear hl hRr hR
      generalize el (swapN d a b k) (a + k) = X at *
      generalize el (swapN d a b k) (b + k) = Y at *
      obtain ⟨X0, X1, X2⟩ := X
      obtain ⟨Y0, Y1, Y2⟩ := Y
      dsimp only at hRn hGn
      replace hRn := hide hRn
      replace hGn := hide hGn
      have i1 : (0 : Int) ≤ (a : Int) + (k : Int) := by omega
      have i2 : (a : Int) + (k : Int) < (d.length : Int) := by omega
      have i3 : (0 : Int) ≤ (b : Int) + (k : Int) := by omega
      have i4 : (b : Int) + (k : Int) < (d.length : Int) := by omega
      go_wp2_with fail
      go_region
      go_wp2
      go_roundw
      case rel => exact ⟨k + 1, by omega, by go_num, hRn, hGn⟩
      case measure => simp [intOf]; omega
    · obtain rfl : k = n := by omega
      go_wp2
      go_end0
      exact ⟨rfl, unhide hRr, unhide hGr⟩

/-- The same, the numbers as the walk spells them. -/
theorem swapRange_int (A B N : Int) (g cap a b n L : Nat) (d : List In3) (rest : List Value) (f : Value) (w : World) (hA : A = a) (hB : B = b) (hN : N = n) (hL : d.length = L) (h : Row w g d rest) (hab : a + n ≤ b) (hb : b + n ≤ L) (hd : L ≤ 2000) :
    Calls Yba.prog 34 #[.slice (some ⟨g, 0, none⟩) L cap, .int .i64 A, .int .i64 B, .int .i64 N, f] w fun e w' => e = .returned (.tuple #[]) ∧ Row w' g (swapN d a b n) rest ∧ w.grownBy w' (some g) := by
  subst hA; subst hB; subst hN; subst hL
  exact swapRange_any g cap a b n d rest f w h hab hb hd

set_option maxHeartbeats 1600000 in
set_option maxRecDepth 100000 in
theorem rotate_any (g cap a m b L : Nat) (d : List In3) (rest : List Value) (f : Value) (w : World) (h : Row w g d rest) (hL : d.length = L) (ham : a < m) (hmb : m < b) (hb : b ≤ L) (hd : L ≤ 2000) :
    Calls Yba.prog 32 #[.slice (some ⟨g, 0, none⟩) L cap, .int .i64 a, .int .i64 m, .int .i64 b, f] w fun e w' => e = .returned (.tuple #[]) ∧
      ∃ d', Row w' g d' rest ∧ Step d d' a b ∧ (∀ t, el d' t = rotAt d a m b t) ∧ w.grownBy w' (some g) := by
  have hR := hide h
  have hLh := hide hL
  clear h hL
  go_enter Yba.func32, Yba.ntmps32
  go_wp2_with fail
  go_loopw [10, 11] (fun x y wr => ∃ (i j : Nat) (d' : List In3), 0 < i ∧ 0 < j ∧ a + i ≤ m ∧ m + j ≤ b ∧ x = .int .i64 i ∧ y = .int .i64 j ∧ Hid (∀ t, rotAt d' (m - i) m (m + j) t = rotAt d a m b t) ∧ Hid (Step d d' a b) ∧ Hid (Row wr g d' rest) ∧ Hid (w.grownBy wr (some g)))
    (fun x y _ => (intOf x).toNat + (intOf y).toNat)
  case atStart =>
    refine ⟨m - a, b - m, d, by omega, by omega, by omega, by omega, by rw [show ((m - a : Nat) : Int) = (m : Int) - a from by omega], by rw [show ((b - m : Nat) : Int) = (b : Int) - m from by omega], hide (fun t => ?_), hide (Step.refl _ _ _), hR, hide (grown_refl _ _)⟩
    rw [show m - (m - a) = a from by omega, show m + (b - m) = b from by omega]
  case round =>
    obtain ⟨i, j, d', hi, hj, hai, hbj, rfl, rfl, hrot, hst, hRr, hGr⟩ := hrel
    clear hR
    have hl' : Hid (d'.length = L) := hide ((unhide hst).len.trans (unhide hLh))
    by_cases hij : i = j
    · subst hij
      have t1 : ((i : Int) != (i : Int)) = false := by simp
      go_wp2_with fail
      refine (swapRange_int _ _ _ g cap (m - i) m i L d' rest f _ (by omega) rfl rfl (unhide hl') (unhide hRr) (by omega) (by omega) hd).mono ?_
      rintro e w1 ⟨rfl, h1, h2⟩
      have hl := unhide hl'
      have hfin : Hid (Step d (swapN d' (m - i) m i) a b ∧ (∀ t, el (swapN d' (m - i) m i) t = rotAt d a m b t)) :=
        hide ⟨(unhide hst).trans (swapN_step d' (m - i) m i a b (by omega) (by omega) (by omega) (by omega)), fun t => (rot_eq d' m i t (by omega) (by omega)).trans (unhide hrot t)⟩
      have hR1 := hide h1
      have hG1 := hide (grown_two (unhide hGr) h2)
      clear h1 h2 hrot hst hRr hGr hl hl'
      go_wp2
      go_end0
      exact ⟨rfl, _, unhide hR1, (unhide hfin).1, (unhide hfin).2, unhide hG1⟩
    · have t1 : ((i : Int) != (j : Int)) = true := by rw [bne_iff_ne]; omega
      by_cases hgt : j < i
      · go_wp2_with fail
        refine (swapRange_int _ _ _ g cap (m - i) m j L d' rest f _ (by omega) rfl rfl (unhide hl') (unhide hRr) (by omega) (by omega) hd).mono ?_
        rintro e w1 ⟨rfl, h1, h2⟩
        have hl := unhide hl'
        have hS1 := hide ((unhide hst).trans (swapN_step d' (m - i) m j a b (by omega) (by omega) (by omega) (by omega)))
        have hr1 : Hid (∀ t, rotAt (swapN d' (m - i) m j) (m - (i - j)) m (m + j) t = rotAt d a m b t) := hide (fun t => (rot_gt d' m i j t (by omega) hj hgt (by omega)).trans (unhide hrot t))
        have hR1 := hide h1
        have hG1 := hide (grown_two (unhide hGr) h2)
        clear h1 h2 hrot hst hRr hGr hl hl'
        go_wp2
        go_roundw
        case rel => exact ⟨i - j, j, _, by omega, hj, by omega, hbj, by rw [show ((i - j : Nat) : Int) = (i : Int) - j from by omega], rfl, hr1, hS1, hR1, hG1⟩
        case measure => simp [intOf]; omega
      · have hlt : i < j := by omega
        go_wp2_with fail
        refine (swapRange_int _ _ _ g cap (m - i) (m + j - i) i L d' rest f _ (by omega) (by omega) rfl (unhide hl') (unhide hRr) (by omega) (by omega) hd).mono ?_
        rintro e w1 ⟨rfl, h1, h2⟩
        have hl := unhide hl'
        have hS1 := hide ((unhide hst).trans (swapN_step d' (m - i) (m + j - i) i a b (by omega) (by omega) (by omega) (by omega)))
        have hr1 : Hid (∀ t, rotAt (swapN d' (m - i) (m + j - i) i) (m - i) m (m + (j - i)) t = rotAt d a m b t) := hide (fun t => (rot_lt d' m i j t (by omega) hi hlt (by omega)).trans (unhide hrot t))
        have hR1 := hide h1
        have hG1 := hide (grown_two (unhide hGr) h2)
        clear h1 h2 hrot hst hRr hGr hl hl'
        go_wp2
        go_roundw
        case rel => exact ⟨i, j - i, _, hi, by omega, hai, by omega, rfl, by rw [show ((j - i : Nat) : Int) = (j : Int) - i from by omega], hr1, hS1, hR1, hG1⟩
        case measure => simp [intOf]; omega
end Go.Proofs.Ybulkbzfi
