/-
  The contract of symMergeCmpFunc: one element against the rest.
-/
import Derived.Test.YbulkbzfiIns
import Derived.Test.YbulkbzfiPlain2
namespace Go.Proofs.Ybulkbzfi
open Go.RowKit

set_option maxHeartbeats 3200000 in
set_option maxRecDepth 100000 in
theorem sym_left (g cap a m b L : Nat) (d : List In3) (rest : List Value) (w : World) (h : Row w g d rest) (hL : d.length = L) (ham : a < m) (hm : m = a + 1) (hmb : m ≤ b) (hb : b ≤ L) (hd : L ≤ 2000) (hs : Srt d m b) :
    Calls Yba.prog 28 #[.slice (some ⟨g, 0, none⟩) L cap, .int .i64 a, .int .i64 m, .int .i64 b, cmpF] w fun e w' => e = .returned (.tuple #[]) ∧
      ∃ d', Row w' g d' rest ∧ Step d d' a b ∧ Srt d' a b ∧ w.grownBy w' (some g) := by
  have hR := hide h
  have hLh := hide hL
  have hsh := hide hs
  clear h hL hs
  have t1 : ((m : Int) - (a : Int) == 1) = true := beq_iff_eq.2 (by omega)
  replace hm := hide hm
  unfold cmpF
  go_enter Yba.func28, Yba.ntmps28
  go_wp2_with fail
  go_loopw [10, 11] (fun x y wr => ∃ (i j : Nat), m ≤ i ∧ i ≤ j ∧ j ≤ b ∧ x = .int .i64 i ∧ y = .int .i64 j ∧ Hid (i = m ∨ ct d (i - 1) < ct d a) ∧ Hid (j = b ∨ ct d a ≤ ct d j) ∧ Hid (Row wr g d rest) ∧ Hid (w.grownBy wr (some g)))
    (fun x y _ => (intOf y).toNat - (intOf x).toNat)
  case atStart => exact ⟨m, b, Nat.le_refl _, hmb, Nat.le_refl _, rfl, rfl, hide (.inl rfl), hide (.inl rfl), hR, hide (grown_refl _ _)⟩
  case round =>
    obtain ⟨i, j, hmi, hij, hjb, rfl, rfl, hi, hj, hRr, hGr⟩ := hrel
    clear hR
    by_cases hlt : i < j
    · obtain ⟨h, hh⟩ : ∃ h : Nat, h = (i + j) / 2 := ⟨_, rfl⟩
      have e1 : ((i : Int) + (j : Int)) / 2 = (h : Int) := by omega
      have hih : i ≤ h := by omega
      have hhj : h < j := by omega
      clear hh
      go_wp2_with fail
      clear e1
      have hl := unhide hLh
      have x0 := grow_cell ((unhide hRr).c0 h (by omega))
      have x1 := grow_cell ((unhide hRr).c1 h (by omega))
      have x2 := grow_cell ((unhide hRr).c2 h (by omega))
      have y0 := grow_cell ((unhide hRr).c0 a (by omega))
      have y1 := grow_cell ((unhide hRr).c1 a (by omega))
      have y2 := grow_cell ((unhide hRr).c2 a (by omega))
      have i2 : (h : Int) < (L : Int) := by omega
      have i3 : (a : Int) < (L : Int) := by omega
      by_cases hc : ct d h < ct d a
      · have tc : decide (cmp3 (el d h).2.1 (el d a).2.1 < 0) = true := decide_eq_true ((cmp3_lt _ _).2 hc)
        have hc' := hide hc
        clear hl hc
        generalize el d h = X at x0 x1 x2 tc
        generalize el d a = Y at y0 y1 y2 tc
        obtain ⟨X0, X1, X2⟩ := X
        obtain ⟨Y0, Y1, Y2⟩ := Y
        dsimp only at x0 x1 x2 y0 y1 y2 tc
        refine wp_region_grow (by kernel_rfl) (by kernel_rfl) ?_
        repeat (go_big_quiet_step ((exact closure_grow _ _ _ _ _ _ _ _)))
        refine wpQuiet_nil ?_
        intro _ hw'
        obtain ⟨z, rfl⟩ := hw'
        have hR5 : Hid (Row (grow wr z) g d rest) := hide ((unhide hRr).of_block ((grow_grown wr z none).block g (unhide hRr).lt (by simp)))
        have hG5 : Hid (w.grownBy (grow wr z) (some g)) := hide (grown_two (unhide hGr) (grow_grown wr z _))
        clear x0 x1 x2 y0 y1 y2 hRr hGr
        generalize grow wr z = w5 at *
        go_wp2
        go_roundw
        case rel => exact ⟨h + 1, j, by omega, by omega, by omega, by go_num, rfl, hide (.inr (by simpa using unhide hc')), hj, hR5, hG5⟩
        case measure => simp [intOf]; omega
      · have tc : decide (cmp3 (el d h).2.1 (el d a).2.1 < 0) = false := decide_eq_false (fun h => hc ((cmp3_lt _ _).1 h))
        have hc' := hide hc
        clear hl hc
        generalize el d h = X at x0 x1 x2 tc
        generalize el d a = Y at y0 y1 y2 tc
        obtain ⟨X0, X1, X2⟩ := X
        obtain ⟨Y0, Y1, Y2⟩ := Y
        dsimp only at x0 x1 x2 y0 y1 y2 tc
        refine wp_region_grow (by kernel_rfl) (by kernel_rfl) ?_
        repeat (go_big_quiet_step ((exact closure_grow _ _ _ _ _ _ _ _)))
        refine wpQuiet_nil ?_
        intro _ hw'
        obtain ⟨z, rfl⟩ := hw'
        have hR5 : Hid (Row (grow wr z) g d rest) := hide ((unhide hRr).of_block ((grow_grown wr z none).block g (unhide hRr).lt (by simp)))
        have hG5 : Hid (w.grownBy (grow wr z) (some g)) := hide (grown_two (unhide hGr) (grow_grown wr z _))
        clear x0 x1 x2 y0 y1 y2 hRr hGr
        generalize grow wr z = w5 at *
        go_wp2
        go_roundw
        case rel => exact ⟨i, h, by omega, by omega, by omega, rfl, rfl, hi, hide (.inr (Int.not_lt.1 (unhide hc'))), hR5, hG5⟩
        case measure => simp [intOf]; omega
    · obtain rfl : i = j := by omega
      go_wp2_with fail
      go_loopw [13] (fun x wr => ∃ (k : Nat) (e : List In3), a ≤ k ∧ k ≤ i - 1 ∧ x = .int .i64 k ∧ Hid (Step d e a b) ∧ Hid (Up d e a k) ∧ Hid (Row wr g e rest) ∧ Hid (w.grownBy wr (some g)))
        (fun x _ => i - (intOf x).toNat)
      case atStart => exact ⟨a, d, Nat.le_refl _, by omega, rfl, hide (Step.refl _ _ _), hide (up_zero d a), hRr, hGr⟩
      case round =>
        obtain ⟨k, e, hak, hki, rfl, hst, hu, hR2, hG2⟩ := hrel
        clear hRr hGr
        by_cases hlt2 : k < i - 1
        · go_wp2_with fail
          have hl := (unhide hst).len.trans (unhide hLh)
          have hS3 := hide ((unhide hst).trans (Step.swap e k (k + 1) a b (by omega) (by omega) (by omega)))
          have hu3 := hide (up_swp (unhide hu) hak (by omega))
          have hsw := swap_all g k (k + 1) e rest (by omega) (by omega) _ (unhide hR2)
          have x0 := (unhide hR2).c0 k (by omega)
          have x1 := (unhide hR2).c1 k (by omega)
          have x2 := (unhide hR2).c2 k (by omega)
          have y0 := (unhide hR2).c0 (k + 1) (by omega)
          have y1 := (unhide hR2).c1 (k + 1) (by omega)
          have y2 := (unhide hR2).c2 (k + 1) (by omega)
          have f0 := (unhide hR2).free (k * 3)
          have f1 := (unhide hR2).free (k * 3 + 1)
          have f2 := (unhide hR2).free (k * 3 + 2)
          have f3 := (unhide hR2).free ((k + 1) * 3)
          have f4 := (unhide hR2).free ((k + 1) * 3 + 1)
          have f5 := (unhide hR2).free ((k + 1) * 3 + 2)
          have i2 : (k : Int) + 1 < (L : Int) := by omega
          have i3 : (k : Int) < (L : Int) := by omega
          have hRn := (hsw).1
          have hGn := (grown_two (unhide hG2) (hsw).2)
          clear hl hu hst hR2 hsw hG2
          generalize swp e k (k + 1) = e3 at *
          generalize el e k = X at *
          generalize el e (k + 1) = Y at *
          obtain ⟨X0, X1, X2⟩ := X
          obtain ⟨Y0, Y1, Y2⟩ := Y
          dsimp only at hRn hGn x0 x1 x2 y0 y1 y2
          replace hRn := hide hRn
          replace hGn := hide hGn
          go_region
          clear x0 x1 x2 y0 y1 y2 f0 f1 f2 f3 f4 f5
          go_wp2
          go_roundw
          case rel => exact ⟨k + 1, e3, by omega, by omega, by go_num, hS3, hu3, hRn, hGn⟩
          case measure => simp [intOf]; omega
        · have hk : k = i - 1 := by omega
          have t2 : decide ((k : Int) < (i : Int) - 1) = false := decide_eq_false (by omega)
          rw [hk] at hu
          have hfin := hide (up_done (unhide hu) (unhide hm) hmi hjb (unhide hsh) (unhide hi) (unhide hj))
          go_wp2
          refine bodyPost_ret (results_none rfl _ _ _) rfl ?_
          exact ⟨rfl, e, unhide hR2, unhide hst, unhide hfin, unhide hG2⟩
set_option maxHeartbeats 3200000 in
set_option maxRecDepth 100000 in
theorem sym_right (g cap a m b L : Nat) (d : List In3) (rest : List Value) (w : World) (h : Row w g d rest) (hL : d.length = L) (ham : a + 1 < m) (hmb : m < b) (hm : b = m + 1) (hb : b ≤ L) (hd : L ≤ 2000) (hs : Srt d a m) :
    Calls Yba.prog 28 #[.slice (some ⟨g, 0, none⟩) L cap, .int .i64 a, .int .i64 m, .int .i64 b, cmpF] w fun e w' => e = .returned (.tuple #[]) ∧
      ∃ d', Row w' g d' rest ∧ Step d d' a b ∧ Srt d' a b ∧ w.grownBy w' (some g) := by
  have hR := hide h
  have hLh := hide hL
  have hsh := hide hs
  clear h hL hs
  have t0 : ((m : Int) - (a : Int) == 1) = false := beq_eq_false_iff_ne.2 (by omega)
  have t1 : ((b : Int) - (m : Int) == 1) = true := beq_iff_eq.2 (by omega)
  replace hm := hide hm
  unfold cmpF
  go_enter Yba.func28, Yba.ntmps28
  go_wp2_with fail
  go_loopw [14, 15] (fun x y wr => ∃ (i j : Nat), a ≤ i ∧ i ≤ j ∧ j ≤ m ∧ x = .int .i64 i ∧ y = .int .i64 j ∧ Hid (i = a ∨ ct d (i - 1) ≤ ct d m) ∧ Hid (j = m ∨ ct d m < ct d j) ∧ Hid (Row wr g d rest) ∧ Hid (w.grownBy wr (some g)))
    (fun x y _ => (intOf y).toNat - (intOf x).toNat)
  case atStart => exact ⟨a, m, Nat.le_refl _, by omega, Nat.le_refl _, rfl, rfl, hide (.inl rfl), hide (.inl rfl), hR, hide (grown_refl _ _)⟩
  case round =>
    obtain ⟨i, j, hmi, hij, hjb, rfl, rfl, hi, hj, hRr, hGr⟩ := hrel
    clear hR
    by_cases hlt : i < j
    · obtain ⟨h, hh⟩ : ∃ h : Nat, h = (i + j) / 2 := ⟨_, rfl⟩
      have e1 : ((i : Int) + (j : Int)) / 2 = (h : Int) := by omega
      have hih : i ≤ h := by omega
      have hhj : h < j := by omega
      clear hh
      go_wp2_with fail
      clear e1
      have hl := unhide hLh
      have x0 := grow_cell ((unhide hRr).c0 m (by omega))
      have x1 := grow_cell ((unhide hRr).c1 m (by omega))
      have x2 := grow_cell ((unhide hRr).c2 m (by omega))
      have y0 := grow_cell ((unhide hRr).c0 h (by omega))
      have y1 := grow_cell ((unhide hRr).c1 h (by omega))
      have y2 := grow_cell ((unhide hRr).c2 h (by omega))
      have i2 : (h : Int) < (L : Int) := by omega
      have i3 : (m : Int) < (L : Int) := by omega
      by_cases hc : ct d m < ct d h
      · have tc : decide (cmp3 (el d m).2.1 (el d h).2.1 < 0) = true := decide_eq_true ((cmp3_lt _ _).2 hc)
        have hc' := hide hc
        clear hl hc
        generalize el d m = X at x0 x1 x2 tc
        generalize el d h = Y at y0 y1 y2 tc
        obtain ⟨X0, X1, X2⟩ := X
        obtain ⟨Y0, Y1, Y2⟩ := Y
        dsimp only at x0 x1 x2 y0 y1 y2 tc
        refine wp_region_grow (by kernel_rfl) (by kernel_rfl) ?_
        repeat (go_big_quiet_step ((exact closure_grow _ _ _ _ _ _ _ _)))
        refine wpQuiet_nil ?_
        intro _ hw'
        obtain ⟨z, rfl⟩ := hw'
        have hR5 : Hid (Row (grow wr z) g d rest) := hide ((unhide hRr).of_block ((grow_grown wr z none).block g (unhide hRr).lt (by simp)))
        have hG5 : Hid (w.grownBy (grow wr z) (some g)) := hide (grown_two (unhide hGr) (grow_grown wr z _))
        clear x0 x1 x2 y0 y1 y2 hRr hGr
        generalize grow wr z = w5 at *
        go_wp2
        go_roundw
        case rel => exact ⟨i, h, by omega, by omega, by omega, rfl, rfl, hi, hide (.inr (unhide hc')), hR5, hG5⟩
        case measure => simp [intOf]; omega
      · have tc : decide (cmp3 (el d m).2.1 (el d h).2.1 < 0) = false := decide_eq_false (fun h => hc ((cmp3_lt _ _).1 h))
        have hc' := hide hc
        clear hl hc
        generalize el d m = X at x0 x1 x2 tc
        generalize el d h = Y at y0 y1 y2 tc
        obtain ⟨X0, X1, X2⟩ := X
        obtain ⟨Y0, Y1, Y2⟩ := Y
        dsimp only at x0 x1 x2 y0 y1 y2 tc
        refine wp_region_grow (by kernel_rfl) (by kernel_rfl) ?_
        repeat (go_big_quiet_step ((exact closure_grow _ _ _ _ _ _ _ _)))
        refine wpQuiet_nil ?_
        intro _ hw'
        obtain ⟨z, rfl⟩ := hw'
        have hR5 : Hid (Row (grow wr z) g d rest) := hide ((unhide hRr).of_block ((grow_grown wr z none).block g (unhide hRr).lt (by simp)))
        have hG5 : Hid (w.grownBy (grow wr z) (some g)) := hide (grown_two (unhide hGr) (grow_grown wr z _))
        clear x0 x1 x2 y0 y1 y2 hRr hGr
        generalize grow wr z = w5 at *
        go_wp2
        go_roundw
        case rel => exact ⟨h + 1, j, by omega, by omega, by omega, by go_num, rfl, hide (.inr (by simpa using Int.not_lt.1 (unhide hc'))), hj, hR5, hG5⟩
        case measure => simp [intOf]; omega
    · obtain rfl : i = j := by omega
      go_wp2_with fail
      go_loopw [17] (fun x wr => ∃ (k : Nat) (e : List In3), i ≤ k ∧ k ≤ m ∧ x = .int .i64 k ∧ Hid (Step d e a b) ∧ Hid (Down d e m k) ∧ Hid (Row wr g e rest) ∧ Hid (w.grownBy wr (some g)))
        (fun x _ => (intOf x).toNat)
      case atStart => exact ⟨m, d, by omega, by omega, rfl, hide (Step.refl _ _ _), hide (down_zero d m), hRr, hGr⟩
      case round =>
        obtain ⟨k, e, hak, hki, rfl, hst, hu, hR2, hG2⟩ := hrel
        clear hRr hGr
        by_cases hlt2 : i < k
        · go_wp2_with fail
          have hl := (unhide hst).len.trans (unhide hLh)
          have hS3 := hide ((unhide hst).trans (Step.swap e k (k - 1) a b (by omega) (by omega) (by omega)))
          have hu3 := hide (down_swp (unhide hu) hki (by omega) (by omega))
          have hsw := swap_all g k (k - 1) e rest (by omega) (by omega) _ (unhide hR2)
          have x0 := (unhide hR2).c0 k (by omega)
          have x1 := (unhide hR2).c1 k (by omega)
          have x2 := (unhide hR2).c2 k (by omega)
          have y0 := (unhide hR2).c0 (k - 1) (by omega)
          have y1 := (unhide hR2).c1 (k - 1) (by omega)
          have y2 := (unhide hR2).c2 (k - 1) (by omega)
          have f0 := (unhide hR2).free (k * 3)
          have f1 := (unhide hR2).free (k * 3 + 1)
          have f2 := (unhide hR2).free (k * 3 + 2)
          have f3 := (unhide hR2).free ((k - 1) * 3)
          have f4 := (unhide hR2).free ((k - 1) * 3 + 1)
          have f5 := (unhide hR2).free ((k - 1) * 3 + 2)
          have i1 : (0 : Int) ≤ (k : Int) - 1 := by omega
          have i2 : (k : Int) - 1 < (L : Int) := by omega
          have i3 : (k : Int) < (L : Int) := by omega
          have hRn := (hsw).1
          have hGn := (grown_two (unhide hG2) (hsw).2)
          clear hl hu hst hR2 hsw hG2
          generalize swp e k (k - 1) = e3 at *
          generalize el e k = X at *
          generalize el e (k - 1) = Y at *
          obtain ⟨X0, X1, X2⟩ := X
          obtain ⟨Y0, Y1, Y2⟩ := Y
          dsimp only at hRn hGn x0 x1 x2 y0 y1 y2
          replace hRn := hide hRn
          replace hGn := hide hGn
          go_region
          clear x0 x1 x2 y0 y1 y2 f0 f1 f2 f3 f4 f5
          go_wp2
          go_roundw
          case rel => exact ⟨k - 1, e3, by omega, by omega, by rw [show ((k - 1 : Nat) : Int) = (k : Int) - 1 from by omega], hS3, hu3, hRn, hGn⟩
          case measure => simp [intOf]; omega
        · have hk : k = i := by omega
          have t2 : decide ((i : Int) < (k : Int)) = false := decide_eq_false (by omega)
          rw [hk] at hu
          have hfin := hide (down_done (unhide hu) (unhide hm) hmi hjb (unhide hsh) (unhide hi) (unhide hj))
          go_wp2
          refine bodyPost_ret (results_none rfl _ _ _) rfl ?_
          exact ⟨rfl, e, unhide hR2, unhide hst, unhide hfin, unhide hG2⟩
end Go.Proofs.Ybulkbzfi
