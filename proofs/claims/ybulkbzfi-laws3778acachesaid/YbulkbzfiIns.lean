/-
  The contract of insertionSortCmpFunc.
-/
import Derived.Test.YbulkbzfiGrow
namespace Go.Proofs.Ybulkbzfi
open Go.RowKit

/-- The comparison as a function value. -/
def cmpF : Value := .func (.func 15) #[] #[]

theorem swap_all (g i j : Nat) (e : List In3) (rest : List Value) (hi : i < e.length) (hj : j < e.length) : ∀ W : World, Row W g e rest →
    Row ((((((W.setCell ⟨g, i * 3, none⟩ (.int .u8 (el e j).1)).setCell ⟨g, i * 3 + 1, none⟩ (.int .u8 (el e j).2.1)).setCell ⟨g, i * 3 + 2, none⟩ (.int .u64 (el e j).2.2)).setCell ⟨g, j * 3, none⟩ (.int .u8 (el e i).1)).setCell ⟨g, j * 3 + 1, none⟩ (.int .u8 (el e i).2.1)).setCell ⟨g, j * 3 + 2, none⟩ (.int .u64 (el e i).2.2)).drew g (swp e i j) rest ∧
    W.grownBy ((((((W.setCell ⟨g, i * 3, none⟩ (.int .u8 (el e j).1)).setCell ⟨g, i * 3 + 1, none⟩ (.int .u8 (el e j).2.1)).setCell ⟨g, i * 3 + 2, none⟩ (.int .u64 (el e j).2.2)).setCell ⟨g, j * 3, none⟩ (.int .u8 (el e i).1)).setCell ⟨g, j * 3 + 1, none⟩ (.int .u8 (el e i).2.1)).setCell ⟨g, j * 3 + 2, none⟩ (.int .u64 (el e i).2.2)).drew (some g) :=
  fun _ h => ⟨(h.swap i j hi hj).drew, grown_drew (swap_grown _ _ _ _ _ _ _ _ _ _)⟩

set_option maxHeartbeats 3200000 in
set_option maxRecDepth 100000 in
theorem ins_any (g cap a b L : Nat) (d : List In3) (rest : List Value) (w : World) (h : Row w g d rest) (hL : d.length = L) (ha : a ≤ 3000) (hb : b ≤ L) (hd : L ≤ 2000) :
    Calls Yba.prog 27 #[.slice (some ⟨g, 0, none⟩) L cap, .int .i64 a, .int .i64 b, cmpF] w fun e w' => e = .returned (.tuple #[]) ∧
      ∃ d', Row w' g d' rest ∧ Step d d' a b ∧ Srt d' a b ∧ w.grownBy w' (some g) := by
  have hR := hide h
  have hLh := hide hL
  clear h hL
  unfold cmpF
  go_enter Yba.func27, Yba.ntmps27
  go_wp2_with fail
  go_loopw [8] (fun x wr => ∃ (i : Nat) (d' : List In3), a + 1 ≤ i ∧ (i ≤ b ∨ i = a + 1) ∧ x = .int .i64 i ∧ Hid (Step d d' a b) ∧ Hid (Srt d' a i) ∧ Hid (Row wr g d' rest) ∧ Hid (w.grownBy wr (some g)))
    (fun x _ => b - (intOf x).toNat)
  case atStart => exact ⟨a + 1, d, Nat.le_refl _, .inr rfl, by go_num, hide (Step.refl _ _ _), hide (fun i j h1 h2 h3 => by rw [show i = j from by omega]; exact Int.le_refl _), hR, hide (grown_refl _ _)⟩
  case round =>
    obtain ⟨i, d', hai, hib, rfl, hst, hs, hRr, hGr⟩ := hrel
    clear hR
    obtain ⟨wo, rfl⟩ : ∃ wo : World, wo = wr := ⟨_, rfl⟩
    by_cases hlt : i < b
    · go_wp2_with fail
      go_loopw [9] (fun y wr => ∃ (j : Nat) (e : List In3), a ≤ j ∧ j ≤ i ∧ y = .int .i64 j ∧ Hid (Step d e a b) ∧ Hid (Hole e a i j) ∧ Hid (Row wr g e rest) ∧ Hid (w.grownBy wr (some g))) (fun y _ => (intOf y).toNat)
      case atStart => exact ⟨i, d', by omega, Nat.le_refl _, rfl, hst, hide (hole_start (unhide hs)), hRr, hGr⟩
      case round =>
        obtain ⟨j, e, haj, hji, rfl, hst2, hh, hR2, hG2⟩ := hrel
        clear hst hs hRr hGr
        have hl2 : Hid (e.length = L) := hide ((unhide hst2).len.trans (unhide hLh))
        by_cases hja : a < j
        · have hl := unhide hl2
          have x0 := grow_cell ((unhide hR2).c0 j (by omega))
          have x1 := grow_cell ((unhide hR2).c1 j (by omega))
          have x2 := grow_cell ((unhide hR2).c2 j (by omega))
          have y0 := grow_cell ((unhide hR2).c0 (j - 1) (by omega))
          have y1 := grow_cell ((unhide hR2).c1 (j - 1) (by omega))
          have y2 := grow_cell ((unhide hR2).c2 (j - 1) (by omega))
          have i1 : (0 : Int) ≤ (j : Int) - 1 := by omega
          have i2 : (j : Int) - 1 < (L : Int) := by omega
          have i3 : (j : Int) < (L : Int) := by omega
          have t2 : decide (a < j) = true := decide_eq_true hja
          by_cases hc : ct e j < ct e (j - 1)
          · have tc : decide (cmp3 (el e j).2.1 (el e (j - 1)).2.1 < 0) = true := decide_eq_true ((cmp3_lt _ _).2 hc)
            have hS3 := hide ((unhide hst2).trans (Step.swap e j (j - 1) a b (by omega) (by omega) (by omega)))
            have hh3 := hide (hole_next (unhide hh) hja hji (by omega) hc)
            have hsw := swap_all g j (j - 1) e rest (by omega) (by omega)
            have z0 := fun (W : World) (h : Row W g e rest) => h.c0 j (by omega)
            have z1 := fun (W : World) (h : Row W g e rest) => h.c1 j (by omega)
            have z2 := fun (W : World) (h : Row W g e rest) => h.c2 j (by omega)
            have z3 := fun (W : World) (h : Row W g e rest) => h.c0 (j - 1) (by omega)
            have z4 := fun (W : World) (h : Row W g e rest) => h.c1 (j - 1) (by omega)
            have z5 := fun (W : World) (h : Row W g e rest) => h.c2 (j - 1) (by omega)
            clear hl hc hh hst2 hl2
            generalize swp e j (j - 1) = e3 at *
            generalize el e j = X at *
            generalize el e (j - 1) = Y at *
            obtain ⟨X0, X1, X2⟩ := X
            obtain ⟨Y0, Y1, Y2⟩ := Y
            dsimp only at hsw x0 x1 x2 y0 y1 y2 z0 z1 z2 z3 z4 z5 tc
            have hZ := hide (And.intro z0 (And.intro z1 (And.intro z2 (And.intro z3 (And.intro z4 z5)))))
            replace hsw := hide hsw
            clear z0 z1 z2 z3 z4 z5
            go_wp2_with fail
            refine wp_region_grow (by kernel_rfl) (by kernel_rfl) ?_
            repeat (go_big_quiet_step ((exact closure_grow _ _ _ _ _ _ _ _)))
            refine wpQuiet_nil ?_
            intro _ hw'
            obtain ⟨z, rfl⟩ := hw'
            have hR5 : Row (grow wr z) g e rest := (unhide hR2).of_block ((grow_grown wr z none).block g (unhide hR2).lt (by simp))
            have hG5 : w.grownBy (grow wr z) (some g) := grown_two (unhide hG2) (grow_grown wr z _)
            clear x0 x1 x2 y0 y1 y2 hR2 hG2
            generalize grow wr z = w5 at *
            have hsw5 := hide (unhide hsw w5 hR5)
            have x0 := (unhide hZ).1 w5 hR5
            have x1 := (unhide hZ).2.1 w5 hR5
            have x2 := (unhide hZ).2.2.1 w5 hR5
            have y0 := (unhide hZ).2.2.2.1 w5 hR5
            have y1 := (unhide hZ).2.2.2.2.1 w5 hR5
            have y2 := (unhide hZ).2.2.2.2.2 w5 hR5
            have f0 := hR5.free (j * 3)
            have f1 := hR5.free (j * 3 + 1)
            have f2 := hR5.free (j * 3 + 2)
            have f3 := hR5.free ((j - 1) * 3)
            have f4 := hR5.free ((j - 1) * 3 + 1)
            have f5 := hR5.free ((j - 1) * 3 + 2)
            have hG5' := hide hG5
            clear hZ hsw hR5 hG5
            go_wp2_with fail
            go_region
            have hRn := hide (unhide hsw5).1
            have hGn := hide (grown_two (unhide hG5') (unhide hsw5).2)
            clear hsw5 hG5' x0 x1 x2 y0 y1 y2 f0 f1 f2 f3 f4 f5
            go_wp2
            go_roundw
            case rel => exact ⟨j - 1, e3, by omega, by omega, by rw [show ((j - 1 : Nat) : Int) = (j : Int) - 1 from by omega], hS3, hh3, hRn, hGn⟩
            case measure => simp [intOf]; omega
          · have tc : decide (cmp3 (el e j).2.1 (el e (j - 1)).2.1 < 0) = false := decide_eq_false (fun h => hc ((cmp3_lt _ _).1 h))
            have hs3 := hide (hole_end (unhide hh) haj hji (.inr hc))
            clear hl hc hh hl2
            generalize el e j = X at *
            generalize el e (j - 1) = Y at *
            obtain ⟨X0, X1, X2⟩ := X
            obtain ⟨Y0, Y1, Y2⟩ := Y
            dsimp only at x0 x1 x2 y0 y1 y2 tc
            go_wp2_with fail
            refine wp_region_grow (by kernel_rfl) (by kernel_rfl) ?_
            repeat (go_big_quiet_step ((exact closure_grow _ _ _ _ _ _ _ _)))
            refine wpQuiet_nil ?_
            intro _ hw'
            obtain ⟨z, rfl⟩ := hw'
            have hR5 : Hid (Row (grow wr z) g e rest) := hide ((unhide hR2).of_block ((grow_grown wr z none).block g (unhide hR2).lt (by simp)))
            have hG5 : Hid (w.grownBy (grow wr z) (some g)) := hide (grown_two (unhide hG2) (grow_grown wr z _))
            clear x0 x1 x2 y0 y1 y2 hR2 hG2
            generalize grow wr z = w5 at *
            go_wp2
            go_roundw
            case rel => exact ⟨i + 1, e, by omega, by omega, by go_num, hst2, hs3, hR5, hG5⟩
            case measure => simp [intOf]; omega
        · have t2 : decide (a < j) = false := decide_eq_false hja
          have hs3 := hide (hole_end (unhide hh) haj hji (.inl (by omega)))
          clear hh
          go_wp2_with fail
          go_quiet (fail)
          go_wp2
          go_roundw
          case rel => exact ⟨i + 1, e, by omega, by omega, by go_num, hst2, hs3, hide ((unhide hR2).drewN _), hide (grown_drewN (unhide hG2) _)⟩
          case measure => simp [intOf]; omega
    · go_wp2
      go_end0
      exact ⟨rfl, d', unhide hRr, unhide hst, fun p q h1 h2 h3 => unhide hs p q h1 h2 (by omega), unhide hGr⟩
end Go.Proofs.Ybulkbzfi
