/-
  The contract of symMergeCmpFunc: the general case, the middle left of m.
-/
import Derived.Test.YbulkbzfiSym2
namespace Go.Proofs.Ybulkbzfi
open Go.RowKit

set_option maxHeartbeats 6400000 in
set_option maxRecDepth 100000 in
theorem sym_hi (N : Nat) (ih : SymOk N) (g cap a m b mid L : Nat) (d : List In3) (rest : List Value) (w : World) (h : Row w g d rest) (hL : d.length = L) (ham : a + 1 < m) (hmb : m + 1 < b) (hb : b ≤ L) (hd : L ≤ 2000) (hN : b - a ≤ N + 1) (hs1 : Srt d a m) (hs2 : Srt d m b)
    (hmid : mid = (a + b) / 2) (hc : mid < m) :
    Calls Yba.prog 28 #[.slice (some ⟨g, 0, none⟩) L cap, .int .i64 a, .int .i64 m, .int .i64 b, cmpF] w fun e w' => e = .returned (.tuple #[]) ∧
      ∃ d', Row w' g d' rest ∧ Step d d' a b ∧ Srt d' a b ∧ w.grownBy w' (some g) := by
  have hR := hide h
  have hLh := hide hL
  have hsh1 := hide hs1
  have hsh2 := hide hs2
  have ih' := hide ih
  clear h hL hs1 hs2 ih
  have t0 : ((m : Int) - (a : Int) == 1) = false := beq_eq_false_iff_ne.2 (by omega)
  have t1 : ((b : Int) - (m : Int) == 1) = false := beq_eq_false_iff_ne.2 (by omega)
  have e1 : ((a : Int) + (b : Int)) / 2 = (mid : Int) := by omega
  have m1 : a < mid := by omega
  have m2 : mid < b := by omega
  have m3 : a + b ≤ 2 * mid + 1 := by omega
  have m4 : 2 * mid ≤ a + b := by omega
  clear hmid
  unfold cmpF
  go_enter Yba.func28, Yba.ntmps28
  go_wp2_with fail
  clear e1
  go_loopw [20, 21] (fun x y wr => ∃ (s r : Nat), (mid + m - b) ≤ s ∧ s ≤ r ∧ r ≤ mid ∧ x = .int .i64 s ∧ y = .int .i64 r ∧ Hid (s = (mid + m - b) ∨ ct d (s - 1) ≤ ct d (mid + m - s)) ∧ Hid (r = mid ∨ ct d (mid + m - 1 - r) < ct d r) ∧ Hid (Row wr g d rest) ∧ Hid (w.grownBy wr (some g)))
    (fun x y _ => (intOf y).toNat - (intOf x).toNat)
  case atStart => exact ⟨(mid + m - b), mid, Nat.le_refl _, by omega, Nat.le_refl _, by rw [show ((mid + m - b : Nat) : Int) = (mid : Int) + m - b from by omega], rfl, hide (.inl rfl), hide (.inl rfl), hR, hide (grown_refl _ _)⟩
  case round =>
    obtain ⟨s, r, hs0, hsr, hr0, rfl, rfl, hi, hj, hRr, hGr⟩ := hrel
    clear hR
    have b1 : a ≤ s := by omega
    have b2 : s ≤ m := by omega
    have b3 : s ≤ mid := by omega
    have b4 : mid + m ≤ b + s := by omega
    by_cases hlt : s < r
    · obtain ⟨c, hh⟩ : ∃ c : Nat, c = (s + r) / 2 := ⟨_, rfl⟩
      have e1 : ((s : Int) + (r : Int)) / 2 = (c : Int) := by omega
      have hsc : s ≤ c := by omega
      have hcr : c < r := by omega
      obtain ⟨q, hq⟩ : ∃ q : Nat, q = mid + m - 1 - c := ⟨_, rfl⟩
      have e2 : (mid : Int) + (m : Int) - 1 - (c : Int) = (q : Int) := by omega
      have hqb : q < b := by omega
      clear hh
      replace hq := hide hq
      go_wp2_with fail
      clear e1
      have hl := unhide hLh
      have x0 := grow_cell ((unhide hRr).c0 q (by omega))
      have x1 := grow_cell ((unhide hRr).c1 q (by omega))
      have x2 := grow_cell ((unhide hRr).c2 q (by omega))
      have y0 := grow_cell ((unhide hRr).c0 c (by omega))
      have y1 := grow_cell ((unhide hRr).c1 c (by omega))
      have y2 := grow_cell ((unhide hRr).c2 c (by omega))
      have i2 : (q : Int) < (L : Int) := by omega
      have i3 : (c : Int) < (L : Int) := by omega
      by_cases hc2 : ct d q < ct d c
      · have tc : decide (cmp3 (el d q).2.1 (el d c).2.1 < 0) = true := decide_eq_true ((cmp3_lt _ _).2 hc2)
        have hc' := hide hc2
        clear hl hc2
        generalize el d q = X at x0 x1 x2 tc
        generalize el d c = Y at y0 y1 y2 tc
        obtain ⟨X0, X1, X2⟩ := X
        obtain ⟨Y0, Y1, Y2⟩ := Y
        dsimp only at x0 x1 x2 y0 y1 y2 tc
        refine wp_region_grow (by kernel_rfl) (by kernel_rfl) ?_
        repeat (go_big_quiet_step ((exact closure_grow _ _ _ _ _ _ _ _)))
        refine wpQuiet_nil ?_
        intro _ hw'
        obtain ⟨z, rfl⟩ := hw'
        have hR5 : Hid (Row (grow wr z) g d rest) := hide ((unhide hRr).of_block ((grow_grown wr z none).block g (unhide hRr).lt (by simp)))
        have hG5 : Hid (w.grownBy (grow wr z) (some g)) := hide (grown_two (unhide hGr) (grow_grown wr z _))
        clear x0 x1 x2 y0 y1 y2 hRr hGr
        generalize grow wr z = w5 at *
        go_wp2
        go_roundw
        case rel => exact ⟨s, c, by omega, by omega, by omega, rfl, rfl, hi, hide (.inr (by rw [← unhide hq]; exact unhide hc')), hR5, hG5⟩
        case measure => simp [intOf]; omega
      · have tc : decide (cmp3 (el d q).2.1 (el d c).2.1 < 0) = false := decide_eq_false (fun h => hc2 ((cmp3_lt _ _).1 h))
        have hc' := hide hc2
        clear hl hc2
        generalize el d q = X at x0 x1 x2 tc
        generalize el d c = Y at y0 y1 y2 tc
        obtain ⟨X0, X1, X2⟩ := X
        obtain ⟨Y0, Y1, Y2⟩ := Y
        dsimp only at x0 x1 x2 y0 y1 y2 tc
        refine wp_region_grow (by kernel_rfl) (by kernel_rfl) ?_
        repeat (go_big_quiet_step ((exact closure_grow _ _ _ _ _ _ _ _)))
        refine wpQuiet_nil ?_
        intro _ hw'
        obtain ⟨z, rfl⟩ := hw'
        have hR5 : Hid (Row (grow wr z) g d rest) := hide ((unhide hRr).of_block ((grow_grown wr z none).block g (unhide hRr).lt (by simp)))
        have hG5 : Hid (w.grownBy (grow wr z) (some g)) := hide (grown_two (unhide hGr) (grow_grown wr z _))
        clear x0 x1 x2 y0 y1 y2 hRr hGr
        generalize grow wr z = w5 at *
        go_wp2
        go_roundw
        case rel => exact ⟨c + 1, r, by omega, by omega, by omega, by go_num, rfl, hide (.inr (by rw [show mid + m - (c + 1) = q from by have := unhide hq; omega]; exact Int.not_lt.1 (unhide hc'))), hj, hR5, hG5⟩
        case measure => simp [intOf]; omega
    · obtain rfl : s = r := by omega
      obtain ⟨e, he⟩ : ∃ e : Nat, e = mid + m - s := ⟨_, rfl⟩
      have e3 : (mid : Int) + (m : Int) - (s : Int) = (e : Int) := by omega
      have c1 : s + e = mid + m := by omega
      have c2 : m ≤ e := by omega
      have c3 : e ≤ b := by omega
      have c4 : mid ≤ e := by omega
      have hcut : Hid (∀ d', (∀ t, el d' t = rotAt d s m e t) → Cut d' a mid b s e) := hide (fun d' hr => by
        subst he
        refine cut_of hr (unhide hsh1) (unhide hsh2) b1 b2 (by omega) (by omega) (by omega) ?_ ?_
        · have := unhide hi
          omega
        · have := unhide hj
          rw [show mid + m - s - 1 = mid + m - 1 - s from by omega]
          omega)
      clear he hi hj hlt
      by_cases q1 : m < e
      · go_wp2_with fail
        refine (rotate_any g cap s m e L d rest _ _ (unhide hRr) (unhide hLh) (by omega) (by omega) (by omega) hd).mono ?_
        rintro _ w1 ⟨rfl, d1, k1, k2, k3, k4⟩
        have hf1 : Hid (Step d d1 a b ∧ Cut d1 a mid b s e) := hide ⟨k2.mono (by omega) (by omega), unhide hcut d1 k3⟩
        have hl1 : Hid (d1.length = L) := hide (k2.len.trans (unhide hLh))
        have hR1 := hide k1
        have hG1 := hide (grown_two (unhide hGr) k4)
        clear k1 k2 k3 k4 hRr hGr
        clear hcut
        by_cases q3 : a < s
        · go_wp2_with fail
          refine ((unhide ih') g cap a s mid L d1 rest _ (unhide hR1) (unhide hl1) (by omega) (by omega) (by omega) hd (by omega) (unhide hf1).2.one (unhide hf1).2.two).mono ?_
          rintro _ w2 ⟨rfl, d2, k1, k2, k3, k4⟩
          have hf2 : Hid (Step d d2 a b ∧ (∀ d3, Step d2 d3 mid b → Srt d3 mid b → Srt d3 a b) ∧ Srt d2 mid e ∧ Srt d2 e b) := hide ⟨(unhide hf1).1.trans (k2.mono (by omega) (by omega)), fun d3 j1 j2 => cut_done (unhide hf1).2 k2 k3 j1 j2, k2.srt (unhide hf1).2.three (.inr (by omega)), k2.srt (unhide hf1).2.four (.inr (by omega))⟩
          have hl2 : Hid (d2.length = L) := hide (k2.len.trans (unhide hl1))
          have hR2 := hide k1
          have hG2 := hide (grown_two (unhide hG1) k4)
          clear k1 k2 k3 k4 hR1 hG1 hf1 hl1
          by_cases q5 : e < b
          · go_wp2_with fail
            refine ((unhide ih') g cap mid e b L d2 rest _ (unhide hR2) (unhide hl2) (by omega) (by omega) hb hd (by omega) (unhide hf2).2.2.1 (unhide hf2).2.2.2).mono ?_
            rintro _ w3 ⟨rfl, d3, k1, k2, k3, k4⟩
            have hfin : Hid (Step d d3 a b ∧ Srt d3 a b) := hide ⟨(unhide hf2).1.trans (k2.mono (by omega) (by omega)), (unhide hf2).2.1 d3 k2 k3⟩
            have hR3 := hide k1
            have hG3 := hide (grown_two (unhide hG2) k4)
            clear k1 k2 k3 k4
            go_wp2
            go_end0
            exact ⟨rfl, d3, unhide hR3, (unhide hfin).1, (unhide hfin).2, unhide hG3⟩
          · have hfin : Hid (Srt d2 a b) := hide ((unhide hf2).2.1 d2 (Step.refl _ _ _) (by have k := (unhide hf2).2.2.1; rwa [show e = b from by omega] at k))
            have t6 : decide ((mid : Int) < (e : Int)) = true := decide_eq_true (by omega)
            have t7 : decide ((e : Int) < (b : Int)) = false := decide_eq_false (by omega)
            go_wp2
            go_end0
            exact ⟨rfl, d2, unhide hR2, (unhide hf2).1, unhide hfin, unhide hG2⟩
        · have hf2 : Hid (Step d d1 a b ∧ (∀ d3, Step d1 d3 mid b → Srt d3 mid b → Srt d3 a b) ∧ Srt d1 mid e ∧ Srt d1 e b) := hide ⟨(unhide hf1).1, fun d3 j1 j2 => cut_done (unhide hf1).2 (Step.refl _ _ _) (by have k := (unhide hf1).2.two; rwa [show s = a from by omega] at k) j1 j2, (unhide hf1).2.three, (unhide hf1).2.four⟩
          have hl2 := hl1
          have hR2 := hR1
          have hG2 := hG1
          have t4 : decide ((a : Int) < (s : Int)) = false := decide_eq_false (by omega)
          clear hR1 hG1 hf1 hl1
          obtain ⟨d2, hd2⟩ : ∃ d2, d2 = d1 := ⟨_, rfl⟩
          rw [← hd2] at hf2 hl2 hR2
          clear hd2
          have hfin : Hid (Srt d2 a b) := hide ((unhide hf2).2.1 d2 (Step.refl _ _ _) (by have k := (unhide hf2).2.2.1; rwa [show e = b from by omega] at k))
          have t6 : decide ((mid : Int) < (e : Int)) = true := decide_eq_true (by omega)
          have t7 : decide ((e : Int) < (b : Int)) = false := decide_eq_false (by omega)
          go_wp2
          go_end0
          exact ⟨rfl, d2, unhide hR2, (unhide hf2).1, unhide hfin, unhide hG2⟩
      · obtain ⟨d1, hd1⟩ : ∃ d1, d1 = d := ⟨_, rfl⟩
        have hf1 : Hid (Step d d1 a b ∧ Cut d1 a mid b s e) := hide (by rw [hd1]; exact ⟨Step.refl _ _ _, unhide hcut d (fun t => by rw [show e = m from by omega, rot_id_right])⟩)
        have hl1 : Hid (d1.length = L) := by rw [hd1]; exact hLh
        have hR1 : Hid (Row wr g d1 rest) := by rw [hd1]; exact hRr
        have hG1 := hGr
        have t2 : decide ((s : Int) < (m : Int)) = true := decide_eq_true (by omega)
        have t3 : decide ((m : Int) < (e : Int)) = false := decide_eq_false (by omega)
        clear hd1 hRr hGr
        clear hcut
        have hf2 : Hid (Step d d1 a b ∧ (∀ d3, Step d1 d3 mid b → Srt d3 mid b → Srt d3 a b) ∧ Srt d1 mid e ∧ Srt d1 e b) := hide ⟨(unhide hf1).1, fun d3 j1 j2 => cut_done (unhide hf1).2 (Step.refl _ _ _) (by have k := (unhide hf1).2.one; rwa [show s = mid from by omega] at k) j1 j2, (unhide hf1).2.three, (unhide hf1).2.four⟩
        have hl2 := hl1
        have hR2 := hR1
        have hG2 := hG1
        have t4 : decide ((a : Int) < (s : Int)) = true := decide_eq_true (by omega)
        have t5 : decide ((s : Int) < (mid : Int)) = false := decide_eq_false (by omega)
        clear hR1 hG1 hf1 hl1
        obtain ⟨d2, hd2⟩ : ∃ d2, d2 = d1 := ⟨_, rfl⟩
        rw [← hd2] at hf2 hl2 hR2
        clear hd2
        go_wp2_with fail
        refine ((unhide ih') g cap mid e b L d2 rest _ (unhide hR2) (unhide hl2) (by omega) (by omega) hb hd (by omega) (unhide hf2).2.2.1 (unhide hf2).2.2.2).mono ?_
        rintro _ w3 ⟨rfl, d3, k1, k2, k3, k4⟩
        have hfin : Hid (Step d d3 a b ∧ Srt d3 a b) := hide ⟨(unhide hf2).1.trans (k2.mono (by omega) (by omega)), (unhide hf2).2.1 d3 k2 k3⟩
        have hR3 := hide k1
        have hG3 := hide (grown_two (unhide hG2) k4)
        clear k1 k2 k3 k4
        go_wp2
        go_end0
        exact ⟨rfl, d3, unhide hR3, (unhide hfin).1, (unhide hfin).2, unhide hG3⟩

theorem sym_ok (N : Nat) : SymOk N := by
  induction N with
  | zero => intro g cap a m b L d rest w h hL ham hmb hb hd hN; omega
  | succ N ih =>
    intro g cap a m b L d rest w h hL ham hmb hb hd hN h1 h2
    by_cases c1 : m = a + 1
    · exact sym_left g cap a m b L d rest w h hL ham c1 (by omega) hb hd h2
    · by_cases c2 : b = m + 1
      · exact sym_right g cap a m b L d rest w h hL (by omega) hmb c2 hb hd h1
      · by_cases c3 : m ≤ (a + b) / 2
        · exact sym_lo N ih g cap a m b _ L d rest w h hL (by omega) (by omega) hb hd hN h1 h2 rfl c3
        · exact sym_hi N ih g cap a m b _ L d rest w h hL (by omega) (by omega) hb hd hN h1 h2 rfl (by omega)

/-- The contract of symMergeCmpFunc. -/
theorem sym_any (g cap a m b L : Nat) (d : List In3) (rest : List Value) (w : World) (h : Row w g d rest) (hL : d.length = L) (ham : a < m) (hmb : m < b) (hb : b ≤ L) (hd : L ≤ 2000) (h1 : Srt d a m) (h2 : Srt d m b) :
    Calls Yba.prog 28 #[.slice (some ⟨g, 0, none⟩) L cap, .int .i64 a, .int .i64 m, .int .i64 b, cmpF] w fun e w' => e = .returned (.tuple #[]) ∧
      ∃ d', Row w' g d' rest ∧ Step d d' a b ∧ Srt d' a b ∧ w.grownBy w' (some g) :=
  sym_ok (b - a) g cap a m b L d rest w h hL ham hmb hb hd (Nat.le_refl _) h1 h2
end Go.Proofs.Ybulkbzfi
