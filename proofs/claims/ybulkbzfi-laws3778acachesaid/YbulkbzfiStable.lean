/-
  The contract of stableCmpFunc and of slices.SortStableFunc at this program's instances.
-/
import Derived.Test.YbulkbzfiSym3
namespace Go.Proofs.Ybulkbzfi
open Go.RowKit

/-- Within [lo, hi) each block of k is sorted. -/
def Blk (d : List In3) (k lo hi : Nat) : Prop := ∀ p r, lo ≤ p → p ≤ r → r < hi → p / k = r / k → ct d p ≤ ct d r

theorem div_at {k q p : Nat} (h1 : q * k ≤ p) (h2 : p < q * k + k) : p / k = q := Nat.div_eq_of_lt_le h1 (by rw [Nat.add_mul, Nat.one_mul]; exact h2)
theorem div_ge {k q p : Nat} (h : p / k = q) : q * k ≤ p := by rw [← h]; exact Nat.div_mul_le_self p k

theorem blk_step {d d' : List In3} {k q a e : Nat} (ha : a = q * k) (he : e ≤ a + k) (h : Blk d k 0 a) (hs : Step d d' a e) (hsr : Srt d' a e) : Blk d' k 0 e := by
  intro p r h1 h2 h3 h4
  by_cases c : r < a
  · unfold ct
    rw [hs.out p (by omega), hs.out r (by omega)]
    exact h p r h1 h2 c h4
  · have hq : r / k = q := div_at (by omega) (by omega)
    have hp := div_ge (h4.trans hq)
    exact hsr p r (by omega) h2 h3
theorem blk_keep {d d' : List In3} {k a e n : Nat} (h : Blk d k a n) (hs : Step d d' a e) (hae : a ≤ e) : Blk d' k e n := by
  intro p r h1 h2 h3 h4
  unfold ct
  rw [hs.out p (by omega), hs.out r (by omega)]
  exact h p r (by omega) h2 h3 h4
theorem blk_one {d : List In3} {k q a n e : Nat} (ha : a = q * (2 * k)) (h : Blk d k a n) (he : e ≤ a + k) (hn : e ≤ n) : Srt d a e := by
  have e1 : a = (2 * q) * k := by rw [ha]; simp [Nat.mul_comm, Nat.mul_left_comm]
  intro p r h1 h2 h3
  exact h p r h1 h2 (by omega) ((div_at (q := 2 * q) (by omega) (by omega)).trans (div_at (q := 2 * q) (by omega) (by omega)).symm)
theorem blk_two {d : List In3} {k q a n e : Nat} (ha : a = q * (2 * k)) (h : Blk d k a n) (he : e ≤ a + 2 * k) (hn : e ≤ n) : Srt d (a + k) e := by
  have e1 : a + k = (2 * q + 1) * k := by rw [ha, Nat.add_mul, Nat.one_mul]; simp [Nat.mul_comm, Nat.mul_left_comm]
  intro p r h1 h2 h3
  exact h p r (by omega) h2 (by omega) ((div_at (q := 2 * q + 1) (by omega) (by omega)).trans (div_at (q := 2 * q + 1) (by omega) (by omega)).symm)
theorem blk_end {d : List In3} {k n : Nat} (h : Blk d k 0 n) (hn : n ≤ k) : Srt d 0 n := by
  intro p r h1 h2 h3
  exact h p r h1 h2 h3 ((Nat.div_eq_of_lt (by omega)).trans (Nat.div_eq_of_lt (by omega)).symm)
/-- Behind the last whole block nothing is left to sort. -/
theorem blk_rest {d : List In3} {k q a n : Nat} (ha : a = q * (2 * k)) (h : Blk d (2 * k) 0 a) (h2 : Blk d k a n) (hn : n ≤ a + k) : Blk d (2 * k) 0 n :=
  blk_step ha (by omega) h (Step.refl d a n) (blk_one ha h2 hn (Nat.le_refl n))

/-- symMerge, the numbers as the walk spells them. -/
theorem sym_int (A M B : Int) (g cap a m b L : Nat) (d : List In3) (rest : List Value) (w : World) (hA : A = a) (hM : M = m) (hB : B = b) (h : Row w g d rest) (hL : d.length = L) (ham : a < m) (hmb : m < b) (hb : b ≤ L) (hd : L ≤ 2000) (h1 : Srt d a m) (h2 : Srt d m b) :
    Calls Yba.prog 28 #[.slice (some ⟨g, 0, none⟩) L cap, .int .i64 A, .int .i64 M, .int .i64 B, cmpF] w fun e w' => e = .returned (.tuple #[]) ∧
      ∃ d', Row w' g d' rest ∧ Step d d' a b ∧ Srt d' a b ∧ w.grownBy w' (some g) := by
  subst hA; subst hM; subst hB
  exact sym_any g cap a m b L d rest w h hL ham hmb hb hd h1 h2

set_option maxHeartbeats 3200000 in
set_option maxRecDepth 100000 in
theorem stable_any (g cap n : Nat) (d : List In3) (rest : List Value) (w : World) (h : Row w g d rest) (hL : d.length = n) (hd : n ≤ 2000) :
    Calls Yba.prog 21 #[.slice (some ⟨g, 0, none⟩) n cap, .int .i64 n, cmpF] w fun e w' => e = .returned (.tuple #[]) ∧
      ∃ d', Row w' g d' rest ∧ Step d d' 0 n ∧ Srt d' 0 n ∧ w.grownBy w' (some g) := by
  have hR := hide h
  have hLh := hide hL
  clear h hL
  unfold cmpF
  go_enter Yba.func21, Yba.ntmps21
  go_wp2_with fail
  go_loopw [7, 8] (fun x y wr => ∃ (a q : Nat) (e : List In3), a ≤ n ∧ x = .int .i64 a ∧ y = .int .i64 (a + 20) ∧ Hid (a = q * 20) ∧ Hid (Step d e 0 n) ∧ Hid (Blk e 20 0 a) ∧ Hid (Row wr g e rest) ∧ Hid (w.grownBy wr (some g)))
    (fun x _ _ => n - (intOf x).toNat)
  case atStart => exact ⟨0, 0, d, Nat.zero_le _, rfl, rfl, hide rfl, hide (Step.refl _ _ _), hide (fun p r h1 h2 h3 => by omega), hR, hide (grown_refl _ _)⟩
  case round =>
    obtain ⟨a, q, e, han, rfl, rfl, hq, hst, hbl, hRr, hGr⟩ := hrel
    clear hR
    have hl : Hid (e.length = n) := hide ((unhide hst).len.trans (unhide hLh))
    by_cases hlt : a + 20 ≤ n
    · go_wp2_with fail
      refine (ins_any g cap a (a + 20) n e rest _ (unhide hRr) (unhide hl) (by omega) (by omega) hd).mono ?_
      rintro _ w1 ⟨rfl, d1, k1, k2, k3, k4⟩
      have hS1 := hide ((unhide hst).trans (k2.mono (Nat.zero_le _) hlt))
      have hb1 := hide (blk_step (unhide hq) (Nat.le_refl _) (unhide hbl) k2 k3)
      have hR1 := hide k1
      have hG1 := hide (grown_two (unhide hGr) k4)
      clear k1 k2 k3 k4 hst hbl hRr hGr hl
      go_wp2
      go_roundw
      case rel => exact ⟨a + 20, q + 1, d1, by omega, by go_num, by go_num, hide (by have := unhide hq; omega), hS1, hb1, hR1, hG1⟩
      case measure => simp [intOf]; omega
    · go_wp2_with fail
      refine (ins_any g cap a n n e rest _ (unhide hRr) (unhide hl) (by omega) (by omega) hd).mono ?_
      rintro _ w1 ⟨rfl, d1, k1, k2, k3, k4⟩
      have hS1 := hide ((unhide hst).trans (k2.mono (Nat.zero_le _) (Nat.le_refl _)))
      have hb1 := hide (blk_step (unhide hq) (by omega) (unhide hbl) k2 k3)
      have hR1 := hide k1
      have hG1 := hide (grown_two (unhide hGr) k4)
      clear k1 k2 k3 k4 hst hbl hRr hGr hl
      go_wp2_with fail
      go_loopw [6] (fun x wr => ∃ (k : Nat) (e : List In3), 20 ≤ k ∧ k ≤ 4000 ∧ x = .int .i64 k ∧ Hid (Step d e 0 n) ∧ Hid (Blk e k 0 n) ∧ Hid (Row wr g e rest) ∧ Hid (w.grownBy wr (some g)))
        (fun x _ => n - (intOf x).toNat)
      case atStart => exact ⟨20, d1, by omega, by omega, rfl, hS1, hb1, hR1, hG1⟩
      case round =>
        obtain ⟨k, e2, hk, hk2, rfl, hst, hbl, hRr, hGr⟩ := hrel
        clear hS1 hb1 hR1 hG1
        by_cases hlt2 : k < n
        · go_wp2_with fail
          go_loopw [7, 8] (fun x y wr => ∃ (a q : Nat) (e : List In3), a ≤ n ∧ x = .int .i64 a ∧ y = .int .i64 (a + 2 * k) ∧ Hid (a = q * (2 * k)) ∧ Hid (Step d e 0 n) ∧ Hid (Blk e (2 * k) 0 a) ∧ Hid (Blk e k a n) ∧ Hid (Row wr g e rest) ∧ Hid (w.grownBy wr (some g)))
            (fun x _ _ => n - (intOf x).toNat)
          case atStart => exact ⟨0, 0, e2, Nat.zero_le _, rfl, by go_num, hide (by omega), hst, hide (fun p r h1 h2 h3 => by omega), hbl, hRr, hGr⟩
          case round =>
            obtain ⟨a2, q2, e3, ha2, rfl, rfl, hq2, hst2, hbl2, hbl3, hRr2, hGr2⟩ := hrel
            clear hst hbl hRr hGr
            have hl : Hid (e3.length = n) := hide ((unhide hst2).len.trans (unhide hLh))
            by_cases hlt3 : a2 + 2 * k ≤ n
            · go_wp2_with fail
              refine (sym_int _ _ _ g cap a2 (a2 + k) (a2 + 2 * k) n e3 rest _ (by omega) (by omega) (by omega) (unhide hRr2) (unhide hl) (by omega) (by omega) (by omega) hd (blk_one (unhide hq2) (unhide hbl3) (by omega) (by omega)) (blk_two (unhide hq2) (unhide hbl3) (by omega) (by omega))).mono ?_
              rintro _ w1 ⟨rfl, d1, k1, k2, k3, k4⟩
              have hS1 := hide ((unhide hst2).trans (k2.mono (Nat.zero_le _) hlt3))
              have hb1 := hide (blk_step (unhide hq2) (Nat.le_refl _) (unhide hbl2) k2 k3)
              have hb2 := hide (blk_keep (unhide hbl3) k2 (by omega))
              have hR1 := hide k1
              have hG1 := hide (grown_two (unhide hGr2) k4)
              clear k1 k2 k3 k4 hst2 hbl2 hbl3 hRr2 hGr2 hl
              go_wp2
              go_roundw
              case rel => exact ⟨a2 + 2 * k, q2 + 1, d1, by omega, by go_num, by go_num, hide (by have := unhide hq2; rw [Nat.add_mul, Nat.one_mul]; omega), hS1, hb1, hb2, hR1, hG1⟩
              case measure => simp [intOf]; omega
            · by_cases hlt4 : a2 + k < n
              · go_wp2_with fail
                refine (sym_int _ _ _ g cap a2 (a2 + k) n n e3 rest _ (by omega) (by omega) (by omega) (unhide hRr2) (unhide hl) (by omega) (by omega) (by omega) hd (blk_one (unhide hq2) (unhide hbl3) (by omega) (by omega)) (blk_two (unhide hq2) (unhide hbl3) (by omega) (by omega))).mono ?_
                rintro _ w1 ⟨rfl, d1, k1, k2, k3, k4⟩
                have hS1 := hide ((unhide hst2).trans (k2.mono (Nat.zero_le _) (Nat.le_refl _)))
                have hb1 := hide (blk_step (unhide hq2) (by omega) (unhide hbl2) k2 k3)
                have hR1 := hide k1
                have hG1 := hide (grown_two (unhide hGr2) k4)
                clear k1 k2 k3 k4 hst2 hbl2 hbl3 hRr2 hGr2 hl
                go_wp2
                go_roundw
                case rel => exact ⟨2 * k, d1, by omega, by omega, by go_num, hS1, hb1, hR1, hG1⟩
                case measure => simp [intOf]; omega
              · have hb1 := hide (blk_rest (unhide hq2) (unhide hbl2) (unhide hbl3) (by omega))
                go_wp2
                go_roundw
                case rel => exact ⟨2 * k, e3, by omega, by omega, by go_num, hst2, hb1, hRr2, hGr2⟩
                case measure => simp [intOf]; omega
        · go_wp2
          go_end0
          have := blk_end (unhide hbl) (by omega)
          exact ⟨rfl, e2, unhide hRr, unhide hst, this, unhide hGr⟩

set_option maxRecDepth 100000 in
/-- slices.SortStableFunc. -/
theorem sort_any (g cap n : Nat) (d : List In3) (rest : List Value) (w : World) (h : Row w g d rest) (hL : d.length = n) (hd : n ≤ 2000) :
    Calls Yba.prog 14 #[.slice (some ⟨g, 0, none⟩) n cap, cmpF] w fun e w' => e = .returned (.tuple #[]) ∧
      ∃ d', Row w' g d' rest ∧ Step d d' 0 n ∧ Srt d' 0 n ∧ w.grownBy w' (some g) := by
  have hR := hide h
  have hLh := hide hL
  clear h hL
  go_enter Yba.func14, Yba.ntmps14
  go_wp2_with fail
  refine (stable_any g cap n d rest _ (unhide hR) (unhide hLh) hd).mono ?_
  rintro _ w1 ⟨rfl, d1, k1, k2, k3, k4⟩
  have hk := hide (And.intro k1 (And.intro k2 (And.intro k3 k4)))
  clear k1 k2 k3 k4
  go_wp2
  go_end0
  exact ⟨rfl, d1, unhide hk⟩
end Go.Proofs.Ybulkbzfi
