/-
  THE WALK of LawS3776CStrings.
-/
import Derived.Test.YbulkbzegCStrs
namespace Go.Proofs.Ybulkbzeg.CS
open Go.RowKit

set_option maxRecDepth 100000 in
theorem walk_big1 (a : Option Addr) (n cap : Nat) (i : Int) (w : World) (h : 1024 < n) :
    Calls Yba.prog 6 #[.slice a n cap, .int .i64 i] w fun e w' => e = .returned (.bool true) ∧ Below w.heap.size w w' := by
  have hb : decide ((1024 : Int) < n) = true := decide_eq_true (by omega)
  go_enter Yba.func6, Yba.ntmps6
  go_wp2
  go_ret
  exact ⟨rfl, Below.refl _ _⟩

set_option maxRecDepth 100000 in
theorem walk_big2 (a : Option Addr) (n cap : Nat) (i : Int) (w : World) (h : n ≤ 1024) (h2 : 2048 < i) :
    Calls Yba.prog 6 #[.slice a n cap, .int .i64 i] w fun e w' => e = .returned (.bool true) ∧ Below w.heap.size w w' := by
  have ha : decide ((1024 : Int) < n) = false := decide_eq_false (by omega)
  have hb : decide ((2048 : Int) < i) = true := decide_eq_true (by omega)
  go_enter Yba.func6, Yba.ntmps6
  go_wp2
  go_ret
  exact ⟨rfl, Below.refl _ _⟩

set_option maxHeartbeats 1000000 in
set_option maxRecDepth 100000 in
theorem walk_keep (a : Option Addr) (n cap : Nat) (i : Int) (xs : List ByteArray) (w : World) (ha : Arg w a n cap xs) (hn : n ≤ 1024) (hi : i < n) :
    Calls Yba.prog 6 #[.slice a n cap, .int .i64 i] w fun e w' => e = .returned (.bool true) ∧ Below w.heap.size w w' := by
  have t1 : decide ((1024 : Int) < n) = false := decide_eq_false (by omega)
  have t2 : decide ((2048 : Int) < i) = false := decide_eq_false (by omega)
  have hA := hide ha
  clear ha
  go_enter Yba.func6, Yba.ntmps6
  go_wp2_with fail
  refine (clone_any a n cap xs w (unhide hA) (by omega)).mono ?_
  rintro e w1 ⟨ac, c, rfl, h1, h2⟩
  have hA1 := hide ((unhide hA).below h2)
  have hO1 := hide h1
  have hB1 := hide h2
  clear h1 h2 hA
  go_wp2_with fail
  refine (grown_keep ac n c i hi w1).mono ?_
  rintro e w2 ⟨rfl, rfl⟩
  go_wp2_with fail
  refine (equal_any w.heap.size ac a n c cap xs w2 (by omega) (unhide hO1) (unhide hA1)).mono ?_
  rintro e w3 ⟨rfl, h3⟩
  have hA3 := hide ((unhide hA1).below h3)
  have hO3 := hide (own_below (unhide hO1) h3)
  have hB3 := hide ((unhide hB1).trans (h3.mono (unhide hB1).size))
  clear h3 hA1 hO1 hB1
  go_wp2_with fail
  go_loopw [8] (fun i wr => ∃ k : Nat, k ≤ n ∧ i = .int .i64 k ∧ Hid (Below w3.heap.size w3 wr)) (fun i _ => n - (intOf i).toNat)
  case atStart => exact ⟨0, Nat.zero_le _, rfl, Below.refl _ _⟩
  case round =>
    obtain ⟨k, hk, rfl, hBz⟩ := hrel
    by_cases hlt : k < n
    · obtain ⟨b, off, hab, hbl, hbc⟩ := (unhide hA3).at_ (by omega)
      obtain ⟨g, hag, hgl, hgc⟩ := own_at (unhide hO3) (unhide hA3).len (by omega)
      subst hab
      subst hag
      have q1 := ((unhide hBz).cell (p := ⟨g, k, none⟩) hgl).trans (hgc k hlt)
      have q2 := ((unhide hBz).cell (p := ⟨b, off + k, none⟩) hbl).trans (hbc k hlt)
      clear hbc hgc hA3 hO3
      generalize xs.getD k ByteArray.empty = z at *
      go_wp2
      go_quiet (fail)
      go_wp2
      go_roundw
      case rel => exact ⟨k + 1, by omega, by go_num, hide (below_drewN (unhide hBz) _)⟩
      case measure => simp [intOf]; omega
    · go_wp2
      go_ret
      exact ⟨rfl, (unhide hB3).trans ((unhide hBz).mono (unhide hB3).size)⟩

/-- The row behind 'grown', cell by cell. -/
theorem grown_at {w : World} {B n m c g : Nat} {xs : List ByteArray} (h : w.ownsRow B 9 1 (.slice (some ⟨g, 0, none⟩) (m + 1) c) (m + 1) (vals xs ++ List.replicate (m + 1 - n) (.string ByteArray.empty))) (hx : xs.length = n) :
    (∀ k, k < n → k < m + 1 → w.cell? ⟨g, k, none⟩ = some (.string (xs.getD k ByteArray.empty))) ∧ ∀ k, n ≤ k → k < m + 1 → w.cell? ⟨g, k, none⟩ = some (.string ByteArray.empty) := by
  constructor
  · intro k h1 h2
    rw [h.cellAt k (by omega), List.getElem?_append_left (by rw [vals_len]; omega)]
    exact vals_at xs k (by omega)
  · intro k h1 h2
    rw [h.cellAt k (by omega), List.getElem?_append_right (by rw [vals_len]; omega), vals_len, List.getElem?_replicate, if_pos (by omega)]

set_option maxHeartbeats 1000000 in
set_option maxRecDepth 100000 in
theorem walk_more (a : Option Addr) (n cap m : Nat) (xs : List ByteArray) (w : World) (ha : Arg w a n cap xs) (hn : n ≤ 1024) (hnm : n ≤ m) (hm : m ≤ 2048) :
    Calls Yba.prog 6 #[.slice a n cap, .int .i64 m] w fun e w' => e = .returned (.bool true) ∧ Below w.heap.size w w' := by
  have t1 : decide ((1024 : Int) < n) = false := decide_eq_false (by omega)
  have t2 : decide ((2048 : Int) < m) = false := decide_eq_false (by omega)
  have hA := hide ha
  clear ha
  go_enter Yba.func6, Yba.ntmps6
  go_wp2_with fail
  refine (clone_any a n cap xs w (unhide hA) (by omega)).mono ?_
  rintro e w1 ⟨ac, c, rfl, h1, h2⟩
  have hO1 := hide h1
  have hB1 := hide h2
  clear h1 h2
  go_wp2_with fail
  refine (grown_more w.heap.size ac n c m hnm (by omega) (vals xs) w1 (unhide hB1).size (unhide hO1)).mono ?_
  rintro e w2 ⟨g, cr, rfl, h1, h2, h3⟩
  have hR2 := hide h1
  have hO2 := hide h2
  have hB2 := hide ((unhide hB1).trans h3)
  clear h1 h2 h3 hO1 hB1
  go_wp2_with fail
  refine (equal_any w.heap.size ac a n c cap xs w2 (by omega) (unhide hO2) ((unhide hA).below (unhide hB2))).mono ?_
  rintro e w3 ⟨rfl, h3⟩
  have hR3 := hide (grown_at (own_below (unhide hR2) h3) (unhide hA).len)
  have hgl := ((own_below (unhide hR2) h3).lt g rfl).2
  have hB3 := hide ((unhide hB2).trans (h3.mono (unhide hB2).size))
  have hA3 := hide ((unhide hA).below (unhide hB3))
  clear h3 hR2 hO2 hB2 hA
  go_wp2_with fail
  go_loopw [8] (fun i wr => ∃ k : Nat, k ≤ m + 1 ∧ i = .int .i64 k ∧ Hid (Below w3.heap.size w3 wr)) (fun i _ => m + 1 - (intOf i).toNat)
  case atStart => exact ⟨0, Nat.zero_le _, rfl, Below.refl _ _⟩
  case round =>
    obtain ⟨k, hk, rfl, hBz⟩ := hrel
    by_cases hlt : k < m + 1
    · by_cases hkn : k < n
      · obtain ⟨b, off, hab, hbl, hbc⟩ := (unhide hA3).at_ (by omega)
        subst hab
        have q1 := ((unhide hBz).cell (p := ⟨g, k, none⟩) hgl).trans ((unhide hR3).1 k hkn hlt)
        have q2 := ((unhide hBz).cell (p := ⟨b, off + k, none⟩) hbl).trans (hbc k hkn)
        clear hbc hA3 hR3
        generalize xs.getD k ByteArray.empty = z at *
        go_wp2
        go_quiet (fail)
        go_wp2
        go_roundw
        case rel => exact ⟨k + 1, by omega, by go_num, hide (below_drewN (unhide hBz) _)⟩
        case measure => simp [intOf]; omega
      · have q1 := ((unhide hBz).cell (p := ⟨g, k, none⟩) hgl).trans ((unhide hR3).2 k (by omega) hlt)
        clear hA3 hR3
        go_wp2
        go_roundw
        case rel => exact ⟨k + 1, by omega, by go_num, hBz⟩
        case measure => simp [intOf]; omega
    · go_wp2
      go_ret
      exact ⟨rfl, (unhide hB3).trans ((unhide hBz).mono (unhide hB3).size)⟩

theorem walk (a : Option Addr) (n cap : Nat) (i : Int) (xs : List ByteArray) (w : World) (ha : Arg w a n cap xs) :
    Calls Yba.prog 6 #[.slice a n cap, .int .i64 i] w fun e w' => e = .returned (.bool true) ∧ Below w.heap.size w w' := by
  by_cases h1 : 1024 < n
  · exact walk_big1 a n cap i w h1
  by_cases h2 : 2048 < i
  · exact walk_big2 a n cap i w (by omega) h2
  by_cases h3 : i < n
  · exact walk_keep a n cap i xs w ha (by omega) h3
  · obtain ⟨m, rfl⟩ := Int.eq_ofNat_of_zero_le (show 0 ≤ i by omega)
    exact walk_more a n cap m xs w ha (by omega) (by omega) (by omega)
end Go.Proofs.Ybulkbzeg.CS
