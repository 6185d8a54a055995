/-
  The contract of (*orderIndex).term at a leaf.
-/
import Derived.Test.YbulkbzfiMap
import Derived.Test.YbulkbzfiTree2
namespace Go.Proofs.Ybulkbzfi
open Go.RowKit

/-- The index object. -/
structure XObj (w : World) (X M T : Nat) : Prop where
  asks : w.cell? ⟨X, 1, none⟩ = some (.map (some M))
  terms : w.cell? ⟨X, 3, none⟩ = some (.map (some T))
/-- What the asks answer. -/
def Asks (w : World) (M : Nat) (F : Int → Int → Int) : Prop := ∃ lA, AMap w M lA ∧ ∀ g, (ascA lA g = none ∧ ∀ n, F g n = 0) ∨ ∃ S cs hs, ascA lA g = some S ∧ Sums w S cs hs ∧ cs.length ≤ 2000 ∧ Rise cs ∧ ∀ n i, Place cs n i → pre hs i = F g n

set_option maxHeartbeats 400000 in
theorem term_nil (x : Value) (lv p : Int) (w : World) : Calls Yba.prog 8 #[x, .pointer none, .int .u64 lv, .int .u64 p] w fun e w' => w' = w ∧ e = .returned (.int .u64 0) := by
  go_enter Yba.func8, Yba.ntmps8
  go_wp2
  go_ret
  exact ⟨rfl, rfl⟩

set_option maxHeartbeats 400000 in
theorem term_hit (X M T V : Nat) (l : List (Nat × Int)) (lv p v : Int) (w : World) (hX : XObj w X M T) (hT : TMap w T l) (hV : IsObj w V) (hl : asc l V = some v) :
    Calls Yba.prog 8 #[.pointer (some ⟨X, 0, none⟩), .pointer (some ⟨V, 0, none⟩), .int .u64 lv, .int .u64 p] w fun e w' => w' = w ∧ e = .returned (.int .u64 v) := by
  have hlk := hT.look hV
  rw [hl] at hlk
  simp only [tkey, Option.getD_some, Option.isSome_some] at hlk
  have c3 := hX.terms
  clear hX hT hV
  go_enter Yba.func8, Yba.ntmps8
  go_wp2
  go_ret
  exact ⟨rfl, rfl⟩

theorem lsum_range (d : List In3) (r : List Int) (p : Int) (k : Nat) : 0 ≤ lsum d r p k ∧ lsum d r p k < 18446744073709551616 := by
  cases k with
  | zero => exact ⟨by simp [lsum], by simp [lsum]⟩
  | succ k => simp only [lsum, IntKind.wrap_u64]; omega

set_option maxHeartbeats 3200000 in
set_option maxRecDepth 100000 in
theorem term_leaf (X M T V : Nat) (l : List (Nat × Int)) (d : List In3) (r : List Int) (p : Int) (w : World) (hX : XObj w X M T) (hT : TMap w T l) (hN : Node w V nils r) (hr : r.length = 16) (hr8 : ∀ j, j < 16 → 0 ≤ r.getD j 0 ∧ r.getD j 0 ≤ 255)
    (hA : Asks w M (fun g n => md g n d)) (hd0 : ∀ x ∈ d, 0 ≤ x.2.1) (hp0 : 0 ≤ p) (hp : p ≤ 100) (hl : asc l V = none) :
    Calls Yba.prog 8 #[.pointer (some ⟨X, 0, none⟩), .pointer (some ⟨V, 0, none⟩), .int .u64 0, .int .u64 p] w fun e w' =>
      e = .returned (.int .u64 (lsum d r p 16)) ∧ (∃ o, w' = turned w T o) ∧ TMap w' T (l ++ [(V, lsum d r p 16)]) := by
  have hV : IsObj w V := ⟨_, _, hN⟩
  have hlk := hT.look hV
  rw [hl] at hlk
  simp only [tkey, Option.getD_none, Option.isSome_none] at hlk
  have c3 := hX.terms
  have c1 := hX.asks
  obtain ⟨o, hput, hT'⟩ := hT.put (x := lsum d r p 16) hV hl
  simp only [tkey] at hput
  have hT'h := hide hT'
  have hNh := hide hN
  have hrh := hide hr
  have hr8h := hide hr8
  have hAh := hide hA
  have hd0h := hide hd0
  clear hX hT hV hT' hN hr hr8 hA hd0
  go_enter Yba.func8, Yba.ntmps8
  go_wp2_with fail
  clear hlk
  go_loopw [11, 28] (fun x y wr => ∃ k : Nat, k ≤ 16 ∧ x = .int .u64 (lsum d r p k) ∧ y = .int .i64 k ∧ Hid (wr = w)) (fun _ y _ => 16 - (intOf y).toNat)
  case atStart => exact ⟨0, Nat.zero_le _, rfl, rfl, hide rfl⟩
  case round =>
    obtain ⟨k, hk, rfl, rfl, hw⟩ := hrel
    have hw' := unhide hw
    subst hw'
    by_cases hlt : k < 16
    · have c0 := (unhide hNh).n nils_len k (by rw [unhide hrh]; exact hlt)
      obtain ⟨f0, f1⟩ := unhide hr8h k hlt
      have hstep : Hid (lsum d r p (k + 1) = IntKind.u64.wrap (lsum d r p k + md (p * 16 + k) (r.getD k 0) d)) := hide rfl
      have i1 : (k : Int) < 16 := by omega
      have hor := or16 p k hp0 (by omega) (by omega) i1
      generalize hR : r.getD k 0 = R at *
      by_cases hpos : 0 < R
      · obtain ⟨lA, hAM, hAsk⟩ := unhide hAh
        have hlkA := hAM.look (p * 16 + k)
        rcases hAsk (p * 16 + k) with ⟨hn, hF⟩ | ⟨S, cs, hs, hS, hSums, hcl, hrise, hpl⟩
        · rw [hn] at hlkA
          simp only [Option.map_none] at hlkA
          have hF' := hide (hF R)
          clear hAsk hAM hF hn
          go_wp2_with (first | (go_at_call 17; refine (upto_nil _ _).mono ?_; rintro _ _ ⟨rfl, rfl⟩))
          go_roundw
          case rel => exact ⟨k + 1, by omega, by rw [unhide hstep, unhide hF', Int.add_zero], by go_num, by first | exact hide rfl | exact hide trivial⟩
          case measure => simp [intOf]; omega
        · rw [hS] at hlkA
          simp only [Option.map_some] at hlkA
          have hq := hide (And.intro hSums (And.intro hrise hpl))
          clear hAsk hAM hSums hrise hpl hS
          go_wp2_with fail
          refine (upto_any S cs hs R _ (unhide hq).1 hcl (unhide hq).2.1).mono ?_
          rintro _ _ ⟨rfl, i, hP, rfl⟩
          have hF' := hide ((unhide hq).2.2 R i hP)
          clear hP hlkA hq
          go_wp2
          go_roundw
          case rel => exact ⟨k + 1, by omega, by rw [unhide hstep, ← unhide hF'], by go_num, by first | exact hide rfl | exact hide trivial⟩
          case measure => simp [intOf]; omega
      · obtain rfl : R = 0 := by omega
        have hz := md_zero (p * 16 + k) d (unhide hd0h)
        have hrg := lsum_range d r p k
        have hsame : Hid (lsum d r p (k + 1) = lsum d r p k) := hide (by rw [unhide hstep, hz, IntKind.wrap_u64]; omega)
        clear hstep hrg hz
        go_wp2
        go_roundw
        case rel => exact ⟨k + 1, by omega, by rw [unhide hsame], by go_num, by first | exact hide rfl | exact hide trivial⟩
        case measure => simp [intOf]; omega
    · obtain rfl : k = 16 := by omega
      go_wp2
      go_ret
      exact ⟨rfl, ⟨o, rfl⟩, unhide hT'h⟩
end Go.Proofs.Ybulkbzfi
