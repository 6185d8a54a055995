/-
  The contracts of cmp.Compare[uint8], the comparison closure, and rows of instances.
-/
import Derived.Test.YbulkbzfiRows
import Derived.WalkKit
import Derived.WalkSpells
import Derived.WalkSmall
import Derived.WalkLawsBesides
import Derived.StillTactics
import Derived.RegionTactic
import Derived.BigRegion
import Derived.Laws.Pointers
import Derived.Deep.QuietTactic
import Derived.BigQuiet
import Derived.Deep.RegionWith
namespace Go.Proofs.Ybulkbzfi
open Go.RowKit

theorem hide {p : Prop} (h : p) : Hid p := h
theorem unhide {p : Prop} (h : Hid p) : p := h
theorem add_block (a : Addr) (j : Nat) : (a.add j).block = a.block := by unfold Addr.add; split <;> rfl

/-- cmp.Compare at two numbers. -/
def cmp3 (x y : Int) : Int := if x < y then -1 else if y < x then 1 else 0
theorem cmp3_lt (x y : Int) : (cmp3 x y < 0) ↔ x < y := by
  unfold cmp3; split
  · omega
  · split <;> omega

set_option maxHeartbeats 400000 in
theorem compare_any (x y : Int) (w : World) : Calls Yba.prog 16 #[.int .u8 x, .int .u8 y] w fun e w' => e = .returned (.int .i64 (cmp3 x y)) ∧ w' = w := by
  unfold cmp3
  by_cases h1 : x < y
  · rw [if_pos h1]
    go_enter Yba.func16, Yba.ntmps16
    go_wp2
    go_ret
    exact ⟨rfl, rfl⟩
  · rw [if_neg h1]
    by_cases h2 : y < x
    · rw [if_pos h2]
      go_enter Yba.func16, Yba.ntmps16
      go_wp2
      go_ret
      exact ⟨rfl, rfl⟩
    · rw [if_neg h2]
      go_enter Yba.func16, Yba.ntmps16
      go_wp2
      go_ret
      exact ⟨rfl, rfl⟩

/-- One entry. -/
def inst (x : Int × Int × Int) : Value := .agg #[.int .u8 x.1, .int .u8 x.2.1, .int .u64 x.2.2]

set_option maxHeartbeats 400000 in
theorem closure_any (a b : Int × Int × Int) (w : World) : Calls Yba.prog 15 #[inst a, inst b] w fun e w' => e = .returned (.int .i64 (cmp3 a.2.1 b.2.1)) ∧ ∃ o1 o2, w' = (w.alloc o1).alloc o2 := by
  unfold inst
  go_enter Yba.func15, Yba.ntmps15
  go_wp2_with fail
  refine (compare_any _ _ _).mono ?_
  rintro e w' ⟨rfl, rfl⟩
  go_wp2
  go_ret
  exact ⟨rfl, _, _, rfl⟩
end Go.Proofs.Ybulkbzfi
