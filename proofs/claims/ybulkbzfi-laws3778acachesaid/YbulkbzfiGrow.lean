/-
  A region that draws its order, whose operations only read and whose callees only make new blocks: ONE WALK, in the order of the text (the kit's 'wp_region_quiet' at another set of worlds).
-/
import Derived.Test.YbulkbzfiSwap
namespace Go.Proofs.Ybulkbzfi
open Go.RowKit

/-- One draw ('none') or one new block. -/
def grow1 (w : World) : Option Obj → World
  | none => w.drew
  | some o => w.alloc o
/-- w, some draws and some new blocks later. -/
def grow (w : World) (z : List (Option Obj)) : World := z.foldl grow1 w

theorem grow_snoc (w : World) (z : List (Option Obj)) (o : Obj) : (grow w z).alloc o = grow w (z ++ [some o]) := by simp [grow, grow1]
theorem grow_grown (w : World) (z : List (Option Obj)) (r : Option Nat) : w.grownBy (grow w z) r := by
  unfold grow
  induction z generalizing w with
  | nil => exact World.grownBy.refl w r
  | cons o z ih =>
    refine grown_two ?_ (ih (grow1 w o))
    cases o with
    | none => exact grown_drew (World.grownBy.refl w r)
    | some o => exact World.grownBy_alloc w o r
theorem grow_cell {w : World} {a : Addr} {v : Value} (h : w.cell? a = some v) (z : List (Option Obj)) : (grow w z).cell? a = some v := (grow_grown w z none).cell h (by simp)

theorem wp_region_grow {P : Program} {id : Nat} {Q : Exit → Act → World → Prop} {a : Act} {w : World} {l : List Oper} (hm : P.follows .mixedOrders = true) (hB : Region.lexB .any l.toArray = true)
    (h : wpQuiet P l.toArray (fun w' => ∃ z, w' = grow w z) (fun a' => ∀ w', (∃ z, w' = grow w z) → Q .normal a' w') l a) : (Code.region id l.toArray true).wp P Q a w :=
  wp_region_quiet (C := fun w' => ∃ z, w' = grow w z) hm hB ⟨[none], rfl⟩ (by simpa using h)

/-- The comparison in such a world. -/
theorem closure_grow (a0 a1 a2 b0 b1 b2 : Int) (w : World) (z : List (Option Obj)) : Calls Yba.prog 15 #[.agg #[.int .u8 a0, .int .u8 a1, .int .u64 a2], .agg #[.int .u8 b0, .int .u8 b1, .int .u64 b2]] (grow w z) fun e w' => e = .returned (.int .i64 (cmp3 a1 b1)) ∧ ∃ z', w' = grow w z' := by
  refine (closure_any (a0, a1, a2) (b0, b1, b2) (grow w z)).mono ?_
  rintro e w' ⟨rfl, o1, o2, rfl⟩
  exact ⟨rfl, z ++ [some o1] ++ [some o2], by rw [grow_snoc, grow_snoc]⟩
end Go.Proofs.Ybulkbzfi
