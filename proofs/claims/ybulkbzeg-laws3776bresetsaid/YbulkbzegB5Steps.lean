/-
  REGION 5 of LawS3776BReset: each of its 31 operations keeps the invariant.
-/
import Derived.Test.YbulkbzegB5
namespace Go.Proofs.Ybulkbzeg.B
open Go.RowKit
set_option linter.unusedVariables false
set_option linter.unusedSimpArgs false

theorem eval_const (a : Act) (v : Value) : a.eval (.const v) = v := rfl

/-- Operation i of a region: where it writes, what it is; it is not guarded. -/
def OpAt (ops : Array Oper) (i : Nat) (d : Option Nat) (op : Op) : Prop := ∃ ty pos af, ops[i]? = some ⟨d, op, ty, pos, af, none⟩

theorem wpOp_value {P : Program} {ops : Array Oper} {Q : Exit → Act → World → Prop} {i : Nat} {o : Oper} {a : Act} {w w' : World} {K : Act → World → Prop} {v : Value} (h : ops[i]? = some o) (hg : o.guard = none)
    (hr : (execOp a.eval o).run P w = .ok (.value v) w') (hK : K (a.put o.dst v) w') : wpOp P ops Q i K a w := by
  unfold wpOp
  rw [h]
  simp only [Region.wanted, hg, if_true]
  left
  unfold Oper.wp
  rw [hr]
  exact hK

theorem wpOp_skip {P : Program} {ops : Array Oper} {Q : Exit → Act → World → Prop} {i : Nat} {o : Oper} {a : Act} {w w' : World} {K : Act → World → Prop} (h : ops[i]? = some o) (hg : o.guard = none)
    (hr : (execOp a.eval o).run P w = .ok .skip w') (hK : K (a.put o.dst undef) w') : wpOp P ops Q i K a w := by
  unfold wpOp
  rw [h]
  simp only [Region.wanted, hg, if_true]
  left
  unfold Oper.wp
  rw [hr]
  exact hK

/-- What an operation waits for (of that which it reads). -/
def deps : Nat → List Nat
  | 3 => [2]
  | 8 => [7]
  | 11 => [9, 10]
  | 12 => [9]
  | 13 => [6, 8, 12]
  | 16 => [15]
  | 17 => [16]
  | 18 => [17]
  | 19 => [18]
  | 22 => [20, 21]
  | 23 => [20]
  | 25 => [24]
  | 26 => [24]
  | 28 => [0, 1, 3, 4, 5, 13, 14, 19, 23, 26, 27]
  | 29 => [28]
  | 30 => [29]
  | _ => []

section
variable {width count maxS mr nS : Int} {T oB oH M B0 : Nat} {t0 : Array Value} {W0 : World} {ops : Array Oper} {Q : Exit → Act → World → Prop}

/-- What the region finds. -/
structure Start (width count maxS mr nS : Int) (T oB oH M B0 : Nat) (t0 : Array Value) (W0 : World) : Prop where
  lo : 59 < t0.size
  hi : t0.size < 1000
  n0 : 0 ≤ nS
  n1 : nS ≤ 255
  mlt : M < B0
  m0 : W0.cell? ⟨M, 0, none⟩ = some (.int .u8 1)
  m1 : W0.cell? ⟨M, 1, none⟩ = some (.int .i64 2)
  s0 : t0.getD 0 undef = .int .i64 width
  s15 : t0.getD 15 undef = .pointer (some ⟨T, 0, none⟩)
  s2 : t0.getD 2 undef = .int .i64 count
  s6 : t0.getD 6 undef = .int .i64 maxS
  s4 : t0.getD 4 undef = .int .i64 mr
  s18 : t0.getD 18 undef = .pointer (some ⟨M, 0, none⟩)
  s16 : t0.getD 16 undef = .pointer (some ⟨oB, 0, none⟩)
  s5 : t0.getD 5 undef = .int .u8 nS
  s17 : t0.getD 17 undef = .pointer (some ⟨oH, 0, none⟩)


theorem step0 (S : Start width count maxS mr nS T oB oH M B0 t0 W0) (hop : OpAt ops 0 (some 33) (.move (.tmp 0))) {L : Array Bool} {a : Act} {w : World} (hL : L.size = 31) (hun : L.getD 0 true = false) (hd : ∀ d ∈ deps 0, L.getD d false = true) (h : Inv width count maxS mr nS T oB oH B0 t0 W0 L a w) :
    wpOp Yba.prog ops Q 0 (fun a' w' => Inv width count maxS mr nS T oB oH B0 t0 W0 (L.setIfInBounds 0 true) a' w') a w := by
  obtain ⟨ty, pos, af, ho⟩ := hop
  have e : a.eval (.tmp 0) = _ := (h.old 0 (by decide)).trans S.s0
  refine wpOp_value ho rfl (v := a.tmps.getD 0 undef) (w' := w) rfl ?_
  exact h.put hL 0 (by decide) (Nat.lt_of_le_of_lt (by decide) S.lo) S.hi (by decide) _ e (Below.refl _ _)

theorem step1 (S : Start width count maxS mr nS T oB oH M B0 t0 W0) (hop : OpAt ops 1 (some 34) (.move (.tmp 15))) {L : Array Bool} {a : Act} {w : World} (hL : L.size = 31) (hun : L.getD 1 true = false) (hd : ∀ d ∈ deps 1, L.getD d false = true) (h : Inv width count maxS mr nS T oB oH B0 t0 W0 L a w) :
    wpOp Yba.prog ops Q 1 (fun a' w' => Inv width count maxS mr nS T oB oH B0 t0 W0 (L.setIfInBounds 1 true) a' w') a w := by
  obtain ⟨ty, pos, af, ho⟩ := hop
  have e : a.eval (.tmp 15) = _ := (h.old 15 (by decide)).trans S.s15
  refine wpOp_value ho rfl (v := a.tmps.getD 15 undef) (w' := w) rfl ?_
  exact h.put hL 1 (by decide) (Nat.lt_of_le_of_lt (by decide) S.lo) S.hi (by decide) _ e (Below.refl _ _)

theorem step2 (S : Start width count maxS mr nS T oB oH M B0 t0 W0) (hop : OpAt ops 2 (some 35) (.move (.tmp 2))) {L : Array Bool} {a : Act} {w : World} (hL : L.size = 31) (hun : L.getD 2 true = false) (hd : ∀ d ∈ deps 2, L.getD d false = true) (h : Inv width count maxS mr nS T oB oH B0 t0 W0 L a w) :
    wpOp Yba.prog ops Q 2 (fun a' w' => Inv width count maxS mr nS T oB oH B0 t0 W0 (L.setIfInBounds 2 true) a' w') a w := by
  obtain ⟨ty, pos, af, ho⟩ := hop
  have e : a.eval (.tmp 2) = _ := (h.old 2 (by decide)).trans S.s2
  refine wpOp_value ho rfl (v := a.tmps.getD 2 undef) (w' := w) rfl ?_
  exact h.put hL 2 (by decide) (Nat.lt_of_le_of_lt (by decide) S.lo) S.hi (by decide) _ e (Below.refl _ _)

theorem step3 (S : Start width count maxS mr nS T oB oH M B0 t0 W0) (hop : OpAt ops 3 (some 36) (.build 40 #[(0, .const (.int .i64 1)), (1, .tmp 35)])) {L : Array Bool} {a : Act} {w : World} (hL : L.size = 31) (hun : L.getD 3 true = false) (hd : ∀ d ∈ deps 3, L.getD d false = true) (h : Inv width count maxS mr nS T oB oH B0 t0 W0 L a w) :
    wpOp Yba.prog ops Q 3 (fun a' w' => Inv width count maxS mr nS T oB oH B0 t0 W0 (L.setIfInBounds 3 true) a' w') a w := by
  obtain ⟨ty, pos, af, ho⟩ := hop
  have e : a.eval (.tmp 35) = .int .i64 count := h.good 2 (hd 2 (by simp [deps]))
  refine wpOp_value ho rfl (v := .agg #[.int .i64 1, .int .i64 count, .slice none 0 0]) (w' := w) (by simp [execOp, eval_const, e, run_b40]) ?_
  exact h.put hL 3 (by decide) (Nat.lt_of_le_of_lt (by decide) S.lo) S.hi (by decide) _ rfl (Below.refl _ _)

theorem step4 (S : Start width count maxS mr nS T oB oH M B0 t0 W0) (hop : OpAt ops 4 (some 37) (.move (.tmp 6))) {L : Array Bool} {a : Act} {w : World} (hL : L.size = 31) (hun : L.getD 4 true = false) (hd : ∀ d ∈ deps 4, L.getD d false = true) (h : Inv width count maxS mr nS T oB oH B0 t0 W0 L a w) :
    wpOp Yba.prog ops Q 4 (fun a' w' => Inv width count maxS mr nS T oB oH B0 t0 W0 (L.setIfInBounds 4 true) a' w') a w := by
  obtain ⟨ty, pos, af, ho⟩ := hop
  have e : a.eval (.tmp 6) = _ := (h.old 6 (by decide)).trans S.s6
  refine wpOp_value ho rfl (v := a.tmps.getD 6 undef) (w' := w) rfl ?_
  exact h.put hL 4 (by decide) (Nat.lt_of_le_of_lt (by decide) S.lo) S.hi (by decide) _ e (Below.refl _ _)

theorem step5 (S : Start width count maxS mr nS T oB oH M B0 t0 W0) (hop : OpAt ops 5 (some 38) (.move (.tmp 4))) {L : Array Bool} {a : Act} {w : World} (hL : L.size = 31) (hun : L.getD 5 true = false) (hd : ∀ d ∈ deps 5, L.getD d false = true) (h : Inv width count maxS mr nS T oB oH B0 t0 W0 L a w) :
    wpOp Yba.prog ops Q 5 (fun a' w' => Inv width count maxS mr nS T oB oH B0 t0 W0 (L.setIfInBounds 5 true) a' w') a w := by
  obtain ⟨ty, pos, af, ho⟩ := hop
  have e : a.eval (.tmp 4) = _ := (h.old 4 (by decide)).trans S.s4
  refine wpOp_value ho rfl (v := a.tmps.getD 4 undef) (w' := w) rfl ?_
  exact h.put hL 5 (by decide) (Nat.lt_of_le_of_lt (by decide) S.lo) S.hi (by decide) _ e (Below.refl _ _)

theorem step6 (S : Start width count maxS mr nS T oB oH M B0 t0 W0) (hop : OpAt ops 6 (some 39) (.move (.tmp 4))) {L : Array Bool} {a : Act} {w : World} (hL : L.size = 31) (hun : L.getD 6 true = false) (hd : ∀ d ∈ deps 6, L.getD d false = true) (h : Inv width count maxS mr nS T oB oH B0 t0 W0 L a w) :
    wpOp Yba.prog ops Q 6 (fun a' w' => Inv width count maxS mr nS T oB oH B0 t0 W0 (L.setIfInBounds 6 true) a' w') a w := by
  obtain ⟨ty, pos, af, ho⟩ := hop
  have e : a.eval (.tmp 4) = _ := (h.old 4 (by decide)).trans S.s4
  refine wpOp_value ho rfl (v := a.tmps.getD 4 undef) (w' := w) rfl ?_
  exact h.put hL 6 (by decide) (Nat.lt_of_le_of_lt (by decide) S.lo) S.hi (by decide) _ e (Below.refl _ _)

theorem step7 (S : Start width count maxS mr nS T oB oH M B0 t0 W0) (hop : OpAt ops 7 (some 40) (.load 48 (.tmp 18))) {L : Array Bool} {a : Act} {w : World} (hL : L.size = 31) (hun : L.getD 7 true = false) (hd : ∀ d ∈ deps 7, L.getD d false = true) (h : Inv width count maxS mr nS T oB oH B0 t0 W0 L a w) :
    wpOp Yba.prog ops Q 7 (fun a' w' => Inv width count maxS mr nS T oB oH B0 t0 W0 (L.setIfInBounds 7 true) a' w') a w := by
  obtain ⟨ty, pos, af, ho⟩ := hop
  have e : a.eval (.tmp 18) = _ := (h.old 18 (by decide)).trans S.s18
  have q0 := (h.below.cell (p := ⟨M, 0, none⟩) S.mlt).trans S.m0
  have q1 := (h.below.cell (p := ⟨M, 1, none⟩) S.mlt).trans S.m1
  refine wpOp_value ho rfl (v := msgv) (w' := w) (by simp [execOp, eval_const, e, run_load48 M w q0 q1]) ?_
  exact h.put hL 7 (by decide) (Nat.lt_of_le_of_lt (by decide) S.lo) S.hi (by decide) _ rfl (Below.refl _ _)

theorem step8 (S : Start width count maxS mr nS T oB oH M B0 t0 W0) (hop : OpAt ops 8 (some 41) (.buildSlice 50 1 #[(0, .tmp 40)])) {L : Array Bool} {a : Act} {w : World} (hL : L.size = 31) (hun : L.getD 8 true = false) (hd : ∀ d ∈ deps 8, L.getD d false = true) (h : Inv width count maxS mr nS T oB oH B0 t0 W0 L a w) :
    wpOp Yba.prog ops Q 8 (fun a' w' => Inv width count maxS mr nS T oB oH B0 t0 W0 (L.setIfInBounds 8 true) a' w') a w := by
  obtain ⟨ty, pos, af, ho⟩ := hop
  have e : a.eval (.tmp 40) = msgv := h.good 7 (hd 7 (by simp [deps]))
  refine wpOp_value ho rfl (v := .slice (some ⟨w.heap.size, 0, none⟩) 1 1) (w' := w.alloc (.cells #[.int .u8 1, .int .i64 2] 48)) (by simp [execOp, eval_const, e, run_bs50]) ?_
  exact h.put hL 8 (by decide) (Nat.lt_of_le_of_lt (by decide) S.lo) S.hi (by decide) _ ⟨_, rfl⟩ ((Below.refl _ _).alloc (Nat.le_refl _) _)

theorem step9 (S : Start width count maxS mr nS T oB oH M B0 t0 W0) (hop : OpAt ops 9 (some 42) (.makeMap 51 none)) {L : Array Bool} {a : Act} {w : World} (hL : L.size = 31) (hun : L.getD 9 true = false) (hd : ∀ d ∈ deps 9, L.getD d false = true) (h : Inv width count maxS mr nS T oB oH B0 t0 W0 L a w) :
    wpOp Yba.prog ops Q 9 (fun a' w' => Inv width count maxS mr nS T oB oH B0 t0 W0 (L.setIfInBounds 9 true) a' w') a w := by
  obtain ⟨ty, pos, af, ho⟩ := hop
  refine wpOp_value ho rfl (v := .map (some w.heap.size)) (w' := w.alloc (.map #[] 0)) (by simp [execOp, run_makeMap]) ?_
  exact h.map hL 9 (by decide) (Nat.lt_of_le_of_lt (by decide) S.lo) S.hi

theorem step10 (S : Start width count maxS mr nS T oB oH M B0 t0 W0) (hop : OpAt ops 10 (some 43) (.load 48 (.tmp 18))) {L : Array Bool} {a : Act} {w : World} (hL : L.size = 31) (hun : L.getD 10 true = false) (hd : ∀ d ∈ deps 10, L.getD d false = true) (h : Inv width count maxS mr nS T oB oH B0 t0 W0 L a w) :
    wpOp Yba.prog ops Q 10 (fun a' w' => Inv width count maxS mr nS T oB oH B0 t0 W0 (L.setIfInBounds 10 true) a' w') a w := by
  obtain ⟨ty, pos, af, ho⟩ := hop
  have e : a.eval (.tmp 18) = _ := (h.old 18 (by decide)).trans S.s18
  have q0 := (h.below.cell (p := ⟨M, 0, none⟩) S.mlt).trans S.m0
  have q1 := (h.below.cell (p := ⟨M, 1, none⟩) S.mlt).trans S.m1
  refine wpOp_value ho rfl (v := msgv) (w' := w) (by simp [execOp, eval_const, e, run_load48 M w q0 q1]) ?_
  exact h.put hL 10 (by decide) (Nat.lt_of_le_of_lt (by decide) S.lo) S.hi (by decide) _ rfl (Below.refl _ _)

theorem step11 (S : Start width count maxS mr nS T oB oH M B0 t0 W0) (hop : OpAt ops 11 none (.insert 51 (.tmp 42) (.tmp 43) (.const (.int .i64 0)))) {L : Array Bool} {a : Act} {w : World} (hL : L.size = 31) (hun : L.getD 11 true = false) (hd : ∀ d ∈ deps 11, L.getD d false = true) (h : Inv width count maxS mr nS T oB oH B0 t0 W0 L a w) :
    wpOp Yba.prog ops Q 11 (fun a' w' => Inv width count maxS mr nS T oB oH B0 t0 W0 (L.setIfInBounds 11 true) a' w') a w := by
  obtain ⟨ty, pos, af, ho⟩ := hop
  obtain ⟨r, hr, hemp⟩ := h.e9 (hd 9 (by simp [deps])) hun
  have hr' : a.eval (.tmp 42) = .map (some r) := hr
  have e : a.eval (.tmp 43) = msgv := h.good 10 (hd 10 (by simp [deps]))
  obtain ⟨o', hrun⟩ := run_ins51 r w hemp
  refine wpOp_skip ho rfl (w' := turned w r o') (by simp [execOp, eval_const, e, hr', hrun]) ?_
  exact h.fill hL 11 9 (by decide) (hd 9 (by simp [deps])) r hr hemp o'

theorem step12 (S : Start width count maxS mr nS T oB oH M B0 t0 W0) (hop : OpAt ops 12 (some 44) (.move (.tmp 42))) {L : Array Bool} {a : Act} {w : World} (hL : L.size = 31) (hun : L.getD 12 true = false) (hd : ∀ d ∈ deps 12, L.getD d false = true) (h : Inv width count maxS mr nS T oB oH B0 t0 W0 L a w) :
    wpOp Yba.prog ops Q 12 (fun a' w' => Inv width count maxS mr nS T oB oH B0 t0 W0 (L.setIfInBounds 12 true) a' w') a w := by
  obtain ⟨ty, pos, af, ho⟩ := hop
  have e : G width count maxS mr nS T oB oH B0 9 (a.tmps.getD 42 undef) w := h.good 9 (hd 9 (by simp [deps]))
  refine wpOp_value ho rfl (v := a.tmps.getD 42 undef) (w' := w) rfl ?_
  refine h.put hL 12 (by decide) (Nat.lt_of_le_of_lt (by decide) S.lo) S.hi (by decide) _ ?_ (Below.refl _ _)
  obtain ⟨r, e1, _⟩ := e
  exact ⟨r, e1⟩

theorem step13 (S : Start width count maxS mr nS T oB oH M B0 t0 W0) (hop : OpAt ops 13 (some 45) (.build 53 #[(0, .tmp 39), (1, .tmp 41), (2, .tmp 44)])) {L : Array Bool} {a : Act} {w : World} (hL : L.size = 31) (hun : L.getD 13 true = false) (hd : ∀ d ∈ deps 13, L.getD d false = true) (h : Inv width count maxS mr nS T oB oH B0 t0 W0 L a w) :
    wpOp Yba.prog ops Q 13 (fun a' w' => Inv width count maxS mr nS T oB oH B0 t0 W0 (L.setIfInBounds 13 true) a' w') a w := by
  obtain ⟨ty, pos, af, ho⟩ := hop
  have e1 : a.eval (.tmp 39) = .int .i64 mr := h.good 6 (hd 6 (by simp [deps]))
  obtain ⟨b, e2⟩ : ∃ b, a.eval (.tmp 41) = .slice (some ⟨b, 0, none⟩) 1 1 := h.good 8 (hd 8 (by simp [deps]))
  obtain ⟨r, e3⟩ : ∃ r, a.eval (.tmp 44) = .map (some r) := h.good 12 (hd 12 (by simp [deps]))
  refine wpOp_value ho rfl (v := .agg #[.int .i64 mr, .slice (some ⟨b, 0, none⟩) 1 1, .map (some r)]) (w' := w) (by simp [execOp, eval_const, e1, e2, e3, run_b53 _ _ _ w ⟨_, rfl⟩ ⟨_, _, _, rfl⟩ ⟨_, rfl⟩]) ?_
  exact h.put hL 13 (by decide) (Nat.lt_of_le_of_lt (by decide) S.lo) S.hi (by decide) _ ⟨b, r, rfl⟩ (Below.refl _ _)

theorem step14 (S : Start width count maxS mr nS T oB oH M B0 t0 W0) (hop : OpAt ops 14 (some 46) (.move (.tmp 16))) {L : Array Bool} {a : Act} {w : World} (hL : L.size = 31) (hun : L.getD 14 true = false) (hd : ∀ d ∈ deps 14, L.getD d false = true) (h : Inv width count maxS mr nS T oB oH B0 t0 W0 L a w) :
    wpOp Yba.prog ops Q 14 (fun a' w' => Inv width count maxS mr nS T oB oH B0 t0 W0 (L.setIfInBounds 14 true) a' w') a w := by
  obtain ⟨ty, pos, af, ho⟩ := hop
  have e : a.eval (.tmp 16) = _ := (h.old 16 (by decide)).trans S.s16
  refine wpOp_value ho rfl (v := a.tmps.getD 16 undef) (w' := w) rfl ?_
  exact h.put hL 14 (by decide) (Nat.lt_of_le_of_lt (by decide) S.lo) S.hi (by decide) _ e (Below.refl _ _)

theorem step15 (S : Start width count maxS mr nS T oB oH M B0 t0 W0) (hop : OpAt ops 15 (some 47) (.move (.tmp 5))) {L : Array Bool} {a : Act} {w : World} (hL : L.size = 31) (hun : L.getD 15 true = false) (hd : ∀ d ∈ deps 15, L.getD d false = true) (h : Inv width count maxS mr nS T oB oH B0 t0 W0 L a w) :
    wpOp Yba.prog ops Q 15 (fun a' w' => Inv width count maxS mr nS T oB oH B0 t0 W0 (L.setIfInBounds 15 true) a' w') a w := by
  obtain ⟨ty, pos, af, ho⟩ := hop
  have e : a.eval (.tmp 5) = _ := (h.old 5 (by decide)).trans S.s5
  refine wpOp_value ho rfl (v := a.tmps.getD 5 undef) (w' := w) rfl ?_
  exact h.put hL 15 (by decide) (Nat.lt_of_le_of_lt (by decide) S.lo) S.hi (by decide) _ e (Below.refl _ _)

theorem step16 (S : Start width count maxS mr nS T oB oH M B0 t0 W0) (hop : OpAt ops 16 (some 48) (.convert 5 3 (.tmp 47))) {L : Array Bool} {a : Act} {w : World} (hL : L.size = 31) (hun : L.getD 16 true = false) (hd : ∀ d ∈ deps 16, L.getD d false = true) (h : Inv width count maxS mr nS T oB oH B0 t0 W0 L a w) :
    wpOp Yba.prog ops Q 16 (fun a' w' => Inv width count maxS mr nS T oB oH B0 t0 W0 (L.setIfInBounds 16 true) a' w') a w := by
  obtain ⟨ty, pos, af, ho⟩ := hop
  have e : a.eval (.tmp 47) = .int .u8 nS := h.good 15 (hd 15 (by simp [deps]))
  refine wpOp_value ho rfl (v := .int .i64 nS) (w' := w) (by simp [execOp, eval_const, e, run_conv nS S.n0 S.n1]) ?_
  exact h.put hL 16 (by decide) (Nat.lt_of_le_of_lt (by decide) S.lo) S.hi (by decide) _ rfl (Below.refl _ _)

theorem step17 (S : Start width count maxS mr nS T oB oH M B0 t0 W0) (hop : OpAt ops 17 (some 49) (.binOp .rem 3 (.tmp 48) (.const (.int .i64 8)) 3)) {L : Array Bool} {a : Act} {w : World} (hL : L.size = 31) (hun : L.getD 17 true = false) (hd : ∀ d ∈ deps 17, L.getD d false = true) (h : Inv width count maxS mr nS T oB oH B0 t0 W0 L a w) :
    wpOp Yba.prog ops Q 17 (fun a' w' => Inv width count maxS mr nS T oB oH B0 t0 W0 (L.setIfInBounds 17 true) a' w') a w := by
  obtain ⟨ty, pos, af, ho⟩ := hop
  have e : a.eval (.tmp 48) = .int .i64 nS := h.good 16 (hd 16 (by simp [deps]))
  refine wpOp_value ho rfl (v := .int .i64 (nS % 8)) (w' := w) (by simp [execOp, eval_const, e, eqGuard, run_rem nS S.n0]) ?_
  exact h.put hL 17 (by decide) (Nat.lt_of_le_of_lt (by decide) S.lo) S.hi (by decide) _ rfl (Below.refl _ _)

theorem step18 (S : Start width count maxS mr nS T oB oH M B0 t0 W0) (hop : OpAt ops 18 (some 50) (.binOp .add 3 (.tmp 49) (.const (.int .i64 1)) 3)) {L : Array Bool} {a : Act} {w : World} (hL : L.size = 31) (hun : L.getD 18 true = false) (hd : ∀ d ∈ deps 18, L.getD d false = true) (h : Inv width count maxS mr nS T oB oH B0 t0 W0 L a w) :
    wpOp Yba.prog ops Q 18 (fun a' w' => Inv width count maxS mr nS T oB oH B0 t0 W0 (L.setIfInBounds 18 true) a' w') a w := by
  obtain ⟨ty, pos, af, ho⟩ := hop
  have e : a.eval (.tmp 49) = .int .i64 (nS % 8) := h.good 17 (hd 17 (by simp [deps]))
  have b0 : 0 ≤ nS % 8 := by omega
  have b1 : nS % 8 ≤ 255 := by omega
  refine wpOp_value ho rfl (v := .int .i64 (nS % 8 + 1)) (w' := w) (by simp [execOp, eval_const, e, eqGuard, run_add (nS % 8) b0 b1]) ?_
  exact h.put hL 18 (by decide) (Nat.lt_of_le_of_lt (by decide) S.lo) S.hi (by decide) _ rfl (Below.refl _ _)

theorem step19 (S : Start width count maxS mr nS T oB oH M B0 t0 W0) (hop : OpAt ops 19 (some 51) (.makeSlice 54 (.tmp 50) (.tmp 50))) {L : Array Bool} {a : Act} {w : World} (hL : L.size = 31) (hun : L.getD 19 true = false) (hd : ∀ d ∈ deps 19, L.getD d false = true) (h : Inv width count maxS mr nS T oB oH B0 t0 W0 L a w) :
    wpOp Yba.prog ops Q 19 (fun a' w' => Inv width count maxS mr nS T oB oH B0 t0 W0 (L.setIfInBounds 19 true) a' w') a w := by
  obtain ⟨ty, pos, af, ho⟩ := hop
  have e : a.eval (.tmp 50) = .int .i64 (nS % 8 + 1) := h.good 18 (hd 18 (by simp [deps]))
  obtain ⟨o', c, hrun⟩ := run_mk54 (nS % 8 + 1) (by omega) (by omega) w
  refine wpOp_value ho rfl (v := .slice (some ⟨w.heap.size, 0, none⟩) c c) (w' := w.alloc o') (by simp [execOp, eval_const, e, hrun]) ?_
  exact h.put hL 19 (by decide) (Nat.lt_of_le_of_lt (by decide) S.lo) S.hi (by decide) _ ⟨_, _, rfl⟩ ((Below.refl _ _).alloc (Nat.le_refl _) _)

theorem step20 (S : Start width count maxS mr nS T oB oH M B0 t0 W0) (hop : OpAt ops 20 (some 52) (.makeMap 59 none)) {L : Array Bool} {a : Act} {w : World} (hL : L.size = 31) (hun : L.getD 20 true = false) (hd : ∀ d ∈ deps 20, L.getD d false = true) (h : Inv width count maxS mr nS T oB oH B0 t0 W0 L a w) :
    wpOp Yba.prog ops Q 20 (fun a' w' => Inv width count maxS mr nS T oB oH B0 t0 W0 (L.setIfInBounds 20 true) a' w') a w := by
  obtain ⟨ty, pos, af, ho⟩ := hop
  refine wpOp_value ho rfl (v := .map (some w.heap.size)) (w' := w.alloc (.map #[] 0)) (by simp [execOp, run_makeMap]) ?_
  exact h.map hL 20 (by decide) (Nat.lt_of_le_of_lt (by decide) S.lo) S.hi

theorem step21 (S : Start width count maxS mr nS T oB oH M B0 t0 W0) (hop : OpAt ops 21 (some 53) (.build 58 #[(1, .const (.int .i32 3))])) {L : Array Bool} {a : Act} {w : World} (hL : L.size = 31) (hun : L.getD 21 true = false) (hd : ∀ d ∈ deps 21, L.getD d false = true) (h : Inv width count maxS mr nS T oB oH B0 t0 W0 L a w) :
    wpOp Yba.prog ops Q 21 (fun a' w' => Inv width count maxS mr nS T oB oH B0 t0 W0 (L.setIfInBounds 21 true) a' w') a w := by
  obtain ⟨ty, pos, af, ho⟩ := hop
  refine wpOp_value ho rfl (v := .agg #[.slice none 0 0, .int .i32 3]) (w' := w) (by simp [execOp, eval_const, run_b58]) ?_
  exact h.put hL 21 (by decide) (Nat.lt_of_le_of_lt (by decide) S.lo) S.hi (by decide) _ rfl (Below.refl _ _)

theorem step22 (S : Start width count maxS mr nS T oB oH M B0 t0 W0) (hop : OpAt ops 22 none (.insert 59 (.tmp 52) (.const (.int .u64 1)) (.tmp 53))) {L : Array Bool} {a : Act} {w : World} (hL : L.size = 31) (hun : L.getD 22 true = false) (hd : ∀ d ∈ deps 22, L.getD d false = true) (h : Inv width count maxS mr nS T oB oH B0 t0 W0 L a w) :
    wpOp Yba.prog ops Q 22 (fun a' w' => Inv width count maxS mr nS T oB oH B0 t0 W0 (L.setIfInBounds 22 true) a' w') a w := by
  obtain ⟨ty, pos, af, ho⟩ := hop
  obtain ⟨r, hr, hemp⟩ := h.e20 (hd 20 (by simp [deps])) hun
  have hr' : a.eval (.tmp 52) = .map (some r) := hr
  have e : a.eval (.tmp 53) = .agg #[.slice none 0 0, .int .i32 3] := h.good 21 (hd 21 (by simp [deps]))
  obtain ⟨o', hrun⟩ := run_ins59 r (.agg #[.slice none 0 0, .int .i32 3]) w hemp
  refine wpOp_skip ho rfl (w' := turned w r o') (by simp [execOp, eval_const, e, hr', hrun]) ?_
  exact h.fill hL 22 20 (by decide) (hd 20 (by simp [deps])) r hr hemp o'

theorem step23 (S : Start width count maxS mr nS T oB oH M B0 t0 W0) (hop : OpAt ops 23 (some 54) (.move (.tmp 52))) {L : Array Bool} {a : Act} {w : World} (hL : L.size = 31) (hun : L.getD 23 true = false) (hd : ∀ d ∈ deps 23, L.getD d false = true) (h : Inv width count maxS mr nS T oB oH B0 t0 W0 L a w) :
    wpOp Yba.prog ops Q 23 (fun a' w' => Inv width count maxS mr nS T oB oH B0 t0 W0 (L.setIfInBounds 23 true) a' w') a w := by
  obtain ⟨ty, pos, af, ho⟩ := hop
  have e : G width count maxS mr nS T oB oH B0 20 (a.tmps.getD 52 undef) w := h.good 20 (hd 20 (by simp [deps]))
  refine wpOp_value ho rfl (v := a.tmps.getD 52 undef) (w' := w) rfl ?_
  refine h.put hL 23 (by decide) (Nat.lt_of_le_of_lt (by decide) S.lo) S.hi (by decide) _ ?_ (Below.refl _ _)
  obtain ⟨r, e1, _⟩ := e
  exact ⟨r, e1⟩

theorem step24 (S : Start width count maxS mr nS T oB oH M B0 t0 W0) (hop : OpAt ops 24 (some 55) (.makeMap 60 none)) {L : Array Bool} {a : Act} {w : World} (hL : L.size = 31) (hun : L.getD 24 true = false) (hd : ∀ d ∈ deps 24, L.getD d false = true) (h : Inv width count maxS mr nS T oB oH B0 t0 W0 L a w) :
    wpOp Yba.prog ops Q 24 (fun a' w' => Inv width count maxS mr nS T oB oH B0 t0 W0 (L.setIfInBounds 24 true) a' w') a w := by
  obtain ⟨ty, pos, af, ho⟩ := hop
  refine wpOp_value ho rfl (v := .map (some w.heap.size)) (w' := w.alloc (.map #[] 0)) (by simp [execOp, run_makeMap]) ?_
  exact h.map hL 24 (by decide) (Nat.lt_of_le_of_lt (by decide) S.lo) S.hi

theorem step25 (S : Start width count maxS mr nS T oB oH M B0 t0 W0) (hop : OpAt ops 25 none (.insert 60 (.tmp 55) (.const (.string ⟨#[97]⟩)) (.const (.int .i32 1)))) {L : Array Bool} {a : Act} {w : World} (hL : L.size = 31) (hun : L.getD 25 true = false) (hd : ∀ d ∈ deps 25, L.getD d false = true) (h : Inv width count maxS mr nS T oB oH B0 t0 W0 L a w) :
    wpOp Yba.prog ops Q 25 (fun a' w' => Inv width count maxS mr nS T oB oH B0 t0 W0 (L.setIfInBounds 25 true) a' w') a w := by
  obtain ⟨ty, pos, af, ho⟩ := hop
  obtain ⟨r, hr, hemp⟩ := h.e24 (hd 24 (by simp [deps])) hun
  have hr' : a.eval (.tmp 55) = .map (some r) := hr
  obtain ⟨o', hrun⟩ := run_ins60 r (.int .i32 1) w hemp
  refine wpOp_skip ho rfl (w' := turned w r o') (by simp [execOp, eval_const, hr', hrun]) ?_
  exact h.fill hL 25 24 (by decide) (hd 24 (by simp [deps])) r hr hemp o'

theorem step26 (S : Start width count maxS mr nS T oB oH M B0 t0 W0) (hop : OpAt ops 26 (some 56) (.move (.tmp 55))) {L : Array Bool} {a : Act} {w : World} (hL : L.size = 31) (hun : L.getD 26 true = false) (hd : ∀ d ∈ deps 26, L.getD d false = true) (h : Inv width count maxS mr nS T oB oH B0 t0 W0 L a w) :
    wpOp Yba.prog ops Q 26 (fun a' w' => Inv width count maxS mr nS T oB oH B0 t0 W0 (L.setIfInBounds 26 true) a' w') a w := by
  obtain ⟨ty, pos, af, ho⟩ := hop
  have e : G width count maxS mr nS T oB oH B0 24 (a.tmps.getD 55 undef) w := h.good 24 (hd 24 (by simp [deps]))
  refine wpOp_value ho rfl (v := a.tmps.getD 55 undef) (w' := w) rfl ?_
  refine h.put hL 26 (by decide) (Nat.lt_of_le_of_lt (by decide) S.lo) S.hi (by decide) _ ?_ (Below.refl _ _)
  obtain ⟨r, e1, _⟩ := e
  exact ⟨r, e1⟩

theorem step27 (S : Start width count maxS mr nS T oB oH M B0 t0 W0) (hop : OpAt ops 27 (some 57) (.move (.tmp 17))) {L : Array Bool} {a : Act} {w : World} (hL : L.size = 31) (hun : L.getD 27 true = false) (hd : ∀ d ∈ deps 27, L.getD d false = true) (h : Inv width count maxS mr nS T oB oH B0 t0 W0 L a w) :
    wpOp Yba.prog ops Q 27 (fun a' w' => Inv width count maxS mr nS T oB oH B0 t0 W0 (L.setIfInBounds 27 true) a' w') a w := by
  obtain ⟨ty, pos, af, ho⟩ := hop
  have e : a.eval (.tmp 17) = _ := (h.old 17 (by decide)).trans S.s17
  refine wpOp_value ho rfl (v := a.tmps.getD 17 undef) (w' := w) rfl ?_
  exact h.put hL 27 (by decide) (Nat.lt_of_le_of_lt (by decide) S.lo) S.hi (by decide) _ e (Below.refl _ _)

theorem step28 (S : Start width count maxS mr nS T oB oH M B0 t0 W0) (hop : OpAt ops 28 (some 58) (.build 76 #[(0, .tmp 33), (7, .tmp 34), (8, .tmp 36), (9, .tmp 37), (10, .const (.bool true)), (11, .const (.int .i32 (-1))), (12, .tmp 38), (13, .tmp 45), (14, .tmp 46), (15, .tmp 51), (16, .tmp 54), (17, .tmp 56), (18, .tmp 57)])) {L : Array Bool} {a : Act} {w : World} (hL : L.size = 31) (hun : L.getD 28 true = false) (hd : ∀ d ∈ deps 28, L.getD d false = true) (h : Inv width count maxS mr nS T oB oH B0 t0 W0 L a w) :
    wpOp Yba.prog ops Q 28 (fun a' w' => Inv width count maxS mr nS T oB oH B0 t0 W0 (L.setIfInBounds 28 true) a' w') a w := by
  obtain ⟨ty, pos, af, ho⟩ := hop
  have e0 : a.eval (.tmp 33) = .int .i64 width := h.good 0 (hd 0 (by simp [deps]))
  have e1 : a.eval (.tmp 34) = .pointer (some ⟨T, 0, none⟩) := h.good 1 (hd 1 (by simp [deps]))
  have e3 : a.eval (.tmp 36) = .agg #[.int .i64 1, .int .i64 count, .slice none 0 0] := h.good 3 (hd 3 (by simp [deps]))
  have e4 : a.eval (.tmp 37) = .int .i64 maxS := h.good 4 (hd 4 (by simp [deps]))
  have e5 : a.eval (.tmp 38) = .int .i64 mr := h.good 5 (hd 5 (by simp [deps]))
  obtain ⟨b, r, e13⟩ : ∃ b r, a.eval (.tmp 45) = .agg #[.int .i64 mr, .slice (some ⟨b, 0, none⟩) 1 1, .map (some r)] := h.good 13 (hd 13 (by simp [deps]))
  have e14 : a.eval (.tmp 46) = .pointer (some ⟨oB, 0, none⟩) := h.good 14 (hd 14 (by simp [deps]))
  obtain ⟨b2, c2, e19⟩ : ∃ b c, a.eval (.tmp 51) = .slice (some ⟨b, 0, none⟩) c c := h.good 19 (hd 19 (by simp [deps]))
  obtain ⟨r2, e23⟩ : ∃ r, a.eval (.tmp 54) = .map (some r) := h.good 23 (hd 23 (by simp [deps]))
  obtain ⟨r3, e26⟩ : ∃ r, a.eval (.tmp 56) = .map (some r) := h.good 26 (hd 26 (by simp [deps]))
  have e27 : a.eval (.tmp 57) = .pointer (some ⟨oH, 0, none⟩) := h.good 27 (hd 27 (by simp [deps]))
  have hrun := run_b76 width count maxS mr mr T oB oH 1 1 c2 c2 (some ⟨b, 0, none⟩) (some ⟨b2, 0, none⟩) (some r) (some r2) (some r3) w
  refine wpOp_value ho rfl (v := .agg (expl width (.pointer (some ⟨T, 0, none⟩)) count maxS mr mr (.slice (some ⟨b, 0, none⟩) 1 1) (.map (some r)) (.pointer (some ⟨oB, 0, none⟩)) (.slice (some ⟨b2, 0, none⟩) c2 c2) (.map (some r2)) (.map (some r3)) (.pointer (some ⟨oH, 0, none⟩)))) (w' := w)
    (by simp [execOp, eval_const, e0, e1, e3, e4, e5, e13, e14, e19, e23, e26, e27, hrun]) ?_
  exact h.put hL 28 (by decide) (Nat.lt_of_le_of_lt (by decide) S.lo) S.hi (by decide) _ ⟨_, _, _, _, _, rfl⟩ (Below.refl _ _)

theorem step29 (S : Start width count maxS mr nS T oB oH M B0 t0 W0) (hop : OpAt ops 29 (some 59) (.box 76 (.tmp 58))) {L : Array Bool} {a : Act} {w : World} (hL : L.size = 31) (hun : L.getD 29 true = false) (hd : ∀ d ∈ deps 29, L.getD d false = true) (h : Inv width count maxS mr nS T oB oH B0 t0 W0 L a w) :
    wpOp Yba.prog ops Q 29 (fun a' w' => Inv width count maxS mr nS T oB oH B0 t0 W0 (L.setIfInBounds 29 true) a' w') a w := by
  obtain ⟨ty, pos, af, ho⟩ := hop
  obtain ⟨ps, nu, se, mo, ta, e⟩ : ∃ ps nu se mo ta, a.eval (.tmp 58) = .agg (expl width (.pointer (some ⟨T, 0, none⟩)) count maxS mr mr ps nu (.pointer (some ⟨oB, 0, none⟩)) se mo ta (.pointer (some ⟨oH, 0, none⟩))) := h.good 28 (hd 28 (by simp [deps]))
  refine wpOp_value ho rfl (v := .pointer (some ⟨w.heap.size, 0, none⟩)) (w' := w.alloc (.cells (expl width (.pointer (some ⟨T, 0, none⟩)) count maxS mr mr ps nu (.pointer (some ⟨oB, 0, none⟩)) se mo ta (.pointer (some ⟨oH, 0, none⟩))) 76)) (by simp [execOp, eval_const, e, run_box76]) ?_
  exact h.put hL 29 (by decide) (Nat.lt_of_le_of_lt (by decide) S.lo) S.hi (by decide) _ ⟨w.heap.size, ps, nu, se, mo, ta, rfl, h.top, heap_alloc_new w _⟩ ((Below.refl _ _).alloc (Nat.le_refl _) _)

theorem step30 (S : Start width count maxS mr nS T oB oH M B0 t0 W0) (hop : OpAt ops 30 (some 19) (.assign (.tmp 59))) {L : Array Bool} {a : Act} {w : World} (hL : L.size = 31) (hun : L.getD 30 true = false) (hd : ∀ d ∈ deps 30, L.getD d false = true) (h : Inv width count maxS mr nS T oB oH B0 t0 W0 L a w) :
    wpOp Yba.prog ops Q 30 (fun a' w' => Inv width count maxS mr nS T oB oH B0 t0 W0 (L.setIfInBounds 30 true) a' w') a w := by
  obtain ⟨ty, pos, af, ho⟩ := hop
  have e : G width count maxS mr nS T oB oH B0 29 (a.tmps.getD 59 undef) w := h.good 29 (hd 29 (by simp [deps]))
  refine wpOp_value ho rfl (v := a.tmps.getD 59 undef) (w' := w) rfl ?_
  exact h.put hL 30 (by decide) (Nat.lt_of_le_of_lt (by decide) S.lo) S.hi (by decide) _ e (Below.refl _ _)


/-- The region's 31 operations. -/
def Ops (ops : Array Oper) : Prop := OpAt ops 0 (some 33) (.move (.tmp 0)) ∧ OpAt ops 1 (some 34) (.move (.tmp 15)) ∧ OpAt ops 2 (some 35) (.move (.tmp 2)) ∧ OpAt ops 3 (some 36) (.build 40 #[(0, .const (.int .i64 1)), (1, .tmp 35)]) ∧ OpAt ops 4 (some 37) (.move (.tmp 6)) ∧ OpAt ops 5 (some 38) (.move (.tmp 4)) ∧ OpAt ops 6 (some 39) (.move (.tmp 4)) ∧ OpAt ops 7 (some 40) (.load 48 (.tmp 18)) ∧ OpAt ops 8 (some 41) (.buildSlice 50 1 #[(0, .tmp 40)]) ∧ OpAt ops 9 (some 42) (.makeMap 51 none) ∧ OpAt ops 10 (some 43) (.load 48 (.tmp 18)) ∧ OpAt ops 11 none (.insert 51 (.tmp 42) (.tmp 43) (.const (.int .i64 0))) ∧ OpAt ops 12 (some 44) (.move (.tmp 42)) ∧ OpAt ops 13 (some 45) (.build 53 #[(0, .tmp 39), (1, .tmp 41), (2, .tmp 44)]) ∧ OpAt ops 14 (some 46) (.move (.tmp 16)) ∧ OpAt ops 15 (some 47) (.move (.tmp 5)) ∧ OpAt ops 16 (some 48) (.convert 5 3 (.tmp 47)) ∧ OpAt ops 17 (some 49) (.binOp .rem 3 (.tmp 48) (.const (.int .i64 8)) 3) ∧ OpAt ops 18 (some 50) (.binOp .add 3 (.tmp 49) (.const (.int .i64 1)) 3) ∧ OpAt ops 19 (some 51) (.makeSlice 54 (.tmp 50) (.tmp 50)) ∧ OpAt ops 20 (some 52) (.makeMap 59 none) ∧ OpAt ops 21 (some 53) (.build 58 #[(1, .const (.int .i32 3))]) ∧ OpAt ops 22 none (.insert 59 (.tmp 52) (.const (.int .u64 1)) (.tmp 53)) ∧ OpAt ops 23 (some 54) (.move (.tmp 52)) ∧ OpAt ops 24 (some 55) (.makeMap 60 none) ∧ OpAt ops 25 none (.insert 60 (.tmp 55) (.const (.string ⟨#[97]⟩)) (.const (.int .i32 1))) ∧ OpAt ops 26 (some 56) (.move (.tmp 55)) ∧ OpAt ops 27 (some 57) (.move (.tmp 17)) ∧ OpAt ops 28 (some 58) (.build 76 #[(0, .tmp 33), (7, .tmp 34), (8, .tmp 36), (9, .tmp 37), (10, .const (.bool true)), (11, .const (.int .i32 (-1))), (12, .tmp 38), (13, .tmp 45), (14, .tmp 46), (15, .tmp 51), (16, .tmp 54), (17, .tmp 56), (18, .tmp 57)]) ∧ OpAt ops 29 (some 59) (.box 76 (.tmp 58)) ∧ OpAt ops 30 (some 19) (.assign (.tmp 59))

/-- The edges, by a Bool. -/
def depsB (ops : Array Oper) : Bool := (List.range 31).all fun i => (deps i).all fun d => ((ops[i]?).map fun o => o.after.any fun e => Region.binds .any e && e.on == d).getD false
def lexB (ops : Array Oper) : Bool := (List.range 31).all fun i => ((ops[i]?).map fun o => o.after.all fun e => !Region.binds .any e || decide (e.on < i)).getD true

theorem deps_spec {ops : Array Oper} (h : depsB ops = true) (i : Nat) (hi : i < 31) (o : Oper) (ho : ops[i]? = some o) (d : Nat) (hd : d ∈ deps i) : ∃ e ∈ o.after, Region.binds .any e = true ∧ e.on = d := by
  simp only [depsB, List.all_eq_true, List.mem_range] at h
  have h1 := h i hi d hd
  rw [ho] at h1
  simp only [Option.map_some, Option.getD_some, Array.any_eq_true'] at h1
  obtain ⟨e, he, h2⟩ := h1
  simp only [Bool.and_eq_true, beq_iff_eq] at h2
  exact ⟨e, he, h2.1, h2.2⟩
theorem lex_spec {ops : Array Oper} (hs : ops.size = 31) (h : lexB ops = true) (i : Nat) (o : Oper) (ho : ops[i]? = some o) : ∀ e ∈ o.after, Region.binds .any e = true → e.on < i := by
  intro e he hb
  have hi : i < 31 := by rw [← hs]; exact (Array.getElem?_eq_some_iff.1 ho).1
  simp only [lexB, List.all_eq_true, List.mem_range] at h
  have h1 := h i hi
  rw [ho] at h1
  simp only [Option.map_some, Option.getD_some, Array.all_eq_true_iff_forall_mem] at h1
  have h2 := h1 e he
  rw [hb] at h2
  simpa using h2

theorem step_all (S : Start width count maxS mr nS T oB oH M B0 t0 W0) (hops : Ops ops) (i : Nat) (hi : i < 31) {L : Array Bool} {a : Act} {w : World} (hL : L.size = 31) (hun : L.getD i true = false) (hd : ∀ d ∈ deps i, L.getD d false = true) (h : Inv width count maxS mr nS T oB oH B0 t0 W0 L a w) :
    wpOp Yba.prog ops Q i (fun a' w' => Inv width count maxS mr nS T oB oH B0 t0 W0 (L.setIfInBounds i true) a' w') a w := by
  obtain ⟨o0, o1, o2, o3, o4, o5, o6, o7, o8, o9, o10, o11, o12, o13, o14, o15, o16, o17, o18, o19, o20, o21, o22, o23, o24, o25, o26, o27, o28, o29, o30⟩ := hops
  match i, hi, hun, hd with
  | 0, _, hun, hd => exact step0 S o0 hL hun hd h
  | 1, _, hun, hd => exact step1 S o1 hL hun hd h
  | 2, _, hun, hd => exact step2 S o2 hL hun hd h
  | 3, _, hun, hd => exact step3 S o3 hL hun hd h
  | 4, _, hun, hd => exact step4 S o4 hL hun hd h
  | 5, _, hun, hd => exact step5 S o5 hL hun hd h
  | 6, _, hun, hd => exact step6 S o6 hL hun hd h
  | 7, _, hun, hd => exact step7 S o7 hL hun hd h
  | 8, _, hun, hd => exact step8 S o8 hL hun hd h
  | 9, _, hun, hd => exact step9 S o9 hL hun hd h
  | 10, _, hun, hd => exact step10 S o10 hL hun hd h
  | 11, _, hun, hd => exact step11 S o11 hL hun hd h
  | 12, _, hun, hd => exact step12 S o12 hL hun hd h
  | 13, _, hun, hd => exact step13 S o13 hL hun hd h
  | 14, _, hun, hd => exact step14 S o14 hL hun hd h
  | 15, _, hun, hd => exact step15 S o15 hL hun hd h
  | 16, _, hun, hd => exact step16 S o16 hL hun hd h
  | 17, _, hun, hd => exact step17 S o17 hL hun hd h
  | 18, _, hun, hd => exact step18 S o18 hL hun hd h
  | 19, _, hun, hd => exact step19 S o19 hL hun hd h
  | 20, _, hun, hd => exact step20 S o20 hL hun hd h
  | 21, _, hun, hd => exact step21 S o21 hL hun hd h
  | 22, _, hun, hd => exact step22 S o22 hL hun hd h
  | 23, _, hun, hd => exact step23 S o23 hL hun hd h
  | 24, _, hun, hd => exact step24 S o24 hL hun hd h
  | 25, _, hun, hd => exact step25 S o25 hL hun hd h
  | 26, _, hun, hd => exact step26 S o26 hL hun hd h
  | 27, _, hun, hd => exact step27 S o27 hL hun hd h
  | 28, _, hun, hd => exact step28 S o28 hL hun hd h
  | 29, _, hun, hd => exact step29 S o29 hL hun hd h
  | 30, _, hun, hd => exact step30 S o30 hL hun hd h
  | _ + 31, hi, _, _ => exact absurd hi (by omega)

/-- THE REGION: whatever the order, an explorer with the fields that were handed in, in new memory. -/
theorem region5 {id : Nat} {a0 : Act} {w : World} (hm : Yba.prog.follows .mixedOrders = true) (S : Start width count maxS mr nS T oB oH M w.heap.size a0.tmps w) (hdf : a0.defers = []) (hs : ops.size = 31) (hops : Ops ops) (h1 : depsB ops = true) (h2 : lexB ops = true)
    (hQ : ∀ (a : Act) (w' : World), a.defers = [] → a.tmps.size = a0.tmps.size → (∀ k, (∀ j, j < 31 → dst j ≠ k) → a.tmps.getD k undef = a0.tmps.getD k undef) → Below w.heap.size w w' →
      (∃ E ps nu se mo ta, a.tmps.getD 19 undef = .pointer (some ⟨E, 0, none⟩) ∧ w.heap.size ≤ E ∧ ExplAt w' E width (.pointer (some ⟨T, 0, none⟩)) count maxS mr mr ps nu (.pointer (some ⟨oB, 0, none⟩)) se mo ta (.pointer (some ⟨oH, 0, none⟩))) → Q .normal a w') :
    (Code.region id ops true).wp Yba.prog Q a0 w := by
  refine wp_region_inv hm (fun L a w' => Inv width count maxS mr nS T oB oH w.heap.size a0.tmps w L a w') (fun i o ho => lex_spec hs h2 i o ho) ?_ ?_ ?_
  · have hf : ∀ j, (Array.replicate ops.size false).getD j false = false := by intro j; simp [Array.getD]
    have hno : ∀ {p : Prop} (j : Nat), (Array.replicate ops.size false).getD j false = true → p := fun j h => by rw [hf] at h; cases h
    exact ⟨hdf, rfl, fun _ _ => rfl, fun j h => hno j h, ⟨rfl, rfl, rfl, Nat.le_refl _, fun _ _ => rfl⟩, Nat.le_refl _, fun h => hno _ h, fun h => hno _ h, fun h => hno _ h, fun h => hno _ h, fun h => hno _ h, fun h => hno _ h⟩
  · intro L a w' i o ho hun hdep hL h
    have hi : i < 31 := by rw [← hs]; exact (Array.getElem?_eq_some_iff.1 ho).1
    refine step_all S hops i hi (by rw [hL, hs]) hun (fun d hd => ?_) h
    obtain ⟨e, he, hb, rfl⟩ := deps_spec h1 i hi o ho d hd
    exact hdep e he hb
  · intro L a w' hL hall h
    exact hQ a w' h.defers h.size h.old h.below (h.good 30 (hall 30 (by omega)))
end
end Go.Proofs.Ybulkbzeg.B
