/-
  THE WALK of LawS3776BReset.
-/
import Derived.Test.YbulkbzegBRound
import Derived.Test.YbulkbzegB5Steps
import Derived.Deep.CutRange
import Derived.Deep.QuietTactic
import Derived.BigQuiet
import Derived.LaidEql
namespace Go.Proofs.Ybulkbzeg.B
open Go.RowKit

theorem run_equalIn_ptr_same {P : Program} (w : World) (d : Nat) {t te : TypeId} {j : TypeInfo} (a : Addr) (h : P.underlying t = some (.pointer te)) (hte : P.info? te = some j) :
    (Op.equalIn (d + 1) t (.pointer (some a)) (.pointer (some a))).run P w = .ok true w := by
  simp [Op.equalIn, run_underlying h, typeInfo, sizeOf, run_sameAddr_same, hte]
theorem run_equalIn_ptr_other {P : Program} (w : World) (d : Nat) {t te : TypeId} {j : TypeInfo} {a b : Addr} {ca cb : Array Value} {ta tb : TypeId} (h : P.underlying t = some (.pointer te)) (hte : P.info? te = some j) (hsz : j.size ≠ 0)
    (hne : a ≠ b) (ha : w.heap[a.block]? = some (.cells ca ta (0, 0))) (hb : w.heap[b.block]? = some (.cells cb tb (0, 0))) :
    (Op.equalIn (d + 1) t (.pointer (some a)) (.pointer (some b))).run P w = .ok false w := by
  simp [Op.equalIn, run_underlying h, typeInfo, sizeOf, hte, hsz, run_sameAddr_other w hne ha hb]
theorem run_neq_ptr_same {P : Program} (w : World) (t te : TypeId) (j : TypeInfo) (a : Addr) (h : P.underlying t = some (.pointer te)) (hte : P.info? te = some j) :
    (binOp .neq t (.pointer (some a)) (.pointer (some a))).run P w = .ok (.bool false) w := by
  simp only [binOp]
  simp [Op.equal, Op.maxDepth, run_equalIn_ptr_same w 9999 a h hte]
theorem run_eql_ptr_other {P : Program} (w : World) (t te : TypeId) (j : TypeInfo) {a b : Addr} {ca cb : Array Value} {ta tb : TypeId} (h : P.underlying t = some (.pointer te)) (hte : P.info? te = some j) (hsz : j.size ≠ 0)
    (hne : a ≠ b) (ha : w.heap[a.block]? = some (.cells ca ta (0, 0))) (hb : w.heap[b.block]? = some (.cells cb tb (0, 0))) :
    (binOp .eql t (.pointer (some a)) (.pointer (some b))).run P w = .ok (.bool false) w := by
  simp only [binOp]
  simp [Op.equal, Op.maxDepth, run_equalIn_ptr_other w 9999 h hte hsz hne ha hb]
theorem info44 : (Yba.prog.info? 44).map (·.size) = some 6 := by kernel_rfl

/-- Two tuple sets in two blocks: '==' is false. -/
theorem sets_eql {w : World} {S S' N N' : Nat} {wi wi' c c' : Int} (h : SetFull w S N wi c) (h' : SetFull w S' N' wi' c') (hne : S ≠ S') : (binOp .eql 37 (.pointer (some ⟨S, 0, none⟩)) (.pointer (some ⟨S', 0, none⟩))).run Yba.prog w = .ok (.bool false) w := by
  have hi := info44
  cases hinf : Yba.prog.info? 44 with
  | none => rw [hinf] at hi; simp at hi
  | some j =>
    rw [hinf] at hi
    simp only [Option.map_some, Option.some.injEq] at hi
    exact run_eql_ptr_other w 37 44 j Yba.underlying37 hinf (by omega) (fun e => hne (congrArg Addr.block e)) h.1 h'.1
theorem set_neq (w : World) (S : Nat) : (binOp .neq 37 (.pointer (some ⟨S, 0, none⟩)) (.pointer (some ⟨S, 0, none⟩))).run Yba.prog w = .ok (.bool false) w := by
  have hi := info44
  cases hinf : Yba.prog.info? 44 with
  | none => rw [hinf] at hi; simp at hi
  | some j => exact run_neq_ptr_same w 37 44 j _ Yba.underlying37 hinf

theorem fold_size (f : Nat → Value) (D : List Nat) : ∀ t0 : Array Value, (D.foldl (fun acc d => acc.setIfInBounds d (f d)) t0).size = t0.size := by
  induction D with
  | nil => intro t0; rfl
  | cons d D ih => intro t0; simp only [List.foldl_cons]; rw [ih]; simp

theorem fold_at (f : Nat → Value) (D : List Nat) : ∀ (t0 : Array Value) (k : Nat), k < t0.size → (D.foldl (fun acc d => acc.setIfInBounds d (f d)) t0)[k]? = if k ∈ D then some (f k) else t0[k]? := by
  induction D with
  | nil => intro t0 k _; simp
  | cons d D ih =>
    intro t0 k hk
    simp only [List.foldl_cons]
    rw [ih _ k (by simpa using hk), Array.getElem?_setIfInBounds]
    by_cases h1 : k ∈ D
    · simp [h1]
    · by_cases h2 : d = k
      · subst h2; simp [h1, hk]
      · have h3 : ¬ k = d := fun e => h2 e.symm
        simp [h1, h2, h3]

/-- A frame that parts from another in the slots D alone. -/
theorem frame_eq (t t0 : Array Value) (hs : t.size = t0.size) (D : List Nat) (h : ∀ k, k ∉ D → t.getD k undef = t0.getD k undef) : t = D.foldl (fun acc d => acc.setIfInBounds d (t.getD d undef)) t0 := by
  refine Array.ext_getElem? fun k => ?_
  by_cases hk : k < t0.size
  · rw [fold_at (fun d => t.getD d undef) D t0 k hk]
    have h1 : t[k]? = some (t.getD k undef) := by simp [Array.getD, hs, hk]
    have h2 : t0[k]? = some (t0.getD k undef) := by simp [Array.getD, hk]
    by_cases hD : k ∈ D
    · rw [if_pos hD, h1]
    · rw [if_neg hD, h1, h2, h k hD]
  · rw [Array.getElem?_eq_none (by omega), Array.getElem?_eq_none (by rw [fold_size]; omega)]

theorem dst_mem (k : Nat) (h : k ∉ [33, 34, 35, 36, 37, 38, 39, 40, 41, 42, 43, 1011, 44, 45, 46, 47, 48, 49, 50, 51, 52, 53, 1022, 54, 55, 1025, 56, 57, 58, 59, 19]) : ∀ j, j < 31 → dst j ≠ k := by
  intro j hj e
  apply h
  subst e
  revert j
  decide

set_option maxHeartbeats 1600000 in
set_option maxRecDepth 100000 in
theorem walk (width round count prevFrom msgRound nSends maxStates : Int) (w5 : 0 ≤ nSends ∧ nSends ≤ 255) (w : World) :
    Calls Yba.prog 4 #[.int .i64 width, .int .i64 round, .int .i64 count, .int .i64 prevFrom, .int .i64 msgRound, .int .u8 nSends, .int .i64 maxStates] w fun e w' => e = .returned (.bool true) ∧ Below w.heap.size w w' := by
  go_enter Yba.func4, Yba.ntmps4
  go_wp2_with fail
  refine (new_any width _).mono ?_
  rintro e w1 ⟨rfl, s1, s2, s3, s4⟩
  have hT0 : SetAt ((w.alloc (.cells #[.int .i32 1, .int .i32 2, .int .i32 3, .int .i32 4] 21)).alloc (.cells (tset width count (.slice none 0 0) prevFrom (.slice (some ⟨w.heap.size, 0, none⟩) 4 4) 62) 44)) (w.heap.size + 1) width count (.slice none 0 0) prevFrom (.slice (some ⟨w.heap.size, 0, none⟩) 4 4) 62 :=
    heap_alloc2_new w _ _
  have hT1 := hT0.of_block (s3.block _ hT0.lt)
  have hz0 : ((w.alloc (.cells #[.int .i32 1, .int .i32 2, .int .i32 3, .int .i32 4] 21)).alloc (.cells (tset width count (.slice none 0 0) prevFrom (.slice (some ⟨w.heap.size, 0, none⟩) 4 4) 62) 44)).heap.size = w.heap.size + 1 + 1 := by simp
  have hb1 : Below w.heap.size w w1 := (((Below.refl _ _).alloc (Nat.le_refl _) _).alloc (by simp) _).trans (s3.mono (by simp; omega))
  rw [show ((w.alloc (.cells #[.int .i32 1, .int .i32 2, .int .i32 3, .int .i32 4] 21)).alloc (.cells #[.int .i64 width, .int .i64 count, .slice none 0 0, .int .i64 prevFrom, .slice (some ⟨w.heap.size, 0, none⟩) 4 4, .int .u64 62] 44)).heap.size = w.heap.size + 1 + 1 from hz0] at s1 s2 s4
  have hF1 : SetFull w1 (w.heap.size + 1 + 1) (w.heap.size + 1 + 1 + 1) width 0 := ⟨s1, s2⟩
  replace hT1 := hide hT1
  replace hF1 := hide hF1
  replace hb1 := hide hb1
  have hz1 : w1.heap.size = w.heap.size + 4 := s4
  have hZ1 := hide hz1
  clear s1 s2 s3 s4 hT0 hz0 hz1
  go_wp2_with fail
  refine (new_any width _).mono ?_
  rintro e w2 ⟨rfl, s1, s2, s3, s4⟩
  have hT2 := hide ((unhide hT1).of_block (s3.block _ (unhide hT1).lt))
  have hF2 := hide ((unhide hF1).below s3)
  have hG2 : Hid (SetFull w2 w1.heap.size (w1.heap.size + 1) width 0) := hide ⟨s1, s2⟩
  have hb2 := hide ((unhide hb1).trans (s3.mono (unhide hb1).size))
  have hZ2 : Hid (w2.heap.size = w.heap.size + 6) := hide (by rw [s4, unhide hZ1])
  clear s1 s2 s3 s4 hT1 hF1 hb1
  have hM0 : (w2.alloc (.cells #[.int .u8 1, .int .i64 2] 48)).cell? ⟨w2.heap.size, 0, none⟩ = some (.int .u8 1) := by rw [cell_of_row _ _ 0 _ 48 (0, 0) (heap_alloc_new w2 _)]; rfl
  have hM1 : (w2.alloc (.cells #[.int .u8 1, .int .i64 2] 48)).cell? ⟨w2.heap.size, 1, none⟩ = some (.int .i64 2) := by rw [cell_of_row _ _ 1 _ 48 (0, 0) (heap_alloc_new w2 _)]; rfl
  replace hM0 := hide hM0
  replace hM1 := hide hM1
  go_upto_region 5 with fail
  go_cut [19] from 33 to 59 (fun v wc => Hid (Below (w2.alloc (.cells #[.int .u8 1, .int .i64 2] 48)).heap.size (w2.alloc (.cells #[.int .u8 1, .int .i64 2] 48)) wc) ∧ Hid (∃ E ps nu se mo ta, v = .pointer (some ⟨E, 0, none⟩) ∧ (w2.alloc (.cells #[.int .u8 1, .int .i64 2] 48)).heap.size ≤ E ∧
    ExplAt wc E width (.pointer (some ⟨w.heap.size + 1, 0, none⟩)) count maxStates msgRound msgRound ps nu (.pointer (some ⟨w.heap.size + 1 + 1, 0, none⟩)) se mo ta (.pointer (some ⟨w1.heap.size, 0, none⟩))))
  case first =>
    rename_i J K' hJ hK'
    refine region5 (T := w.heap.size + 1) (oB := w.heap.size + 1 + 1) (oH := w1.heap.size) (M := w2.heap.size) (width := width) (count := count) (maxS := maxStates) (mr := msgRound) (nS := nSends) (by kernel_rfl)
      ⟨(show 59 < 272 from by decide), (show 272 < 1000 from by decide), w5.1, w5.2, by simp, unhide hM0, unhide hM1, rfl, rfl, rfl, rfl, rfl, rfl, rfl, rfl, rfl⟩ rfl rfl ?hops5 (by kernel_rfl) (by kernel_rfl) ?_
    case hops5 => exact ⟨⟨_, _, _, rfl⟩, ⟨_, _, _, rfl⟩, ⟨_, _, _, rfl⟩, ⟨_, _, _, rfl⟩, ⟨_, _, _, rfl⟩, ⟨_, _, _, rfl⟩, ⟨_, _, _, rfl⟩, ⟨_, _, _, rfl⟩, ⟨_, _, _, rfl⟩, ⟨_, _, _, rfl⟩, ⟨_, _, _, rfl⟩, ⟨_, _, _, rfl⟩, ⟨_, _, _, rfl⟩, ⟨_, _, _, rfl⟩, ⟨_, _, _, rfl⟩, ⟨_, _, _, rfl⟩, ⟨_, _, _, rfl⟩, ⟨_, _, _, rfl⟩, ⟨_, _, _, rfl⟩, ⟨_, _, _, rfl⟩, ⟨_, _, _, rfl⟩, ⟨_, _, _, rfl⟩, ⟨_, _, _, rfl⟩, ⟨_, _, _, rfl⟩, ⟨_, _, _, rfl⟩, ⟨_, _, _, rfl⟩, ⟨_, _, _, rfl⟩, ⟨_, _, _, rfl⟩, ⟨_, _, _, rfl⟩, ⟨_, _, _, rfl⟩, ⟨_, _, _, rfl⟩⟩
    intro a w' hdf hsz hold hbel hE
    refine hK' _ _ (Met.intro (hJ _ _ ?_))
    have hfr := frame_eq a.tmps _ hsz [33, 34, 35, 36, 37, 38, 39, 40, 41, 42, 43, 1011, 44, 45, 46, 47, 48, 49, 50, 51, 52, 53, 1022, 54, 55, 1025, 56, 57, 58, 59, 19] (fun k hk => hold k (dst_mem k hk))
    refine ⟨a.tmps.getD 19 undef, a.tmps.getD 33 undef, a.tmps.getD 34 undef, a.tmps.getD 35 undef, a.tmps.getD 36 undef, a.tmps.getD 37 undef, a.tmps.getD 38 undef, a.tmps.getD 39 undef, a.tmps.getD 40 undef, a.tmps.getD 41 undef, a.tmps.getD 42 undef, a.tmps.getD 43 undef, a.tmps.getD 44 undef, a.tmps.getD 45 undef, a.tmps.getD 46 undef, a.tmps.getD 47 undef, a.tmps.getD 48 undef, a.tmps.getD 49 undef, a.tmps.getD 50 undef, a.tmps.getD 51 undef, a.tmps.getD 52 undef, a.tmps.getD 53 undef, a.tmps.getD 54 undef, a.tmps.getD 55 undef, a.tmps.getD 56 undef, a.tmps.getD 57 undef, a.tmps.getD 58 undef, a.tmps.getD 59 undef, ⟨hbel, hE⟩, ?_⟩
    obtain ⟨t, df⟩ := a
    cases hdf
    refine (Act.mk.injEq _ _ _ _).mpr ⟨?_, rfl⟩
    refine hfr.trans ?_
    kernel_rfl
  case rest =>
    obtain ⟨hBc, hEc⟩ := hcut
    obtain ⟨E, ps, nu, se, mo, ta, hv, hBE, hE⟩ := unhide hEc
    subst hv
    have hbw : Below w2.heap.size w2 wc := ((Below.refl _ _).alloc (Nat.le_refl _) _).trans ((unhide hBc).mono (by simp))
    have hTc := (unhide hT2).of_block (hbw.block _ (unhide hT2).lt)
    have hFc := hide ((unhide hF2).below hbw)
    have hGc := hide ((unhide hG2).below hbw)
    have hwc := hide ((unhide hb2).trans (hbw.mono (unhide hb2).size))
    have hz := unhide hZ2
    have hBE' : w.heap.size ≤ E := by simp at hBE; omega
    have hcon := hide (start_any E (w.heap.size + 1) width count maxStates msgRound msgRound round width count prevFrom 62 ps nu _ se mo ta _ _ wc hE hTc)
    have hFE := And.intro ((unhide hFc).neS hE) ((unhide hFc).neN hE)
    have hGE := And.intro ((unhide hGc).neS hE) ((unhide hGc).neN hE)
    have hFT : w.heap.size + 1 + 1 ≠ w.heap.size + 1 ∧ w.heap.size + 1 + 1 + 1 ≠ w.heap.size + 1 := by omega
    have hGT : w1.heap.size ≠ w.heap.size + 1 ∧ w1.heap.size + 1 ≠ w.heap.size + 1 := by have := unhide hZ1; omega
    have hX1 : Hid (w.heap.size + 1 + 1 < wc.heap.size) := hide (unhide hFc).ltS
    have hX2 : Hid (w1.heap.size < wc.heap.size) := hide (unhide hGc).ltS
    clear hBc hEc hE hTc hT2 hF2 hG2 hb2 hZ2 hZ1 hM0 hM1 hbw hz hBE
    go_wp2_with fail
    refine (unhide hcon).mono ?_
    rintro e w7 ⟨rfl, N, S1, N1, S2, N2, m1, m2, hE7, hT7, hS7, hH7, hm1, hm2, hlt, hS12, hb7⟩
    clear hcon
    have c0 : w7.cell? ⟨E, 0, none⟩ = some (.int .i64 width) := hE7.at_ 0
    have c8 : w7.cell? ⟨E, 8, none⟩ = some (.pointer (some ⟨w.heap.size + 1, 0, none⟩)) := hE7.at_ 8
    have c9 : w7.cell? ⟨E, 9, none⟩ = some (.int .i64 1) := hE7.at_ 9
    have c10 : w7.cell? ⟨E, 10, none⟩ = some (.int .i64 count) := hE7.at_ 10
    have c12 : w7.cell? ⟨E, 12, none⟩ = some (.int .i64 maxStates) := hE7.at_ 12
    have c13 : w7.cell? ⟨E, 13, none⟩ = some (.bool true) := hE7.at_ 13
    have c14 : w7.cell? ⟨E, 14, none⟩ = some (.int .i32 (-1)) := hE7.at_ 14
    have c15 : w7.cell? ⟨E, 15, none⟩ = some (.int .i64 round) := hE7.at_ 15
    have c16 : w7.cell? ⟨E, 16, none⟩ = some (.int .i64 0) := hE7.at_ 16
    have c17 : w7.cell? ⟨E, 17, none⟩ = some (.slice none 0 0) := hE7.at_ 17
    have c18 : w7.cell? ⟨E, 18, none⟩ = some (.map none) := hE7.at_ 18
    have c19 : w7.cell? ⟨E, 19, none⟩ = some (.pointer (some ⟨S1, 0, none⟩)) := hE7.at_ 19
    have c20 : w7.cell? ⟨E, 20, none⟩ = some (.slice none 0 0) := hE7.at_ 20
    have c21 : w7.cell? ⟨E, 21, none⟩ = some (.map (some m1)) := hE7.at_ 21
    have c22 : w7.cell? ⟨E, 22, none⟩ = some (.map (some m2)) := hE7.at_ 22
    have c23 : w7.cell? ⟨E, 23, none⟩ = some (.pointer (some ⟨S2, 0, none⟩)) := hE7.at_ 23
    have d0 := hT7.1.c0
    have d1 := hT7.1.c1
    have d3 := hT7.1.c3
    have d4 := hT7.1.c4
    have d5 := hT7.1.c5
    have r1 := set_neq w7 (w.heap.size + 1)
    have r2 := run_neq_slice_nil_any (P := Yba.prog) w7 50 48 none 0 0 0 0 Yba.underlying50
    have r3 := run_neq_map_nil (P := Yba.prog) w7 51 48 3 none Yba.underlying51
    have r4 := run_neq_slice_nil_any (P := Yba.prog) w7 54 113 none 0 0 0 0 Yba.underlying54
    have r5 := run_eql_map_nil (P := Yba.prog) w7 59 55 58 (some m1) Yba.underlying59
    have r6 := run_eql_map_nil (P := Yba.prog) w7 60 9 21 (some m2) Yba.underlying60
    have hz : Hid (∀ k, k < 16 → w7.cell? ⟨N, k, none⟩ = some (.int .i32 0)) := hide (fun k hk => by rw [cell_of_row w7 N k _ 21 (0, 0) hT7.2]; exact zeros_at k hk)
    have l1 := run_len_map (P := Yba.prog) w7 59 3 m1 #[] 0 (by kernel_rfl) hm1
    have l2 := run_len_map (P := Yba.prog) w7 60 3 m2 #[] 0 (by kernel_rfl) hm2
    clear hm1 hm2
    have hE7 := hide hE7
    have hS7 := hide hS7
    have hH7 := hide hH7
    have hFc7 := hide ((unhide hFc).move (hb7.block _ (unhide hFc).ltS hFE.1 hFT.1) (hb7.block _ (unhide hFc).ltN hFE.2 hFT.2))
    have hGc7 := hide ((unhide hGc).move (hb7.block _ (unhide hGc).ltS hGE.1 hGT.1) (hb7.block _ (unhide hGc).ltN hGE.2 hGT.2))
    have hw7 := hide ((unhide hwc).trans (hb7.toBelow (unhide hwc).size hBE' (by omega)))
    have x1 := unhide hX1
    have x2 := unhide hX2
    clear hT7
    have q1 : Hid (∀ nq, (binOp .eql 37 (.pointer (some ⟨S1, 0, none⟩)) (.pointer (some ⟨w.heap.size + 1 + 1, 0, none⟩))).run Yba.prog (w7.drewN nq) = .ok (.bool false) (w7.drewN nq)) :=
      hide (fun nq => sets_eql ((unhide hS7).below (below_drewN (Below.refl _ _) nq)) ((unhide hFc7).below (below_drewN (Below.refl _ _) nq)) (by omega))
    have q2 : Hid (∀ nq, (binOp .eql 37 (.pointer (some ⟨S2, 0, none⟩)) (.pointer (some ⟨w1.heap.size, 0, none⟩))).run Yba.prog (w7.drewN nq) = .ok (.bool false) (w7.drewN nq)) :=
      hide (fun nq => sets_eql ((unhide hH7).below (below_drewN (Below.refl _ _) nq)) ((unhide hGc7).below (below_drewN (Below.refl _ _) nq)) (by omega))
    have q3 : Hid (∀ nq, (binOp .eql 37 (.pointer (some ⟨S1, 0, none⟩)) (.pointer (some ⟨S2, 0, none⟩))).run Yba.prog (w7.drewN nq) = .ok (.bool false) (w7.drewN nq)) :=
      hide (fun nq => sets_eql ((unhide hS7).below (below_drewN (Below.refl _ _) nq)) ((unhide hH7).below (below_drewN (Below.refl _ _) nq)) (by omega))
    go_wp2_with fail
    go_loop [20] (fun i => ∃ k : Nat, k ≤ 16 ∧ i = .int .i64 k) (fun i => 16 - (intOf i).toNat)
    case atStart => exact ⟨0, Nat.zero_le _, rfl⟩
    case round =>
      obtain ⟨k, hk, rfl⟩ := hrel
      by_cases hlt : k < 16
      · have q := unhide hz k hlt
        clear hz
        go_wp2
        go_round
        case rel => exact ⟨k + 1, by omega, by go_num⟩
        case measure => simp [intOf]; omega
      · go_wp2_with fail
        have q1 := unhide q1
        have q2 := unhide q2
        have q3 := unhide q3
        go_quiet (fail)
        go_wp2_with fail
        have hS8 := (unhide hS7).below (below_drewN (Below.refl _ _) nq)
        have hH8 := (unhide hH7).below (below_drewN (Below.refl _ _) nq)
        refine (fresh_any S1 N1 width _ hS8.1 hS8.2).mono ?_
        have hH8 := hide hH8
        clear hS8
        rintro e w8 ⟨rfl, rfl⟩
        go_wp2_with fail
        refine (fresh_any S2 N2 width _ (unhide hH8).1 (unhide hH8).2).mono ?_
        rintro e w8 ⟨rfl, rfl⟩
        go_wp2
        go_ret
        exact ⟨rfl, below_drewN (unhide hw7) nq⟩
end Go.Proofs.Ybulkbzeg.B
