/-
  'Rows.LawS3776AScriptSaid', PROVED. The row's step after the skeleton tool's shells of this seat, at this function's number and types.
-/
import Derived.Test.YbulkbzegAWalk2
import Derived.ProofKit
import Derived.OpenShut
import Derived.ShutString
import Derived.ChangeOld
import Derived.Below
import Derived.Deep.SlicePairs
namespace Go.Proofs.Ybulkbzeg.lawS3776AScript
open Go.ChangeShapes Go.WideShapes Go.ChangeAt Go.RowKit
set_option linter.unusedVariables false

theorem own : ownKnob Yba.prog.godebug = none := by kernel_rfl
theorem laidOut : laidOutB Yba.prog = true := by kernel_rfl

/-- What the walk is told of a slice of ints that came in. -/
theorem open_start {H : Type} {enc : TypeId × Value → H} {W : World} {fuel : Nat} {a : Option Addr} {len cap : Nat} {x : DataW H × List MemPlace}
    (hf : DataW.trod enc Yba.prog W 0 (fun _ => true) true fuel 22 [.slice a len cap] = some x) :
    ∃ xs : List Int, xs.length = len ∧ (a = none → len = 0 ∧ cap = 0) ∧ (∀ ad, a = some ad → ∀ j u, (ints xs)[j]? = some u → W.cell? (ad.add j) = some u) ∧ (∀ ad, a = some ad → 0 < len → ad.block < W.heap.size) := by
  rcases open_ints Yba.underlying22 Yba.underlying3 (by kernel_rfl) hf with ⟨hcs, _⟩ | ⟨y, l, c, zs, hcs, _, hl, hm, hz, _, hcell, hwz⟩
  · simp at hcs
    obtain ⟨rfl, rfl, rfl⟩ := hcs
    exact ⟨[], rfl, fun _ => ⟨rfl, rfl⟩, fun _ h => (by cases h), fun _ h => (by cases h)⟩
  · simp at hcs
    obtain ⟨rfl, rfl, rfl⟩ := hcs
    simp only [if_true] at hz
    refine ⟨zs.take len, by simp; omega, fun h => (by cases h), fun ad had j u hu => ?_, fun ad had hp => ?_⟩
    · cases had
      have hj := (List.getElem?_eq_some_iff.1 hu).1
      simp only [ints, List.length_map, List.length_take] at hj
      rw [hcell j (by omega)]
      have h3 : j < zs.length := by omega
      have h4 : j < len := by omega
      simpa [ints, List.getElem?_take, h3, h4, List.getD] using hu
    · cases had
      have := block_lt_of_cell (hcell 0 (by omega))
      rwa [add_block] at this

/-- What the walk is told of the steps. -/
theorem open_steps {H : Type} {enc : TypeId × Value → H} {W : World} {fuel : Nat} {a : Option Addr} {len cap : Nat} {x : DataW H × List MemPlace}
    (hf : DataW.trod enc Yba.prog W 0 (fun _ => true) true fuel 23 [.slice a len cap] = some x) (hl0 : 0 < len) :
    ∃ (b off : Nat) (st : List (Int × Int)), a = some ⟨b, off, none⟩ ∧ b < W.heap.size ∧ st.length = len ∧
      (∀ j, j < len → W.cell? ⟨b, off + j * 2, none⟩ = some (.int .i64 (st.getD j (0, 0)).1)) ∧ ∀ j, j < len → W.cell? ⟨b, off + j * 2 + 1, none⟩ = some (.int .i64 (st.getD j (0, 0)).2) := by
  rcases Deep.open_slice_pairs Yba.underlying23 Yba.underlying34 (by kernel_rfl) rfl rfl (by kernel_rfl) (by kernel_rfl) hf with ⟨hcs, _⟩ | ⟨y, l, c, m, n, V0, V1, D0, D1, P0, P1, hcs, _, hl, hm, hmm, _, hcell⟩
  · simp at hcs
    omega
  · simp at hcs
    obtain ⟨rfl, rfl, rfl⟩ := hcs
    simp only [if_true] at hmm
    subst hmm
    obtain ⟨b, off, spot⟩ := y
    have hspot : spot = none := by simpa [Addr.add] using World.cell?_spot (hcell 0 (by omega)).1
    subst hspot
    have hints : ∀ i, i < len → ∃ p : Int × Int, V0 i = .int .i64 p.1 ∧ V1 i = .int .i64 p.2 := by
      intro i hi
      obtain ⟨_, _, t0, t1⟩ := hcell i (by omega)
      obtain ⟨n0, e0, _⟩ := DataW.trod_int Yba.underlying3 t0
      obtain ⟨n1, e1, _⟩ := DataW.trod_int Yba.underlying3 t1
      simp only [List.cons.injEq, and_true] at e0 e1
      exact ⟨(n0, n1), e0, e1⟩
    obtain ⟨f, hf'⟩ := Deep.choose_lt hints
    have hg : ∀ j, j < len → ((List.range len).map f).getD j (0, 0) = f j := by intro j hj; simp [List.getD, hj]
    refine ⟨b, off, (List.range len).map f, rfl, ?_, by simp, ?_, ?_⟩
    · have := block_lt_of_cell (hcell 0 (by omega)).1
      rwa [add_block] at this
    · intro j hj
      rw [hg j hj, ← (hf' j hj).1, ← add_plain]
      exact (hcell j (by omega)).1
    · intro j hj
      rw [hg j hj, ← (hf' j hj).2, Nat.add_assoc, ← add_plain]
      exact (hcell j (by omega)).2.1

theorem walk (r0 s1 s2 e1 e2 : Int) (a1 a2 : Option Addr) (len1 cap1 len2 cap2 : Nat) {H : Type} {enc : TypeId × Value → H} {f1 f2 : Nat} {x1 x2 : DataW H × List MemPlace} (w : World)
    (h1 : DataW.trod enc Yba.prog w 0 (fun _ => true) true f1 22 [.slice a1 len1 cap1] = some x1)
    (h2 : DataW.trod enc Yba.prog w 0 (fun _ => true) true f2 23 [.slice a2 len2 cap2] = some x2) :
    Calls Yba.prog 3 #[.int .i64 r0, .slice a1 len1 cap1, .slice a2 len2 cap2, .int .i64 s1, .int .i64 s2, .int .i64 e1, .int .i64 e2] w fun e w' =>
      e = .returned (.bool true) ∧ Below w.heap.size w w' := by
  obtain ⟨xs, hx, hnone, hcx, hbx⟩ := open_start h1
  by_cases hb1 : 1024 < len1
  · exact walk_big1 r0 s1 s2 e1 e2 a1 a2 len1 cap1 len2 cap2 w hb1
  by_cases hb2 : 1024 < len2
  · exact walk_big2 r0 s1 s2 e1 e2 a1 a2 len1 cap1 len2 cap2 w (by omega) hb2
  by_cases h0 : len2 = 0
  · subst h0
    exact walk_empty r0 s1 s2 e1 e2 a1 len1 cap1 xs a2 cap2 w hx hnone hcx hbx (by omega)
  · obtain ⟨b, off, st, rfl, hb, hst, hc0, hc1⟩ := open_steps h2 (by omega)
    exact walk_steps r0 s1 s2 e1 e2 a1 len1 cap1 xs b off len2 cap2 st w hx hnone hcx hbx hb hst (by omega) (by omega) (by omega) hc0 hc1

set_option maxRecDepth 100000 in
theorem lifted (os : Os) (started : os.Started) (H : Type) (enc : TypeId × Value → H) :
    ReturnsInHanded {} Yba.checked os 3 .any (Rows.lawS3776AScriptSpec.pre6 enc Yba.prog Yba.f3 Rows.lawS3776AScriptRow.domain false) (Rows.lawS3776AScriptSpec.post enc Yba.prog Yba.f3 false true false false) := by
  refine returnsInHanded_of_change (C := Yba.checked) own started (by kernel_rfl) Yba.func3
    (ChangeSpec.witness6 (enc := enc) (C := Yba.checked) false ⟨#[], #[.int .i64 0, .slice none 0 0, .slice none 0 0, .int .i64 0, .int .i64 0, .int .i64 0, .int .i64 0], []⟩ 8 (by kernel_rfl) (by kernel_rfl) (by kernel_rfl) (by kernel_rfl)) ?_
  intro W base args ds gs before hval0 hW hcnd _
  have hval : ∀ (j : Nat) t v, Yba.f3.params[j]? = some t → args[j]? = some v → Value.okWide Yba.prog W .any base t v := hval0
  have hW' := hW
  obtain ⟨p, q, hA0, hV, rfl, hfz, hnd⟩ := hW
  have hA : DataW.TrodAll enc Yba.prog W 0 (fun _ => true) true Yba.f3.params.toList args.toList ds p := hA0
  rw [Yba.params3] at hA hval
  obtain ⟨v0, vs0, d0, ds0, p0, q0, hargs, rfl, rfl, h0, r0⟩ := trodAll_cons hA
  obtain ⟨v1, vs1, d1, ds1, p1, q1, rfl, rfl, rfl, h1, r1⟩ := trodAll_cons r0
  obtain ⟨v2, vs2, d2, ds2, p2, q2, rfl, rfl, rfl, h2, r2⟩ := trodAll_cons r1
  obtain ⟨v3, vs3, d3, ds3, p3, q3, rfl, rfl, rfl, h3, r3⟩ := trodAll_cons r2
  obtain ⟨v4, vs4, d4, ds4, p4, q4, rfl, rfl, rfl, h4, r4⟩ := trodAll_cons r3
  obtain ⟨v5, vs5, d5, ds5, p5, q5, rfl, rfl, rfl, h5, r5⟩ := trodAll_cons r4
  obtain ⟨v6, vs6, d6, ds6, p6, q6, rfl, rfl, rfl, h6, r6⟩ := trodAll_cons r5
  obtain ⟨rfl, rfl, rfl⟩ := trodAll_nil r6
  obtain rfl : args = #[v0, v1, v2, v3, v4, v5, v6] := by cases args; simp_all
  obtain ⟨rfl, rfl⟩ := trodVars_none hV
  obtain ⟨a0, rfl, rfl, rfl, w0⟩ := open_int Yba.underlying3 (hval 0 3 v0 rfl rfl) h0
  obtain ⟨a1, len1, cap1, rfl⟩ := okWide_slice Yba.underlying22 (hval 1 22 v1 rfl rfl)
  obtain ⟨a2, len2, cap2, rfl⟩ := okWide_slice Yba.underlying23 (hval 2 23 v2 rfl rfl)
  obtain ⟨a3, rfl, rfl, rfl, w3⟩ := open_int Yba.underlying3 (hval 3 3 v3 rfl rfl) h3
  obtain ⟨a4, rfl, rfl, rfl, w4⟩ := open_int Yba.underlying3 (hval 4 3 v4 rfl rfl) h4
  obtain ⟨a5, rfl, rfl, rfl, w5⟩ := open_int Yba.underlying2 (hval 5 2 v5 rfl rfl) h5
  obtain ⟨a6, rfl, rfl, rfl, w6⟩ := open_int Yba.underlying2 (hval 6 2 v6 rfl rfl) h6
  have k1 := h1
  have k2 := h2
  have lt1 : ∀ x ∈ p1, x.block < W.heap.size := by obtain ⟨m, hm⟩ := k1; exact DataW.trod_lt m _ _ _ hm
  have lt2 : ∀ x ∈ p2, x.block < W.heap.size := by obtain ⟨m, hm⟩ := k2; exact DataW.trod_lt m _ _ _ hm
  obtain ⟨fu1, hf1⟩ := h1
  obtain ⟨fu2, hf2⟩ := h2
  clear hA0 hval0
  refine (walk a0 a3 a4 a5 a6 a1 a2 len1 cap1 len2 cap2 W hf1 hf2).mono fun e W' ⟨he, bel⟩ => ?_
  subst he
  exact ⟨_, rfl, _, _, _, [], _, [], hW', trodAll_mk1 (shut_bool Yba.underlying4 _),
    (trodAll_cons_mk (shut_int Yba.underlying3 w0) (trodAll_cons_mk (Below.trod laidOut (by kernel_rfl) (of_decide_eq_true (by kernel_rfl)) k1 bel lt1) (trodAll_cons_mk (Below.trod laidOut (by kernel_rfl) (of_decide_eq_true (by kernel_rfl)) k2 bel lt2)
      (trodAll_cons_mk (shut_int Yba.underlying3 w3) (trodAll_cons_mk (shut_int Yba.underlying3 w4) (trodAll_cons_mk (shut_int Yba.underlying2 w5) (trodAll_cons_mk (shut_int Yba.underlying2 w6) trodAll_mk0))))))), rfl, bel.frame _, fun h => by cases h⟩

theorem over : Rows.lawS3776AScriptRow.holds Yba.pinned (OpenSpec.ofChange Rows.lawS3776AScriptSpec) :=
  OpenClaim.holds_of_wide 3 Yba.f3 rfl rfl rfl rfl rfl rfl rfl ⟨rfl, rfl, rfl, rfl, rfl⟩ rfl rfl rfl rfl rfl (by kernel_rfl) Yba.func3 (by kernel_rfl)
    (of_decide_eq_true (by kernel_rfl)) (by unfold Func.isWrapper; first | (rw [if_pos (by decide +kernel)]; kernel_rfl) | (rw [if_neg (by decide +kernel)]; exact ⟨rfl, rfl⟩))
    (fun os started H enc _ => lifted os started H enc)

/-- THE STATEMENT -/
theorem proved : Rows.LawS3776AScriptSaid := over
#print axioms proved
end Go.Proofs.Ybulkbzeg.lawS3776AScript
