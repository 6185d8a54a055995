/-
  The contracts of slices.Clone and of the sort at nil.
-/
import Derived.Test.YbulkbzfiStable
import Derived.Laws.AppendOwnNone
namespace Go.Proofs.Ybulkbzfi
open Go.RowKit

theorem info67 : (Yba.prog.info? 67).map (fun i => (i.zero, i.size, i.bytes)) = some (some (.agg #[.int .u8 0, .int .u8 0, .int .u64 0]), 3, 16) := by kernel_rfl
theorem cells3_one (d : List In3) : ∀ u ∈ cells3 d, u.oneCell' = true := by
  induction d with
  | nil => intro u hu; simp [cells3] at hu
  | cons x d ih =>
    intro u hu
    simp only [cells3, List.mem_cons] at hu
    rcases hu with rfl | rfl | rfl | hu
    · rfl
    · rfl
    · rfl
    · exact ih u hu

set_option maxHeartbeats 400000 in
theorem clone_nil (w : World) : Calls Yba.prog 13 #[.slice none 0 0] w fun e w' => e = .returned (.slice none 0 0) ∧ w' = w := by
  have hnil := fun (w : World) => Lib.run_eql_slice_nil (P := Yba.prog) w 25 67 none 0 0 0 0 Yba.underlying25
  go_enter Yba.func13, Yba.ntmps13
  go_wp2
  go_ret
  exact ⟨rfl, rfl⟩

set_option maxHeartbeats 400000 in
set_option maxRecDepth 100000 in
theorem clone_some (ad : Addr) (n cap : Nat) (d : List In3) (w : World) (hx : d.length = n) (hn : n ≤ 2000) (hc : ∀ j u, (cells3 d)[j]? = some u → w.cell? (ad.add j) = some u) :
    Calls Yba.prog 13 #[.slice (some ad) n cap] w fun e w' => ∃ g c rest, e = .returned (.slice (some ⟨g, 0, none⟩) n c) ∧ w.heap.size ≤ g ∧ Row w' g d rest ∧ Below w.heap.size w w' := by
  obtain ⟨i0, hi, hz0, hz1, hz2⟩ := info_parts info67
  have hnil := fun (w : World) => Lib.run_eql_slice_nil (P := Yba.prog) w 25 67 (some ad) n cap 0 0 Yba.underlying25
  have hc' : Hid (∀ (o : Obj) j u, (cells3 d)[j]? = some u → (w.alloc o).cell? (ad.add j) = some u) :=
    hide (fun o j u hu => (((Below.refl w.heap.size w).alloc (Nat.le_refl _) o).cell (p := ad.add j) (block_lt_of_cell (hc j u hu))).trans (hc j u hu))
  have hl : Hid ((cells3 d).length = n * 3) := hide (by rw [cells3_len, hx])
  have hown : Hid (∀ (w : World), (w.alloc (.cells #[] 67)).ownsRow w.heap.size 67 3 (.slice (some ⟨w.heap.size, 0, none⟩) 0 0) 0 []) :=
    hide (fun w => World.ownsRow_made w #[] 0 (Nat.le_refl _) (by unfold maxLen; omega) rfl)
  clear hc
  go_enter Yba.func13, Yba.ntmps13
  go_wp2_with (at_builtin; refine wpList_append_own _ rfl (.tmp 5) (.tmp 6) 25 rfl w.heap.size 67 i0 (.agg #[.int .u8 0, .int .u8 0, .int .u64 0]) 3 16 Yba.underlying25 hi hz0 hz1 hz2 rfl (by decide) _ _ _ rfl (unhide hown w) ad n cap (cells3 d) rfl (unhide hl) (unhide hc' _) (cells3_one _) (by unfold maxLen; omega) (by omega) (by simp) ?_)
  intro v' w1 hown' hgrow hnn
  try simp only [Nat.zero_add, List.nil_append] at hown'
  have hform : ∃ g c rest, v' = .slice (some ⟨g, 0, none⟩) n c ∧ w.heap.size ≤ g ∧ Row w1 g d rest := by
    rcases hown'.2 with ⟨h1, _⟩ | ⟨g, c, cur, h1, h2, h3, _, _, _, h4⟩
    · exact absurd h1 hnn
    · refine ⟨g, c, cur.toList.drop (n * 3), h1, h2, ?_⟩
      unfold Row
      rw [h3, ← h4, List.take_append_drop]
  obtain ⟨g, c, rest, hv, hg, hR⟩ := hform
  subst hv
  have hbel : Below w.heap.size w w1 := ((Below.refl _ _).alloc (Nat.le_refl _) _).grown hgrow (by simp) (fun k hk => by simp [Value.ownBlock] at hk; omega)
  have H := hide (And.intro hg (And.intro hR hbel))
  clear hown' hbel hgrow hnn hnil hi hz0 hz1 hz2 hc' hl hown hg hR
  go_wp2
  go_ret
  exact ⟨g, c, rest, rfl, H.out⟩

set_option maxHeartbeats 400000 in
theorem ins_none (w : World) : Calls Yba.prog 27 #[.slice none 0 0, .int .i64 0, .int .i64 0, cmpF] w fun e w' => e = .returned (.tuple #[]) ∧ w' = w := by
  unfold cmpF
  go_enter Yba.func27, Yba.ntmps27
  go_wp2_with fail
  go_loopw [8] (fun x wr => x = .int .i64 1 ∧ wr = w) (fun _ _ => 0)
  case atStart => exact ⟨rfl, rfl⟩
  case round =>
    obtain ⟨rfl, rfl⟩ := hrel
    go_wp2
    go_end0
    exact ⟨rfl, rfl⟩

set_option maxHeartbeats 400000 in
theorem stable_none (w : World) : Calls Yba.prog 21 #[.slice none 0 0, .int .i64 0, cmpF] w fun e w' => e = .returned (.tuple #[]) ∧ w' = w := by
  unfold cmpF
  go_enter Yba.func21, Yba.ntmps21
  go_wp2_with fail
  obtain ⟨w0, hw0⟩ : ∃ w0 : World, w0 = w := ⟨_, rfl⟩
  go_loopw [7, 8] (fun x y wr => x = .int .i64 0 ∧ y = .int .i64 20 ∧ Hid (wr = w0)) (fun _ _ _ => 0)
  case atStart => exact ⟨rfl, rfl, hide hw0.symm⟩
  case round =>
    obtain ⟨rfl, rfl, hw⟩ := hrel
    go_wp2_with fail
    refine (ins_none _).mono ?_
    rintro _ w2 ⟨rfl, hw2⟩
    subst hw2
    go_wp2_with fail
    go_loopw [6] (fun x wr' => x = .int .i64 20 ∧ Hid (wr' = w0)) (fun _ _ => 0)
    case atStart => exact ⟨rfl, hw⟩
    case round =>
      obtain ⟨rfl, hw3⟩ := hrel
      go_wp2
      go_end0
      exact ⟨rfl, (unhide hw3).trans hw0⟩

set_option maxHeartbeats 400000 in
theorem sort_none (w : World) : Calls Yba.prog 14 #[.slice none 0 0, cmpF] w fun e w' => e = .returned (.tuple #[]) ∧ w' = w := by
  go_enter Yba.func14, Yba.ntmps14
  go_wp2_with fail
  refine (stable_none _).mono ?_
  rintro _ _ ⟨rfl, rfl⟩
  go_wp2
  go_end0
  exact ⟨rfl, rfl⟩
end Go.Proofs.Ybulkbzfi
