import Derived.Test.YbulkbzegAWalk
namespace Go.Proofs.Ybulkbzeg
open Go.RowKit APlain

set_option maxHeartbeats 1600000 in
set_option maxRecDepth 100000 in
theorem walk_empty (r0 s1 s2 e1 e2 : Int) (a1 : Option Addr) (len1 cap1 : Nat) (xs : List Int) (a2 : Option Addr) (cap2 : Nat) (w : World)
    (hx : xs.length = len1) (hnone : a1 = none → len1 = 0 ∧ cap1 = 0) (hcx : ∀ ad, a1 = some ad → ∀ j u, (ints xs)[j]? = some u → w.cell? (ad.add j) = some u)
    (hbx : ∀ ad, a1 = some ad → 0 < len1 → ad.block < w.heap.size) (hl1 : len1 ≤ 1024) :
    Calls Yba.prog 3 #[.int .i64 r0, .slice a1 len1 cap1, .slice a2 0 cap2, .int .i64 s1, .int .i64 s2, .int .i64 e1, .int .i64 e2] w fun e w' =>
      e = .returned (.bool true) ∧ Below w.heap.size w w' := by
  obtain ⟨i0, hi, hz0, hz1, hz2⟩ := info_parts Yba.info3
  go_enter Yba.func3, Yba.ntmps3
  go_wp2_with (first
    | (at_make; refine wpList_make_full _ rfl _ _ 22 rfl w.heap.size 3 i0 (.int .i64 0) 1 Yba.underlying22 hi hz0 hz1 .i64 .i64 _ _ len1 rfl rfl rfl rfl ?m1 ?m2 (Nat.le_refl _) ?_))
  case m1 => rw [hz2]; omega
  case m2 => unfold maxLen; omega
  intro wm hom hgm
  have hfull : Hid _ := own_full hom
  have hbm : Below w.heap.size w wm := (Below.refl _ _).grown hgm (Nat.le_refl _) (fun k h => by cases h)
  have hlm : (madeCells #[Value.int .i64 0] len1).toList.length = len1 := by simpa using hom.1
  have hzw : w.heap.size < wm.heap.size := lt_of_block hfull.out
  clear hom hgm
  have hsrc : Hid (0 < (ints xs).length → ∃ ad, a1 = some ad ∧ ∀ j v, (ints xs)[j]? = some v → wm.cell? (ad.add j) = some v) := by
    intro hp
    cases a1 with
    | none => have := hnone rfl; simp at hp; omega
    | some ad =>
      refine ⟨ad, rfl, fun j u hu => ?_⟩
      have hlt := hbx ad rfl (by simp at hp; omega)
      rw [hbm.cell (p := ad.add j) (by rw [add_block]; exact hlt)]
      exact hcx ad rfl j u hu
  have hk1 : Hid ((Yba.prog.info? 3).map (·.size) = some 1) := by show _ = _; rw [hi]; simp [hz1]
  have hk2 : Hid ((ints xs).length = Nat.min len1 len1) := by show _ = _; simp [hx]
  have hk4 : Hid (0 + (ints xs).length ≤ (madeCells #[Value.int .i64 0] len1).toList.length) := by show _ ≤ _; rw [hlm]; simp [hx]
  go_wp2_with (refine wpList_copy_splice rfl (.tmp 37) (.tmp 38) 22 22 rfl 3 Yba.underlying22 hk1.out _ a1 len1 len1 len1 cap1 rfl rfl w.heap.size 0 _ 3 hfull.out (ints xs) hk2.out (fun hp => ⟨rfl, hsrc.out hp⟩) hk4.out (ints_oneCell _ _) w.heap.size w hbm (Nat.le_refl _) ?_)
  clear hsrc hk1 hk2 hk4
  intro wc Hc hbc
  have hown0 : wc.ownsRow w.heap.size 3 1 (.slice (some ⟨w.heap.size, 0, none⟩) len1 len1) len1 (ints xs) := by
    have h := Hc.out
    rw [splice_all _ _ (by rw [hlm]; simp [hx])] at h
    exact full_own (Nat.le_refl _) (by simp [hx]) (by unfold maxLen; omega) h
  have hzc : w.heap.size < wc.heap.size := lt_of_block Hc.out
  clear Hc hfull hbm hlm hzw
  have hT : IsTally (wc.alloc (.cells (tal r0 (.slice (some ⟨w.heap.size, 0, none⟩) len1 len1) s1 s2 e1 e2) 32)) w.heap.size wc.heap.size r0 (.slice (some ⟨w.heap.size, 0, none⟩) len1 len1) s1 s2 e1 e2 :=
    ⟨by omega, heap_alloc_new _ _⟩
  have hHT := hide hT
  have hH0 := hide (hown0.alloc (.cells (tal r0 (.slice (some ⟨w.heap.size, 0, none⟩) len1 len1) s1 s2 e1 e2) 32))
  have hHb := hide (hbc.alloc (by omega) (.cells (tal r0 (.slice (some ⟨w.heap.size, 0, none⟩) len1 len1) s1 s2 e1 e2) 32))
  clear hT hown0 hbc
  go_wp2_with fail
  go_loopw [50] (fun i wr => i = .int .i64 0 ∧ Hid (IsTally wr w.heap.size wc.heap.size r0 (.slice (some ⟨w.heap.size, 0, none⟩) len1 len1) s1 s2 e1 e2) ∧
      Hid (wr.ownsRow w.heap.size 3 1 (.slice (some ⟨w.heap.size, 0, none⟩) len1 len1) len1 (ints xs)) ∧ Hid (Below w.heap.size w wr)) (fun _ _ => 0)
  case atStart => exact ⟨rfl, hHT, hH0, hHb⟩
  case round =>
    obtain ⟨rfl, hTs, hOs, hBs⟩ := hrel
    obtain ⟨wo, rfl⟩ : ∃ wo : World, wo = wr := ⟨_, rfl⟩
    clear hHT hH0 hHb
    have c3 := (unhide hTs).c3
    have c4 := (unhide hTs).c4
    have c5 := (unhide hTs).c5
    have c6 := (unhide hTs).c6
    have c7 := (unhide hTs).c7
    have c8 := (unhide hTs).c8
    have hCx : Hid (∀ ad, a1 = some ad → ∀ j u, (ints xs)[j]? = some u → wo.cell? (ad.add j) = some u) := by
      intro ad ha j u hu
      have hj := (List.getElem?_eq_some_iff.1 hu).1
      simp at hj
      rw [(unhide hBs).cell (p := ad.add j) (by rw [add_block]; exact hbx ad ha (by omega))]
      exact hcx ad ha j u hu
    have hNone := hide hnone
    clear hcx hbx hnone
    go_wp2_with (at_builtin; refine wpList_append_own_any _ rfl (.tmp 96) (.tmp 97) 22 rfl wo.heap.size 3 i0 (.int .i64 0) 1 8 Yba.underlying22 hi hz0 hz1 hz2 rfl (by decide) _ _ _ rfl (World.ownsRow_nil _ _ _ _) a1 len1 cap1 (ints xs) rfl (unhide hNone) (by simp [hx]) (unhide hCx) (ints_oneCell _ _) (by unfold maxLen; omega) (by omega) (Nat.le_refl _) ?_)
    intro v1 wq hown1 hgrow1
    try simp only [Nat.zero_add, List.nil_append] at hown1
    have hbq : Below wo.heap.size wo wq := (Below.refl _ _).grown hgrow1 (Nat.le_refl _) (fun k h => by cases h)
    clear hgrow1 hCx hNone
    have hTl := (unhide hTs).lt
    have hgl := ((unhide hOs).lt w.heap.size rfl).2
    have d3 := (hbq.cell (p := ⟨wc.heap.size, 3, none⟩) hTl).trans c3
    have d4 := (hbq.cell (p := ⟨wc.heap.size, 4, none⟩) hTl).trans c4
    have hA : Hid (∀ t, t < len1 → wq.cell? ⟨w.heap.size, t, none⟩ = some (.int .i64 (xs.getD t 0))) := by
      intro t ht
      rw [hbq.cell (p := ⟨w.heap.size, t, none⟩) hgl, (unhide hOs).cellAt t (by omega)]
      simp [ints, hx, ht, List.getD]
    have hgl' : w.heap.size < wq.heap.size := by have := hbq.size; omega
    have hTl' : wc.heap.size < wq.heap.size := by have := hbq.size; omega
    have hBw : Hid (Below w.heap.size w wq) := hide ((unhide hBs).trans (hbq.mono (by have := (unhide hBs).size; omega)))
    obtain ⟨av, capv, hv⟩ : ∃ av capv, v1 = .slice av len1 capv := by
      rcases hown1.2 with ⟨h, h2⟩ | ⟨g', cap', _, h, _⟩
      · exact ⟨none, 0, by rw [h, h2]⟩
      · exact ⟨_, _, h⟩
    have hB : Hid (∀ t, t < len1 → ∃ gv, av = some ⟨gv, 0, none⟩ ∧ gv < wq.heap.size ∧ wq.cell? ⟨gv, t, none⟩ = some (.int .i64 (xs.getD t 0))) := by
      intro t ht
      obtain ⟨gv, cap', hv2⟩ := own_form' hown1 (by omega)
      rw [hv2] at hown1
      have e := hv.symm.trans hv2
      simp only [Value.slice.injEq] at e
      refine ⟨gv, e.1, (hown1.lt gv rfl).2, ?_⟩
      rw [hown1.cellAt t (by omega)]
      simp [ints, hx, ht, List.getD]
    subst hv
    clear hown1 hbq hTs hOs hBs c3 c4
    go_wp2_with fail
    go_loopw [25] (fun i wz => ∃ t : Nat, t ≤ len1 ∧ i = .int .i64 t ∧ Hid (Below wq.heap.size wq wz)) (fun i _ => len1 - (intOf i).toNat)
    case atStart => exact ⟨0, Nat.zero_le _, rfl, Below.refl _ _⟩
    case round =>
      obtain ⟨t, ht, rfl, hBz⟩ := hrel
      have x4 := ((unhide hBz).cell (p := ⟨wc.heap.size, 4, none⟩) hTl').trans d4
      by_cases htl : t < len1
      · obtain ⟨gv, rfl, hgvl, hgc⟩ := unhide hB t htl
        have x1 := ((unhide hBz).cell (p := ⟨w.heap.size, t, none⟩) hgl').trans (unhide hA t htl)
        have x2 := ((unhide hBz).cell (p := ⟨gv, t, none⟩) hgvl).trans hgc
        clear hgc hA hB
        generalize xs.getD t 0 = z at *
        go_wp2
        go_quiet (fail)
        go_wp2
        go_roundw
        case rel => exact ⟨t + 1, by omega, by go_num, hide (below_drewN (unhide hBz) _)⟩
        case measure => simp [intOf]; omega
      · go_wp2
        go_ret
        exact ⟨rfl, (unhide hBw).trans ((unhide hBz).mono (by have := (unhide hBw).size; omega))⟩

set_option maxRecDepth 100000 in
theorem walk_big1 (r0 s1 s2 e1 e2 : Int) (a1 a2 : Option Addr) (len1 cap1 len2 cap2 : Nat) (w : World) (h : 1024 < len1) :
    Calls Yba.prog 3 #[.int .i64 r0, .slice a1 len1 cap1, .slice a2 len2 cap2, .int .i64 s1, .int .i64 s2, .int .i64 e1, .int .i64 e2] w fun e w' =>
      e = .returned (.bool true) ∧ Below w.heap.size w w' := by
  have hb : decide ((1024 : Int) < len1) = true := decide_eq_true (by omega)
  go_enter Yba.func3, Yba.ntmps3
  go_wp2
  go_ret
  exact ⟨rfl, Below.refl _ _⟩

set_option maxRecDepth 100000 in
theorem walk_big2 (r0 s1 s2 e1 e2 : Int) (a1 a2 : Option Addr) (len1 cap1 len2 cap2 : Nat) (w : World) (h1 : len1 ≤ 1024) (h : 1024 < len2) :
    Calls Yba.prog 3 #[.int .i64 r0, .slice a1 len1 cap1, .slice a2 len2 cap2, .int .i64 s1, .int .i64 s2, .int .i64 e1, .int .i64 e2] w fun e w' =>
      e = .returned (.bool true) ∧ Below w.heap.size w w' := by
  have ha : decide ((1024 : Int) < len1) = false := decide_eq_false (by omega)
  have hb : decide ((1024 : Int) < len2) = true := decide_eq_true (by omega)
  go_enter Yba.func3, Yba.ntmps3
  go_wp2
  go_ret
  exact ⟨rfl, Below.refl _ _⟩
end Go.Proofs.Ybulkbzeg
