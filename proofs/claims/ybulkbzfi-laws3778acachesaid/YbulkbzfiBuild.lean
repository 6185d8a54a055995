/-
  The contract of zzs3778abuild.
-/
import Derived.Test.YbulkbzfiBld
import Derived.Deep.RegionLaw
namespace Go.Proofs.Ybulkbzfi
open Go.RowKit

theorem run_b73 (w : World) : (Instr.build 73 #[]).run Yba.prog w = .ok (.agg #[.slice none 0 0, .slice none 0 0]) w := by kernel_rfl
theorem info27 : (Yba.prog.info? 27).map (fun i => (i.zero, i.size, i.bytes)) = some (some (.int .u64 0), 1, 8) := by kernel_rfl

set_option maxHeartbeats 3200000 in
set_option maxRecDepth 100000 in
theorem build_nil (w : World) :
    Calls Yba.prog 7 #[.slice none 0 0] w fun e w' => ∃ M, e = .returned (.map (some M)) ∧ w.heap.size ≤ M ∧ Asks w' M (fun g m => md g m []) ∧ Below w.heap.size w w' := by
  have hmm := @run_makeMap Yba.prog
  have hA : Hid (Asks (w.alloc (.map #[] 0)) w.heap.size (fun g m => md g m [])) := hide ⟨[], ⟨#[], 0, heap_alloc_new w _, rfl⟩, fun g => .inl ⟨rfl, fun n => rfl⟩⟩
  have hB : Hid (Below w.heap.size w (w.alloc (.map #[] 0))) := hide ((Below.refl _ _).alloc (Nat.le_refl _) _)
  go_enter Yba.func7, Yba.ntmps7
  go_wp2_with fail
  refine (clone_nil w).mono ?_
  rintro _ w1 ⟨rfl, hw1⟩
  rw [hw1]
  go_wp2_with fail
  refine (sort_none w).mono ?_
  rintro _ w2 ⟨rfl, hw2⟩
  rw [hw2]
  clear hw1 hw2
  go_wp2_with fail
  obtain ⟨W, hW⟩ : ∃ W, W = w.alloc (.map #[] 0) := ⟨_, rfl⟩
  rw [← hW] at hA hB ⊢
  replace hW := hide hW
  go_loopw [18] (fun x wr => x = .int .i64 0 ∧ Hid (wr = W)) (fun _ _ => 0)
  case atStart => exact ⟨rfl, hide rfl⟩
  case round =>
    obtain ⟨rfl, hw⟩ := hrel
    have hw' := unhide hw
    subst hw'
    go_wp2
    go_ret
    exact ⟨_, rfl, Nat.le_refl _, unhide hA, unhide hB⟩

set_option maxHeartbeats 6400000 in
set_option maxRecDepth 100000 in
theorem build_any (a : Option Addr) (n cap : Nat) (d : List In3) (w : World) (h : Arg w a n cap d) (hn : n ≤ 1024) :
    Calls Yba.prog 7 #[.slice a n cap] w fun e w' => ∃ M, e = .returned (.map (some M)) ∧ w.heap.size ≤ M ∧ Asks w' M (fun g m => md g m d) ∧ Below w.heap.size w w' := by
  obtain ⟨i0, hi0, hz0, hz1, hz2⟩ := info_parts info27
  cases a with
  | none =>
    obtain ⟨rfl, rfl⟩ := h.nil rfl
    have hd : d = [] := List.eq_nil_of_length_eq_zero h.len
    subst hd
    exact build_nil w
  | some ad =>
    have hA := hide h
    clear h
    have hmm := @run_makeMap Yba.prog
    have hb73 := run_b73
    go_enter Yba.func7, Yba.ntmps7
    go_wp2_with fail
    refine (clone_some ad n cap d w (unhide hA).len (by omega) ((unhide hA).cells ad rfl)).mono ?_
    rintro _ w1 ⟨g, c, rest, rfl, hg, hR, hB1⟩
    have hRh := hide hR
    have hB1h := hide hB1
    clear hR hB1
    go_wp2_with fail
    refine (sort_any g c n d rest w1 (unhide hRh) (unhide hA).len (by omega)).mono ?_
    rintro _ w2 ⟨rfl, d', hR, hSt, hSr, hG⟩
    have hR2 := hide hR
    have hS2 := hide (And.intro hSt hSr)
    have hB2 : Hid (Below w.heap.size w w2) := hide ((unhide hB1h).grown hG (unhide hB1h).size (fun k hk => by cases hk; exact hg))
    have hgl := hide hR.lt
    clear hR hSt hSr hG hRh hB1h
    go_wp2_with fail
    have hlen : Hid (d'.length = n) := hide ((unhide hS2).1.len.trans (unhide hA).len)
    have hwf : Hid (∀ j, j < n → 0 ≤ (el d' j).1 ∧ (el d' j).1 ≤ 255 ∧ 0 ≤ (el d' j).2.1 ∧ (el d' j).2.1 ≤ 255 ∧ 0 ≤ (el d' j).2.2 ∧ (el d' j).2.2 < 18446744073709551616) := hide (fun j hj => by
      obtain ⟨s, _, s2, e⟩ := (unhide hS2).1.fr j (Nat.zero_le _) hj
      rw [e]; exact (unhide hA).wf s s2)
    have hR3 : Hid (Row (w2.alloc (.map #[] 0)) g d' rest) := hide ((unhide hR2).alloc _)
    have hB3 : Hid (Below w.heap.size w (w2.alloc (.map #[] 0))) := hide ((unhide hB2).alloc (unhide hB2).size _)
    have hBl : Hid (Bld (w2.alloc (.map #[] 0)) w.heap.size w2.heap.size [] (fun _ => (0, 3)) (d'.take 0)) := hide ⟨⟨#[], 0, heap_alloc_new w2 _, rfl⟩, (unhide hB2).size, fun g => .inl ⟨rfl, rfl⟩⟩
    clear hR2 hB2 hgl
    generalize w2.alloc (.map #[] 0) = w0 at *
    generalize w2.heap.size = M at *
    go_loopw [18] (fun x wr => ∃ (k : Nat) (lA : List (Int × Nat)) (τ : Nat → Int × Nat), k ≤ n ∧ x = .int .i64 k ∧ Hid (Bld wr w.heap.size M lA τ (d'.take k)) ∧ Hid (Row wr g d' rest) ∧ Hid (Below w.heap.size w wr)) (fun x _ => n - (intOf x).toNat)
    case atStart => exact ⟨0, [], _, Nat.zero_le _, rfl, hBl, hR3, hB3⟩
    case round =>
      obtain ⟨k, lA, τ, hk, rfl, hBk, hRk, hBw⟩ := hrel
      clear hBl hR3 hB3
      by_cases hlt : k < n
      · have x0 := (unhide hRk).c0 k (by rw [unhide hlen]; exact hlt)
        have x1 := (unhide hRk).c1 k (by rw [unhide hlen]; exact hlt)
        have x2 := (unhide hRk).c2 k (by rw [unhide hlen]; exact hlt)
        obtain ⟨f0, f1, f2, f3, f4, f5⟩ := unhide hwf k hlt
        have i1 : (k : Int) < (n : Int) := by omega
        have hq : Hid (d'.take (k + 1) = d'.take k ++ [el d' k]) := hide (by
          rw [List.take_add_one, List.getElem?_eq_getElem (by rw [unhide hlen]; exact hlt)]
          simp [el, List.getD, show k < d'.length by rw [unhide hlen]; exact hlt])
        have hql : Hid ((d'.take k).length = k) := hide (by rw [List.length_take, unhide hlen]; omega)
        generalize el d' k = Y at *
        generalize hq1 : d'.take (k + 1) = q1 at *
        replace hq1 := hide hq1
        generalize d'.take k = q at *
        obtain ⟨Y0, Y1, Y2⟩ := Y
        dsimp only at x0 x1 x2 f0 f1 f2 f3 f4 f5
        have hlk := fun (o : Obj) => ((unhide hBk).1.of_block (Below.heap_alloc wr o M (unhide hBk).1.lt)).look Y0
        rcases (unhide hBk).2.2 Y0 with ⟨hn1, hn2⟩ | ⟨S, hS1, hE⟩
        · have hWo : Hid (∀ o b, b < wr.heap.size → b ≠ M → (turned ((wr.alloc (.cells #[.int .u8 Y0, .int .u8 Y1, .int .u64 Y2] 67)).alloc (.cells #[.slice none 0 0, .slice none 0 0] 73)) M o).heap[b]? = wr.heap[b]?) := hide (fun o b hb hbM => by
            rw [(turned_grown _ M o).block b (by simp; omega) (by simpa using hbM), Below.heap_alloc _ _ _ (by simp; omega), Below.heap_alloc _ _ _ hb])
          have hMl := (unhide hBk).1.lt
          have hVW : Hid (∀ o, (turned ((wr.alloc (.cells #[.int .u8 Y0, .int .u8 Y1, .int .u64 Y2] 67)).alloc (.cells #[.slice none 0 0, .slice none 0 0] 73)) M o).heap[wr.heap.size]? = some (.cells #[.int .u8 Y0, .int .u8 Y1, .int .u64 Y2] 67 (0, 0))) := hide (fun o => by
            rw [(turned_grown _ M o).block _ (by simp; omega) (by simp; omega), Below.heap_alloc _ _ _ (by simp)]; exact heap_alloc_new wr _)
          have hSW : Hid (∀ o, (turned ((wr.alloc (.cells #[.int .u8 Y0, .int .u8 Y1, .int .u64 Y2] 67)).alloc (.cells #[.slice none 0 0, .slice none 0 0] 73)) M o).heap[wr.heap.size + 1]? = some (.cells #[.slice none 0 0, .slice none 0 0] 73 (0, 0))) := hide (fun o => by
            rw [(turned_grown _ M o).block _ (by simp) (by simp; omega)]
            have := heap_alloc_new (wr.alloc (.cells #[.int .u8 Y0, .int .u8 Y1, .int .u64 Y2] 67)) (.cells #[.slice none 0 0, .slice none 0 0] 73)
            simpa using this)
          have hWb : Hid (∀ o, Below w.heap.size wr (turned ((wr.alloc (.cells #[.int .u8 Y0, .int .u8 Y1, .int .u64 Y2] 67)).alloc (.cells #[.slice none 0 0, .slice none 0 0] 73)) M o)) := hide (fun o =>
            Below.grown (((Below.refl _ _).alloc (unhide hBw).size _).alloc (by have := (unhide hBw).size; simp; omega) _) (turned_grown _ M o) (by have := (unhide hBw).size; simp; omega) (fun k hk => by cases hk; exact (unhide hBk).2.1))
          have hWs : Hid (∀ o, (turned ((wr.alloc (.cells #[.int .u8 Y0, .int .u8 Y1, .int .u64 Y2] 67)).alloc (.cells #[.slice none 0 0, .slice none 0 0] 73)) M o).heap.size = wr.heap.size + 2) := hide (fun o => by simp [turned])
          have hAM : AMap ((wr.alloc (.cells #[.int .u8 Y0, .int .u8 Y1, .int .u64 Y2] 67)).alloc (.cells #[.slice none 0 0, .slice none 0 0] 73)) M lA := (unhide hBk).1.of_block (by rw [Below.heap_alloc _ _ _ (by simp; omega), Below.heap_alloc _ _ _ hMl])
          obtain ⟨o, hput, hM1⟩ := hAM.put Y0 (wr.heap.size + 1) hn1
          simp only [tkey] at hput
          simp only [hn1, Option.map_none] at hlk
          have s1 : (turned ((wr.alloc (.cells #[.int .u8 Y0, .int .u8 Y1, .int .u64 Y2] 67)).alloc (.cells #[.slice none 0 0, .slice none 0 0] 73)) M o).cell? ⟨wr.heap.size + 1, 1, none⟩ = some (.slice none 0 0) := by rw [cell_of_row _ _ _ _ 73 (0, 0) (unhide hSW o)]; rfl
          have hM1h := hide hM1
          have hn12 := hide (And.intro hn1 hn2)
          clear hAM hM1 hn1 hn2
          go_wp2_with fail
          replace hWo := hide (unhide hWo o)
          replace hVW := hide (unhide hVW o)
          replace hSW := hide (unhide hSW o)
          replace hWb := hide (unhide hWb o)
          replace hWs := hide (unhide hWs o)
          clear hput hlk x0 x1 x2
          generalize turned ((wr.alloc (.cells #[.int .u8 Y0, .int .u8 Y1, .int .u64 Y2] 67)).alloc (.cells #[.slice none 0 0, .slice none 0 0] 73)) M o = W at *
          generalize hVn : wr.heap.size = V at *
          generalize hSn : V + 1 = S at *
          have l2 : S < W.heap.size := lt_of_block (unhide hSW)
          have l3 : V < W.heap.size := lt_of_block (unhide hVW)
          have l7 : V ≤ W.heap.size := by omega
          have hBV : w.heap.size ≤ V := by rw [← hVn]; exact (unhide hBw).size
          have hBS : w.heap.size ≤ S := by omega
          have l1 : w.heap.size ≤ W.heap.size := by omega
          have nVS : V ≠ S := by omega
          have v1 : W.cell? ⟨V, 1, none⟩ = some (.int .u8 Y1) := by rw [cell_of_row W V _ _ 67 (0, 0) (unhide hVW)]; rfl
          have z0 : W.cell? ⟨S, 0, none⟩ = some (.slice none 0 0) := by rw [cell_of_row W S _ _ 73 (0, 0) (unhide hSW)]; rfl
          clear s1
          replace hWs := hide hWs
          go_region_law
            ((refine step_append_lies _ (by rfl) _ _ _ (by rfl) w.heap.size 27 i0 _ 1 8 Yba.underlying50 hi0 hz0 hz1 hz2 rfl (by omega) (.slice none 0 0) 0 [] (by rfl) (World.ownsRow_nil _ _ _ _)
                ⟨W.heap.size, 0, none⟩ 1 1 [.int .u64 (IntKind.u64.wrap Y1)] (by rfl) (by rfl) (World.news_of_block (cs := #[.int .u64 (IntKind.u64.wrap Y1)]) (t := 27) (fr := (0, 0)) (heap_alloc_new W _)) (by simp [Value.oneCell'])
                (by omega) (by unfold maxLen; omega) (by omega) (by simp; omega) (W.heap.size + 1) (by simp) ?_; intro gg cap1 w3 hown1 hgrow hat hlt1; have hS3 := (hgrow.block S (by simp; omega) (by simp [Value.ownBlock])).trans ((Below.heap_alloc W _ S l2).trans (unhide hSW)); have d1 : w3.cell? ⟨S, 0, none⟩ = some (.slice none 0 0) := (by rw [cell_of_row w3 S _ _ 73 (0, 0) hS3]; rfl); have d2 := frozen_of_row w3 S 0 _ 73 hS3))
          all_goals
            have hap := app_out (j := 0) (u := .slice (some ⟨gg, 0, none⟩) (0 + 1) cap1) (unhide hSW) hBS l1 (fun k hk => by simp [Value.ownBlock] at hk) hgrow hown1 hat
            have hatc : W.heap.size ≤ gg := by
              rcases hat with h | h
              · simp [Value.ownBlock] at h
              · omega
            clear d1 d2 hS3 hgrow hown1 hat hlt1
            simp only [Nat.zero_add] at hap ⊢
            generalize w3.setCell ⟨S, 0, none⟩ (.slice (some ⟨gg, 0, none⟩) 1 cap1) = W4 at *
            obtain ⟨a1, a2, a3, a4, a5, a6, a7⟩ := hap
            replace a1 : W4.heap[S]? = some (.cells #[.slice (some ⟨gg, 0, none⟩) 1 cap1, .slice none 0 0] 73 (0, 0)) := a1
            have hV4 : Hid (W4.heap[V]? = some (.cells #[.int .u8 Y0, .int .u8 Y1, .int .u64 Y2] 67 (0, 0))) := hide ((a3 V l3 nVS (by simp [Value.ownBlock])).trans (unhide hVW))
            have y1 : W4.cell? ⟨S, 1, none⟩ = some (.slice none 0 0) := by rw [cell_of_row W4 S _ _ 73 (0, 0) a1]; rfl
            have y2 : W4.cell? ⟨V, 2, none⟩ = some (.int .u64 Y2) := by rw [cell_of_row W4 V _ _ 67 (0, 0) (unhide hV4)]; rfl
            have m1 : w.heap.size ≤ W4.heap.size := by omega
            have m2 : S < W4.heap.size := by omega
            have a1h := hide a1
            have a2h := hide a2
            have a3h := hide a3
            have a5h := hide a5
            clear a1 a2 a3 a5 v1 z0
            go_wp2_with fail
            go_region_law
              ((refine step_append_lies _ (by rfl) _ _ _ (by rfl) w.heap.size 27 i0 _ 1 8 Yba.underlying50 hi0 hz0 hz1 hz2 rfl (by omega) (.slice none 0 0) 0 [] (by rfl) (World.ownsRow_nil _ _ _ _)
                  ⟨W4.heap.size, 0, none⟩ 1 1 [.int .u64 (IntKind.u64.wrap Y2)] (by rfl) (by rfl) (World.news_of_block (cs := #[.int .u64 (IntKind.u64.wrap Y2)]) (t := 27) (fr := (0, 0)) (heap_alloc_new W4 _)) (by simp [Value.oneCell'])
                  (by omega) (by unfold maxLen; omega) (by omega) (by simp; omega) (W4.heap.size + 1) (by simp) ?_; intro g2 cap2 w5 hown2 hgrow2 hat2 hlt2; have hS5 := (hgrow2.block S (by simp; omega) (by simp [Value.ownBlock])).trans ((Below.heap_alloc W4 _ S m2).trans (unhide a1h)); have d1 : w5.cell? ⟨S, 1, none⟩ = some (.slice none 0 0) := (by rw [cell_of_row w5 S _ _ 73 (0, 0) hS5]; rfl); have d2 := frozen_of_row w5 S 1 _ 73 hS5))
          all_goals
            have hap := app_out (j := 1) (u := .slice (some ⟨g2, 0, none⟩) (0 + 1) cap2) (unhide a1h) hBS m1 (fun k hk => by simp [Value.ownBlock] at hk) hgrow2 hown2 hat2
            have hath : W4.heap.size ≤ g2 := by
              rcases hat2 with h | h
              · simp [Value.ownBlock] at h
              · omega
            clear d1 d2 hS5 hgrow2 hown2 hat2 hlt2
            simp only [Nat.zero_add] at hap ⊢
            generalize w5.setCell ⟨S, 1, none⟩ (.slice (some ⟨g2, 0, none⟩) 1 cap2) = W7 at *
            obtain ⟨e1, e2, e3, e4, e5, e6, e7⟩ := hap
            have hfin := hide (round_new (d' := d') (rest := rest) (gS := g) (unhide hBk) (unhide hn12).1 (unhide hn12).2
              (unhide hRk) (unhide hBw) (by rw [hVn]; exact unhide hWo) (unhide hM1h) (by rw [hVn]; exact l7) (by rw [hVn]; omega) l2 (unhide hWb) f2 f3 (unhide a2h) (fun b x1 x2 => unhide a3h b x1 x2 (by simp [Value.ownBlock])) (unhide a5h) a6 a7 hatc e1 e2
              (fun b x1 x2 => e3 b x1 x2 (by simp [Value.ownBlock])) e5 e7 hath)
            rw [← unhide hq] at hfin
            clear e1 e2 e3 e4 e5 e6 e7 y1 y2
            go_wp2
            go_roundw
            case rel => exact ⟨k + 1, _, _, by omega, by go_num, hide (by rw [unhide hq1]; exact (unhide hfin).1), hide (unhide hfin).2.1, hide (unhide hfin).2.2⟩
            case measure => simp [intOf]; omega
        · simp only [hS1, Option.map_some] at hlk
          obtain ⟨c', h', capc, caph, b1, t1, t2, o1, o2⟩ := hE.at_
          have hSl := lt_of_block b1
          have nS : S ≠ wr.heap.size := by omega
          have s0 : wr.cell? ⟨S, 0, none⟩ = some (.slice (some ⟨c', 0, none⟩) (grp Y0 q).length capc) := by rw [cell_of_row wr S _ _ 73 (0, 0) b1]; rfl
          have s1 : wr.cell? ⟨S, 1, none⟩ = some (.slice (some ⟨h', 0, none⟩) (grp Y0 q).length caph) := by rw [cell_of_row wr S _ _ 73 (0, 0) b1]; rfl
          have hLp := hE.pos
          have hLq : (grp Y0 q).length ≤ 1024 := by
            have h1 := List.length_filter_le (fun x : In3 => decide (x.1 = Y0)) q
            have h2 := unhide hql
            unfold grp
            omega
          have e1 : pre (hsOf (grp Y0 q)) (grp Y0 q).length = (hsOf (grp Y0 q)).getD ((grp Y0 q).length - 1) 0 := by rw [pre, if_neg (by omega)]
          have h0 : wr.cell? ⟨h', (grp Y0 q).length - 1, none⟩ = some (.int .u64 (pre (hsOf (grp Y0 q)) (grp Y0 q).length)) := by
            rw [o2.cellAt _ (by omega), e1]
            simp [u64s, List.getD, show (grp Y0 q).length - 1 < (hsOf (grp Y0 q)).length by rw [hs_len]; omega]
          have nc : c' < wr.heap.size := own_lt o1
          have nh : h' < wr.heap.size := own_lt o2
          have hO := hide (And.intro hE (And.intro b1 (And.intro t1 (And.intro t2 (And.intro o1 o2)))))
          have hS1' := hide hS1
          clear hE b1 t1 t2 o1 o2 e1 hS1
          have hPd : Hid (pre (hsOf (grp Y0 q)) (grp Y0 q).length = pre (hsOf (grp Y0 q)) (grp Y0 q).length) := hide rfl
          generalize hP : pre (hsOf (grp Y0 q)) (grp Y0 q).length = P at h0 hPd
          generalize hL : (grp Y0 q).length = L at s0 s1 h0 hLp hLq
          have nh' : h' ≠ wr.heap.size := by omega
          have i2 : (0 : Int) ≤ (L : Int) - 1 := by omega
          have i3 : (L : Int) - 1 < (L : Int) := by omega
          have i4 : decide ((0 : Int) < (L : Int)) = true := decide_eq_true (by omega)
          replace hP := hide hP
          replace hL := hide hL
          go_wp2_with fail
          have hVW : Hid ((wr.alloc (.cells #[.int .u8 Y0, .int .u8 Y1, .int .u64 Y2] 67)).heap[wr.heap.size]? = some (.cells #[.int .u8 Y0, .int .u8 Y1, .int .u64 Y2] 67 (0, 0))) := hide (heap_alloc_new wr _)
          have hWo : Hid (∀ b, b < wr.heap.size → (wr.alloc (.cells #[.int .u8 Y0, .int .u8 Y1, .int .u64 Y2] 67)).heap[b]? = wr.heap[b]?) := hide (fun b hb => Below.heap_alloc wr _ b hb)
          have hWs : (wr.alloc (.cells #[.int .u8 Y0, .int .u8 Y1, .int .u64 Y2] 67)).heap.size = wr.heap.size + 1 := by simp
          have hWb : Hid (Below w.heap.size wr (wr.alloc (.cells #[.int .u8 Y0, .int .u8 Y1, .int .u64 Y2] 67))) := hide ((Below.refl _ _).alloc (unhide hBw).size _)
          generalize wr.alloc (.cells #[.int .u8 Y0, .int .u8 Y1, .int .u64 Y2] 67) = W at *
          generalize hVn : wr.heap.size = V at *
          have hSW := (unhide hWo S hSl).trans (unhide hO).2.1
          rw [unhide hL] at hSW
          have oc := own_block (unhide hO).2.2.2.2.1 (unhide hWo c' nc)
          have oh := own_block (unhide hO).2.2.2.2.2 (unhide hWo h' nh)
          rw [unhide hL] at oc oh
          have v1 : W.cell? ⟨V, 1, none⟩ = some (.int .u8 Y1) := by rw [cell_of_row W V _ _ 67 (0, 0) (unhide hVW)]; rfl
          have v2 : W.cell? ⟨V, 2, none⟩ = some (.int .u64 Y2) := by rw [cell_of_row W V _ _ 67 (0, 0) (unhide hVW)]; rfl
          have z0 : W.cell? ⟨S, 0, none⟩ = some (.slice (some ⟨c', 0, none⟩) L capc) := by rw [cell_of_row W S _ _ 73 (0, 0) hSW]; rfl
          have z1 : W.cell? ⟨S, 1, none⟩ = some (.slice (some ⟨h', 0, none⟩) L caph) := by rw [cell_of_row W S _ _ 73 (0, 0) hSW]; rfl
          have fS := frozen_of_row W S 0 _ 73 hSW
          have nSc : S ≠ c' := by
            rintro rfl
            obtain ⟨cur, hc⟩ := own_cells oc
            rw [hSW] at hc; cases hc
          have hBV : w.heap.size ≤ V := by rw [← hVn]; exact (unhide hBw).size
          have l1 : w.heap.size ≤ W.heap.size := by omega
          have l2 : S < W.heap.size := by omega
          have l3 : V < W.heap.size := by omega
          have l4 : c' < W.heap.size := by omega
          have l5 : h' < W.heap.size := by omega
          have l6 : V ≠ c' := by omega
          have nSh : S ≠ h' := by
            rintro rfl
            obtain ⟨cur, hc⟩ := own_cells oh
            rw [hSW] at hc; cases hc
          have nch : c' ≠ h' := by
            rintro rfl
            have := (unhide hO).2.2.1.symm.trans (unhide hO).2.2.2.1
            simp at this
          have hBS : w.heap.size ≤ S := (unhide hO).1.base
          have hBc : w.heap.size ≤ c' := (oc.lt c' rfl).1
          have hBh : w.heap.size ≤ h' := (oh.lt h' rfl).1
          have hox0 : Hid (∀ k, (Value.slice (some ⟨c', 0, none⟩) L capc).ownBlock = some k → w.heap.size ≤ k ∧ k ≠ S) := hide (fun k hk => by simp [Value.ownBlock] at hk; subst hk; exact ⟨hBc, Ne.symm nSc⟩)
          have hox1 : Hid (∀ k, (Value.slice (some ⟨h', 0, none⟩) L caph).ownBlock = some k → w.heap.size ≤ k ∧ k ≠ S) := hide (fun k hk => by simp [Value.ownBlock] at hk; subst hk; exact ⟨hBh, Ne.symm nSh⟩)
          replace hWs := hide hWs
          have ocH := hide oc
          have ohH := hide oh
          have hSWh := hide hSW
          clear oc oh hSW x0 x1 x2 hlk s0 s1 h0
          go_region_law
            ((refine step_append_lies _ (by rfl) _ _ _ (by rfl) w.heap.size 27 i0 _ 1 8 Yba.underlying50 hi0 hz0 hz1 hz2 rfl (by omega) (.slice (some ⟨c', 0, none⟩) L capc) L (u64s (csOf (grp Y0 q))) (by rfl) (((unhide ocH).alloc _).drew)
                ⟨W.heap.size, 0, none⟩ 1 1 [.int .u64 (IntKind.u64.wrap Y1)] (by rfl) (by rfl) (World.news_of_block (cs := #[.int .u64 (IntKind.u64.wrap Y1)]) (t := 27) (fr := (0, 0)) (heap_alloc_new W _)) (by simp [Value.oneCell'])
                (by omega) (by unfold maxLen; omega) (by omega) (by simp; omega) (W.heap.size + 1) (by simp) ?_; intro gg cap1 w3 hown1 hgrow hat hlt1; have hS3 := (hgrow.block S (by simp; omega) (by simp [Value.ownBlock]; omega)).trans ((Below.heap_alloc W _ S l2).trans (unhide hSWh)); have d1 : w3.cell? ⟨S, 0, none⟩ = some (.slice (some ⟨c', 0, none⟩) L capc) := (by rw [cell_of_row w3 S _ _ 73 (0, 0) hS3]; rfl); have d2 := frozen_of_row w3 S 0 _ 73 hS3; have hV3 := (hgrow.block V (by simp; omega) (by simp [Value.ownBlock]; omega)).trans ((Below.heap_alloc W _ V l3).trans (unhide hVW)); have d3 : w3.cell? ⟨V, 1, none⟩ = some (.int .u8 Y1) := (by rw [cell_of_row w3 V _ _ 67 (0, 0) hV3]; rfl)))
          all_goals
            have hap := app_out (j := 0) (u := .slice (some ⟨gg, 0, none⟩) (L + 1) cap1) (unhide hSWh) hBS l1 (unhide hox0) hgrow hown1 hat
            have hatc : gg = c' ∨ W.heap.size ≤ gg := by
              rcases hat with h | h
              · exact .inl (by simpa [Value.ownBlock] using h.symm)
              · exact .inr (by omega)
            clear d1 d2 d3 hS3 hV3 hgrow hown1 hat hlt1
            generalize w3.setCell ⟨S, 0, none⟩ (.slice (some ⟨gg, 0, none⟩) (L + 1) cap1) = W4 at *
            obtain ⟨a1, a2, a3, a4, a5, a6, a7⟩ := hap
            replace a1 : W4.heap[S]? = some (.cells #[.slice (some ⟨gg, 0, none⟩) (L + 1) cap1, .slice (some ⟨h', 0, none⟩) L caph] 73 (0, 0)) := a1
            have hV4 : Hid (W4.heap[V]? = some (.cells #[.int .u8 Y0, .int .u8 Y1, .int .u64 Y2] 67 (0, 0))) := hide ((a3 V l3 (by omega) (by simp [Value.ownBlock]; omega)).trans (unhide hVW))
            have oh4 := hide (own_block (unhide ohH) (a3 h' l5 (Ne.symm nSh) (by simp [Value.ownBlock]; omega)))
            have y1 : W4.cell? ⟨S, 1, none⟩ = some (.slice (some ⟨h', 0, none⟩) L caph) := by rw [cell_of_row W4 S _ _ 73 (0, 0) a1]; rfl
            have y2 : W4.cell? ⟨V, 2, none⟩ = some (.int .u64 Y2) := by rw [cell_of_row W4 V _ _ 67 (0, 0) (unhide hV4)]; rfl
            have y3 := frozen_of_row W4 S 1 _ 73 a1
            have m1 : w.heap.size ≤ W4.heap.size := by omega
            have m2 : S < W4.heap.size := by omega
            have m3 : V < W4.heap.size := by omega
            have m5 : h' < W4.heap.size := by omega
            have a1h := hide a1
            have a2h := hide a2
            have a3h := hide a3
            have a5h := hide a5
            clear a1 a2 a3 a5 v1 v2 z0 z1 fS
            go_wp2_with fail
            go_region_law
              ((refine step_append_lies _ (by rfl) _ _ _ (by rfl) w.heap.size 27 i0 _ 1 8 Yba.underlying50 hi0 hz0 hz1 hz2 rfl (by omega) (.slice (some ⟨h', 0, none⟩) L caph) L (u64s (hsOf (grp Y0 q))) (by rfl) (((unhide oh4).alloc _).drew)
                  ⟨W4.heap.size, 0, none⟩ 1 1 [.int .u64 (IntKind.u64.wrap (P + Y2))] (by rfl) (by rfl) (World.news_of_block (cs := #[.int .u64 (IntKind.u64.wrap (P + Y2))]) (t := 27) (fr := (0, 0)) (heap_alloc_new W4 _)) (by simp [Value.oneCell'])
                  (by omega) (by unfold maxLen; omega) (by omega) (by simp; omega) (W4.heap.size + 1) (by simp) ?_; intro g2 cap2 w5 hown2 hgrow2 hat2 hlt2; have hS5 := (hgrow2.block S (by simp; omega) (by simp [Value.ownBlock]; omega)).trans ((Below.heap_alloc W4 _ S m2).trans (unhide a1h)); have d1 : w5.cell? ⟨S, 1, none⟩ = some (.slice (some ⟨h', 0, none⟩) L caph) := (by rw [cell_of_row w5 S _ _ 73 (0, 0) hS5]; rfl); have d2 := frozen_of_row w5 S 1 _ 73 hS5))
          all_goals
            have hap := app_out (j := 1) (u := .slice (some ⟨g2, 0, none⟩) (L + 1) cap2) (unhide a1h) hBS m1 (unhide hox1) hgrow2 hown2 hat2
            have hath : g2 = h' ∨ W4.heap.size ≤ g2 := by
              rcases hat2 with h | h
              · exact .inl (by simpa [Value.ownBlock] using h.symm)
              · exact .inr (by omega)
            clear d1 d2 hS5 hgrow2 hown2 hat2 hlt2
            generalize w5.setCell ⟨S, 1, none⟩ (.slice (some ⟨g2, 0, none⟩) (L + 1) cap2) = W7 at *
            obtain ⟨e1, e2, e3, e4, e5, e6, e7⟩ := hap
            have hfin := hide (round_old (d' := d') (rest := rest) (gS := g) (unhide hBk) (unhide hS1') (unhide hO).1 (unhide hL) (unhide hP) (unhide hO).2.1 (unhide hO).2.2.1 (unhide hO).2.2.2.1 (own_cells (unhide hO).2.2.2.2.1) (own_cells (unhide hO).2.2.2.2.2)
              (unhide hRk) (unhide hBw) (by rw [hVn]; exact unhide hWo) (by rw [hVn]; have := unhide hWs; omega) (unhide hWb) nSc nSh nch f2 f3 (unhide a2h) (fun b x1 x2 x3 => unhide a3h b x1 x2 (by simp [Value.ownBlock]; exact x3)) a4 (unhide a5h) a6 a7 hatc e1 e2
              (fun b x1 x2 x3 => e3 b x1 x2 (by simp [Value.ownBlock]; exact x3)) e5 e7 hath)
            rw [← unhide hq] at hfin
            clear e1 e2 e3 e4 e5 e6 e7 y1 y2 y3
            go_wp2
            go_roundw
            case rel => exact ⟨k + 1, lA, _, by omega, by go_num, hide (by rw [unhide hq1]; exact (unhide hfin).1), hide (unhide hfin).2.1, hide (unhide hfin).2.2⟩
            case measure => simp [intOf]; omega
      · have hkn : k = n := by omega
        have e0 : d'.take k = d' := List.take_of_length_le (by rw [unhide hlen]; omega)
        have hfin := hide (bld_asks (by have h := unhide hBk; rwa [e0] at h) (unhide hS2).1.perm (by rw [unhide hlen]; exact (unhide hS2).2) (by rw [unhide hlen]; omega))
        have hM := (unhide hBk).2.1
        go_wp2
        go_ret
        exact ⟨M, rfl, hM, unhide hfin, unhide hBw⟩
end Go.Proofs.Ybulkbzfi
