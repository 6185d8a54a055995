/-
  The walk of LawS3778AModel at level 1.
-/
import Derived.Test.YbulkbzfiLawA
namespace Go.Proofs.Ybulkbzfi
open Go.RowKit

theorem rcnt_le (κ : List (Option Nat)) (l0 : List (Nat × Int)) : ∀ k, rcnt κ l0 k ≤ k
  | 0 => Nat.le_refl _
  | k + 1 => by
    have := rcnt_le κ l0 k
    simp only [rcnt]
    split
    · omega
    · split <;> omega

set_option maxHeartbeats 6400000 in
set_option maxRecDepth 100000 in
theorem lawA_one (lv pf mask : Int) (ns : List (List Int)) (a : Option Addr) (n cap : Nat) (d : List In3) (w : World) (G : Grid ns) (h : Arg w a n cap d) (hn : n ≤ 1024) (hlv0 : 0 ≤ lv) (hlv : lv ≤ 255) (hpf0 : 0 ≤ pf) (hpf : pf ≤ 255) (hl : lv % 2 = 1) :
    Calls Yba.prog 3 #[.int .u8 lv, .int .u8 pf, .int .u16 mask, .agg (grid ns), .slice a n cap] w fun e w' => e = .returned (.bool true) ∧ Below w.heap.size w w' := by
  have hB0 : Hid (Below w.heap.size w (w.alloc (.cells (grid ns) 24))) := hide ((Below.refl _ _).alloc (Nat.le_refl _) _)
  have hb0 : Hid ((w.alloc (.cells (grid ns) 24)).heap[w.heap.size]? = some (.cells (grid ns) 24 (0, 0))) := hide (heap_alloc_new w _)
  have t1 : decide ((1024 : Int) < (n : Int)) = false := decide_eq_false (by omega)
  have hG := hide G
  have hA := hide h
  clear G h
  go_enter Yba.func3, Yba.ntmps3
  go_wp2_with (refine wpList_load_mid (by rfl) 24 _ (by rfl) w.heap.size 0 (by rfl) (grid ns).toList (.array 16 23) (grid_range (unhide hb0)) Yba.underlying24 rfl (by rw [grid_len (unhide hG)]; exact info24) ?_)
  refine (tree_one mask ns _ (unhide hG)).mono ?_
  rintro _ w1 ⟨V, κ, rfl, k1, k2, k3⟩
  have hB1 : Hid (Below w.heap.size w w1) := hide ((unhide hB0).trans (k3.mono (unhide hB0).size))
  have hb1 : Hid (w1.heap[w.heap.size]? = some (.cells (grid ns) 24 (0, 0))) := hide ((k3.block _ (lt_of_block (unhide hb0))).trans (unhide hb0))
  have hN1 := hide k2
  clear k1 k2 k3 hB0 hb0
  go_wp2_with fail
  refine (build_any a n cap d w1 ((unhide hA).below (unhide hB1)) hn).mono ?_
  rintro _ w2 ⟨M, rfl, k1, k2, k3⟩
  have hB2 : Hid (Below w.heap.size w w2) := hide ((unhide hB1).trans (k3.mono (unhide hB1).size))
  have hb2 : Hid (w2.heap[w.heap.size]? = some (.cells (grid ns) 24 (0, 0))) := hide ((k3.block _ (lt_of_block (unhide hb1))).trans (unhide hb1))
  have hN2 : Hid (Kids w2 V κ ns) := hide ((unhide hN1).kept k3)
  have hM2 := hide k2
  clear k1 k2 k3 hB1 hb1 hN1
  have hmm := @run_makeMap Yba.prog
  have hb36 := run_b36
  go_wp2_with fail
  obtain ⟨W, hW⟩ : ∃ W, W = (w2.alloc (.map #[] 0)).alloc (.cells #[.map none, .map (some M), .map none, .map (some w2.heap.size)] 36) := ⟨_, rfl⟩
  obtain ⟨q1, q2, q3, q4, q5, q6⟩ := setup (unhide hM2) hW
  rw [← hW]
  have hBW : Hid (Below w.heap.size w W) := hide ((unhide hB2).trans (q5.mono (unhide hB2).size))
  have hbW : Hid (W.heap[w.heap.size]? = some (.cells (grid ns) 24 (0, 0))) := hide ((q5.block _ (lt_of_block (unhide hb2))).trans (unhide hb2))
  have hNW : Hid (Kids W V κ ns) := hide ((unhide hN2).kept q5)
  have hp0 : 0 ≤ pf % 2 := by omega
  have hp1 : pf % 2 ≤ 1 := by omega
  have hTg : w.heap.size ≤ w2.heap.size := (unhide hB2).size
  refine (term_root _ M _ V κ [] d ns (pf % 2) W q1 q2 (unhide hNW) (unhide hG) q3 q4 (unhide hA).pos hp0 (by omega) rfl).mono ?_
  rintro _ w3 ⟨rfl, hgr, l, hT3, hMid⟩
  have hne : w.heap.size ≠ w2.heap.size := by have := lt_of_block (unhide hb2); omega
  have hT3h := hide hT3
  have hMidh := hide hMid
  have hX3 := hide (q1.grown hgr (by omega))
  have hXl3 : Hid (w2.heap.size + 1 < w3.heap.size) := hide (Nat.lt_of_lt_of_le q6 hgr.size)
  have hB3 : Hid (Below w.heap.size w w3) := hide ((unhide hBW).grown hgr (unhide hBW).size (fun k hk => by cases hk; exact hTg))
  have hb3 : Hid (w3.heap[w.heap.size]? = some (.cells (grid ns) 24 (0, 0))) := hide ((hgr.block _ (lt_of_block (unhide hbW)) (by simpa using hne)).trans (unhide hbW))
  have hK3 := hide ((unhide hNW).grown q2 hgr)
  have hfl : Hid (∀ j : Nat, lsum d (ns.getD j []) (pf % 2 * 16 + j) 16 = (fun j : Nat => lsum d (ns.getD j []) (pf % 2 * 16 + j) 16) j) := hide (fun j => rfl)
  clear q1 q2 q3 q4 q5 q6 hT3 hMid hgr hW hBW hbW hNW hB2 hb2 hN2 hM2
  generalize (fun j : Nat => lsum d (ns.getD j []) (pf % 2 * 16 + j) 16) = f at *
  generalize hvd : kval κ [] f = v at *
  replace hvd := hide hvd
  generalize w2.heap.size = T at *
  go_wp2_with fail
  go_loopw [16, 17, 18] (fun x y z wr => ∃ k : Nat, k ≤ 16 ∧ x = .int .u64 (rsum v k) ∧ y = .int .i64 (1 + (rcnt κ [] k : Nat)) ∧ z = .int .i64 k ∧ Hid (Below w3.heap.size w3 wr)) (fun _ _ z _ => 16 - (intOf z).toNat)
  case atStart => exact ⟨0, Nat.zero_le _, rfl, rfl, rfl, hide (Below.refl _ _)⟩
  case round =>
    obtain ⟨k, hk, rfl, rfl, rfl, hBr⟩ := hrel
    have hTr := (unhide hT3h).kept (unhide hBr)
    have hKr := (unhide hK3).kept (unhide hBr)
    have c3 := ((unhide hX3).kept (unhide hXl3) (unhide hBr)).terms
    have hBwr : Hid (Below w.heap.size w wr) := hide ((unhide hB3).trans ((unhide hBr).mono (unhide hB3).size))
    by_cases hlt : k < 16
    · have c0 := kid_at hKr hlt
      have i1 : (k : Int) < 16 := by omega
      have hor := or16 (pf % 2) k hp0 (by omega) (by omega) i1
      have hrc := rcnt_le κ [] k
      have hrs : Hid (rsum v (k + 1) = match v k with | none => rsum v k | some x => IntKind.u64.wrap (rsum v k + x)) := hide rfl
      have hrn : Hid (rcnt κ [] (k + 1) = rcnt κ [] k + (match κ.getD k none with | none => 0 | some K => if asc [] K = none then 1 else 0)) := hide rfl
      cases hkk : κ.getD k none with
      | none =>
        rw [hkk] at c0
        simp only [Option.map_none] at c0
        have hv : v k = none := by rw [← unhide hvd, kval, hkk]; rfl
        have hs1 : Hid (rsum v (k + 1) = rsum v k) := hide (by rw [unhide hrs, hv])
        have hn1 : Hid (rcnt κ [] (k + 1) = rcnt κ [] k) := hide (by rw [unhide hrn, hkk]; rfl)
        clear hrs hrn hTr hKr hv
        generalize rcnt κ [] k = C at *
        go_wp2
        go_roundw
        case rel => exact ⟨k + 1, by omega, by rw [unhide hs1], by rw [unhide hn1], by go_num, hBr⟩
        case measure => simp [intOf]; omega
      | some K =>
        rw [hkk] at c0
        simp only [Option.map_some] at c0
        obtain ⟨hVK, hNK⟩ := hKr.at_ k K hkk
        have hv : v k = some (f k) := by rw [← unhide hvd, kval, hkk]; rfl
        have hs1 : Hid (rsum v (k + 1) = IntKind.u64.wrap (rsum v k + f k)) := hide (by rw [unhide hrs, hv])
        have hn1 : Hid (rcnt κ [] (k + 1) = rcnt κ [] k + 1) := hide (by rw [unhide hrn, hkk]; rfl)
        have hasc : Hid (asc (l ++ [(V, rsum v 16)]) K = some (f k)) := hide (by
          rw [asc_snoc l V K _ (unhide hMidh).root, if_neg (by omega)]
          exact (unhide hMidh).done k K hlt hkk)
        have hbr : wr.heap[w.heap.size]? = some (.cells (grid ns) 24 (0, 0)) := ((unhide hBr).block _ (lt_of_block (unhide hb3))).trans (unhide hb3)
        have g0 := grid_at (unhide hG) hbr k 0 hlt (by decide)
        have g1 := grid_at (unhide hG) hbr k 1 hlt (by decide)
        have g2 := grid_at (unhide hG) hbr k 2 hlt (by decide)
        have g3 := grid_at (unhide hG) hbr k 3 hlt (by decide)
        have g4 := grid_at (unhide hG) hbr k 4 hlt (by decide)
        have g5 := grid_at (unhide hG) hbr k 5 hlt (by decide)
        have g6 := grid_at (unhide hG) hbr k 6 hlt (by decide)
        have g7 := grid_at (unhide hG) hbr k 7 hlt (by decide)
        have g8 := grid_at (unhide hG) hbr k 8 hlt (by decide)
        have g9 := grid_at (unhide hG) hbr k 9 hlt (by decide)
        have g10 := grid_at (unhide hG) hbr k 10 hlt (by decide)
        have g11 := grid_at (unhide hG) hbr k 11 hlt (by decide)
        have g12 := grid_at (unhide hG) hbr k 12 hlt (by decide)
        have g13 := grid_at (unhide hG) hbr k 13 hlt (by decide)
        have g14 := grid_at (unhide hG) hbr k 14 hlt (by decide)
        have g15 := grid_at (unhide hG) hbr k 15 hlt (by decide)
        simp only [Nat.add_zero] at g0
        have hr := hide ((unhide hG).row k hlt)
        have hr8 := hide ((unhide hG).le k hlt)
        have hf := hide (unhide hfl k)
        have hKo : Hid (IsObj wr K) := hide ⟨_, _, hNK⟩
        clear hrs hrn hTr hKr hNK hbr hv
        generalize ns.getD k [] = r at *
        generalize rcnt κ [] k = C at *
        go_wp2_with fail
        refine (leafsum_lit a n cap d r (pf % 2 * 16 + k) wr ((unhide hA).below (unhide hBwr)) (by omega) (unhide hr) (unhide hr8) (by omega) (by omega)).mono ?_
        rintro _ w4 ⟨rfl, k1⟩
        have hBr4 : Hid (Below w3.heap.size w3 w4) := hide ((unhide hBr).trans (k1.mono (unhide hBr).size))
        have hlk := ((unhide hT3h).kept (unhide hBr4)).look ((unhide hKo).kept k1)
        have c4 := ((unhide hX3).kept (unhide hXl3) (unhide hBr4)).terms
        rw [unhide hasc] at hlk
        simp only [tkey, Option.getD_some, Option.isSome_some] at hlk
        rw [unhide hf]
        clear g0 g1 g2 g3 g4 g5 g6 g7 g8 g9 g10 g11 g12 g13 g14 g15 k1 c0 c3
        generalize f k = R at *
        go_wp2
        go_roundw
        case rel => exact ⟨k + 1, by omega, by rw [unhide hs1], by rw [unhide hn1]; go_num, by go_num, hBr4⟩
        case measure => simp [intOf]; omega
    · obtain rfl : k = 16 := by omega
      have hlk := hTr.look (show IsObj wr V from ⟨_, _, hKr.node⟩)
      rw [asc_snoc l V V _ (unhide hMidh).root, if_pos rfl] at hlk
      simp only [tkey, Option.getD_some, Option.isSome_some] at hlk
      have hln := hTr.lenRun
      rw [List.length_append, (unhide hMidh).len] at hln
      simp only [List.length_cons, List.length_nil, Nat.zero_add] at hln
      have hrc := rcnt_le κ [] 16
      have e1 : ((rcnt κ [] 16 + 1 : Nat) : Int) = 1 + (rcnt κ [] 16 : Int) := by omega
      rw [e1] at hln
      clear e1 hTr hKr
      generalize rcnt κ [] 16 = C at *
      generalize rsum v 16 = R at *
      go_wp2
      go_ret
      exact ⟨rfl, unhide hBwr⟩
end Go.Proofs.Ybulkbzfi
