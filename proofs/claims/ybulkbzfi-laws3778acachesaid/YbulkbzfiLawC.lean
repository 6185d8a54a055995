/-
  The walk of LawS3778ACache.
-/
import Derived.Test.YbulkbzfiLawA1
import Derived.RegionTactic
import Derived.BigRegion
import Derived.Deep.Cut
namespace Go.Proofs.Ybulkbzfi
open Go.RowKit

set_option maxHeartbeats 3200000 in
set_option maxRecDepth 100000 in
theorem lawC_long (mask : Int) (ns : List (List Int)) (a : Option Addr) (n cap : Nat) (c seed : Int) (w : World) (hn : 1024 < n) (hn2 : n ≤ 9223372036854775807) :
    Calls Yba.prog 4 #[.int .u16 mask, .agg (grid ns), .slice a n cap, .int .u8 c, .int .u64 seed] w fun e w' => e = .returned (.bool true) ∧ Below w.heap.size w w' := by
  have hB : Hid (Below w.heap.size w (w.alloc (.cells (grid ns) 24))) := hide ((Below.refl _ _).alloc (Nat.le_refl _) _)
  have t1 : decide ((1024 : Int) < (n : Int)) = true := decide_eq_true (by omega)
  go_enter Yba.func4, Yba.ntmps4
  go_wp2
  go_ret
  exact ⟨rfl, unhide hB⟩

/-- What the index holds ahead of the asking. -/
structure Seeded (w : World) (X M T V m : Nat) (κ : List (Option Nat)) (l0 : List (Nat × Int)) (ns : List (List Int)) (d : List In3) (seed : Int) : Prop where
  x : XObj w X M T
  t : TMap w T l0
  k : Kids w V κ ns
  a : Asks w M (fun g n => md g n d)
  ne : M ≠ T
  root : asc l0 V = none
  hit : ∀ j K, κ.getD j none = some K → asc l0 K = if j = m then some seed else none
  lt : X < w.heap.size

theorem Seeded.none {w : World} {X M T V m : Nat} {κ : List (Option Nat)} {ns : List (List Int)} {d : List In3} {seed : Int} (hX : XObj w X M T) (hT : TMap w T []) (hK : Kids w V κ ns) (hA : Asks w M (fun g n => md g n d)) (hne : M ≠ T) (hlt : X < w.heap.size)
    (hm : κ.getD m Option.none = Option.none) : Seeded w X M T V m κ [] ns d seed :=
  ⟨hX, hT, hK, hA, hne, rfl, fun j K hj => by rw [if_neg (by rintro rfl; rw [hm] at hj; cases hj)]; rfl, hlt⟩

theorem Seeded.put {w : World} {X M T V m K : Nat} {κ : List (Option Nat)} {ns : List (List Int)} {d : List In3} {seed : Int} (hX : XObj w X M T) (hT : TMap w T []) (hK : Kids w V κ ns) (hA : Asks w M (fun g n => md g n d)) (hne : M ≠ T) (hlt : X < w.heap.size)
    (hm : κ.getD m Option.none = some K) : ∃ o, (Instr.mapUpdate 33 (.map (some T)) (tkey K) (.int .u64 seed)).run Yba.prog w = .ok () (turned w T o) ∧ Seeded (turned w T o) X M T V m κ [(K, seed)] ns d seed := by
  obtain ⟨hVK, hNK⟩ := hK.at_ m K hm
  obtain ⟨o, h1, h2⟩ := hT.put (x := seed) (K := K) ⟨_, _, hNK⟩ rfl
  have hg := turned_grown w T o
  refine ⟨o, h1, hX.grown hg (hX.ne hT), h2, hK.grown hT hg, hA.grown hT hne hg, hne, ?_, fun j L hj => ?_, by simpa [turned] using hlt⟩
  · simp only [asc]
    rw [if_neg (by omega)]
  · simp only [asc]
    by_cases e : j = m
    · subst e; rw [hm] at hj; cases hj; simp
    · rw [if_neg e, if_neg]
      rintro rfl
      exact e (hK.inj j m K hj hm)

set_option maxHeartbeats 6400000 in
set_option maxRecDepth 100000 in
theorem lawC_walk (mask : Int) (ns : List (List Int)) (a : Option Addr) (n cap : Nat) (c seed : Int) (d : List In3) (w : World) (G : Grid ns) (h : Arg w a n cap d) (hn : n ≤ 1024) (hc0 : 0 ≤ c) (hc : c ≤ 255) :
    Calls Yba.prog 4 #[.int .u16 mask, .agg (grid ns), .slice a n cap, .int .u8 c, .int .u64 seed] w fun e w' => e = .returned (.bool true) ∧ Below w.heap.size w w' := by
  obtain ⟨m, hm⟩ : ∃ m : Nat, c % 16 = (m : Int) := ⟨(c % 16).toNat, by omega⟩
  have hm16 : m < 16 := by omega
  have hm16i : (m : Int) < 16 := by omega
  have hB0 : Hid (Below w.heap.size w (w.alloc (.cells (grid ns) 24))) := hide ((Below.refl _ _).alloc (Nat.le_refl _) _)
  have hb0 : Hid ((w.alloc (.cells (grid ns) 24)).heap[w.heap.size]? = some (.cells (grid ns) 24 (0, 0))) := hide (heap_alloc_new w _)
  have t1 : decide ((1024 : Int) < (n : Int)) = false := decide_eq_false (by omega)
  have hG := hide G
  have hA := hide h
  clear G h
  go_enter Yba.func4, Yba.ntmps4
  go_wp2_with (refine wpList_load_mid (by rfl) 24 _ (by rfl) w.heap.size 0 (by rfl) (grid ns).toList (.array 16 23) (grid_range (unhide hb0)) Yba.underlying24 rfl (by rw [grid_len (unhide hG)]; exact info24) ?_)
  refine (tree_one mask ns _ (unhide hG)).mono ?_
  rintro _ w1 ⟨V, κ, rfl, k1, k2, k3⟩
  have hB1 : Hid (Below w.heap.size w w1) := hide ((unhide hB0).trans (k3.mono (unhide hB0).size))
  have hb1 : Hid (w1.heap[w.heap.size]? = some (.cells (grid ns) 24 (0, 0))) := hide ((k3.block _ (lt_of_block (unhide hb0))).trans (unhide hb0))
  have hN1 := hide k2
  clear k1 k2 k3 hB0 hb0
  go_wp2_with fail
  refine (build_any a n cap d w1 ((unhide hA).below (unhide hB1)) hn).mono ?_
  rintro _ w2 ⟨M, rfl, k1, k2, k3⟩
  have hB2 : Hid (Below w.heap.size w w2) := hide ((unhide hB1).trans (k3.mono (unhide hB1).size))
  have hb2 : Hid (w2.heap[w.heap.size]? = some (.cells (grid ns) 24 (0, 0))) := hide ((k3.block _ (lt_of_block (unhide hb1))).trans (unhide hb1))
  have hN2 : Hid (Kids w2 V κ ns) := hide ((unhide hN1).kept k3)
  have hM2 := hide k2
  clear k1 k2 k3 hB1 hb1 hN1
  have hmm := @run_makeMap Yba.prog
  have hb36 := run_b36
  go_upto_region 6 with fail
  obtain ⟨W, hW⟩ : ∃ W, W = (w2.alloc (.map #[] 0)).alloc (.cells #[.map none, .map (some M), .map none, .map (some w2.heap.size)] 36) := ⟨_, rfl⟩
  obtain ⟨q1, q2, q3, q4, q5, q6⟩ := setup (unhide hM2) hW
  rw [← hW]
  have hBW : Hid (Below w.heap.size w W) := hide ((unhide hB2).trans (q5.mono (unhide hB2).size))
  have hbW : Hid (W.heap[w.heap.size]? = some (.cells (grid ns) 24 (0, 0))) := hide ((q5.block _ (lt_of_block (unhide hb2))).trans (unhide hb2))
  have hNW : Hid (Kids W V κ ns) := hide ((unhide hN2).kept q5)
  have hTg : w.heap.size ≤ w2.heap.size := (unhide hB2).size
  have hne : w.heap.size ≠ w2.heap.size := by have := lt_of_block (unhide hb2); omega
  have c0 := kid_at (unhide hNW) hm16
  have hq := hide (And.intro q1 (And.intro q2 (And.intro q3 (And.intro q4 q6))))
  have c3 := q1.terms
  clear q1 q2 q3 q4 q5 q6 hW hB2 hb2 hN2 hM2 hmm hb36
  generalize w2.heap.size = T at *
  by_cases hkm : κ.getD m none = none
  case' pos =>
    rw [hkm] at c0
    simp only [Option.map_none] at c0
    have hS : Hid (Seeded W (T + 1) M T V m κ [] ns d seed) := hide (Seeded.none (unhide hq).1 (unhide hq).2.1 (unhide hNW) (unhide hq).2.2.1 (unhide hq).2.2.2.1 (unhide hq).2.2.2.2 hkm)
    clear hq hNW c3
    go_wp2_with fail
    have hB' := hBW
    have hb' := hbW
    clear hkm hBW hbW c0
    generalize ([] : List (Nat × Int)) = l0 at hS
    generalize W = W' at *
  case' neg =>
    obtain ⟨K, hkK⟩ : ∃ K, κ.getD m none = some K := by
      cases h : κ.getD m none with
      | none => exact absurd h hkm
      | some K => exact ⟨K, rfl⟩
    rw [hkK] at c0
    simp only [Option.map_some] at c0
    have hD : Below W.heap.size W W.drew := (Below.refl _ _).drew
    obtain ⟨o, hput, hS'⟩ := Seeded.put (seed := seed) ((unhide hq).1.kept (unhide hq).2.2.2.2 hD) ((unhide hq).2.1.kept hD) ((unhide hNW).kept hD) ((unhide hq).2.2.1.kept hD) (unhide hq).2.2.2.1 (Nat.lt_of_lt_of_le (unhide hq).2.2.2.2 hD.size) hkK
    simp only [tkey] at hput
    have hg : W.drew.grownBy (turned W.drew T o) (some T) := turned_grown _ _ _
    have hB' : Hid (Below w.heap.size w (turned W.drew T o)) := hide ((unhide hBW).drew.grown hg (unhide hBW).size (fun k hk => by cases hk; exact hTg))
    have hb' : Hid ((turned W.drew T o).heap[w.heap.size]? = some (.cells (grid ns) 24 (0, 0))) := hide ((hg.block _ (lt_of_block (unhide hbW)) (by simpa using hne)).trans (unhide hbW))
    have hS := hide hS'
    clear hS' hg hD hq hNW hBW hbW hkm hkK
    go_wp2_with fail
    go_region
    go_wp2_with fail
    clear hput c0 c3
    generalize [(K, seed)] = l0 at hS
    generalize turned W.drew T o = W' at *
  all_goals
    refine (term_root (T + 1) M T V κ l0 d ns 0 W' (unhide hS).x (unhide hS).t (unhide hS).k (unhide hG) (unhide hS).a (unhide hS).ne (unhide hA).pos (Int.le_refl 0) (by omega) (unhide hS).root).mono ?_
    rintro _ w3 ⟨rfl, hgr, l, hT3, hMid⟩
    have hT3h := hide hT3
    have hMidh := hide hMid
    have hX3 := hide ((unhide hS).x.grown hgr (by omega))
    have hXl3 : Hid (T + 1 < w3.heap.size) := hide (Nat.lt_of_lt_of_le (unhide hS).lt hgr.size)
    have hB3 : Hid (Below w.heap.size w w3) := hide ((unhide hB').grown hgr (unhide hB').size (fun k hk => by cases hk; exact hTg))
    have hb3 : Hid (w3.heap[w.heap.size]? = some (.cells (grid ns) 24 (0, 0))) := hide ((hgr.block _ (lt_of_block (unhide hb')) (by simpa using hne)).trans (unhide hb'))
    have hK3 := hide ((unhide hS).k.grown (unhide hS).t hgr)
    have hfl : Hid (∀ j : Nat, lsum d (ns.getD j []) j 16 = (fun j : Nat => lsum d (ns.getD j []) (0 * 16 + j) 16) j) := hide (fun j => by simp only [Int.zero_mul, Int.zero_add])
    have hhit := hide (unhide hS).hit
    clear hT3 hMid hgr hB' hb' hS
    generalize (fun j : Nat => lsum d (ns.getD j []) (0 * 16 + j) 16) = f at *
    generalize hvd : kval κ l0 f = v at *
    replace hvd := hide hvd
    go_wp2_with fail
    go_loopw [15, 16] (fun x z wr => ∃ k : Nat, k ≤ 16 ∧ x = .int .u64 (rsum v k) ∧ z = .int .i64 k ∧ Hid (Below w3.heap.size w3 wr)) (fun _ z _ => 16 - (intOf z).toNat)
    case atStart => exact ⟨0, Nat.zero_le _, rfl, rfl, hide (Below.refl _ _)⟩
    case round =>
      obtain ⟨k, hk, rfl, rfl, hBr⟩ := hrel
      have hTr := (unhide hT3h).kept (unhide hBr)
      have hKr := (unhide hK3).kept (unhide hBr)
      have c3 := ((unhide hX3).kept (unhide hXl3) (unhide hBr)).terms
      have hBwr : Hid (Below w.heap.size w wr) := hide ((unhide hB3).trans ((unhide hBr).mono (unhide hB3).size))
      by_cases hlt : k < 16
      · have c0 := kid_at hKr hlt
        have i1 : (k : Int) < 16 := by omega
        have hrs : Hid (rsum v (k + 1) = match v k with | none => rsum v k | some x => IntKind.u64.wrap (rsum v k + x)) := hide rfl
        cases hkk : κ.getD k none with
        | none =>
          rw [hkk] at c0
          simp only [Option.map_none] at c0
          have hv : v k = none := by rw [← unhide hvd, kval, hkk]; rfl
          have hs1 : Hid (rsum v (k + 1) = rsum v k) := hide (by rw [unhide hrs, hv])
          clear hrs hTr hKr hv
          go_wp2
          go_roundw
          case rel => exact ⟨k + 1, by omega, by rw [unhide hs1], by go_num, hBr⟩
          case measure => simp [intOf]; omega
        | some K' =>
          rw [hkk] at c0
          simp only [Option.map_some] at c0
          by_cases hkm2 : k = m
          · have hv : v k = some seed := by rw [← unhide hvd, kval, hkk, Option.map_some, unhide hhit k K' hkk, if_pos hkm2]; rfl
            have hs1 : Hid (rsum v (k + 1) = IntKind.u64.wrap (rsum v k + seed)) := hide (by rw [unhide hrs, hv])
            clear hrs hTr hKr hv
            subst hkm2
            go_wp2
            go_roundw
            case rel => exact ⟨k + 1, by omega, by rw [unhide hs1], by go_num, hBr⟩
            case measure => simp [intOf]; omega
          · have hv : v k = some (f k) := by rw [← unhide hvd, kval, hkk, Option.map_some, unhide hhit k K' hkk, if_neg hkm2]; rfl
            have hs1 : Hid (rsum v (k + 1) = IntKind.u64.wrap (rsum v k + f k)) := hide (by rw [unhide hrs, hv])
            have hkm3 : ¬ (k : Int) = (m : Int) := by omega
            have hbr : wr.heap[w.heap.size]? = some (.cells (grid ns) 24 (0, 0)) := ((unhide hBr).block _ (lt_of_block (unhide hb3))).trans (unhide hb3)
            have g0 := grid_at (unhide hG) hbr k 0 hlt (by decide)
            have g1 := grid_at (unhide hG) hbr k 1 hlt (by decide)
            have g2 := grid_at (unhide hG) hbr k 2 hlt (by decide)
            have g3 := grid_at (unhide hG) hbr k 3 hlt (by decide)
            have g4 := grid_at (unhide hG) hbr k 4 hlt (by decide)
            have g5 := grid_at (unhide hG) hbr k 5 hlt (by decide)
            have g6 := grid_at (unhide hG) hbr k 6 hlt (by decide)
            have g7 := grid_at (unhide hG) hbr k 7 hlt (by decide)
            have g8 := grid_at (unhide hG) hbr k 8 hlt (by decide)
            have g9 := grid_at (unhide hG) hbr k 9 hlt (by decide)
            have g10 := grid_at (unhide hG) hbr k 10 hlt (by decide)
            have g11 := grid_at (unhide hG) hbr k 11 hlt (by decide)
            have g12 := grid_at (unhide hG) hbr k 12 hlt (by decide)
            have g13 := grid_at (unhide hG) hbr k 13 hlt (by decide)
            have g14 := grid_at (unhide hG) hbr k 14 hlt (by decide)
            have g15 := grid_at (unhide hG) hbr k 15 hlt (by decide)
            simp only [Nat.add_zero] at g0
            have hr := hide ((unhide hG).row k hlt)
            have hr8 := hide ((unhide hG).le k hlt)
            have hf := hide (unhide hfl k)
            clear hrs hTr hKr hbr hv
            generalize ns.getD k [] = r at *
            go_wp2_with fail
            refine (leafsum_lit a n cap d r k wr ((unhide hA).below (unhide hBwr)) (by omega) (unhide hr) (unhide hr8) (by omega) (by omega)).mono ?_
            rintro _ w4 ⟨rfl, k1⟩
            have hBr4 : Hid (Below w3.heap.size w3 w4) := hide ((unhide hBr).trans (k1.mono (unhide hBr).size))
            rw [unhide hf]
            clear g0 g1 g2 g3 g4 g5 g6 g7 g8 g9 g10 g11 g12 g13 g14 g15 k1 c0 c3
            generalize f k = R at *
            go_wp2
            go_roundw
            case rel => exact ⟨k + 1, by omega, by rw [unhide hs1], by go_num, hBr4⟩
            case measure => simp [intOf]; omega
      · obtain rfl : k = 16 := by omega
        have hlk := hTr.look1 (show IsObj wr V from ⟨_, _, hKr.node⟩)
        rw [asc_snoc l V V _ (unhide hMidh).root, if_pos rfl] at hlk
        simp only [tkey, Option.getD_some] at hlk
        clear hTr hKr
        generalize rsum v 16 = R at *
        go_wp2
        go_ret
        exact ⟨rfl, unhide hBwr⟩
end Go.Proofs.Ybulkbzfi
