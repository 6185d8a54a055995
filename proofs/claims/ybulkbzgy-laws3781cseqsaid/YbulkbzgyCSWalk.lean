/-
  THE WALK of LawS3781CSeq.
-/
import Derived.Test.YbulkbzgyCFWalk
namespace Go.Proofs.Ybulkbzgy.Seq
open Go.RowKit

set_option maxRecDepth 100000 in
theorem walk_big1 (a a2 : Option Addr) (L cap n cap2 : Nat) (w : World) (h : 65536 < L) :
    Calls Yba.prog 4 #[.slice a L cap, .slice a2 n cap2] w fun e w' => e = .returned (.bool true) ∧ Below w.heap.size w w' := by
  have t1 : decide ((65536 : Int) < L) = true := decide_eq_true (by omega)
  go_enter Yba.func4, Yba.ntmps4
  go_wp2
  go_ret
  exact ⟨rfl, Below.refl _ _⟩

set_option maxRecDepth 100000 in
theorem walk_big2 (a a2 : Option Addr) (L cap n cap2 : Nat) (w : World) (h1 : L ≤ 65536) (h : 1024 < n) :
    Calls Yba.prog 4 #[.slice a L cap, .slice a2 n cap2] w fun e w' => e = .returned (.bool true) ∧ Below w.heap.size w w' := by
  have t1 : decide ((65536 : Int) < L) = false := decide_eq_false (by omega)
  have t2 : decide ((1024 : Int) < n) = true := decide_eq_true (by omega)
  go_enter Yba.func4, Yba.ntmps4
  go_wp2
  go_ret
  exact ⟨rfl, Below.refl _ _⟩

/-- What is left of the frame: nothing, once a piece did not fit; else the bytes from pos on. -/
def St (g L pos : Nat) (b : Value) (mb : Bool) : Prop :=
  (mb = true ∧ b = .slice none 0 0) ∨ (mb = false ∧ pos ≤ L ∧ ∃ off, b = .slice (some ⟨g, off, none⟩) (L - pos) (L - pos) ∧ (pos < L → off = pos))

theorem st_next {g L pos k off : Nat} (h1 : pos + k ≤ L) (h2 : pos < L → off = pos) : St g L (pos + k) (.slice (some ⟨g, nx off k (L - pos), none⟩) (L - pos - k) (L - pos - k)) false := by
  refine .inr ⟨rfl, h1, nx off k (L - pos), ?_, fun h => ?_⟩
  · rw [Nat.sub_add_eq]
  · unfold nx
    rw [if_neg (by omega), h2 (by omega)]

set_option maxHeartbeats 3200000 in
set_option maxRecDepth 100000 in
theorem walk_some (ad : Addr) (a2 : Option Addr) (L cap n cap2 : Nat) (xs ks : List Int) (w : World) (hA : Arg w (some ad) L cap xs) (hK : Arg w a2 n cap2 ks) (hkb : ∀ j, 0 ≤ ks.getD j 0 ∧ ks.getD j 0 ≤ 255) (hL : L ≤ 65536) (hn : n ≤ 1024) :
    Calls Yba.prog 4 #[.slice (some ad) L cap, .slice a2 n cap2] w fun e w' => e = .returned (.bool true) ∧ Below w.heap.size w w' := by
  have t1 : decide ((65536 : Int) < L) = false := decide_eq_false (by omega)
  have t2 : decide ((1024 : Int) < n) = false := decide_eq_false (by omega)
  obtain ⟨i0, hi, hz0, hz1, hz2⟩ := info_parts info5
  have hnn := fun (w : World) => run_neq_slice_nil_any (P := Yba.prog) w 22 5 (some ad) L cap 0 0 Yba.underlying22
  go_enter Yba.func4, Yba.ntmps4
  go_wp2_with (first
    | (at_make; refine wpList_make_full _ rfl _ _ 22 rfl w.heap.size 5 i0 (.int .u8 0) 1 Yba.underlying22 hi hz0 hz1 .i64 .i64 _ _ L rfl rfl rfl rfl (by rw [hz2]; omega) (by unfold maxLen; omega) (Nat.le_refl _) ?_))
  intro wm hom hgm
  have hfull : Hid _ := own_full hom
  have hbm : Below w.heap.size w wm := (Below.refl _ _).grown hgm (Nat.le_refl _) (fun k h => by cases h)
  have hlm : (madeCells #[Value.int .u8 0] L).toList.length = L := by simpa using hom.1
  clear hom hgm
  have hsrc : Hid (0 < (byts xs).length → ∃ ad', some ad = some ad' ∧ ∀ j v, (byts xs)[j]? = some v → wm.cell? (ad'.add j) = some v) := by
    intro _
    refine ⟨ad, rfl, fun j u hu => ?_⟩
    have hc := hA.cells ad rfl j u hu
    rw [hbm.cell (p := ad.add j) (block_lt_of_cell hc)]
    exact hc
  have hk1 : Hid ((Yba.prog.info? 5).map (·.size) = some 1) := by show _ = _; rw [hi]; simp [hz1]
  have hk2 : Hid ((byts xs).length = Nat.min L L) := by show _ = _; rw [byts_len, hA.len]; simp
  have hk4 : Hid (0 + (byts xs).length ≤ (madeCells #[Value.int .u8 0] L).toList.length) := by show _ ≤ _; rw [hlm, byts_len, hA.len]; omega
  have hA1 := hide hA
  clear hA
  go_wp2_with (refine wpList_copy_splice rfl (.tmp 27) (.tmp 28) 22 22 rfl 5 Yba.underlying22 hk1.out _ (some ad) L L L cap rfl rfl w.heap.size 0 _ 5 hfull.out (byts xs) hk2.out (fun hp => ⟨rfl, hsrc.out hp⟩) hk4.out (byts_one _) w.heap.size w hbm (Nat.le_refl _) ?_)
  clear hsrc hk1 hk2 hk4
  intro wc Hc hbc
  have hC0 : wc.heap[w.heap.size]? = some (.cells (byts xs).toArray 5 (0, 0)) := by
    have h := Hc.out
    rw [splice_all _ _ (by rw [hlm, byts_len, (unhide hA1).len])] at h
    exact h
  have hzc : w.heap.size < wc.heap.size := lt_of_block Hc.out
  have hC : Hid (∀ o : Obj, (wc.alloc o).heap[w.heap.size]? = some (.cells (byts xs).toArray 5 (0, 0))) := hide (fun o => by rw [Below.heap_alloc _ _ _ hzc]; exact hC0)
  have hF : Hid (FAt (wc.alloc (.cells #[.slice (some ⟨w.heap.size, 0, none⟩) L L, .bool false] 25)) wc.heap.size (.slice (some ⟨w.heap.size, 0, none⟩) L L) false) := hide (heap_alloc_new _ _)
  have hB : Hid (∀ o : Obj, Below w.heap.size w (wc.alloc o)) := hide (fun o => hbc.alloc (by omega) o)
  clear Hc hfull hbm hlm hC0 hbc
  have hcopy0 : Hid ((wc.alloc (.cells #[.slice (some ⟨w.heap.size, 0, none⟩) L L, .bool false] 25)).heap[w.heap.size]? = some (.cells (byts xs).toArray 5 (0, 0))) := hide (unhide hC _)
  have hB0 := hide (unhide hB (.cells #[.slice (some ⟨w.heap.size, 0, none⟩) L L, .bool false] 25))
  clear hC hB
  go_wp2_with fail
  go_loopw [7, 8, 9] (fun p m i wr => ∃ (j pos : Nat) (mb : Bool) (b : Value), j ≤ n ∧ pos ≤ L ∧ p = .int .i64 pos ∧ m = .bool mb ∧ i = .int .i64 j ∧ Hid (St w.heap.size L pos b mb) ∧ Hid (FAt wr wc.heap.size b mb) ∧
      Hid (wr.heap[w.heap.size]? = some (.cells (byts xs).toArray 5 (0, 0))) ∧ Hid (Below w.heap.size w wr)) (fun _ _ i _ => n - (intOf i).toNat)
  case atStart => exact ⟨0, 0, false, _, Nat.zero_le _, Nat.zero_le _, rfl, rfl, rfl, hide (.inr ⟨rfl, Nat.zero_le _, 0, rfl, fun _ => rfl⟩), hF, hcopy0, hB0⟩
  case round =>
    obtain ⟨j, pos, mb, b, hj, hpos, rfl, rfl, rfl, hSt, hFr, hCr, hBr⟩ := hrel
    clear hF hcopy0 hB0
    by_cases hlt : j < n
    · obtain ⟨kb, ko, hka, hkl, hkc⟩ := hK.at_ (by omega)
      subst hka
      have qk := ((unhide hBr).cell (p := ⟨kb, ko + j, none⟩) hkl).trans (hkc j hlt)
      have hkj := hkb j
      obtain ⟨k, hkk⟩ : ∃ k : Nat, ks.getD j 0 = k := ⟨(ks.getD j 0).toNat, by omega⟩
      rw [hkk] at qk hkj
      have hk255 : k ≤ 255 := by omega
      clear hkk hkj hkc hkb
      have hKh := hide hK
      clear hK
      rcases unhide hSt with ⟨rfl, rfl⟩ | ⟨rfl, hp, off, rfl, hoff⟩
      · by_cases hk0 : k = 0
        · subst hk0
          go_wp2_with fail
          refine (fixed_nil2 wc.heap.size true _ (unhide hFr)).mono ?_
          rintro e w1 ⟨rfl, h1, h2⟩
          have hg : w.heap.size < wr.heap.size := lt_of_block (unhide hCr)
          have hC1 : Hid (w1.heap[w.heap.size]? = some (.cells (byts xs).toArray 5 (0, 0))) := hide ((h2.block _ hg (by simp; omega)).trans (unhide hCr))
          have hB1 := hide ((unhide hBr).grown h2 (unhide hBr).size (fun k hk => by cases hk; omega))
          have hF1 := hide h1
          have c1 := h1.c1
          clear h1 h2 hFr hCr hBr qk hSt
          go_wp2
          go_roundw
          case rel => exact ⟨j + 1, pos, true, _, by omega, hpos, rfl, rfl, by go_num, hide (.inl ⟨rfl, rfl⟩), hF1, hC1, hB1⟩
          case measure => simp [intOf]; omega
        · go_wp2_with fail
          refine (fixed_short2 wc.heap.size 0 0 none k true _ (unhide hFr) (by omega)).mono ?_
          rintro e w1 ⟨rfl, h1, h2⟩
          have hg : w.heap.size < wr.heap.size := lt_of_block (unhide hCr)
          have hC1 : Hid (w1.heap[w.heap.size]? = some (.cells (byts xs).toArray 5 (0, 0))) := hide ((h2.block _ hg (by simp; omega)).trans (unhide hCr))
          have hB1 := hide ((unhide hBr).grown h2 (unhide hBr).size (fun k hk => by cases hk; omega))
          have hF1 := hide h1
          have c1 := h1.c1
          clear h1 h2 hFr hCr hBr qk hSt
          go_wp2
          go_roundw
          case rel => exact ⟨j + 1, pos, true, _, by omega, hpos, rfl, rfl, by go_num, hide (.inl ⟨rfl, rfl⟩), hF1, hC1, hB1⟩
          case measure => simp [intOf]; omega
      · by_cases hfit : pos + k ≤ L
        · have hfi : (pos : Int) + (k : Int) ≤ (L : Int) := by omega
          go_wp2_with fail
          refine (fixed_ok2 wc.heap.size (L - pos) w.heap.size off k false _ (unhide hFr) (by omega)).mono ?_
          rintro e w1 ⟨rfl, h1, h2⟩
          have hS1 := hide (st_next (g := w.heap.size) hfit hoff)
          have hoff' := hide hoff
          clear hoff
          have hg : w.heap.size < wr.heap.size := lt_of_block (unhide hCr)
          have hC1 : Hid (w1.heap[w.heap.size]? = some (.cells (byts xs).toArray 5 (0, 0))) := hide ((h2.block _ hg (by simp; omega)).trans (unhide hCr))
          have hB1 := hide ((unhide hBr).grown h2 (unhide hBr).size (fun k hk => by cases hk; omega))
          have hF1 := hide h1
          have c1 := h1.c1
          clear h1 h2 hFr hCr hBr qk hSt
          have hg1 : w.heap.size < w1.heap.size := lt_of_block (unhide hC1)
          have hf1 : wc.heap.size < w1.heap.size := (unhide hF1).lt
          go_wp2_with fail
          obtain ⟨wo, rfl⟩ : ∃ wo : World, wo = wr := ⟨_, rfl⟩
          go_loopw [12] (fun i wr => ∃ i2 : Nat, i2 ≤ k ∧ i = .int .i64 i2 ∧ Hid (Below w1.heap.size w1 wr)) (fun i _ => k - (intOf i).toNat)
          case atStart => exact ⟨0, Nat.zero_le _, rfl, Below.refl _ _⟩
          case round =>
            obtain ⟨i2, hi2, rfl, hBz⟩ := hrel
            by_cases hli : i2 < k
            · obtain ⟨db, dof, hdb, hdl, hdc⟩ := (unhide hA1).at_ (by omega)
              have hdb' : ad = ⟨db, dof, none⟩ := by simpa using hdb
              subst hdb'
              have hop : off = pos := unhide hoff' (by omega)
              have hlen := (unhide hA1).len
              have hdl1 : db < w1.heap.size := by have := (unhide hB1).size; omega
              have q1 : wr.cell? ⟨w.heap.size, off + i2, none⟩ = some (.int .u8 (xs.getD (pos + i2) 0)) := by
                rw [hop]; exact ((unhide hBz).cell (p := ⟨w.heap.size, pos + i2, none⟩) hg1).trans (copy_at (unhide hC1) (pos + i2) (by omega))
              have q2 := (((unhide hBz).cell (p := ⟨db, dof + (pos + i2), none⟩) hdl1).trans ((unhide hB1).cell (p := ⟨db, dof + (pos + i2), none⟩) hdl)).trans (hdc (pos + i2) (by omega))
              have x1 : (pos : Int) + (i2 : Int) < (L : Int) := by omega
              clear hop hdc hdb hlen
              generalize xs.getD (pos + i2) 0 = z at *
              go_wp2
              go_quiet (fail)
              go_wp2
              go_roundw
              case rel => exact ⟨i2 + 1, by omega, by go_num, hide (below_drewN (unhide hBz) _)⟩
              case measure => simp [intOf]; omega
            · have c1' := ((unhide hBz).cell (p := ⟨wc.heap.size, 1, none⟩) hf1).trans c1
              have hF2 := hide ((unhide hF1).of_block ((unhide hBz).block _ hf1))
              have hC2 : Hid (wr.heap[w.heap.size]? = some (.cells (byts xs).toArray 5 (0, 0))) := hide (((unhide hBz).block _ hg1).trans (unhide hC1))
              have hB2 := hide ((unhide hB1).trans ((unhide hBz).mono (unhide hB1).size))
              clear c1
              go_wp2
              go_roundw
              case rel => exact ⟨j + 1, pos + k, false, _, by omega, hfit, by go_num, rfl, by go_num, hS1, hF2, hC2, hB2⟩
              case measure => simp [intOf]; omega
        · have hfi : ¬ ((pos : Int) + (k : Int) ≤ (L : Int)) := by omega
          have hfb : decide ((pos : Int) + (k : Int) ≤ (L : Int)) = false := decide_eq_false hfi
          go_wp2_with fail
          refine (fixed_short2 wc.heap.size (L - pos) (L - pos) _ k false _ (unhide hFr) (by omega)).mono ?_
          rintro e w1 ⟨rfl, h1, h2⟩
          have hg : w.heap.size < wr.heap.size := lt_of_block (unhide hCr)
          have hC1 : Hid (w1.heap[w.heap.size]? = some (.cells (byts xs).toArray 5 (0, 0))) := hide ((h2.block _ hg (by simp; omega)).trans (unhide hCr))
          have hB1 := hide ((unhide hBr).grown h2 (unhide hBr).size (fun k hk => by cases hk; omega))
          have hF1 := hide h1
          have c1 := h1.c1
          clear h1 h2 hFr hCr hBr qk hSt
          go_wp2
          go_roundw
          case rel => exact ⟨j + 1, pos, true, _, by omega, hpos, rfl, rfl, by go_num, hide (.inl ⟨rfl, rfl⟩), hF1, hC1, hB1⟩
          case measure => simp [intOf]; omega
    · obtain rfl : j = n := by omega
      clear hK hkb
      rcases unhide hSt with ⟨rfl, rfl⟩ | ⟨rfl, hp, off, rfl, hoff⟩
      · go_wp2_with fail
        refine (end_bad wc.heap.size 0 0 none _ (unhide hFr)).mono ?_
        rintro e w1 ⟨T, v, rfl, hb⟩
        have hB1 := hide ((unhide hBr).trans (hb.mono (unhide hBr).size))
        have hnl := fun (w : World) => run_eql_held_nil (P := Yba.prog) w 30 T v (by kernel_rfl)
        clear hb hFr hCr hBr hSt
        go_wp2
        go_ret
        exact ⟨rfl, unhide hB1⟩
      · by_cases hLp : L = pos
        · have hFe : Hid (FAt wr wc.heap.size (.slice (some ⟨w.heap.size, off, none⟩) 0 0) false) := by
            have h := unhide hFr
            rw [hLp, Nat.sub_self] at h
            exact h
          have hpe : ((pos : Int) == (L : Int)) = true := beq_iff_eq.2 (by omega)
          go_wp2_with fail
          refine (end_ok wc.heap.size 0 _ _ (unhide hFe)).mono ?_
          rintro e w1 ⟨rfl, rfl⟩
          have hB1 := hide (unhide hBr)
          clear hFr hCr hBr hSt hLp hFe
          go_wp2
          go_ret
          exact ⟨rfl, unhide hB1⟩
        · have hpe : ((pos : Int) == (L : Int)) = false := beq_eq_false_iff_ne.2 (by omega)
          go_wp2_with fail
          refine (end_left wc.heap.size (L - pos) (L - pos) _ _ (unhide hFr) (by omega)).mono ?_
          rintro e w1 ⟨T, v, rfl, hb⟩
          have hB1 := hide ((unhide hBr).trans (hb.mono (unhide hBr).size))
          have hnl := fun (w : World) => run_eql_held_nil (P := Yba.prog) w 30 T v (by kernel_rfl)
          clear hb hFr hCr hBr hSt
          go_wp2
          go_ret
          exact ⟨rfl, unhide hB1⟩

set_option maxHeartbeats 1600000 in
set_option maxRecDepth 100000 in
theorem walk_nil (a2 : Option Addr) (n cap2 : Nat) (ks : List Int) (w : World) (hK : Arg w a2 n cap2 ks) (hkb : ∀ j, 0 ≤ ks.getD j 0 ∧ ks.getD j 0 ≤ 255) (hn : n ≤ 1024) :
    Calls Yba.prog 4 #[.slice none 0 0, .slice a2 n cap2] w fun e w' => e = .returned (.bool true) ∧ Below w.heap.size w w' := by
  have t2 : decide ((1024 : Int) < n) = false := decide_eq_false (by omega)
  have hnn := fun (w : World) => run_neq_slice_nil_any (P := Yba.prog) w 22 5 none 0 0 0 0 Yba.underlying22
  have hF : Hid (FAt (w.alloc (.cells #[.slice none 0 0, .bool false] 25)) w.heap.size (.slice none 0 0) false) := hide (heap_alloc_new _ _)
  have hB0 : Hid (Below w.heap.size w (w.alloc (.cells #[.slice none 0 0, .bool false] 25))) := hide ((Below.refl _ _).alloc (Nat.le_refl _) _)
  go_enter Yba.func4, Yba.ntmps4
  go_wp2_with fail
  go_loopw [7, 8, 9] (fun p m i wr => ∃ (j : Nat) (mb : Bool), j ≤ n ∧ p = .int .i64 0 ∧ m = .bool mb ∧ i = .int .i64 j ∧ Hid (FAt wr w.heap.size (.slice none 0 0) mb) ∧ Hid (Below w.heap.size w wr)) (fun _ _ i _ => n - (intOf i).toNat)
  case atStart => exact ⟨0, false, Nat.zero_le _, rfl, rfl, rfl, hF, hB0⟩
  case round =>
    obtain ⟨j, mb, hj, rfl, rfl, rfl, hFr, hBr⟩ := hrel
    clear hF hB0
    by_cases hlt : j < n
    · obtain ⟨kb, ko, hka, hkl, hkc⟩ := hK.at_ (by omega)
      subst hka
      have qk := ((unhide hBr).cell (p := ⟨kb, ko + j, none⟩) hkl).trans (hkc j hlt)
      have hkj := hkb j
      obtain ⟨k, hkk⟩ : ∃ k : Nat, ks.getD j 0 = k := ⟨(ks.getD j 0).toNat, by omega⟩
      rw [hkk] at qk hkj
      have hk255 : k ≤ 255 := by omega
      clear hkk hkj hkc hkb hK
      by_cases hk0 : k = 0
      · subst hk0
        cases mb
        · go_wp2_with fail
          refine (fixed_nil2 w.heap.size false _ (unhide hFr)).mono ?_
          rintro e w1 ⟨rfl, h1, h2⟩
          have hB1 := hide ((unhide hBr).grown h2 (unhide hBr).size (fun k hk => by cases hk; exact Nat.le_refl _))
          have hF1 := hide h1
          have c1 := h1.c1
          clear h1 h2 hFr hBr qk
          go_wp2_with fail
          go_loop [12] (fun i => i = .int .i64 0) (fun _ => 0)
          case atStart => rfl
          case round =>
            subst hrel
            go_wp2
            go_roundw
            case rel => exact ⟨j + 1, false, by omega, rfl, rfl, by go_num, hF1, hB1⟩
            case measure => simp [intOf]; omega
        · go_wp2_with fail
          refine (fixed_nil2 w.heap.size true _ (unhide hFr)).mono ?_
          rintro e w1 ⟨rfl, h1, h2⟩
          have hB1 := hide ((unhide hBr).grown h2 (unhide hBr).size (fun k hk => by cases hk; exact Nat.le_refl _))
          have hF1 := hide h1
          have c1 := h1.c1
          clear h1 h2 hFr hBr qk
          go_wp2
          go_roundw
          case rel => exact ⟨j + 1, true, by omega, rfl, rfl, by go_num, hF1, hB1⟩
          case measure => simp [intOf]; omega
      · have hfb : decide ((k : Int) ≤ 0) = false := decide_eq_false (by omega)
        have hkp : 0 < k := by omega
        cases mb
        all_goals
          go_wp2_with fail
          refine (fixed_short2 w.heap.size 0 0 none k _ _ (unhide hFr) hkp).mono ?_
          rintro e w1 ⟨rfl, h1, h2⟩
          have hB1 := hide ((unhide hBr).grown h2 (unhide hBr).size (fun k hk => by cases hk; exact Nat.le_refl _))
          have hF1 := hide h1
          have c1 := h1.c1
          clear h1 h2 hFr hBr qk
          go_wp2
          go_roundw
          case rel => exact ⟨j + 1, true, by omega, rfl, rfl, by go_num, hF1, hB1⟩
          case measure => simp [intOf]; omega
    · obtain rfl : j = n := by omega
      clear hK hkb
      cases mb
      · go_wp2_with fail
        refine (end_ok w.heap.size 0 _ _ (unhide hFr)).mono ?_
        rintro e w1 ⟨rfl, rfl⟩
        go_wp2
        go_ret
        exact ⟨rfl, unhide hBr⟩
      · go_wp2_with fail
        refine (end_bad w.heap.size 0 0 none _ (unhide hFr)).mono ?_
        rintro e w1 ⟨T, v, rfl, hb⟩
        have hB1 := hide ((unhide hBr).trans (hb.mono (unhide hBr).size))
        have hnl := fun (w : World) => run_eql_held_nil (P := Yba.prog) w 30 T v (by kernel_rfl)
        clear hb hFr hBr
        go_wp2
        go_ret
        exact ⟨rfl, unhide hB1⟩

theorem walk_all (a a2 : Option Addr) (L cap n cap2 : Nat) (xs ks : List Int) (w : World) (hA : Arg w a L cap xs) (hK : Arg w a2 n cap2 ks) (hkb : ∀ j, 0 ≤ ks.getD j 0 ∧ ks.getD j 0 ≤ 255) :
    Calls Yba.prog 4 #[.slice a L cap, .slice a2 n cap2] w fun e w' => e = .returned (.bool true) ∧ Below w.heap.size w w' := by
  by_cases hL : 65536 < L
  · exact walk_big1 a a2 L cap n cap2 w hL
  by_cases hn : 1024 < n
  · exact walk_big2 a a2 L cap n cap2 w (by omega) hn
  cases a with
  | none =>
    obtain ⟨rfl, rfl⟩ := hA.nil rfl
    exact walk_nil a2 n cap2 ks w hK hkb (by omega)
  | some ad => exact walk_some ad a2 L cap n cap2 xs ks w hA hK hkb (by omega) (by omega)
end Go.Proofs.Ybulkbzgy.Seq
