/-
  THE WALK of LawS3781CFixed.
-/
import Derived.Test.YbulkbzgyFixed
namespace Go.Proofs.Ybulkbzgy
open Go.RowKit

theorem info5 : (Yba.prog.info? 5).map (fun i => (i.zero, i.size, i.bytes)) = some (some (.int .u8 0), 1, 1) := by kernel_rfl

/-- The cells of a list of bytes. -/
def byts (l : List Int) : List Value := l.map (Value.int .u8)
theorem byts_len (l : List Int) : (byts l).length = l.length := by simp [byts]
theorem byts_at (l : List Int) (j : Nat) (h : j < l.length) : (byts l)[j]? = some (.int .u8 (l.getD j 0)) := by simp [byts, h, List.getD]
theorem byts_one (l : List Int) : ∀ u ∈ byts l, u.oneCell' = true := by
  intro u hu
  simp only [byts, List.mem_map] at hu
  obtain ⟨x, _, rfl⟩ := hu
  rfl

theorem own_full {w : World} {B g n : Nat} {xs : List Value} (h : w.ownsRow B 5 1 (.slice (some ⟨g, 0, none⟩) n n) n xs) : w.heap[g]? = some (.cells xs.toArray 5 (0, 0)) := by
  rcases h.2 with ⟨h1, _⟩ | ⟨g', cap', cur, h1, h2, h3, h4, h5, h6, h7⟩
  · simp at h1
  · simp only [Value.slice.injEq, Option.some.injEq, Addr.mk.injEq] at h1
    obtain ⟨⟨rfl, _⟩, _, rfl⟩ := h1
    rw [List.take_of_length_le (by simpa using Nat.le_of_eq h6)] at h7
    rw [h3, ← h7]
theorem splice_all {α : Type} (L cs : List α) (h : cs.length = L.length) : splice L 0 cs = cs := by
  simp [splice, h]

/-- What is told of the bytes that came in. -/
structure Arg (w : World) (a : Option Addr) (n cap : Nat) (xs : List Int) : Prop where
  len : xs.length = n
  nil : a = none → n = 0 ∧ cap = 0
  cells : ∀ ad, a = some ad → ∀ j u, (byts xs)[j]? = some u → w.cell? (ad.add j) = some u
  at_ : 0 < n → ∃ b off, a = some ⟨b, off, none⟩ ∧ b < w.heap.size ∧ ∀ j, j < n → w.cell? ⟨b, off + j, none⟩ = some (.int .u8 (xs.getD j 0))

/-- A cell of the copy. -/
theorem copy_at {w : World} {g : Nat} {xs : List Int} (h : w.heap[g]? = some (.cells (byts xs).toArray 5 (0, 0))) (j : Nat) (hj : j < xs.length) : w.cell? ⟨g, j, none⟩ = some (.int .u8 (xs.getD j 0)) := by
  rw [cell_of_row w g j _ 5 (0, 0) h]
  simpa using byts_at xs j hj

theorem run_equalIn_ptr_same {P : Program} (w : World) (d : Nat) {t te : TypeId} {j : TypeInfo} (a : Addr) (h : P.underlying t = some (.pointer te)) (hte : P.info? te = some j) :
    (Op.equalIn (d + 1) t (.pointer (some a)) (.pointer (some a))).run P w = .ok true w := by
  simp [Op.equalIn, run_underlying h, typeInfo, sizeOf, run_sameAddr_same, hte]
theorem run_neq_ptr_same {P : Program} (w : World) (t te : TypeId) (j : TypeInfo) (a : Addr) (h : P.underlying t = some (.pointer te)) (hte : P.info? te = some j) :
    (binOp .neq t (.pointer (some a)) (.pointer (some a))).run P w = .ok (.bool false) w := by
  simp only [binOp]
  simp [Op.equal, Op.maxDepth, run_equalIn_ptr_same w 9999 a h hte]

theorem ptr_neq (w : World) (a : Addr) : (binOp .neq 27 (.pointer (some a)) (.pointer (some a))).run Yba.prog w = .ok (.bool false) w := by
  obtain ⟨i0, hi, _⟩ := info_parts info5
  exact run_neq_ptr_same w 27 5 i0 a Yba.underlying27 hi

set_option maxRecDepth 100000 in
theorem walk_big (a : Option Addr) (L cap : Nat) (bad : Bool) (k : Int) (w : World) (h : 65536 < L) :
    Calls Yba.prog 3 #[.slice a L cap, .bool bad, .int .u8 k] w fun e w' => e = .returned (.bool true) ∧ Below w.heap.size w w' := by
  go_enter Yba.func3, Yba.ntmps3
  go_wp2
  go_ret
  exact ⟨rfl, Below.refl _ _⟩

theorem set_grown (w : World) (F j : Nat) (u : Value) : w.grownBy (w.setCell ⟨F, j, none⟩ u) (some F) := ⟨rfl, rfl, rfl, by simp, fun k _ hk => heap_setCell_other _ _ k _ (by simpa using hk)⟩
theorem grown_two {a b c : World} {r : Option Nat} (h : a.grownBy b r) (k : b.grownBy c r) : a.grownBy c r :=
  ⟨k.os.trans h.os, k.tape.trans h.tape, k.output.trans h.output, Nat.le_trans h.size k.size, fun i hi hr => (k.block i (Nat.lt_of_lt_of_le hi h.size) hr).trans (h.block i hi hr)⟩

theorem fixed_ok2 (F len g off : Nat) (k : Nat) (bad : Bool) (w : World) (h : FAt w F (.slice (some ⟨g, off, none⟩) len len) bad) (hk : k ≤ len) :
    Calls Yba.prog 5 #[.pointer (some ⟨F, 0, none⟩), .int .i64 k] w fun e w' => e = .returned (.slice (some ⟨g, off, none⟩) k k) ∧ FAt w' F (.slice (some ⟨g, nx off k len, none⟩) (len - k) (len - k)) bad ∧ w.grownBy w' (some F) := by
  refine (fixed_ok F len g off k bad w h hk).mono ?_
  rintro e w' ⟨rfl, rfl⟩
  exact ⟨rfl, h.set0 _, set_grown _ _ _ _⟩
theorem fixed_short2 (F len cap : Nat) (a : Option Addr) (k : Nat) (bad : Bool) (w : World) (h : FAt w F (.slice a len cap) bad) (hk : len < k) :
    Calls Yba.prog 5 #[.pointer (some ⟨F, 0, none⟩), .int .i64 k] w fun e w' => e = .returned (.slice none 0 0) ∧ FAt w' F (.slice none 0 0) true ∧ w.grownBy w' (some F) := by
  refine (fixed_short F len cap a k bad w h hk).mono ?_
  rintro e w' ⟨rfl, rfl⟩
  exact ⟨rfl, (h.set1 true).set0 _, grown_two (set_grown _ _ _ _) (set_grown _ _ _ _)⟩
theorem fixed_nil2 (F : Nat) (bad : Bool) (w : World) (h : FAt w F (.slice none 0 0) bad) :
    Calls Yba.prog 5 #[.pointer (some ⟨F, 0, none⟩), .int .i64 0] w fun e w' => e = .returned (.slice none 0 0) ∧ FAt w' F (.slice none 0 0) bad ∧ w.grownBy w' (some F) := by
  refine (fixed_nil F bad w h).mono ?_
  rintro e w' ⟨rfl, rfl⟩
  exact ⟨rfl, h.set0 _, set_grown _ _ _ _⟩

set_option maxHeartbeats 800000 in
set_option maxRecDepth 100000 in
theorem walk_nil0 (bad : Bool) (w : World) :
    Calls Yba.prog 3 #[.slice none 0 0, .bool bad, .int .u8 0] w fun e w' => e = .returned (.bool true) ∧ Below w.heap.size w w' := by
  have hnn := fun (w : World) => run_neq_slice_nil_any (P := Yba.prog) w 22 5 none 0 0 0 0 Yba.underlying22
  have hF : Hid (FAt (w.alloc (.cells #[.slice none 0 0, .bool bad] 25)) w.heap.size (.slice none 0 0) bad) := hide (heap_alloc_new _ _)
  go_enter Yba.func3, Yba.ntmps3
  go_wp2_with fail
  refine (fixed_nil2 w.heap.size bad _ (unhide hF)).mono ?_
  rintro e w1 ⟨rfl, h1, h2⟩
  have hB1 := hide ((((Below.refl w.heap.size w).alloc (Nat.le_refl _) _)).grown h2 (by simp) (fun k hk => by cases hk; exact Nat.le_refl _))
  have c0 := h1.c0
  have c1 := h1.c1
  clear h1 h2 hF
  go_wp2_with fail
  go_loop [11] (fun i => i = .int .i64 0) (fun _ => 0)
  case atStart => rfl
  case round =>
    subst hrel
    go_wp2_with fail
    go_loop [12] (fun i => i = .int .i64 0) (fun _ => 0)
    case atStart => rfl
    case round =>
      subst hrel
      have t3 : decide ((0 : Int) < 0) = false := by decide
      go_wp2_with fail
      go_quiet (fail)
      go_wp2_with fail
      go_quiet (fail)
      go_wp2_with fail
      go_loop [13] (fun i => i = .int .i64 0) (fun _ => 0)
      case atStart => rfl
      case round =>
        subst hrel
        go_wp2
        go_ret
        exact ⟨rfl, by repeat (first | exact unhide hB1 | apply below_drewN)⟩

set_option maxHeartbeats 800000 in
set_option maxRecDepth 100000 in
theorem walk_nil (bad : Bool) (k : Nat) (hk0 : 0 < k) (hk : k ≤ 255) (w : World) :
    Calls Yba.prog 3 #[.slice none 0 0, .bool bad, .int .u8 k] w fun e w' => e = .returned (.bool true) ∧ Below w.heap.size w w' := by
  have hnn := fun (w : World) => run_neq_slice_nil_any (P := Yba.prog) w 22 5 none 0 0 0 0 Yba.underlying22
  have hnil := fun (w : World) => Lib.run_eql_slice_nil (P := Yba.prog) w 22 5 none 0 0 0 0 Yba.underlying22
  have hF : Hid (FAt (w.alloc (.cells #[.slice none 0 0, .bool bad] 25)) w.heap.size (.slice none 0 0) bad) := hide (heap_alloc_new _ _)
  go_enter Yba.func3, Yba.ntmps3
  go_wp2_with fail
  refine (fixed_short2 w.heap.size 0 0 none k bad _ (unhide hF) hk0).mono ?_
  rintro e w1 ⟨rfl, h1, h2⟩
  have hB1 := hide ((((Below.refl w.heap.size w).alloc (Nat.le_refl _) _)).grown h2 (by simp) (fun k hk => by cases hk; exact Nat.le_refl _))
  have c0 := h1.c0
  have c1 := h1.c1
  clear h1 h2 hF
  go_wp2
  go_ret
  exact ⟨rfl, unhide hB1⟩

set_option maxHeartbeats 800000 in
set_option maxRecDepth 100000 in
theorem walk_short (ad : Addr) (L cap : Nat) (bad : Bool) (k : Nat) (xs : List Int) (w : World) (hA : Arg w (some ad) L cap xs) (hL : L ≤ 65536) (hk : k ≤ 255) (hs : L < k) :
    Calls Yba.prog 3 #[.slice (some ad) L cap, .bool bad, .int .u8 k] w fun e w' => e = .returned (.bool true) ∧ Below w.heap.size w w' := by
  obtain ⟨i0, hi, hz0, hz1, hz2⟩ := info_parts info5
  have hnn := fun (w : World) => run_neq_slice_nil_any (P := Yba.prog) w 22 5 (some ad) L cap 0 0 Yba.underlying22
  go_enter Yba.func3, Yba.ntmps3
  go_wp2_with (first
    | (at_make; refine wpList_make_full _ rfl _ _ 22 rfl w.heap.size 5 i0 (.int .u8 0) 1 Yba.underlying22 hi hz0 hz1 .i64 .i64 _ _ L rfl rfl rfl rfl (by rw [hz2]; omega) (by unfold maxLen; omega) (Nat.le_refl _) ?_))
  intro wm hom hgm
  have hfull : Hid _ := own_full hom
  have hbm : Below w.heap.size w wm := (Below.refl _ _).grown hgm (Nat.le_refl _) (fun k h => by cases h)
  have hlm : (madeCells #[Value.int .u8 0] L).toList.length = L := by simpa using hom.1
  clear hom hgm
  have hsrc : Hid (0 < (byts xs).length → ∃ ad', some ad = some ad' ∧ ∀ j v, (byts xs)[j]? = some v → wm.cell? (ad'.add j) = some v) := by
    intro _
    refine ⟨ad, rfl, fun j u hu => ?_⟩
    have hc := hA.cells ad rfl j u hu
    rw [hbm.cell (p := ad.add j) (block_lt_of_cell hc)]
    exact hc
  have hk1 : Hid ((Yba.prog.info? 5).map (·.size) = some 1) := by show _ = _; rw [hi]; simp [hz1]
  have hk2 : Hid ((byts xs).length = Nat.min L L) := by show _ = _; rw [byts_len, hA.len]; simp
  have hk4 : Hid (0 + (byts xs).length ≤ (madeCells #[Value.int .u8 0] L).toList.length) := by show _ ≤ _; rw [hlm, byts_len, hA.len]; omega
  have hA1 := hide hA
  clear hA
  go_wp2_with (refine wpList_copy_splice rfl (.tmp 22) (.tmp 23) 22 22 rfl 5 Yba.underlying22 hk1.out _ (some ad) L L L cap rfl rfl w.heap.size 0 _ 5 hfull.out (byts xs) hk2.out (fun hp => ⟨rfl, hsrc.out hp⟩) hk4.out (byts_one _) w.heap.size w hbm (Nat.le_refl _) ?_)
  clear hsrc hk1 hk2 hk4
  intro wc Hc hbc
  have hC0 : wc.heap[w.heap.size]? = some (.cells (byts xs).toArray 5 (0, 0)) := by
    have h := Hc.out
    rw [splice_all _ _ (by rw [hlm, byts_len, (unhide hA1).len])] at h
    exact h
  have hzc : w.heap.size < wc.heap.size := lt_of_block Hc.out
  have hC : Hid (∀ o : Obj, (wc.alloc o).heap[w.heap.size]? = some (.cells (byts xs).toArray 5 (0, 0))) := hide (fun o => by rw [Below.heap_alloc _ _ _ hzc]; exact hC0)
  have hF : Hid (FAt (wc.alloc (.cells #[.slice (some ⟨w.heap.size, 0, none⟩) L L, .bool bad] 25)) wc.heap.size (.slice (some ⟨w.heap.size, 0, none⟩) L L) bad) := hide (heap_alloc_new _ _)
  have hB : Hid (∀ o : Obj, Below w.heap.size w (wc.alloc o)) := hide (fun o => hbc.alloc (by omega) o)
  clear Hc hfull hbm hlm hC0 hbc
  have hnil := fun (w : World) => Lib.run_eql_slice_nil (P := Yba.prog) w 22 5 none 0 0 0 0 Yba.underlying22
  go_wp2_with fail
  refine (fixed_short2 wc.heap.size L L _ k bad _ (unhide hF) hs).mono ?_
  rintro e w1 ⟨rfl, h1, h2⟩
  have hB1 := hide ((unhide hB _).grown h2 (by simp; omega) (fun k hk => by cases hk; omega))
  have c0 := h1.c0
  have c1 := h1.c1
  clear h1 h2 hF hB hC
  go_wp2
  go_ret
  exact ⟨rfl, unhide hB1⟩

set_option maxHeartbeats 1600000 in
set_option maxRecDepth 100000 in
theorem walk_ok (ad : Addr) (L cap : Nat) (bad : Bool) (k : Nat) (xs : List Int) (w : World) (hA : Arg w (some ad) L cap xs) (hL : L ≤ 65536) (hk : k ≤ 255) (hkL : k ≤ L) :
    Calls Yba.prog 3 #[.slice (some ad) L cap, .bool bad, .int .u8 k] w fun e w' => e = .returned (.bool true) ∧ Below w.heap.size w w' := by
  obtain ⟨i0, hi, hz0, hz1, hz2⟩ := info_parts info5
  have hnn := fun (w : World) => run_neq_slice_nil_any (P := Yba.prog) w 22 5 (some ad) L cap 0 0 Yba.underlying22
  go_enter Yba.func3, Yba.ntmps3
  go_wp2_with (first
    | (at_make; refine wpList_make_full _ rfl _ _ 22 rfl w.heap.size 5 i0 (.int .u8 0) 1 Yba.underlying22 hi hz0 hz1 .i64 .i64 _ _ L rfl rfl rfl rfl (by rw [hz2]; omega) (by unfold maxLen; omega) (Nat.le_refl _) ?_))
  intro wm hom hgm
  have hfull : Hid _ := own_full hom
  have hbm : Below w.heap.size w wm := (Below.refl _ _).grown hgm (Nat.le_refl _) (fun k h => by cases h)
  have hlm : (madeCells #[Value.int .u8 0] L).toList.length = L := by simpa using hom.1
  clear hom hgm
  have hsrc : Hid (0 < (byts xs).length → ∃ ad', some ad = some ad' ∧ ∀ j v, (byts xs)[j]? = some v → wm.cell? (ad'.add j) = some v) := by
    intro _
    refine ⟨ad, rfl, fun j u hu => ?_⟩
    have hc := hA.cells ad rfl j u hu
    rw [hbm.cell (p := ad.add j) (block_lt_of_cell hc)]
    exact hc
  have hk1 : Hid ((Yba.prog.info? 5).map (·.size) = some 1) := by show _ = _; rw [hi]; simp [hz1]
  have hk2 : Hid ((byts xs).length = Nat.min L L) := by show _ = _; rw [byts_len, hA.len]; simp
  have hk4 : Hid (0 + (byts xs).length ≤ (madeCells #[Value.int .u8 0] L).toList.length) := by show _ ≤ _; rw [hlm, byts_len, hA.len]; omega
  have hA1 := hide hA
  clear hA
  go_wp2_with (refine wpList_copy_splice rfl (.tmp 22) (.tmp 23) 22 22 rfl 5 Yba.underlying22 hk1.out _ (some ad) L L L cap rfl rfl w.heap.size 0 _ 5 hfull.out (byts xs) hk2.out (fun hp => ⟨rfl, hsrc.out hp⟩) hk4.out (byts_one _) w.heap.size w hbm (Nat.le_refl _) ?_)
  clear hsrc hk1 hk2 hk4
  intro wc Hc hbc
  have hC0 : wc.heap[w.heap.size]? = some (.cells (byts xs).toArray 5 (0, 0)) := by
    have h := Hc.out
    rw [splice_all _ _ (by rw [hlm, byts_len, (unhide hA1).len])] at h
    exact h
  have hzc : w.heap.size < wc.heap.size := lt_of_block Hc.out
  have hC : Hid (∀ o : Obj, (wc.alloc o).heap[w.heap.size]? = some (.cells (byts xs).toArray 5 (0, 0))) := hide (fun o => by rw [Below.heap_alloc _ _ _ hzc]; exact hC0)
  have hF : Hid (FAt (wc.alloc (.cells #[.slice (some ⟨w.heap.size, 0, none⟩) L L, .bool bad] 25)) wc.heap.size (.slice (some ⟨w.heap.size, 0, none⟩) L L) bad) := hide (heap_alloc_new _ _)
  have hB : Hid (∀ o : Obj, Below w.heap.size w (wc.alloc o)) := hide (fun o => hbc.alloc (by omega) o)
  clear Hc hfull hbm hlm hC0 hbc
  go_wp2_with fail
  refine (fixed_ok2 wc.heap.size L w.heap.size 0 k bad _ (unhide hF) hkL).mono ?_
  rintro e w1 ⟨rfl, h1, h2⟩
  have hB1 := hide ((unhide hB _).grown h2 (by simp; omega) (fun k hk => by cases hk; omega))
  have hC1 : Hid (w1.heap[w.heap.size]? = some (.cells (byts xs).toArray 5 (0, 0))) := hide ((h2.block _ (by simp; omega) (by simp; omega)).trans (unhide hC _))
  have hF1 := hide h1
  have hlen := (unhide hA1).len
  have hcopy : Hid (∀ j, j < L → w1.cell? ⟨w.heap.size, j, none⟩ = some (.int .u8 (xs.getD j 0))) := hide (fun j hj => copy_at (unhide hC1) j (by omega))
  have hg1 : w.heap.size < w1.heap.size := lt_of_block (unhide hC1)
  have hf1 : wc.heap.size < w1.heap.size := h1.lt
  have hdat : Hid (0 < L → ∃ b off, ad = ⟨b, off, none⟩ ∧ b < w1.heap.size ∧ ∀ j, j < L → w1.cell? ⟨b, off + j, none⟩ = some (.int .u8 (xs.getD j 0))) := hide (fun hp => by
    obtain ⟨b, off, e, hb, hc⟩ := (unhide hA1).at_ hp
    exact ⟨b, off, by simpa using e, by omega, fun j hj => ((unhide hB1).cell (p := ⟨b, off + j, none⟩) hb).trans (hc j hj)⟩)
  have c0 := h1.c0
  have c1 := h1.c1
  have hpp := ptr_neq
  clear h1 h2 hF hB hC hA1 hC1 hlen
  go_wp2_with fail
  go_loopw [11] (fun i wr => ∃ j : Nat, j ≤ k ∧ i = .int .i64 j ∧ Hid (Below w1.heap.size w1 wr)) (fun i _ => k - (intOf i).toNat)
  case atStart => exact ⟨0, Nat.zero_le _, rfl, Below.refl _ _⟩
  case round =>
    obtain ⟨j, hj, rfl, hBz⟩ := hrel
    by_cases hlt : j < k
    · obtain ⟨b, off, hab, hbl, hbc⟩ := unhide hdat (by omega)
      subst hab
      have q1 := ((unhide hBz).cell (p := ⟨w.heap.size, j, none⟩) hg1).trans (unhide hcopy j (by omega))
      have q2 := ((unhide hBz).cell (p := ⟨b, off + j, none⟩) hbl).trans (hbc j (by omega))
      clear hbc hdat hcopy
      generalize xs.getD j 0 = z at *
      go_wp2
      go_quiet (fail)
      go_wp2
      go_roundw
      case rel => exact ⟨j + 1, by omega, by go_num, hide (below_drewN (unhide hBz) _)⟩
      case measure => simp [intOf]; omega
    · obtain ⟨w2, rfl⟩ : ∃ w2 : World, w2 = wr := ⟨_, rfl⟩
      have d0 := ((unhide hBz).cell (p := ⟨wc.heap.size, 0, none⟩) hf1).trans c0
      go_wp2_with fail
      go_loopw [12] (fun i wr => ∃ j : Nat, j ≤ L - k ∧ i = .int .i64 j ∧ Hid (Below w1.heap.size w1 wr)) (fun i _ => L - k - (intOf i).toNat)
      case atStart => exact ⟨0, Nat.zero_le _, rfl, hBz⟩
      case round =>
        obtain ⟨j2, hj2, rfl, hBy⟩ := hrel
        have e0 := ((unhide hBy).cell (p := ⟨wc.heap.size, 0, none⟩) hf1).trans c0
        by_cases hlt2 : j2 < L - k
        · obtain ⟨b, off, hab, hbl, hbc⟩ := unhide hdat (by omega)
          subst hab
          have hnx : nx 0 k L = k := by unfold nx; rw [if_neg (by omega)]; omega
          rw [hnx] at e0
          have q1 := ((unhide hBy).cell (p := ⟨w.heap.size, k + j2, none⟩) hg1).trans (unhide hcopy (k + j2) (by omega))
          have q2 := ((unhide hBy).cell (p := ⟨b, off + (k + j2), none⟩) hbl).trans (hbc (k + j2) (by omega))
          clear hbc hdat hcopy hnx c0 d0
          generalize xs.getD (k + j2) 0 = z at *
          go_wp2
          go_quiet (fail)
          go_wp2
          go_roundw
          case rel => exact ⟨j2 + 1, by omega, by go_num, hide (below_drewN (unhide hBy) _)⟩
          case measure => simp [intOf]; omega
        · obtain ⟨w3, rfl⟩ : ∃ w3 : World, w3 = wr := ⟨_, rfl⟩
          go_wp2_with fail
          by_cases hk0 : k = 0
          · subst hk0
            have t3 : decide ((0 : Int) < 0) = false := by decide
            go_quiet (fail)
            go_wp2_with fail
            by_cases hLk : L = 0
            · subst hLk
              have e1 : w3.cell? ⟨wc.heap.size, 0, none⟩ = some (.slice (some ⟨w.heap.size, nx 0 0 0, none⟩) 0 0) := by simpa using e0
              clear e0 c0 d0
              have t7 : decide ((0 : Int) < 0) = false := by decide
              go_quiet (fail)
              go_wp2_with fail
              go_loopw [13] (fun i wr => ∃ j : Nat, j ≤ 0 ∧ i = .int .i64 j ∧ Hid (Below w1.heap.size w1 wr)) (fun i _ => 0 - (intOf i).toNat)
              case atStart => exact ⟨0, Nat.zero_le _, rfl, hide (below_drewN (below_drewN (unhide hBy) _) _)⟩
              case round =>
                obtain ⟨j3, hj3, rfl, hBx⟩ := hrel
                by_cases hlt3 : j3 < 0
                · exact absurd hlt3 (Nat.not_lt_zero _)
                · go_wp2
                  go_ret
                  exact ⟨rfl, (unhide hB1).trans ((unhide hBx).mono (by omega))⟩
            · have hnx : nx 0 0 L = 0 := by unfold nx; split <;> omega
              rw [hnx] at e0
              clear c0 d0 hnx
              obtain ⟨M, hM⟩ : ∃ M, L - 0 = M := ⟨_, rfl⟩
              have t8 : 0 < L := by omega
              have t9 : (0 : Int) < L := by omega
              have t10 : 0 < M := by omega
              have t11 : (0 : Int) < M := by omega
              have t7 : decide (0 < M) = true := decide_eq_true t10
              try rw [hM] at e0
              replace hM := hide hM
              go_quiet (fail)
              go_wp2_with fail
              go_loopw [13] (fun i wr => ∃ j : Nat, j ≤ L ∧ i = .int .i64 j ∧ Hid (Below w1.heap.size w1 wr)) (fun i _ => L - (intOf i).toNat)
              case atStart => exact ⟨0, Nat.zero_le _, rfl, hide (below_drewN (below_drewN (unhide hBy) _) _)⟩
              case round =>
                obtain ⟨j3, hj3, rfl, hBx⟩ := hrel
                by_cases hlt3 : j3 < L
                · obtain ⟨b, off, hab, hbl, hbc⟩ := unhide hdat (by omega)
                  subst hab
                  have q1 := ((unhide hBx).cell (p := ⟨w.heap.size, j3, none⟩) hg1).trans (unhide hcopy j3 (by omega))
                  have q2 := ((unhide hBx).cell (p := ⟨b, off + j3, none⟩) hbl).trans (hbc j3 (by omega))
                  clear hbc hdat hcopy
                  generalize xs.getD j3 0 = z at *
                  go_wp2
                  go_quiet (fail)
                  go_wp2
                  go_roundw
                  case rel => exact ⟨j3 + 1, by omega, by go_num, hide (below_drewN (unhide hBx) _)⟩
                  case measure => simp [intOf]; omega
                · go_wp2
                  go_ret
                  exact ⟨rfl, (unhide hB1).trans ((unhide hBx).mono (by omega))⟩
          · have t3 : decide (0 < k) = true := decide_eq_true (by omega)
            have t4 : 0 < k := by omega
            have t5 : (0 : Int) < k := by omega
            have t6 : (0 : Int) < L := by omega
            go_quiet (fail)
            go_wp2_with fail
            by_cases hLk : L = k
            · subst hLk
              have e1 : w3.cell? ⟨wc.heap.size, 0, none⟩ = some (.slice (some ⟨w.heap.size, nx 0 L L, none⟩) 0 0) := by simpa using e0
              clear e0 c0 d0
              have t7 : decide ((0 : Int) < 0) = false := by decide
              go_quiet (fail)
              go_wp2_with fail
              go_loopw [13] (fun i wr => ∃ j : Nat, j ≤ L ∧ i = .int .i64 j ∧ Hid (Below w1.heap.size w1 wr)) (fun i _ => L - (intOf i).toNat)
              case atStart => exact ⟨0, Nat.zero_le _, rfl, hide (below_drewN (below_drewN (unhide hBy) _) _)⟩
              case round =>
                obtain ⟨j3, hj3, rfl, hBx⟩ := hrel
                by_cases hlt3 : j3 < L
                · obtain ⟨b, off, hab, hbl, hbc⟩ := unhide hdat (by omega)
                  subst hab
                  have q1 := ((unhide hBx).cell (p := ⟨w.heap.size, j3, none⟩) hg1).trans (unhide hcopy j3 (by omega))
                  have q2 := ((unhide hBx).cell (p := ⟨b, off + j3, none⟩) hbl).trans (hbc j3 (by omega))
                  clear hbc hdat hcopy
                  generalize xs.getD j3 0 = z at *
                  go_wp2
                  go_quiet (fail)
                  go_wp2
                  go_roundw
                  case rel => exact ⟨j3 + 1, by omega, by go_num, hide (below_drewN (unhide hBx) _)⟩
                  case measure => simp [intOf]; omega
                · go_wp2
                  go_ret
                  exact ⟨rfl, (unhide hB1).trans ((unhide hBx).mono (by omega))⟩
            · have hnx : nx 0 k L = k := by unfold nx; split <;> omega
              rw [hnx] at e0
              clear c0 d0 hnx
              obtain ⟨M, hM⟩ : ∃ M, L - k = M := ⟨_, rfl⟩
              have t8 : k < L := by omega
              have t9 : (k : Int) < L := by omega
              have t10 : 0 < M := by omega
              have t11 : (0 : Int) < M := by omega
              have t7 : decide (0 < M) = true := decide_eq_true t10
              try rw [hM] at e0
              replace hM := hide hM
              go_quiet (fail)
              go_wp2_with fail
              go_loopw [13] (fun i wr => ∃ j : Nat, j ≤ L ∧ i = .int .i64 j ∧ Hid (Below w1.heap.size w1 wr)) (fun i _ => L - (intOf i).toNat)
              case atStart => exact ⟨0, Nat.zero_le _, rfl, hide (below_drewN (below_drewN (unhide hBy) _) _)⟩
              case round =>
                obtain ⟨j3, hj3, rfl, hBx⟩ := hrel
                by_cases hlt3 : j3 < L
                · obtain ⟨b, off, hab, hbl, hbc⟩ := unhide hdat (by omega)
                  subst hab
                  have q1 := ((unhide hBx).cell (p := ⟨w.heap.size, j3, none⟩) hg1).trans (unhide hcopy j3 (by omega))
                  have q2 := ((unhide hBx).cell (p := ⟨b, off + j3, none⟩) hbl).trans (hbc j3 (by omega))
                  clear hbc hdat hcopy
                  generalize xs.getD j3 0 = z at *
                  go_wp2
                  go_quiet (fail)
                  go_wp2
                  go_roundw
                  case rel => exact ⟨j3 + 1, by omega, by go_num, hide (below_drewN (unhide hBx) _)⟩
                  case measure => simp [intOf]; omega
                · go_wp2
                  go_ret
                  exact ⟨rfl, (unhide hB1).trans ((unhide hBx).mono (by omega))⟩

theorem walk_all (a : Option Addr) (L cap : Nat) (bad : Bool) (k : Nat) (xs : List Int) (w : World) (hA : Arg w a L cap xs) (hk : k ≤ 255) :
    Calls Yba.prog 3 #[.slice a L cap, .bool bad, .int .u8 k] w fun e w' => e = .returned (.bool true) ∧ Below w.heap.size w w' := by
  by_cases hL : 65536 < L
  · exact walk_big a L cap bad k w hL
  cases a with
  | none =>
    obtain ⟨rfl, rfl⟩ := hA.nil rfl
    by_cases hk0 : k = 0
    · subst hk0; exact walk_nil0 bad w
    · exact walk_nil bad k (by omega) hk w
  | some ad =>
    by_cases hs : L < k
    · exact walk_short ad L cap bad k xs w hA (by omega) hk hs
    · exact walk_ok ad L cap bad k xs w hA (by omega) hk (by omega)
end Go.Proofs.Ybulkbzgy
