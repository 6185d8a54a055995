/-
  The contracts of slices.Clone, grown and slices.Equal at []string.
-/
import Derived.Test.YbulkbzegRows
import Derived.Test.YbulkbzegZeros
import Derived.WalkSpells
import Derived.WalkSmall
import Derived.WalkLawsBesides
import Derived.StillTactics
import Derived.RegionTactic
import Derived.Laws.Pointers
import Derived.Laws.AppendOwnNone
import Derived.Deep.QuietTactic
import Derived.BigQuiet
namespace Go.Proofs.Ybulkbzeg.CS
open Go.RowKit

theorem hide {p : Prop} (h : p) : Hid p := h
theorem unhide {p : Prop} (h : Hid p) : p := h
theorem add_block (a : Addr) (j : Nat) : (a.add j).block = a.block := by unfold Addr.add; split <;> rfl
theorem infoE : (Yba.prog.info? 9).map (fun i => (i.zero, i.size, i.bytes)) = some (some (.string ByteArray.empty), 1, 16) := by kernel_rfl

/-- The cells of a list. -/
def vals (l : List ByteArray) : List Value := l.map Value.string
theorem vals_len (l : List ByteArray) : (vals l).length = l.length := by simp [vals]
theorem vals_at (l : List ByteArray) (j : Nat) (h : j < l.length) : (vals l)[j]? = some (Value.string (l.getD j ByteArray.empty)) := by simp [vals, h, List.getD]
theorem vals_one (l : List ByteArray) : ∀ u ∈ vals l, u.oneCell' = true := by
  intro u hu
  simp only [vals, List.mem_map] at hu
  obtain ⟨x, _, rfl⟩ := hu
  rfl

/-- Nothing below the heap's size has turned: what is owned stays owned. -/
theorem own_below {w w' : World} {B n : Nat} {v : Value} {xs : List Value} (h : w.ownsRow B 9 1 v n xs) (hb : Below w.heap.size w w') : w'.ownsRow B 9 1 v n xs :=
  h.kept (row := none) ⟨hb.os, hb.tape, hb.output, hb.size, fun k hk _ => hb.block k hk⟩ (by cases v.ownBlock <;> simp)

set_option maxHeartbeats 400000 in
theorem clone_nil (w : World) : Calls Yba.prog 14 #[.slice none 0 0] w fun e w' => e = .returned (.slice none 0 0) ∧ w' = w := by
  have hnil := fun (w : World) => Lib.run_eql_slice_nil (P := Yba.prog) w 85 9 none 0 0 0 0 Yba.underlying85
  go_enter Yba.func14, Yba.ntmps14
  go_wp2
  go_ret
  exact ⟨rfl, rfl⟩
set_option maxHeartbeats 400000 in
set_option maxRecDepth 100000 in
theorem clone_some (ad : Addr) (n cap : Nat) (xs : List ByteArray) (w : World) (hx : xs.length = n) (hn : n ≤ 100000) (hc : ∀ j u, (vals xs)[j]? = some u → w.cell? (ad.add j) = some u) :
    Calls Yba.prog 14 #[.slice (some ad) n cap] w fun e w' => ∃ g c, e = .returned (.slice (some ⟨g, 0, none⟩) n c) ∧ w'.ownsRow w.heap.size 9 1 (.slice (some ⟨g, 0, none⟩) n c) n (vals xs) ∧ Below w.heap.size w w' := by
  obtain ⟨i0, hi, hz0, hz1, hz2⟩ := info_parts infoE
  have hnil := fun (w : World) => Lib.run_eql_slice_nil (P := Yba.prog) w 85 9 (some ad) n cap 0 0 Yba.underlying85
  have hc' : Hid (∀ (o : Obj) j u, (vals xs)[j]? = some u → (w.alloc o).cell? (ad.add j) = some u) :=
    hide (fun o j u hu => (((Below.refl w.heap.size w).alloc (Nat.le_refl _) o).cell (p := ad.add j) (block_lt_of_cell (hc j u hu))).trans (hc j u hu))
  have hl : Hid ((vals xs).length = n * 1) := hide (by rw [vals_len, hx, Nat.mul_one])
  have hown : Hid (∀ (w : World), (w.alloc (.cells #[] 9)).ownsRow w.heap.size 9 1 (.slice (some ⟨w.heap.size, 0, none⟩) 0 0) 0 []) :=
    hide (fun w => World.ownsRow_made w #[] 0 (Nat.le_refl _) (by unfold maxLen; omega) rfl)
  clear hc
  go_enter Yba.func14, Yba.ntmps14
  go_wp2_with (at_builtin; refine wpList_append_own _ rfl (.tmp 5) (.tmp 6) 85 rfl w.heap.size 9 i0 (.string ByteArray.empty) 1 16 Yba.underlying85 hi hz0 hz1 hz2 rfl (by decide) _ _ _ rfl (unhide hown w) ad n cap (vals xs) rfl (unhide hl) (unhide hc' _) (vals_one _) (by unfold maxLen; omega) (by omega) (by simp) ?_)
  intro v' w1 hown' hgrow hnn
  try simp only [Nat.zero_add, List.nil_append] at hown'
  have hform : ∃ g c, v' = .slice (some ⟨g, 0, none⟩) n c := by
    rcases hown'.2 with ⟨h1, _⟩ | ⟨g, c, _, h1, _⟩
    · exact absurd h1 hnn
    · exact ⟨g, c, h1⟩
  obtain ⟨g, c, hv⟩ := hform
  subst hv
  have hbel : Below w.heap.size w w1 := ((Below.refl _ _).alloc (Nat.le_refl _) _).grown hgrow (by simp) (fun k hk => by simp [Value.ownBlock] at hk; omega)
  have H := hide (And.intro hown' hbel)
  clear hown' hbel hgrow hnn hnil hi hz0 hz1 hz2 hc' hl hown
  go_wp2
  go_ret
  exact ⟨g, c, rfl, H.out⟩

set_option maxHeartbeats 400000 in
theorem grown_keep (a : Option Addr) (n cap : Nat) (i : Int) (h : i < n) (w : World) :
    Calls Yba.prog 15 #[.slice a n cap, .int .i64 i] w fun e w' => e = .returned (.slice a n cap) ∧ w' = w := by
  go_enter Yba.func15, Yba.ntmps15
  go_wp2
  go_ret
  exact ⟨rfl, rfl⟩

set_option maxHeartbeats 400000 in
set_option maxRecDepth 100000 in
theorem grown_more (B : Nat) (a : Option Addr) (n cap m : Nat) (hnm : n ≤ m) (hm : m ≤ 100000) (xs : List Value) (w : World) (hB : B ≤ w.heap.size) (hown : w.ownsRow B 9 1 (.slice a n cap) n xs) :
    Calls Yba.prog 15 #[.slice a n cap, .int .i64 m] w fun e w' => ∃ g c, e = .returned (.slice (some ⟨g, 0, none⟩) (m + 1) c) ∧
      w'.ownsRow B 9 1 (.slice (some ⟨g, 0, none⟩) (m + 1) c) (m + 1) (xs ++ List.replicate (m + 1 - n) (.string ByteArray.empty)) ∧ w'.ownsRow B 9 1 (.slice a n cap) n xs ∧ Below B w w' := by
  obtain ⟨i0, hi, hz0, hz1, hz2⟩ := info_parts infoE
  have hO := hide hown
  clear hown
  go_enter Yba.func15, Yba.ntmps15
  go_wp2_with (at_builtin; refine wpList_append_zeros_own _ rfl (.tmp 10) (.tmp 15) 85 3 rfl B 9 i0 (.string ByteArray.empty) .i64 .i64 16 Yba.underlying85 Yba.underlying3 hi hz0 hz1 hz2 rfl rfl _ n xs rfl (unhide hO) _ (m + 1 - n) rfl (by omega) (by omega) (by omega) (by omega) hB ?_)
  intro v' w1 h1 h2 h3
  rw [show n + (m + 1 - n) = m + 1 from by omega] at h1
  have hform : ∃ g c, v' = .slice (some ⟨g, 0, none⟩) (m + 1) c := by
    rcases h1.2 with ⟨_, h⟩ | ⟨g, c, _, h, _⟩
    · omega
    · exact ⟨g, c, h⟩
  obtain ⟨g, c, hv⟩ := hform
  subst hv
  have hbel : Below B w w1 := (Below.refl _ _).grown h2 hB (fun k hk => ((unhide hO).lt k hk).1)
  have H := hide (And.intro h1 (And.intro h3 hbel))
  clear h1 h2 h3 hbel hO hi hz0 hz1 hz2
  go_wp2
  go_ret
  exact ⟨g, c, rfl, H.out⟩

set_option maxHeartbeats 400000 in
set_option maxRecDepth 100000 in
theorem equal_none (a1 a2 : Option Addr) (c1 c2 : Nat) (w : World) :
    Calls Yba.prog 16 #[.slice a1 0 c1, .slice a2 0 c2] w fun e w' => e = .returned (.bool true) ∧ Below w.heap.size w w' := by
  go_enter Yba.func16, Yba.ntmps16
  go_wp2
  go_loop [13] (fun i => i = .int .i64 0) (fun _ => 0)
  case atStart => rfl
  case round =>
    subst hrel
    go_wp2
    go_ret
    exact ⟨rfl, Below.refl _ _⟩

set_option maxHeartbeats 800000 in
set_option maxRecDepth 100000 in
theorem equal_some (b1 o1 b2 o2 n c1 c2 : Nat) (xs : List ByteArray) (w : World) (hn : n ≤ 100000) (hb1 : b1 < w.heap.size) (hb2 : b2 < w.heap.size)
    (h1 : ∀ j, j < n → w.cell? ⟨b1, o1 + j, none⟩ = some (Value.string (xs.getD j ByteArray.empty))) (h2 : ∀ j, j < n → w.cell? ⟨b2, o2 + j, none⟩ = some (Value.string (xs.getD j ByteArray.empty))) :
    Calls Yba.prog 16 #[.slice (some ⟨b1, o1, none⟩) n c1, .slice (some ⟨b2, o2, none⟩) n c2] w fun e w' => e = .returned (.bool true) ∧ Below w.heap.size w w' := by
  have H1 := hide h1
  have H2 := hide h2
  clear h1 h2
  go_enter Yba.func16, Yba.ntmps16
  go_wp2
  go_loopw [13] (fun i wr => ∃ k : Nat, k ≤ n ∧ i = .int .i64 k ∧ Hid (Below w.heap.size w wr)) (fun i _ => n - (intOf i).toNat)
  case atStart => exact ⟨0, Nat.zero_le _, rfl, Below.refl _ _⟩
  case round =>
    obtain ⟨k, hk, rfl, hB⟩ := hrel
    by_cases hlt : k < n
    · have q1 := ((unhide hB).cell (p := ⟨b1, o1 + k, none⟩) hb1).trans (unhide H1 k hlt)
      have q2 := ((unhide hB).cell (p := ⟨b2, o2 + k, none⟩) hb2).trans (unhide H2 k hlt)
      clear H1 H2
      generalize xs.getD k ByteArray.empty = z at *
      go_wp2
      go_quiet (fail)
      go_wp2
      go_roundw
      case rel => exact ⟨k + 1, by omega, by go_num, hide (below_drewN (unhide hB) _)⟩
      case measure => simp [intOf]; omega
    · go_wp2
      go_ret
      exact ⟨rfl, unhide hB⟩

/-- What is told of the slice that came in. -/
structure Arg (w : World) (a : Option Addr) (n cap : Nat) (xs : List ByteArray) : Prop where
  len : xs.length = n
  nil : a = none → n = 0 ∧ cap = 0
  cells : ∀ ad, a = some ad → ∀ j u, (vals xs)[j]? = some u → w.cell? (ad.add j) = some u
  at_ : 0 < n → ∃ b off, a = some ⟨b, off, none⟩ ∧ b < w.heap.size ∧ ∀ j, j < n → w.cell? ⟨b, off + j, none⟩ = some (Value.string (xs.getD j ByteArray.empty))

theorem Arg.below {w w' : World} {a : Option Addr} {n cap : Nat} {xs : List ByteArray} (h : Arg w a n cap xs) (hb : Below w.heap.size w w') : Arg w' a n cap xs :=
  ⟨h.len, h.nil, fun ad ha j u hu => (hb.cell (p := ad.add j) (block_lt_of_cell (h.cells ad ha j u hu))).trans (h.cells ad ha j u hu),
    fun hp => by
      obtain ⟨b, off, e, hl, hc⟩ := h.at_ hp
      exact ⟨b, off, e, Nat.lt_of_lt_of_le hl hb.size, fun j hj => (hb.cell (p := ⟨b, off + j, none⟩) hl).trans (hc j hj)⟩⟩

theorem clone_any (a : Option Addr) (n cap : Nat) (xs : List ByteArray) (w : World) (ha : Arg w a n cap xs) (hn : n ≤ 100000) :
    Calls Yba.prog 14 #[.slice a n cap] w fun e w' => ∃ ac c, e = .returned (.slice ac n c) ∧ w'.ownsRow w.heap.size 9 1 (.slice ac n c) n (vals xs) ∧ Below w.heap.size w w' := by
  cases a with
  | none =>
    obtain ⟨rfl, rfl⟩ := ha.nil rfl
    refine (clone_nil w).mono ?_
    rintro e w' ⟨rfl, rfl⟩
    have hx : xs = [] := List.eq_nil_of_length_eq_zero ha.len
    subst hx
    exact ⟨none, 0, rfl, World.ownsRow_nil _ _ _ _, Below.refl _ _⟩
  | some ad =>
    refine (clone_some ad n cap xs w ha.len hn (ha.cells ad rfl)).mono ?_
    rintro e w' ⟨g, c, rfl, h1, h2⟩
    exact ⟨_, c, rfl, h1, h2⟩

theorem own_at {w : World} {B n c : Nat} {ac : Option Addr} {xs : List ByteArray} (h : w.ownsRow B 9 1 (.slice ac n c) n (vals xs)) (hx : xs.length = n) (hp : 0 < n) :
    ∃ g, ac = some ⟨g, 0, none⟩ ∧ g < w.heap.size ∧ ∀ j, j < n → w.cell? ⟨g, j, none⟩ = some (Value.string (xs.getD j ByteArray.empty)) := by
  have hform : ∃ g, ac = some ⟨g, 0, none⟩ := by
    rcases h.2 with ⟨_, h1⟩ | ⟨g, c', _, h1, _⟩
    · omega
    · simp only [Value.slice.injEq] at h1; exact ⟨g, h1.1⟩
  obtain ⟨g, rfl⟩ := hform
  exact ⟨g, rfl, (h.lt g rfl).2, fun j hj => by rw [h.cellAt j (by omega)]; exact vals_at xs j (by omega)⟩

theorem equal_any (B : Nat) (ac a : Option Addr) (n c cap : Nat) (xs : List ByteArray) (w : World) (hn : n ≤ 100000) (ho : w.ownsRow B 9 1 (.slice ac n c) n (vals xs)) (ha : Arg w a n cap xs) :
    Calls Yba.prog 16 #[.slice ac n c, .slice a n cap] w fun e w' => e = .returned (.bool true) ∧ Below w.heap.size w w' := by
  by_cases h0 : n = 0
  · subst h0
    exact equal_none ac a c cap w
  · obtain ⟨b, off, rfl, hb, hc⟩ := ha.at_ (by omega)
    obtain ⟨g, rfl, hg, hcg⟩ := own_at ho ha.len (by omega)
    exact equal_some g 0 b off n c cap xs w hn hg hb (fun j hj => by rw [Nat.zero_add]; exact hcg j hj) hc
end Go.Proofs.Ybulkbzeg.CS
