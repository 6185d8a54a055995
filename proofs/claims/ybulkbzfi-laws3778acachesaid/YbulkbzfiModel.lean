/-
  The contracts of zzs3778amodel and zzs3778aleafsum.
-/
import Derived.Test.YbulkbzfiClone
namespace Go.Proofs.Ybulkbzfi
open Go.RowKit

/-- One more entry. -/
def mdStep (g n : Int) (acc : Int) (x : In3) : Int := if x.1 = g ∧ x.2.1 < n then IntKind.u64.wrap (acc + x.2.2) else acc
/-- The model's sum. -/
def md (g n : Int) (d : List In3) : Int := d.foldl (mdStep g n) 0

/-- What is told of the slice that came in. -/
structure Arg (w : World) (a : Option Addr) (n cap : Nat) (d : List In3) : Prop where
  len : d.length = n
  nil : a = none → n = 0 ∧ cap = 0
  cells : ∀ ad, a = some ad → ∀ j u, (cells3 d)[j]? = some u → w.cell? (ad.add j) = some u
  at_ : 0 < n → ∃ b off, a = some ⟨b, off, none⟩ ∧ b < w.heap.size ∧ ∀ j, j < n → w.cell? ⟨b, off + j * 3, none⟩ = some (.int .u8 (el d j).1) ∧ w.cell? ⟨b, off + j * 3 + 1, none⟩ = some (.int .u8 (el d j).2.1) ∧ w.cell? ⟨b, off + j * 3 + 2, none⟩ = some (.int .u64 (el d j).2.2)
  wf : ∀ j, j < n → 0 ≤ (el d j).1 ∧ (el d j).1 ≤ 255 ∧ 0 ≤ (el d j).2.1 ∧ (el d j).2.1 ≤ 255 ∧ 0 ≤ (el d j).2.2 ∧ (el d j).2.2 < 18446744073709551616

theorem Arg.below {w w' : World} {a : Option Addr} {n cap : Nat} {d : List In3} (h : Arg w a n cap d) (hb : Below w.heap.size w w') : Arg w' a n cap d :=
  ⟨h.len, h.nil, fun ad ha j u hu => (hb.cell (p := ad.add j) (block_lt_of_cell (h.cells ad ha j u hu))).trans (h.cells ad ha j u hu),
    fun hp => by
      obtain ⟨b, off, e, hl, hc⟩ := h.at_ hp
      exact ⟨b, off, e, Nat.lt_of_lt_of_le hl hb.size, fun j hj => ⟨(hb.cell (p := ⟨b, off + j * 3, none⟩) hl).trans (hc j hj).1, (hb.cell (p := ⟨b, off + j * 3 + 1, none⟩) hl).trans (hc j hj).2.1, (hb.cell (p := ⟨b, off + j * 3 + 2, none⟩) hl).trans (hc j hj).2.2⟩⟩, h.wf⟩

theorem md_take (g n : Int) (d : List In3) (k : Nat) (hk : k < d.length) : md g n (d.take (k + 1)) = mdStep g n (md g n (d.take k)) (el d k) := by
  unfold md
  rw [List.take_add_one, List.getElem?_eq_getElem hk]
  simp only [List.foldl_append, el, List.getD, List.getElem?_eq_getElem hk, Option.toList_some, List.foldl_cons, List.foldl_nil, Option.getD_some]

set_option maxHeartbeats 1600000 in
set_option maxRecDepth 100000 in
theorem model_any (a : Option Addr) (n cap : Nat) (d : List In3) (g m : Int) (w : World) (h : Arg w a n cap d) (hn : n ≤ 2000) (hm0 : 0 < m) (hm : m ≤ 255) :
    Calls Yba.prog 18 #[.slice a n cap, .int .u64 g, .int .u64 m] w fun e w' => e = .returned (.int .u64 (md g m d)) ∧ Below w.heap.size w w' := by
  have hA := hide h
  clear h
  have t0 : (m == 0) = false := beq_eq_false_iff_ne.2 (by omega)
  go_enter Yba.func18, Yba.ntmps18
  go_wp2_with fail
  go_loopw [7, 14] (fun x y wr => ∃ k : Nat, k ≤ n ∧ x = .int .u64 (md g m (d.take k)) ∧ y = .int .i64 k ∧ Hid (Below w.heap.size w wr)) (fun _ y _ => n - (intOf y).toNat)
  case atStart => exact ⟨0, Nat.zero_le _, rfl, rfl, hide (Below.refl _ _)⟩
  case round =>
    obtain ⟨k, hk, rfl, rfl, hB⟩ := hrel
    by_cases hlt : k < n
    · obtain ⟨b, off, rfl, hb, hc⟩ := (unhide hA).at_ (by omega)
      obtain ⟨c0, c1, c2⟩ := hc k hlt
      have c0 := ((unhide hB).cell (p := ⟨b, off + k * 3, none⟩) hb).trans c0
      have c1 := ((unhide hB).cell (p := ⟨b, off + k * 3 + 1, none⟩) hb).trans c1
      have c2 := ((unhide hB).cell (p := ⟨b, off + k * 3 + 2, none⟩) hb).trans c2
      obtain ⟨f0, f1, f2, f3, f4, f5⟩ := (unhide hA).wf k hlt
      have hs := hide (md_take g m d k (by rw [(unhide hA).len]; exact hlt))
      clear hc
      generalize el d k = X at *
      obtain ⟨X0, X1, X2⟩ := X
      dsimp only at *
      by_cases p1 : X0 = g
      · by_cases p2 : X1 < m
        · go_wp2
          go_roundw
          case rel => exact ⟨k + 1, by omega, by rw [unhide hs]; simp [mdStep, p1, p2], by go_num, hide ((unhide hB).alloc (unhide hB).size _)⟩
          case measure => simp [intOf]; omega
        · go_wp2
          go_roundw
          case rel => exact ⟨k + 1, by omega, by rw [unhide hs]; simp [mdStep, p2], by go_num, hide ((unhide hB).alloc (unhide hB).size _)⟩
          case measure => simp [intOf]; omega
      · go_wp2
        go_roundw
        case rel => exact ⟨k + 1, by omega, by rw [unhide hs]; simp [mdStep, p1], by go_num, hide ((unhide hB).alloc (unhide hB).size _)⟩
        case measure => simp [intOf]; omega
    · have e1 : d.take k = d := List.take_of_length_le (by rw [(unhide hA).len]; omega)
      rw [e1]
      clear e1
      go_wp2
      go_ret
      exact ⟨rfl, unhide hB⟩

set_option maxHeartbeats 400000 in
theorem model_zero (a : Option Addr) (n cap : Nat) (g : Int) (w : World) : Calls Yba.prog 18 #[.slice a n cap, .int .u64 g, .int .u64 0] w fun e w' => e = .returned (.int .u64 0) ∧ w' = w := by
  go_enter Yba.func18, Yba.ntmps18
  go_wp2
  go_ret
  exact ⟨rfl, rfl⟩
theorem md_zero (g : Int) (d : List In3) (h : ∀ x ∈ d, 0 ≤ x.2.1) : md g 0 d = 0 := by
  unfold md
  suffices ∀ acc, d.foldl (mdStep g 0) acc = acc from this 0
  induction d with
  | nil => intro acc; rfl
  | cons x d ih =>
    intro acc
    rw [List.foldl_cons]
    have e : mdStep g 0 acc x = acc := by
      unfold mdStep
      rw [if_neg (by have := h x (by simp); omega)]
    rw [e]
    exact ih (fun y hy => h y (by simp [hy])) acc

/-- The model at any count. -/
theorem model_at (a : Option Addr) (n cap : Nat) (d : List In3) (g m : Int) (w : World) (h : Arg w a n cap d) (hn : n ≤ 2000) (hm0 : 0 ≤ m) (hm : m ≤ 255) :
    Calls Yba.prog 18 #[.slice a n cap, .int .u64 g, .int .u64 m] w fun e w' => e = .returned (.int .u64 (md g m d)) ∧ Below w.heap.size w w' := by
  by_cases h0 : m = 0
  · subst h0
    refine (model_zero a n cap g w).mono ?_
    rintro e w' ⟨rfl, rfl⟩
    rw [md_zero]
    · exact ⟨rfl, Below.refl _ _⟩
    · intro x hx
      obtain ⟨i, hi, rfl⟩ := List.getElem_of_mem hx
      have := (h.wf i (by rw [← h.len]; exact hi)).2.2.1
      simpa [el, List.getD, hi] using this
  · exact model_any a n cap d g m w h hn (by omega) hm

theorem wraps_u64 (n : Int) (h₀ : 0 ≤ n) (h₁ : n < 2 ^ 63) : IntKind.u64.wrap n = n := by rw [IntKind.wrap_u64]; omega
theorem or16 (p k : Int) (hp : 0 ≤ p) (hp1 : p ≤ 100000) (hk : 0 ≤ k) (hk1 : k < 16) : bits .or .u64 (p * 16) k = p * 16 + k :=
  bits_join .u64 63 (by decide) wraps_u64 4 (p * 16) k (by omega) (by omega) (by omega) hk (by omega) (by omega)

/-- A row of counts. -/
def row8 (r : List Int) : Array Value := (r.map (Value.int .u8)).toArray
theorem row8_at (r : List Int) (j : Nat) (h : j < r.length) : (row8 r)[j]? = some (.int .u8 (r.getD j 0)) := by simp [row8, h, List.getD]
/-- The sum over a leaf's first k slots. -/
def lsum (d : List In3) (r : List Int) (p : Int) : Nat → Int
  | 0 => 0
  | k + 1 => IntKind.u64.wrap (lsum d r p k + md (p * 16 + k) (r.getD k 0) d)

set_option maxHeartbeats 1600000 in
set_option maxRecDepth 100000 in
theorem leafsum_any (a : Option Addr) (n cap : Nat) (d : List In3) (r : List Int) (p : Int) (w : World) (h : Arg w a n cap d) (hn : n ≤ 2000) (hr : r.length = 16) (hr8 : ∀ j, j < 16 → 0 ≤ r.getD j 0 ∧ r.getD j 0 ≤ 255) (hp0 : 0 ≤ p) (hp : p ≤ 100) :
    Calls Yba.prog 9 #[.slice a n cap, .agg (row8 r), .int .u64 p] w fun e w' => e = .returned (.int .u64 (lsum d r p 16)) ∧ Below w.heap.size w w' := by
  have hA := hide h
  have hrh := hide hr
  have hr8h := hide hr8
  clear h hr hr8
  go_enter Yba.func9, Yba.ntmps9
  go_wp2_with fail
  have hB0 : Hid (Below w.heap.size w (w.alloc (.cells (row8 r) 23))) := hide ((Below.refl _ _).alloc (Nat.le_refl _) _)
  have hb0 : Hid ((w.alloc (.cells (row8 r) 23)).heap[w.heap.size]? = some (.cells (row8 r) 23 (0, 0))) := hide (heap_alloc_new w _)
  generalize w.alloc (.cells (row8 r) 23) = w0 at *
  go_loopw [7, 8] (fun x y wr => ∃ k : Nat, k ≤ 16 ∧ x = .int .u64 (lsum d r p k) ∧ y = .int .i64 k ∧ Hid (Below w.heap.size w wr) ∧ Hid (wr.heap[w.heap.size]? = some (.cells (row8 r) 23 (0, 0)))) (fun _ y _ => 16 - (intOf y).toNat)
  case atStart => exact ⟨0, Nat.zero_le _, rfl, rfl, hB0, hb0⟩
  case round =>
    obtain ⟨k, hk, rfl, rfl, hB, hb⟩ := hrel
    clear hB0 hb0
    by_cases hlt : k < 16
    · have c0 : wr.cell? ⟨w.heap.size, k, none⟩ = some (.int .u8 (r.getD k 0)) := by
        rw [cell_of_row wr _ _ _ 23 (0, 0) (unhide hb)]
        exact row8_at r k (by rw [unhide hrh]; exact hlt)
      obtain ⟨f0, f1⟩ := unhide hr8h k hlt
      have hstep : Hid (lsum d r p (k + 1) = IntKind.u64.wrap (lsum d r p k + md (p * 16 + k) (r.getD k 0) d)) := hide rfl
      generalize r.getD k 0 = R at *
      have i1 : (k : Int) < 16 := by omega
      have hor := or16 p k hp0 (by omega) (by omega) i1
      go_wp2_with fail
      refine (model_at a n cap d (p * 16 + k) R wr ((unhide hA).below (unhide hB)) hn f0 f1).mono ?_
      rintro _ w1 ⟨rfl, k1⟩
      have hB1 : Hid (Below w.heap.size w w1) := hide ((unhide hB).trans (k1.mono (unhide hB).size))
      have hb1 : Hid (w1.heap[w.heap.size]? = some (.cells (row8 r) 23 (0, 0))) := hide ((k1.block _ (lt_of_block (unhide hb))).trans (unhide hb))
      clear k1 hB hb
      go_wp2
      go_roundw
      case rel => exact ⟨k + 1, by omega, by rw [unhide hstep], by go_num, hB1, hb1⟩
      case measure => simp [intOf]; omega
    · obtain rfl : k = 16 := by omega
      go_wp2
      go_ret
      exact ⟨rfl, unhide hB⟩
end Go.Proofs.Ybulkbzfi
