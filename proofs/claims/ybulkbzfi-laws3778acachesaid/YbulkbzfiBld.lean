/-
  The asks as they are built: a map of objects of two slices, all blocks apart.
-/
import Derived.Test.YbulkbzfiSums
import Derived.Deep.RegionHeld3
import Derived.Deep.AppendLies
namespace Go.Proofs.Ybulkbzfi
open Go.RowKit

def u64s (xs : List Int) : List Value := xs.map (Value.int .u64)

/-- The entry of group l. -/
structure Ent (w : World) (B : Nat) (τ : Nat → Int × Nat) (g : Int) (S : Nat) (l : List In3) : Prop where
  pos : 0 < l.length
  base : B ≤ S
  tS : τ S = (g, 0)
  at_ : ∃ c h capc caph, w.heap[S]? = some (.cells #[.slice (some ⟨c, 0, none⟩) l.length capc, .slice (some ⟨h, 0, none⟩) l.length caph] 73 (0, 0)) ∧ τ c = (g, 1) ∧ τ h = (g, 2) ∧
    w.ownsRow B 27 1 (.slice (some ⟨c, 0, none⟩) l.length capc) l.length (u64s (csOf l)) ∧ w.ownsRow B 27 1 (.slice (some ⟨h, 0, none⟩) l.length caph) l.length (u64s (hsOf l))
/-- The map after the instances q. -/
def Bld (w : World) (B M : Nat) (lA : List (Int × Nat)) (τ : Nat → Int × Nat) (q : List In3) : Prop :=
  AMap w M lA ∧ B ≤ M ∧ ∀ g, (ascA lA g = none ∧ grp g q = []) ∨ ∃ S, ascA lA g = some S ∧ Ent w B τ g S (grp g q)

theorem own_lt {w : World} {B c n cap : Nat} {xs : List Value} (h : w.ownsRow B 27 1 (.slice (some ⟨c, 0, none⟩) n cap) n xs) : c < w.heap.size := (h.lt c rfl).2
theorem own_block {w w' : World} {B c n cap : Nat} {xs : List Value} (h : w.ownsRow B 27 1 (.slice (some ⟨c, 0, none⟩) n cap) n xs) (hb : w'.heap[c]? = w.heap[c]?) : w'.ownsRow B 27 1 (.slice (some ⟨c, 0, none⟩) n cap) n xs := by
  refine ⟨h.1, ?_⟩
  rcases h.2 with h2 | ⟨g, cp, cur, h1, h2, h3, h4⟩
  · exact .inl h2
  · simp only [Value.slice.injEq, Option.some.injEq, Addr.mk.injEq] at h1
    obtain ⟨⟨rfl, _⟩, _, rfl⟩ := h1
    exact .inr ⟨c, cap, cur, rfl, h2, hb.trans h3, h4⟩
theorem own_cells {w : World} {B c n cap : Nat} {xs : List Value} (h : w.ownsRow B 27 1 (.slice (some ⟨c, 0, none⟩) n cap) n xs) : ∃ cur, w.heap[c]? = some (.cells cur 27 (0, 0)) := by
  rcases h.2 with ⟨h2, _⟩ | ⟨g, cp, cur, h1, h2, h3, h4⟩
  · cases h2
  · simp only [Value.slice.injEq, Option.some.injEq, Addr.mk.injEq] at h1
    obtain ⟨⟨rfl, _⟩, _, rfl⟩ := h1
    exact ⟨cur, h3⟩
/-- The new tags. -/
def retag (τ : Nat → Int × Nat) (g : Int) (S c h : Nat) (b : Nat) : Int × Nat := if b = S then (g, 0) else if b = c then (g, 1) else if b = h then (g, 2) else τ b

/-- An entry whose blocks stand and are none of the new ones. -/
theorem Ent.keep {w w' : World} {B M : Nat} {τ : Nat → Int × Nat} {g g' : Int} {S S' c h : Nat} {l : List In3} {lA : List (Int × Nat)} (e : Ent w B τ g' S' l) (hM : AMap w M lA) (hg : g' ≠ g)
    (hS : τ S = (g, 0) ∨ w.heap.size ≤ S) (hc : τ c = (g, 1) ∨ w.heap.size ≤ c) (hh : τ h = (g, 2) ∨ w.heap.size ≤ h)
    (hfr : ∀ b, b < w.heap.size → b ≠ M → (∀ i, τ b ≠ (g, i)) → w'.heap[b]? = w.heap[b]?) : Ent w' B (retag τ g S c h) g' S' l := by
  obtain ⟨c', h', capc, caph, b1, t1, t2, o1, o2⟩ := e.at_
  have noM : ∀ b cs t, w.heap[b]? = some (.cells cs t (0, 0)) → b ≠ M := by
    rintro b cs t hb rfl
    obtain ⟨es, ck, h1, _⟩ := hM
    rw [hb] at h1; cases h1
  have stay : ∀ b i, τ b = (g', i) → b < w.heap.size → retag τ g S c h b = (g', i) := by
    intro b i hb hl
    have n1 : b ≠ S := by
      rintro rfl
      rcases hS with hS | hS
      · rw [hb] at hS; exact hg (congrArg Prod.fst hS)
      · omega
    have n2 : b ≠ c := by
      rintro rfl
      rcases hc with hc | hc
      · rw [hb] at hc; exact hg (congrArg Prod.fst hc)
      · omega
    have n3 : b ≠ h := by
      rintro rfl
      rcases hh with hh | hh
      · rw [hb] at hh; exact hg (congrArg Prod.fst hh)
      · omega
    unfold retag
    rw [if_neg n1, if_neg n2, if_neg n3, hb]
  have same : ∀ b i cs t, τ b = (g', i) → w.heap[b]? = some (.cells cs t (0, 0)) → w'.heap[b]? = w.heap[b]? := fun b i cs t hb hc => hfr b (lt_of_block hc) (noM b cs t hc) (fun j e => hg (by rw [hb] at e; exact congrArg Prod.fst e))
  obtain ⟨cur1, k1⟩ := own_cells o1
  obtain ⟨cur2, k2⟩ := own_cells o2
  exact ⟨e.pos, e.base, stay S' 0 e.tS (lt_of_block b1), c', h', capc, caph, (same S' 0 _ _ e.tS b1).trans b1, stay c' 1 t1 (lt_of_block k1), stay h' 2 t2 (lt_of_block k2), own_block o1 (same c' 1 _ _ t1 k1), own_block o2 (same h' 2 _ _ t2 k2)⟩

/-- One more entry of a group that is there or is new. -/
theorem bld_step {w w' : World} {B M : Nat} {lA lA' : List (Int × Nat)} {τ : Nat → Int × Nat} {q : List In3} {x : In3} {S c h capc caph : Nat} (hb : Bld w B M lA τ q)
    (hM' : AMap w' M lA') (hl : ∀ g, ascA lA' g = if g = x.1 then some S else ascA lA g) (hB : B ≤ S)
    (hS : τ S = (x.1, 0) ∨ w.heap.size ≤ S) (hc : τ c = (x.1, 1) ∨ w.heap.size ≤ c) (hh : τ h = (x.1, 2) ∨ w.heap.size ≤ h) (hSc : S ≠ c) (hSh : S ≠ h) (hch : c ≠ h)
    (hfr : ∀ b, b < w.heap.size → b ≠ M → (∀ i, τ b ≠ (x.1, i)) → w'.heap[b]? = w.heap[b]?)
    (hcell : w'.heap[S]? = some (.cells #[.slice (some ⟨c, 0, none⟩) ((grp x.1 q).length + 1) capc, .slice (some ⟨h, 0, none⟩) ((grp x.1 q).length + 1) caph] 73 (0, 0)))
    (oc : w'.ownsRow B 27 1 (.slice (some ⟨c, 0, none⟩) ((grp x.1 q).length + 1) capc) ((grp x.1 q).length + 1) (u64s (csOf (grp x.1 q)) ++ [.int .u64 x.2.1]))
    (oh : w'.ownsRow B 27 1 (.slice (some ⟨h, 0, none⟩) ((grp x.1 q).length + 1) caph) ((grp x.1 q).length + 1) (u64s (hsOf (grp x.1 q)) ++ [.int .u64 (wadd (pre (hsOf (grp x.1 q)) (grp x.1 q).length) x.2.2)])) :
    Bld w' B M lA' (retag τ x.1 S c h) (q ++ [x]) := by
  refine ⟨hM', hb.2.1, fun g => ?_⟩
  by_cases e : g = x.1
  · subst e
    refine .inr ⟨S, by rw [hl, if_pos rfl], ?_⟩
    rw [grp_snoc_same]
    have hlen : (grp x.1 q ++ [x]).length = (grp x.1 q).length + 1 := by simp
    refine ⟨by omega, hB, by simp [retag], c, h, capc, caph, by rw [hlen]; exact hcell, by simp [retag, Ne.symm hSc], by simp [retag, Ne.symm hSh, Ne.symm hch], ?_, ?_⟩
    · rw [hlen, cs_snoc]; simpa [u64s] using oc
    · rw [hlen, hs_snoc]; simpa [u64s] using oh
  · rw [grp_snoc_other q x g e, hl, if_neg e]
    rcases hb.2.2 g with h1 | ⟨S', h1, h2⟩
    · exact .inl h1
    · exact .inr ⟨S', h1, h2.keep hb.1 e hS hc hh hfr⟩

/-- What is built answers. -/
theorem bld_asks {w : World} {B M : Nat} {lA : List (Int × Nat)} {τ : Nat → Int × Nat} {d d' : List In3} (h : Bld w B M lA τ d') (hp : d'.Perm d) (hs : Srt d' 0 d'.length) (hn : d'.length ≤ 2000) : Asks w M (fun g n => md g n d) := by
  refine ⟨lA, h.1, fun g => ?_⟩
  rcases h.2.2 g with ⟨h1, h2⟩ | ⟨S, h1, h2⟩
  · refine .inl ⟨h1, fun n => ?_⟩
    show md g n d = 0
    rw [← md_perm g n hp, md, fold_grp, h2]; rfl
  · obtain ⟨c, hb, capc, caph, b1, _, _, o1, o2⟩ := h2.at_
    have hlen : (grp g d').length ≤ 2000 := Nat.le_trans (List.length_filter_le _ _) hn
    refine .inr ⟨S, csOf (grp g d'), hsOf (grp g d'), h1, ⟨by rw [hs_len, cs_len], by rw [cs_len]; exact h2.pos, c, hb, capc, caph, ⟨own_lt o1, fun j hj => ?_⟩, ⟨own_lt o2, fun j hj => ?_⟩, by rw [cs_len]; exact b1⟩, by rw [cs_len]; exact hlen, grp_rise d' g hs, fun n i hP => ?_⟩
    · rw [o1.cellAt j (by rw [cs_len] at hj; omega)]
      simp [u64s, List.getD, hj]
    · rw [o2.cellAt j (by rw [hs_len] at hj; omega)]
      simp [u64s, List.getD, hj]
    · rw [up_md g n d' i hP]; exact md_perm g n hp

/-- Behind an append to a field's slice and the store of the new one. -/
theorem app_out {W w3 : World} {B S j n cap1 gg : Nat} {v0 v1 vx u : Value} {xs : List Value} {o : Obj} (hSW : W.heap[S]? = some (.cells #[v0, v1] 73 (0, 0))) (hBS : B ≤ S) (hBW : B ≤ W.heap.size)
    (hox : ∀ k, vx.ownBlock = some k → B ≤ k ∧ k ≠ S) (hgrow : (W.alloc o).drew.grownBy w3 vx.ownBlock) (hown : w3.ownsRow B 27 1 (.slice (some ⟨gg, 0, none⟩) n cap1) n xs) (hat : vx.ownBlock = some gg ∨ gg = W.heap.size + 1) :
    (w3.setCell ⟨S, j, none⟩ u).heap[S]? = some (.cells (#[v0, v1].setIfInBounds j u) 73 (0, 0)) ∧ (w3.setCell ⟨S, j, none⟩ u).ownsRow B 27 1 (.slice (some ⟨gg, 0, none⟩) n cap1) n xs ∧
    (∀ b, b < W.heap.size → b ≠ S → some b ≠ vx.ownBlock → (w3.setCell ⟨S, j, none⟩ u).heap[b]? = W.heap[b]?) ∧ W.heap.size ≤ (w3.setCell ⟨S, j, none⟩ u).heap.size ∧ Below B W (w3.setCell ⟨S, j, none⟩ u) ∧ gg < (w3.setCell ⟨S, j, none⟩ u).heap.size ∧ gg ≠ S := by
  have hS := lt_of_block hSW
  have hold : ∀ b, b < W.heap.size → some b ≠ vx.ownBlock → w3.heap[b]? = W.heap[b]? := fun b hb hne => (hgrow.block b (by simp; omega) hne).trans (Below.heap_alloc W o b hb)
  have hnS : some S ≠ vx.ownBlock := fun e => (hox S e.symm).2 rfl
  have h3 : w3.heap[S]? = some (.cells #[v0, v1] 73 (0, 0)) := (hold S hS hnS).trans hSW
  have hgS : gg ≠ S := by
    rcases hat with h | h
    · exact (hox gg h).2
    · omega
  have hsz : W.heap.size ≤ w3.heap.size := by have := hgrow.size; simp at this; omega
  refine ⟨heap_setCell_same w3 S j _ 73 u h3, own_block hown (heap_setCell_other _ _ _ _ (by simpa using hgS)), fun b hb hbS hne => (heap_setCell_other _ _ _ _ (by simpa using hbS)).trans (hold b hb hne), by simpa using hsz, ?_, by simpa using own_lt hown, hgS⟩
  refine Below.grown (Below.grown (below_drew ((Below.refl B W).alloc hBW o)) hgrow (by simp; omega) (fun k hk => (hox k hk).1)) (set_grown w3 S j u) (by omega) (fun k hk => by cases hk; exact hBS)

/-- The round's end, the group there before. -/
theorem round_old {w wr W W4 W7 : World} {M S c h gg g2 gS L capc caph cap1 cap2 : Nat} {lA : List (Int × Nat)} {τ : Nat → Int × Nat} {q d' : List In3} {Y0 Y1 Y2 P : Int} {rest : List Value}
    (hBk : Bld wr w.heap.size M lA τ q) (hS1 : ascA lA Y0 = some S) (hE : Ent wr w.heap.size τ Y0 S (grp Y0 q)) (hL : (grp Y0 q).length = L) (hP : pre (hsOf (grp Y0 q)) (grp Y0 q).length = P)
    (b1 : wr.heap[S]? = some (.cells #[.slice (some ⟨c, 0, none⟩) (grp Y0 q).length capc, .slice (some ⟨h, 0, none⟩) (grp Y0 q).length caph] 73 (0, 0))) (t1 : τ c = (Y0, 1)) (t2 : τ h = (Y0, 2))
    (kc : ∃ cur, wr.heap[c]? = some (.cells cur 27 (0, 0))) (kh : ∃ cur, wr.heap[h]? = some (.cells cur 27 (0, 0)))
    (hR : Row wr gS d' rest) (hB : Below w.heap.size w wr) (hW : ∀ b, b < wr.heap.size → W.heap[b]? = wr.heap[b]?) (hWs : wr.heap.size ≤ W.heap.size) (hWb : Below w.heap.size wr W)
    (nSc : S ≠ c) (nSh : S ≠ h) (nch : c ≠ h) (f2 : 0 ≤ Y1) (f3 : Y1 ≤ 255)
    (a2 : W4.ownsRow w.heap.size 27 1 (.slice (some ⟨gg, 0, none⟩) (L + 1) cap1) (L + 1) (u64s (csOf (grp Y0 q)) ++ [.int .u64 (IntKind.u64.wrap Y1)]))
    (a3 : ∀ b, b < W.heap.size → b ≠ S → b ≠ c → W4.heap[b]? = W.heap[b]?) (a4 : W.heap.size ≤ W4.heap.size) (a5 : Below w.heap.size W W4) (a6 : gg < W4.heap.size) (a7 : gg ≠ S) (hatc : gg = c ∨ W.heap.size ≤ gg)
    (c1 : W7.heap[S]? = some (.cells #[.slice (some ⟨gg, 0, none⟩) (L + 1) cap1, .slice (some ⟨g2, 0, none⟩) (L + 1) cap2] 73 (0, 0)))
    (c2 : W7.ownsRow w.heap.size 27 1 (.slice (some ⟨g2, 0, none⟩) (L + 1) cap2) (L + 1) (u64s (hsOf (grp Y0 q)) ++ [.int .u64 (IntKind.u64.wrap (P + Y2))]))
    (c3 : ∀ b, b < W4.heap.size → b ≠ S → b ≠ h → W7.heap[b]? = W4.heap[b]?) (c5 : Below w.heap.size W4 W7) (c7 : g2 ≠ S) (hath : g2 = h ∨ W4.heap.size ≤ g2) :
    Bld W7 w.heap.size M lA (retag τ Y0 S gg g2) (q ++ [(Y0, Y1, Y2)]) ∧ Row W7 gS d' rest ∧ Below w.heap.size w W7 := by
  obtain ⟨curc, kc⟩ := kc
  obtain ⟨curh, kh⟩ := kh
  have lS := lt_of_block b1
  have lc := lt_of_block kc
  have lh := lt_of_block kh
  have hfr0 : ∀ b, b < wr.heap.size → b ≠ S → b ≠ c → b ≠ h → W7.heap[b]? = wr.heap[b]? := fun b hb n1 n2 n3 => ((c3 b (by omega) n1 n3).trans (a3 b (by omega) n1 n2)).trans (hW b hb)
  have noM : ∀ b cs t, wr.heap[b]? = some (.cells cs t (0, 0)) → M ≠ b := by
    rintro b cs t hb rfl
    obtain ⟨es, ck, h1, _⟩ := hBk.1
    rw [hb] at h1; cases h1
  have noR : ∀ b cs t, wr.heap[b]? = some (.cells cs t (0, 0)) → t ≠ 67 → gS ≠ b := by
    rintro b cs t hb ht rfl
    have h1 := hR
    unfold Row at h1
    rw [hb] at h1
    simp at h1
    exact ht h1.2
  have ngh : gg ≠ h := by
    rcases hatc with e | e
    · omega
    · omega
  have hgg2 : gg ≠ g2 := by
    rcases hath with e | e
    · omega
    · omega
  have hw1 : IntKind.u64.wrap Y1 = Y1 := by rw [IntKind.wrap_u64]; omega
  have oc7 := own_block a2 (c3 gg a6 a7 ngh)
  refine ⟨?_, hR.of_block (hfr0 gS hR.lt (noR S _ _ b1 (by decide)) (noR c _ _ kc (by decide)) (noR h _ _ kh (by decide))), ((hB.trans (hWb)).trans a5).trans c5⟩
  refine bld_step (capc := cap1) (caph := cap2) hBk (hBk.1.of_block (hfr0 M hBk.1.lt (noM S _ _ b1) (noM c _ _ kc) (noM h _ _ kh))) (fun g => ?_) hE.base (.inl hE.tS) ?_ ?_ (Ne.symm a7) (Ne.symm c7) hgg2 ?_ ?_ ?_ ?_
  · split
    · rename_i e; rw [e]; exact hS1
    · rfl
  · rcases hatc with e | e
    · exact .inl (by rw [e]; exact t1)
    · exact .inr (by omega)
  · rcases hath with e | e
    · exact .inl (by rw [e]; exact t2)
    · exact .inr (by omega)
  · intro b hb hbM ht
    refine hfr0 b hb ?_ ?_ ?_
    · rintro rfl; exact ht 0 hE.tS
    · rintro rfl; exact ht 1 t1
    · rintro rfl; exact ht 2 t2
  · rw [hL]; exact c1
  · rw [hL]
    rw [hw1] at oc7
    exact oc7
  · rw [hL]
    rw [hL] at hP
    show W7.ownsRow _ _ _ _ _ (_ ++ [.int .u64 (wadd (pre (hsOf (grp Y0 q)) L) Y2)])
    rw [hP]
    exact c2

/-- The round's end, the group new. -/
theorem round_new {w wr W W4 W7 : World} {M S gg g2 gS cap1 cap2 : Nat} {lA : List (Int × Nat)} {τ : Nat → Int × Nat} {q d' : List In3} {Y0 Y1 Y2 : Int} {rest : List Value}
    (hBk : Bld wr w.heap.size M lA τ q) (hS1 : ascA lA Y0 = none) (hq : grp Y0 q = [])
    (hR : Row wr gS d' rest) (hB : Below w.heap.size w wr) (hW : ∀ b, b < wr.heap.size → b ≠ M → W.heap[b]? = wr.heap[b]?) (hM : AMap W M (lA ++ [(Y0, S)])) (hWs : wr.heap.size ≤ W.heap.size) (hSg : wr.heap.size ≤ S) (hSl : S < W.heap.size) (hWb : Below w.heap.size wr W)
    (f2 : 0 ≤ Y1) (f3 : Y1 ≤ 255)
    (a2 : W4.ownsRow w.heap.size 27 1 (.slice (some ⟨gg, 0, none⟩) 1 cap1) 1 [.int .u64 (IntKind.u64.wrap Y1)])
    (a3 : ∀ b, b < W.heap.size → b ≠ S → W4.heap[b]? = W.heap[b]?) (a5 : Below w.heap.size W W4) (a6 : gg < W4.heap.size) (a7 : gg ≠ S) (hatc : W.heap.size ≤ gg)
    (c1 : W7.heap[S]? = some (.cells #[.slice (some ⟨gg, 0, none⟩) 1 cap1, .slice (some ⟨g2, 0, none⟩) 1 cap2] 73 (0, 0)))
    (c2 : W7.ownsRow w.heap.size 27 1 (.slice (some ⟨g2, 0, none⟩) 1 cap2) 1 [.int .u64 (IntKind.u64.wrap Y2)])
    (c3 : ∀ b, b < W4.heap.size → b ≠ S → W7.heap[b]? = W4.heap[b]?) (c5 : Below w.heap.size W4 W7) (c7 : g2 ≠ S) (hath : W4.heap.size ≤ g2) :
    Bld W7 w.heap.size M (lA ++ [(Y0, S)]) (retag τ Y0 S gg g2) (q ++ [(Y0, Y1, Y2)]) ∧ Row W7 gS d' rest ∧ Below w.heap.size w W7 := by
  have hfr0 : ∀ b, b < wr.heap.size → b ≠ M → W7.heap[b]? = wr.heap[b]? := fun b hb n1 => ((c3 b (by omega) (by omega)).trans (a3 b (by omega) (by omega))).trans (hW b hb n1)
  have hMl := hBk.1.lt
  have noR : gS ≠ M := by
    rintro rfl
    obtain ⟨es, ck, h1, _⟩ := hBk.1
    have h2 := hR
    unfold Row at h2
    rw [h1] at h2; cases h2
  have hw1 : IntKind.u64.wrap Y1 = Y1 := by rw [IntKind.wrap_u64]; omega
  have oc7 := own_block a2 (c3 gg a6 a7)
  have hBS : w.heap.size ≤ S := Nat.le_trans hB.size hSg
  refine ⟨?_, hR.of_block (hfr0 gS hR.lt noR), ((hB.trans hWb).trans a5).trans c5⟩
  refine bld_step (capc := cap1) (caph := cap2) hBk (hM.of_block ((c3 M (by omega) (by omega)).trans (a3 M (by omega) (by omega)))) (fun g => ascA_snoc lA Y0 g S hS1) hBS (.inr hSg) (.inr (by omega)) (.inr (by omega)) (Ne.symm a7) (Ne.symm c7) (by omega) (fun b hb hbM _ => hfr0 b hb hbM) ?_ ?_ ?_
  · rw [hq]; exact c1
  · rw [hq]
    rw [hw1] at oc7
    exact oc7
  · rw [hq]
    rw [← Int.zero_add Y2] at c2
    exact c2
end Go.Proofs.Ybulkbzfi
