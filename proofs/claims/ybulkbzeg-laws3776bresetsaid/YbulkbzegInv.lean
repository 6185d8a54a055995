/-
  A LAW that the kit lacks: A REGION THAT DRAWS ITS ORDER, BY AN INVARIANT over what has come up so far: no order is named.
-/
import Derived.Orders
namespace Go.Proofs.Ybulkbzeg

section
variable {P : Program} {ops : Array Oper} {Q : Exit → Act → World → Prop}

theorem wpAny_inv (I : Array Bool → Act → World → Prop)
    (hlex : ∀ (i : Nat) (o : Oper), ops[i]? = some o → ∀ e ∈ o.after, Region.binds .any e = true → e.on < i)
    (hstep : ∀ L a w (i : Nat) (o : Oper), ops[i]? = some o → L.getD i true = false → (∀ e ∈ o.after, Region.binds .any e = true → L.getD e.on false = true) → L.size = ops.size → I L a w →
      wpOp P ops Q i (fun a' w' => I (L.setIfInBounds i true) a' w') a w)
    (hdone : ∀ L a w, L.size = ops.size → (∀ i, i < ops.size → L.getD i false = true) → I L a w → Q .normal a w) :
    ∀ (fuel : Nat) (L : Array Bool) (a : Act) (w : World), L.size = ops.size → L.toList.count false ≤ fuel → I L a w → wpAny P .any ops Q fuel L a w := by
  have hall : ∀ L : Array Bool, L.size = ops.size → Region.ready .any ops L = [] → ∀ i, i < ops.size → L.getD i false = true := by
    intro L hs hr i
    induction i using Nat.strongRecOn with
    | _ i ih =>
      intro hi
      have hi2 : i < L.size := by omega
      cases hb : L.getD i true with
      | true =>
        simp only [Array.getD, hi2, dif_pos] at hb ⊢
        exact hb
      | false =>
        have hm : i ∈ Region.ready .any ops L := by
          rw [mem_ready]
          refine ⟨hb, ops[i], Array.getElem?_eq_some_iff.2 ⟨hi, rfl⟩, fun e he hbi => ?_⟩
          have h1 := hlex i _ (Array.getElem?_eq_some_iff.2 ⟨hi, rfl⟩) e he hbi
          exact ih e.on h1 (by omega)
        rw [hr] at hm
        cases hm
  intro fuel
  induction fuel with
  | zero =>
    intro L a w hs hc hI
    have h0 : L.toList.count false = 0 := by omega
    rw [List.count_eq_zero] at h0
    have hno : Region.ready .any ops L = [] := by
      cases hr : Region.ready .any ops L with
      | nil => rfl
      | cons i l =>
        have hm : i ∈ Region.ready .any ops L := by rw [hr]; simp
        obtain ⟨h1, o, ho, _⟩ := mem_ready.1 hm
        have hi : i < L.size := by rw [hs]; exact (Array.getElem?_eq_some_iff.1 ho).1
        simp only [Array.getD, hi, dif_pos] at h1
        exact absurd (by rw [← h1]; simp) h0
    exact ⟨hno, hdone L a w hs (hall L hs hno) hI⟩
  | succ fuel ih =>
    intro L a w hs hc hI
    refine ⟨fun hr => hdone L a w hs (hall L hs hr) hI, fun i hi => ?_⟩
    obtain ⟨h1, o, ho, h2⟩ := mem_ready.1 hi
    have hlt : i < L.size := by rw [hs]; exact (Array.getElem?_eq_some_iff.1 ho).1
    refine wpOp_mono (fun a' w' h => ih _ a' w' (by simpa using hs) ?_ h) (hstep L a w i o ho h1 h2 hs hI)
    have h3 : L.toList[i]'(by simpa using hlt) = false := by
      simp only [Array.getD, hlt, dif_pos] at h1
      exact h1
    rw [Array.toList_setIfInBounds, List.count_set (by simpa using hlt), h3]
    simp only [BEq.rfl, if_true, show (true == false) = false from rfl, Bool.false_eq_true, if_false]
    omega

/-- A region that draws its order keeps whatever every one of its operations keeps. -/
theorem wp_region_inv {id : Nat} {a : Act} {w : World} (hm : P.follows .mixedOrders = true) (I : Array Bool → Act → World → Prop)
    (hlex : ∀ (i : Nat) (o : Oper), ops[i]? = some o → ∀ e ∈ o.after, Region.binds .any e = true → e.on < i)
    (h0 : I (Array.replicate ops.size false) a { w with drawn := w.drawn + 1 })
    (hstep : ∀ L a w (i : Nat) (o : Oper), ops[i]? = some o → L.getD i true = false → (∀ e ∈ o.after, Region.binds .any e = true → L.getD e.on false = true) → L.size = ops.size → I L a w →
      wpOp P ops Q i (fun a' w' => I (L.setIfInBounds i true) a' w') a w)
    (hdone : ∀ L a w, L.size = ops.size → (∀ i, i < ops.size → L.getD i false = true) → I L a w → Q .normal a w) : (Code.region id ops true).wp P Q a w :=
  wp_region_any hm (wpAny_inv I hlex hstep hdone ops.size _ a _ (by simp) (by simp) h0)
end
end Go.Proofs.Ybulkbzeg
