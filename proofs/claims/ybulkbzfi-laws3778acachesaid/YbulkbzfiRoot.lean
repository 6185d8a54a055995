/-
  The contract of (*orderIndex).term at a root with leaves for kids.
-/
import Derived.Test.YbulkbzfiTerm
namespace Go.Proofs.Ybulkbzfi
open Go.RowKit

/-- The value of kid j. -/
def kval (κ : List (Option Nat)) (l0 : List (Nat × Int)) (f : Nat → Int) (j : Nat) : Option Int := (κ.getD j none).map (fun K => (asc l0 K).getD (f j))
/-- The sum over the first k kids. -/
def rsum (v : Nat → Option Int) : Nat → Int
  | 0 => 0
  | k + 1 => match v k with
    | none => rsum v k
    | some x => IntKind.u64.wrap (rsum v k + x)
/-- How many of the first k kids are new. -/
def rcnt (κ : List (Option Nat)) (l0 : List (Nat × Int)) : Nat → Nat
  | 0 => 0
  | k + 1 => rcnt κ l0 k + (match κ.getD k none with
    | none => 0
    | some K => if asc l0 K = none then 1 else 0)
theorem rsum_range (v : Nat → Option Int) : ∀ k, 0 ≤ rsum v k ∧ rsum v k < 18446744073709551616
  | 0 => ⟨by simp [rsum], by simp [rsum]⟩
  | k + 1 => by
    simp only [rsum]
    split
    · exact rsum_range v k
    · rw [IntKind.wrap_u64]; omega

/-- Block T turned alone, and is a map. -/
theorem XObj.grown {w w' : World} {X M T : Nat} (h : XObj w X M T) (hg : w.grownBy w' (some T)) (hX : X ≠ T) : XObj w' X M T :=
  ⟨hg.cell h.asks (by simpa using hX), hg.cell h.terms (by simpa using hX)⟩
theorem Node.grown {w w' : World} {V T : Nat} {kids : List Value} {ns : List Int} (h : Node w V kids ns) (hg : w.grownBy w' (some T)) (hV : V ≠ T) : Node w' V kids ns := h.of_block (hg.block V h.lt (by simpa using hV))
theorem Nums.grown {w w' : World} {c T : Nat} {cs : List Int} (h : Nums w c cs) (hg : w.grownBy w' (some T)) (hV : c ≠ T) : Nums w' c cs := ⟨Nat.lt_of_lt_of_le h.lt hg.size, fun j hj => hg.cell (h.at_ j hj) (by simpa using hV)⟩
/-- A map is no object. -/
theorem TMap.ne {w : World} {T K : Nat} {l : List (Nat × Int)} (h : TMap w T l) (hK : IsObj w K) : K ≠ T := by
  rintro rfl
  obtain ⟨es, ck, hb, _⟩ := h.at_
  obtain ⟨c, t, hc⟩ := hK
  rw [hb] at hc; cases hc
theorem Nums.ne {w : World} {T c : Nat} {l : List (Nat × Int)} {cs : List Int} (h : TMap w T l) (hc : Nums w c cs) (hp : 0 < cs.length) : c ≠ T := by
  rintro rfl
  obtain ⟨es, ck, hb, _⟩ := h.at_
  have := hc.at_ 0 hp
  simp [World.cell?, hb] at this
theorem Sums.grown {w w' : World} {S T : Nat} {cs hs : List Int} {l : List (Nat × Int)} (h : Sums w S cs hs) (hT : TMap w T l) (hg : w.grownBy w' (some T)) : Sums w' S cs hs := by
  obtain ⟨c, hb, capc, caph, h1, h2, h3⟩ := h.at_
  have n1 : c ≠ T := Nums.ne hT h1 h.pos
  have n2 : hb ≠ T := Nums.ne hT h2 (by rw [h.len]; exact h.pos)
  have n3 : S ≠ T := hT.ne ⟨_, _, h3⟩
  exact ⟨h.len, h.pos, c, hb, capc, caph, h1.grown hg n1, h2.grown hg n2, (hg.block S (lt_of_block h3) (by simpa using n3)).trans h3⟩
theorem Asks.grown {w w' : World} {M T : Nat} {F : Int → Int → Int} {l : List (Nat × Int)} (h : Asks w M F) (hT : TMap w T l) (hM : M ≠ T) (hg : w.grownBy w' (some T)) : Asks w' M F := by
  obtain ⟨lA, h1, h2⟩ := h
  refine ⟨lA, h1.of_block (hg.block M h1.lt (by simpa using hM)), fun g => ?_⟩
  rcases h2 g with h | ⟨S, cs, hs, a1, a2, a3⟩
  · exact .inl h
  · exact .inr ⟨S, cs, hs, a1, a2.grown hT hg, a3⟩
theorem Kids.grown {w w' : World} {V T : Nat} {κ : List (Option Nat)} {ns : List (List Int)} {l : List (Nat × Int)} (h : Kids w V κ ns) (hT : TMap w T l) (hg : w.grownBy w' (some T)) : Kids w' V κ ns :=
  ⟨h.len, h.node.grown hg (hT.ne ⟨_, _, h.node⟩), fun j K hj => ⟨(h.at_ j K hj).1, (h.at_ j K hj).2.grown hg (hT.ne ⟨_, _, (h.at_ j K hj).2⟩)⟩, h.inj⟩

/-- The map after k kids. -/
structure Mid (κ : List (Option Nat)) (l0 l : List (Nat × Int)) (f : Nat → Int) (V k : Nat) : Prop where
  root : asc l V = none
  done : ∀ j K, j < k → κ.getD j none = some K → asc l K = some ((asc l0 K).getD (f j))
  todo : ∀ j K, k ≤ j → κ.getD j none = some K → asc l K = asc l0 K
  len : l.length = l0.length + rcnt κ l0 k

theorem Mid.skip {κ : List (Option Nat)} {l0 l : List (Nat × Int)} {f : Nat → Int} {V k : Nat} (h : Mid κ l0 l f V k) (hn : κ.getD k none = none) : Mid κ l0 l f V (k + 1) :=
  ⟨h.root, fun j K hj hK => by
      by_cases e : j = k
      · subst e; rw [hn] at hK; cases hK
      · exact h.done j K (by omega) hK, fun j K hj hK => h.todo j K (by omega) hK, by rw [h.len]; simp only [rcnt, hn]; omega⟩
theorem Mid.hit {κ : List (Option Nat)} {l0 l : List (Nat × Int)} {f : Nat → Int} {V k K : Nat} {v : Int} (h : Mid κ l0 l f V k) (hK : κ.getD k none = some K) (hv : asc l0 K = some v) : Mid κ l0 l f V (k + 1) :=
  ⟨h.root, fun j L hj hL => by
      by_cases e : j = k
      · subst e; rw [hK] at hL; cases hL; rw [h.todo j K (Nat.le_refl _) hK, hv]; rfl
      · exact h.done j L (by omega) hL, fun j L hj hL => h.todo j L (by omega) hL, by rw [h.len]; simp only [rcnt, hK, hv]; simp⟩
theorem Mid.miss {κ : List (Option Nat)} {l0 l : List (Nat × Int)} {f : Nat → Int} {V k K : Nat} (h : Mid κ l0 l f V k) (hK : κ.getD k none = some K) (hv : asc l0 K = none) (hVK : V ≠ K)
    (hinj : ∀ i j K, κ.getD i none = some K → κ.getD j none = some K → i = j) : Mid κ l0 (l ++ [(K, f k)]) f V (k + 1) := by
  have hlK : asc l K = none := (h.todo k K (Nat.le_refl _) hK).trans hv
  refine ⟨?_, fun j L hj hL => ?_, fun j L hj hL => ?_, ?_⟩
  · rw [asc_snoc l K V _ hlK, if_neg hVK]; exact h.root
  · rw [asc_snoc l K L _ hlK]
    by_cases e : j = k
    · subst e; rw [hK] at hL; cases hL; rw [if_pos rfl, hv]; rfl
    · rw [if_neg (fun (e2 : L = K) => e (hinj j k K (e2 ▸ hL) hK))]
      exact h.done j L (by omega) hL
  · rw [asc_snoc l K L _ hlK, if_neg (fun (e2 : L = K) => by have := hinj j k K (e2 ▸ hL) hK; omega)]
    exact h.todo j L (by omega) hL
  · simp only [List.length_append, List.length_cons, List.length_nil, rcnt, hK, hv, h.len]; simp; omega

theorem XObj.ne {w : World} {X M T : Nat} {l : List (Nat × Int)} (h : XObj w X M T) (hT : TMap w T l) : X ≠ T := by
  rintro rfl
  obtain ⟨es, ck, hb, _⟩ := hT.at_
  have := h.asks
  simp [World.cell?, hb] at this
theorem kid_at {w : World} {V k : Nat} {κ : List (Option Nat)} {ns : List (List Int)} (h : Kids w V κ ns) (hk : k < 16) : w.cell? ⟨V, k, none⟩ = some (.pointer ((κ.getD k none).map (fun K => ⟨K, 0, none⟩))) := by
  rw [h.node.kid k (by simp [kidv, h.len, hk])]
  simp only [kidv, List.getD, List.getElem?_map, List.getElem?_eq_getElem (show k < κ.length by rw [h.len]; exact hk)]
  rfl

set_option maxHeartbeats 3200000 in
set_option maxRecDepth 100000 in
theorem term_root (X M T V : Nat) (κ : List (Option Nat)) (l0 : List (Nat × Int)) (d : List In3) (ns : List (List Int)) (p : Int) (w : World) (hX : XObj w X M T) (hT : TMap w T l0) (hK : Kids w V κ ns) (G : Grid ns)
    (hA : Asks w M (fun g n => md g n d)) (hMT : M ≠ T) (hd0 : ∀ x ∈ d, 0 ≤ x.2.1) (hp0 : 0 ≤ p) (hp : p ≤ 5) (hl : asc l0 V = none) :
    Calls Yba.prog 8 #[.pointer (some ⟨X, 0, none⟩), .pointer (some ⟨V, 0, none⟩), .int .u64 1, .int .u64 p] w fun e w' =>
      e = .returned (.int .u64 (rsum (kval κ l0 (fun j => lsum d (ns.getD j []) (p * 16 + j) 16)) 16)) ∧ w.grownBy w' (some T) ∧
      ∃ l, TMap w' T (l ++ [(V, rsum (kval κ l0 (fun j => lsum d (ns.getD j []) (p * 16 + j) 16)) 16)]) ∧ Mid κ l0 l (fun j => lsum d (ns.getD j []) (p * 16 + j) 16) V 16 := by
  have hV : IsObj w V := ⟨_, _, hK.node⟩
  have hlk := hT.look hV
  rw [hl] at hlk
  simp only [tkey, Option.getD_none, Option.isSome_none] at hlk
  have c3 := hX.terms
  have hall : Hid (∀ wr, w.grownBy wr (some T) → XObj wr X M T ∧ Kids wr V κ ns ∧ Asks wr M (fun g n => md g n d)) := hide (fun wr hg => ⟨hX.grown hg (hX.ne hT), hK.grown hT hg, hA.grown hT hMT hg⟩)
  have hinj := hide hK.inj
  have hG := hide G
  have hd0h := hide hd0
  have hTh := hide hT
  have hM0 : Hid (∀ f, Mid κ l0 l0 f V 0) := hide (fun f => ⟨hl, fun j K hj => by omega, fun j K _ _ => rfl, by simp [rcnt]⟩)
  clear hX hT hK hV hA G hd0 hl hMT
  have hfl : Hid (∀ j, lsum d (ns.getD j []) (p * 16 + j) 16 = (fun j : Nat => lsum d (ns.getD j []) (p * 16 + j) 16) j) := hide (fun j => rfl)
  generalize (fun j : Nat => lsum d (ns.getD j []) (p * 16 + j) 16) = f at *
  go_enter Yba.func8, Yba.ntmps8
  go_wp2_with fail
  clear hlk c3
  go_loopw [11, 28] (fun x y wr => ∃ (k : Nat) (l : List (Nat × Int)), k ≤ 16 ∧ x = .int .u64 (rsum (kval κ l0 f) k) ∧ y = .int .i64 k ∧ Hid (w.grownBy wr (some T)) ∧ Hid (TMap wr T l) ∧ Hid (Mid κ l0 l f V k)) (fun _ y _ => 16 - (intOf y).toNat)
  case atStart => exact ⟨0, l0, Nat.zero_le _, rfl, rfl, hide (grown_refl _ _), hTh, hide (unhide hM0 f)⟩
  case round =>
    obtain ⟨k, l, hk, rfl, rfl, hg, hTr, hM⟩ := hrel
    obtain ⟨hXr, hKr, hAr⟩ := unhide hall wr (unhide hg)
    have c3 := hXr.terms
    by_cases hlt : k < 16
    · have c0 := kid_at hKr hlt
      have i1 : (k : Int) < 16 := by omega
      have hor := or16 p k hp0 (by omega) (by omega) i1
      have hrs : Hid (rsum (kval κ l0 f) (k + 1) = match kval κ l0 f k with | none => rsum (kval κ l0 f) k | some x => IntKind.u64.wrap (rsum (kval κ l0 f) k + x)) := hide rfl
      cases hkk : κ.getD k none with
      | none =>
        rw [hkk] at c0
        simp only [Option.map_none] at c0
        have hM1 := hide ((unhide hM).skip hkk)
        have hsame : Hid (rsum (kval κ l0 f) (k + 1) = rsum (kval κ l0 f) k) := hide (by rw [unhide hrs, kval, hkk]; rfl)
        have hrg := rsum_range (kval κ l0 f) k
        have hwr : Hid (IntKind.u64.wrap (rsum (kval κ l0 f) k) = rsum (kval κ l0 f) k) := hide (by rw [IntKind.wrap_u64]; omega)
        clear hrs hXr hKr hAr hrg
        go_wp2_with (first | (go_at_call 8; refine (term_nil _ _ _ _).mono ?_; rintro _ _ ⟨rfl, rfl⟩))
        go_roundw
        case rel => exact ⟨k + 1, l, by omega, by rw [unhide hsame, unhide hwr], by go_num, hg, hTr, hM1⟩
        case measure => simp [intOf]; omega
      | some K =>
        rw [hkk] at c0
        simp only [Option.map_some] at c0
        obtain ⟨hVK, hNK⟩ := hKr.at_ k K hkk
        cases hv : asc l0 K with
        | some v =>
          have hM1 := hide ((unhide hM).hit hkk hv)
          have hs1 : Hid (rsum (kval κ l0 f) (k + 1) = IntKind.u64.wrap (rsum (kval κ l0 f) k + v)) := hide (by rw [unhide hrs, kval, hkk]; simp [hv])
          have hhit := hide (And.intro hXr (And.intro (show IsObj wr K from ⟨_, _, hNK⟩) (((unhide hM).todo k K (Nat.le_refl _) hkk).trans hv)))
          clear hrs hXr hKr hAr hNK
          go_wp2_with fail
          refine (term_hit X M T K l _ _ v wr (unhide hhit).1 (unhide hTr) (unhide hhit).2.1 (unhide hhit).2.2).mono ?_
          rintro _ _ ⟨rfl, rfl⟩
          clear hhit
          go_wp2
          go_roundw
          case rel => exact ⟨k + 1, l, by omega, by rw [unhide hs1], by go_num, hg, hTr, hM1⟩
          case measure => simp [intOf]; omega
        | none =>
          have hM1 := hide ((unhide hM).miss hkk hv (by omega) (unhide hinj))
          have hs1 : Hid (rsum (kval κ l0 f) (k + 1) = IntKind.u64.wrap (rsum (kval κ l0 f) k + f k)) := hide (by rw [unhide hrs, kval, hkk]; simp [hv])
          have hlK : asc l K = none := ((unhide hM).todo k K (Nat.le_refl _) hkk).trans hv
          have hq := hide (term_leaf X M T K l d (ns.getD k []) (p * 16 + k) wr hXr (unhide hTr) hNK ((unhide hG).row k hlt) ((unhide hG).le k hlt) hAr (unhide hd0h) (by omega) (by omega) hlK)
          rw [unhide hfl k] at hq
          clear hrs hXr hKr hAr hNK hlK
          go_wp2_with fail
          refine (unhide hq).mono ?_
          rintro _ w1 ⟨rfl, ⟨o, rfl⟩, hT1⟩
          have hg1 := hide (grown_two (unhide hg) (turned_grown wr T o))
          have hT1h := hide hT1
          clear hq hT1 hg hTr hM c0 c3
          generalize turned wr T o = w5 at *
          go_wp2
          go_roundw
          case rel => exact ⟨k + 1, _, by omega, by rw [unhide hs1], by go_num, hg1, hT1h, hM1⟩
          case measure => simp [intOf]; omega
    · obtain rfl : k = 16 := by omega
      obtain ⟨o, hput, hT'⟩ := (unhide hTr).put (x := rsum (kval κ l0 f) 16) ⟨_, _, hKr.node⟩ (unhide hM).root
      simp only [tkey] at hput
      have hT'h := hide hT'
      have hg1 := hide (grown_two (unhide hg) (turned_grown wr T o))
      clear hT' hXr hKr hAr
      go_wp2
      go_ret
      exact ⟨rfl, unhide hg1, l, unhide hT'h, unhide hM⟩
end Go.Proofs.Ybulkbzfi
